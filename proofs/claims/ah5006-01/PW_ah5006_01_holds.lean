import PyProof.Rows.All
import Wide.All
import OpenK.AllK
import Wide.FinOn
import PySem.Challenge.RW_ah5006_01
open PySem PySem.W PyProof.Rows PySem.Calls
set_option Elab.async false
set_option maxRecDepth 100000
set_option maxHeartbeats 0
set_option linter.unusedVariables false
set_option linter.unusedSimpArgs false
set_option linter.unusedSectionVars false
namespace Mine
open_top hd for PySem.Challenge.rw_ah5006_01
/-- a claim in a box: simp's discharger opens it and proves it, and the walk's traces are let go of when it is done -/
def Box (P : Prop) : Prop := P
theorem box_t {P : Prop} (h : P) : Box P = True := eq_true h
theorem unbox {P : Prop} (h : Box P) : P := h
@[ext] structure Quad where
  sg : Int
  man : Int
  ex : Int
  bc : Int
abbrev zeroQ : Quad := ⟨0, 0, 0, 0⟩
abbrev tup4 (a b c d : Int) (ta tb tc td : Tok) (n : Nat) : Obj := { cls := .type "tuple", data := .seq #[.int a ta, .int b tb, .int c tc, .int d td] n }
/-- v is a tuple of four ints that the ledger bears, or the module's fzero -/
def QuadAt (news : List (Addr × Obj)) (v : Value) (q : Quad) : Prop :=
  (v = .ref 22 ∧ q = zeroQ) ∨ ∃ D ta tb tc td n, v = .ref D ∧ (D, tup4 q.sg q.man q.ex q.bc ta tb tc td n) ∈ news
abbrev RetQ (h₀ : Heap) (L : Addr) (m : Str → Option Value) (news : List (Addr × Obj)) (s : Shared) (Q : Value → Shared → Prop) (q : Quad) : Prop :=
  ∀ (v : Value) (tl : List (Addr × Obj)) (h' : Heap) (tk' : Nat), Fr h₀ L h' m → News h₀ L h' (news ++ tl) → QuadAt (news ++ tl) v q → Q v { s with heap := h', toks := tk' }
theorem retQ_end {h₀ h' : Heap} {L : Addr} {m : Str → Option Value} {news news' : List (Addr × Obj)} {s : Shared} {Q : Value → Shared → Prop} {q : Quad} {v : Value} {tk' : Nat}
    (hret : RetQ h₀ L m news s Q q) (F : Fr h₀ L h' m) (N : News h₀ L h' news') (hs : ∀ p ∈ news, p ∈ news') (hq : QuadAt news' v q) : Q v { s with heap := h', toks := tk' } := by
  refine hret v news' h' tk' F (fun p hp => N p ((List.mem_append.mp hp).elim (hs p) id)) ?_
  rcases hq with h | ⟨D, ta, tb, tc, td, n, h1, h2⟩
  · exact .inl h
  · exact .inr ⟨D, ta, tb, tc, td, n, h1, List.mem_append.mpr (.inr h2)⟩
theorem retQ_zero {h₀ h' : Heap} {L : Addr} {m : Str → Option Value} {news news' : List (Addr × Obj)} {s : Shared} {Q : Value → Shared → Prop} {q : Quad} {tk' : Nat}
    (hret : RetQ h₀ L m news s Q q) (e : zeroQ = q) (F : Fr h₀ L h' m) (N : News h₀ L h' news') (hs : ∀ p ∈ news, p ∈ news') : Q (.ref 22) { s with heap := h', toks := tk' } :=
  retQ_end hret F N hs (.inl ⟨rfl, e.symm⟩)
theorem retQ_new {h₀ h' : Heap} {L : Addr} {m : Str → Option Value} {news news' : List (Addr × Obj)} {s : Shared} {Q : Value → Shared → Prop} {q : Quad} {a b c d : Int} {ta tb tc td : Tok} {n : Nat} {D : Addr} {tk' : Nat}
    (hret : RetQ h₀ L m news s Q q) (e : (⟨a, b, c, d⟩ : Quad) = q) (F : Fr h₀ L h' m) (N : News h₀ L h' news') (hs : ∀ p ∈ news, p ∈ news') (hm : (D, tup4 a b c d ta tb tc td n) ∈ news') : Q (.ref D) { s with heap := h', toks := tk' } := by
  subst e
  exact retQ_end hret F N hs (.inr ⟨D, ta, tb, tc, td, n, rfl, hm⟩)
theorem retI_end {h₀ h' : Heap} {L : Addr} {m : Str → Option Value} {news news' : List (Addr × Obj)} {s : Shared} {Q : Value → Shared → Prop} {x y : Int} {t : Tok} {tk' : Nat}
    (hret : CbRet h₀ L m news s Q (fun t => .int x t)) (e : y = x) (F : Fr h₀ L h' m) (N : News h₀ L h' news') (hs : ∀ p ∈ news, p ∈ news') : Q (.int y t) { s with heap := h', toks := tk' } := by
  subst e
  exact hret t h' tk' F (fun p hp => N p (hs p hp))
abbrev RetI (h₀ : Heap) (L : Addr) (m : Str → Option Value) (news : List (Addr × Obj)) (s : Shared) (Q : Value → Shared → Prop) (x : Int) (P : Prop) : Prop :=
  ∀ (t : Tok) (h' : Heap) (tk' : Nat), Fr h₀ L h' m → News h₀ L h' news → P → Q (.int x t) { s with heap := h', toks := tk' }
theorem retI_p {h₀ h' : Heap} {L : Addr} {m : Str → Option Value} {news news' : List (Addr × Obj)} {s : Shared} {Q : Value → Shared → Prop} {x y : Int} {P : Prop} {t : Tok} {tk' : Nat}
    (hret : RetI h₀ L m news s Q x P) (e : y = x) (hP : P) (F : Fr h₀ L h' m) (N : News h₀ L h' news') (hs : ∀ p ∈ news, p ∈ news') : Q (.int y t) { s with heap := h', toks := tk' } := by
  subst e
  exact hret t h' tk' F (fun p hp => N p (hs p hp)) hP
/-- the context of a call: d frames deep, 8 d units -/
abbrev Con (w : World) (loose : List Str) (mean : ExcName → Option Value) (mg mb : Str → Option Value) (f : Addr) (d : Nat) (vs : List Value) (news : List (Addr × Obj))
    (Ret : Heap → Addr → (Str → Option Value) → Shared → (Value → Shared → Prop) → Prop) : Prop :=
  ∀ (dp un : Nat) (gd : Option (List Code)) (cn : Str) (cs : Scope) (a : Addr) (ccd : Value) (cl : List (Str × Addr)) (outer : List Env) (A₀ : Around) (base h₀ : Heap) (L : Addr) (m : Str → Option Value) (s : Shared) (Q E : Value → Shared → Prop),
    Below A₀ base outer h₀ → Fr h₀ L s.heap m → (hd.heap_39 w.params).In h₀ → News h₀ L s.heap news → Top hd.view_39 loose mean mg mb h₀ → cs.kind = .function →
    dp + d < recursionLimit → un + 8 * d < cLine → Ret h₀ L m s Q →
      wpAny (model PySem.Challenge.rw_ah5006_01.row.prog w) (ktrTop dp un gd cn cs L a ccd cl outer) (call (.ref f) vs) Q E s
@[irreducible] def bAnd (a b : Int) : Int := Builtin.bitAnd a b
@[irreducible] def bXor (a b : Int) : Int := Builtin.bitXor a b
@[irreducible] def shr (a n : Int) : Int := a.fdiv (2 ^ n.toNat)
@[irreducible] def shl (a n : Int) : Int := a * 2 ^ n.toNat
@[irreducible] def pw (n : Int) : Int := 2 ^ n.toNat
@[irreducible] def bl (a : Int) : Int := Builtin.Int.intBits a
section
variable {prog : Program} {w : World} {A : Around} {E : Value → Shared → Prop} {s : Shared} {a b n : Int} {t u : Tok} {Q : Value → Shared → Prop}
theorem o_and  (h : ∀ t' tk, Q (.int (bAnd a b) t') { s with toks := tk }) : wpAny (model prog w) A (binaryOp .BitAnd (.int a t) (.int b u)) Q E s := and_int (by have h := h s.toks (s.toks + 1); unfold bAnd at h; exact h)
theorem o_ixor  (h : ∀ t' tk, Q (.int (bXor a b) t') { s with toks := tk }) : wpAny (model prog w) A (inplaceOp .BitXor (.int a t) (.int b u)) Q E s := ixor_int (by have h := h s.toks (s.toks + 1); unfold bXor at h; exact h)
theorem o_shr (hn : 0 ≤ n) (h : ∀ t' tk, Q (.int (shr a n) t') { s with toks := tk }) : wpAny (model prog w) A (binaryOp .RShift (.int a t) (.int n u)) Q E s := rshift_int hn (by have h := h s.toks (s.toks + 1); unfold shr at h; exact h)
theorem o_ishr (hn : 0 ≤ n) (h : ∀ t' tk, Q (.int (shr a n) t') { s with toks := tk }) : wpAny (model prog w) A (inplaceOp .RShift (.int a t) (.int n u)) Q E s := irshift_int hn (by have h := h s.toks (s.toks + 1); unfold shr at h; exact h)
theorem o_shl (hn : 0 ≤ n) (hz : bl a + n ≤ 2 ^ 27) (h : ∀ t' tk, Q (.int (shl a n) t') { s with toks := tk }) : wpAny (model prog w) A (binaryOp .LShift (.int a t) (.int n u)) Q E s := lshift_int hn (by unfold bl at hz; exact hz) (by have h := h s.toks (s.toks + 1); unfold shl at h; exact h)
theorem o_ishl (hn : 0 ≤ n) (hz : bl a + n ≤ 2 ^ 27) (h : ∀ t' tk, Q (.int (shl a n) t') { s with toks := tk }) : wpAny (model prog w) A (inplaceOp .LShift (.int a t) (.int n u)) Q E s := ilshift_int hn (by unfold bl at hz; exact hz) (by have h := h s.toks (s.toks + 1); unfold shl at h; exact h)
theorem o_pw (hn : 0 ≤ n) (hz : n ≤ 1000000) (h : ∀ t' tk, Q (.int (pw n) t') { s with toks := tk }) : wpAny (model prog w) A (binaryOp .Pow (.int 2 t) (.int n u)) Q E s := pow_int_small hn hz (by decide) (by have h := h s.toks (s.toks + 1); unfold pw at h; exact h)
theorem o_bl  (h : ∀ t' tk, Q (.int (bl a) t') { s with toks := tk }) : wpAny (model prog w) A (call (.builtin "int.bit_length") [.int a t]) Q E s := call_int_bit_length (by have h := h s.toks (s.toks + 1); unfold bl at h; exact h)
theorem o_add  (h : ∀ t' tk, Q (.int (a + b) t') { s with toks := tk }) : wpAny (model prog w) A (binaryOp .Add (.int a t) (.int b u)) Q E s := add_int (h _ _)
theorem o_sub  (h : ∀ t' tk, Q (.int (a - b) t') { s with toks := tk }) : wpAny (model prog w) A (binaryOp .Sub (.int a t) (.int b u)) Q E s := sub_int (h _ _)
theorem o_iadd  (h : ∀ t' tk, Q (.int (a + b) t') { s with toks := tk }) : wpAny (model prog w) A (inplaceOp .Add (.int a t) (.int b u)) Q E s := iadd_int (h _ _)
theorem o_isub  (h : ∀ t' tk, Q (.int (a - b) t') { s with toks := tk }) : wpAny (model prog w) A (inplaceOp .Sub (.int a t) (.int b u)) Q E s := isub_int (h _ _)
theorem o_neg  (h : ∀ t' tk, Q (.int (-a) t') { s with toks := tk }) : wpAny (model prog w) A (unaryOp .USub (.int a t)) Q E s := neg_int (h _ _)
theorem o_mul (hm : IntMulOk a b) (h : ∀ t' tk, Q (.int (a * b) t') { s with toks := tk }) : wpAny (model prog w) A (binaryOp .Mult (.int a t) (.int b u)) Q E s := mul_int (h _ _) hm
theorem gen_toks {α : Type} {M : Model} {c : Sem α} {Q : α → Shared → Prop} {hp : Heap} {g d tk os} (h : ∀ tk, wpAny M A c Q E ⟨hp, g, d, tk, os⟩) : wpAny M A c Q E ⟨hp, g, d, tk, os⟩ := h tk
theorem ite_ne0 {x : Int} {p q : Prop} (hp : x ≠ 0 → p) (hq : x = 0 → q) : if (x != 0) = true then p else q := by
  by_cases h : x = 0
  · simpa [h] using hq h
  · simpa [h] using hp h
theorem ite_ne0p {x : Int} {p q : Prop} (h : x ≠ 0) (hp : p) : if (x != 0) = true then p else q := by simpa [h] using hp
theorem ite_ne0n {x : Int} {p q : Prop} (h : x = 0) (hp : q) : if (x != 0) = true then p else q := by simpa [h] using hp
end
def lenN (m : Nat) : Nat := if m = 0 then 0 else m.log2 + 1
theorem bl_eq (x : Int) : bl x = (lenN x.natAbs : Nat) := by
  unfold bl lenN Builtin.Int.intBits
  by_cases h : x = 0
  · simp [h]
  · have : x.natAbs ≠ 0 := by omega
    simp [h, this]
theorem bl_nat (m : Nat) : bl (m : Int) = (lenN m : Nat) := by rw [bl_eq]; simp
theorem lenN_lt (m : Nat) : m < 2 ^ lenN m := by
  unfold lenN
  by_cases h : m = 0
  · simp [h]
  · simp only [h, if_false]; exact Nat.lt_log2_self
theorem lenN_le {m : Nat} (h : 0 < m) : 2 ^ (lenN m - 1) ≤ m := by
  have h' : m ≠ 0 := by omega
  unfold lenN
  simp only [h', if_false, Nat.add_sub_cancel]
  exact Nat.log2_self_le h'
theorem lenN_pos {m : Nat} (h : 0 < m) : 0 < lenN m := by
  have h' : m ≠ 0 := by omega
  unfold lenN
  simp [h']
theorem lenN_unique {m k : Nat} (h1 : 2 ^ k ≤ m) (h2 : m < 2 ^ (k + 1)) : lenN m = k + 1 := by
  have hm : 0 < m := Nat.lt_of_lt_of_le (Nat.two_pow_pos k) h1
  have a := lenN_lt m
  have b := lenN_le hm
  have c := lenN_pos hm
  have e1 : k < lenN m := (Nat.pow_lt_pow_iff_right (a := 2) (by decide)).mp (Nat.lt_of_le_of_lt h1 a)
  have e2 : lenN m - 1 < k + 1 := (Nat.pow_lt_pow_iff_right (a := 2) (by decide)).mp (Nat.lt_of_le_of_lt b h2)
  omega
theorem lenN_le_iff {m k : Nat} : lenN m ≤ k ↔ m < 2 ^ k := by
  constructor
  · intro h
    exact Nat.lt_of_lt_of_le (lenN_lt m) (Nat.pow_le_pow_right (by decide) h)
  · intro h
    by_cases hm : m = 0
    · simp [lenN, hm]
    · have b := lenN_le (m := m) (by omega)
      have e2 : lenN m - 1 < k := (Nat.pow_lt_pow_iff_right (a := 2) (by decide)).mp (Nat.lt_of_le_of_lt b h)
      omega
theorem lenN_mul_pow {m : Nat} (k : Nat) (h : 0 < m) : lenN (m * 2 ^ k) = lenN m + k := by
  have a := lenN_lt m
  have b := lenN_le h
  have c := lenN_pos h
  obtain ⟨l, hl⟩ : ∃ l, lenN m = l + 1 := ⟨lenN m - 1, by omega⟩
  rw [hl] at a b ⊢
  simp only [Nat.add_sub_cancel] at b
  have : lenN (m * 2 ^ k) = (l + k) + 1 := by
    apply lenN_unique
    · rw [Nat.pow_add]; exact Nat.mul_le_mul_right _ b
    · rw [show l + k + 1 = (l + 1) + k by omega, Nat.pow_add]; exact Nat.mul_lt_mul_of_pos_right a (Nat.two_pow_pos k)
  omega
theorem lenN_zero : lenN 0 = 0 := rfl
theorem lenN_one : lenN 1 = 1 := by decide
theorem lenN_pow (k : Nat) : lenN (2 ^ k) = k + 1 := lenN_unique (Nat.le_refl _) (Nat.pow_lt_pow_right (by decide) (by omega))
def tzN (m : Nat) : Nat := if m = 0 then 0 else if m % 2 = 1 then 0 else tzN (m / 2) + 1
termination_by m
decreasing_by omega
theorem tzN_odd_mul {o : Nat} (h : o % 2 = 1) : ∀ t, tzN (o * 2 ^ t) = t
  | 0 => by rw [tzN]; simp [h]
  | t + 1 => by
    have ih := tzN_odd_mul h t
    have hp : 0 < o * 2 ^ t := Nat.mul_pos (by omega) (Nat.two_pow_pos t)
    have e : o * 2 ^ (t + 1) = 2 * (o * 2 ^ t) := by rw [Nat.pow_succ]; grind
    rw [tzN, e]
    have h1 : 2 * (o * 2 ^ t) ≠ 0 := by omega
    have h2 : 2 * (o * 2 ^ t) % 2 ≠ 1 := by omega
    have h3 : 2 * (o * 2 ^ t) / 2 = o * 2 ^ t := by omega
    simp [h1, h2, h3, ih]
theorem odd_part : ∀ m : Nat, 0 < m → ∃ o t, o % 2 = 1 ∧ m = o * 2 ^ t := by
  intro m
  induction m using Nat.strongRecOn with
  | _ m ih =>
    intro h
    by_cases hm : m % 2 = 1
    · exact ⟨m, 0, hm, by simp⟩
    · obtain ⟨o, t, ho, e⟩ := ih (m / 2) (by omega) (by omega)
      refine ⟨o, t + 1, ho, ?_⟩
      have : m = 2 * (m / 2) := by omega
      rw [this, e, Nat.pow_succ]
      grind
def stripN (sg : Int) (m : Nat) (e : Int) : Quad := ⟨sg, (m / 2 ^ tzN m : Nat), e + tzN m, lenN (m / 2 ^ tzN m)⟩
theorem strip_odd_mul {sg e : Int} {o t : Nat} (h : o % 2 = 1) : stripN sg (o * 2 ^ t) e = ⟨sg, o, e + t, lenN o⟩ := by
  unfold stripN
  rw [tzN_odd_mul h, Nat.mul_div_cancel _ (Nat.two_pow_pos t)]
theorem strip_odd {sg e : Int} {o : Nat} (h : o % 2 = 1) : stripN sg o e = ⟨sg, o, e, lenN o⟩ := by
  have := strip_odd_mul (sg := sg) (e := e) (t := 0) h
  simpa using this
theorem strip_scale {sg e : Int} {m : Nat} (k : Nat) (h : 0 < m) : stripN sg (m * 2 ^ k) e = stripN sg m (e + k) := by
  obtain ⟨o, t, ho, rfl⟩ := odd_part m h
  rw [Nat.mul_assoc, ← Nat.pow_add, strip_odd_mul ho, strip_odd_mul ho]
  congr 1
  push_cast
  omega
def upB (r : Str) (sg : Int) (q rest low : Nat) : Bool :=
  decide (0 < rest) && (decide (r = Str.ofString "u") || (decide (r = Str.ofString "c") && decide (sg = 0)) || (decide (r = Str.ofString "f") && decide (sg = 1)) ||
    (decide (r = Str.ofString "n") && (decide (low < 2 * rest) || (decide (2 * rest = low) && decide (q % 2 = 1)))))
theorem upB_scale {r : Str} {sg : Int} {q rest low k : Nat} (h : 0 < k) : upB r sg q (rest * k) (low * k) = upB r sg q rest low := by
  have h1 : (0 < rest * k) ↔ 0 < rest := by
    constructor
    · intro h'; exact Nat.pos_of_mul_pos_right h'
    · intro h'; exact Nat.mul_pos h' h
  have h2 : (low * k < 2 * (rest * k)) ↔ low < 2 * rest := by
    rw [← Nat.mul_assoc]; exact Nat.mul_lt_mul_right h
  have h3 : (2 * (rest * k) = low * k) ↔ 2 * rest = low := by
    rw [← Nat.mul_assoc]; exact Nat.mul_left_inj (by omega)
  unfold upB
  simp only [h1, h2, h3]
def RQ (sg : Int) (m : Nat) (e : Int) (P : Nat) (r : Str) : Quad :=
  if m = 0 then zeroQ else
  stripN sg (m * 2 ^ P / 2 ^ lenN m + if upB r sg (m * 2 ^ P / 2 ^ lenN m) (m * 2 ^ P % 2 ^ lenN m) (2 ^ lenN m) then 1 else 0) (e + lenN m - P)
theorem RQ_zero {sg e : Int} {P : Nat} {r : Str} : RQ sg 0 e P r = zeroQ := by simp [RQ]
theorem RQ_scale {sg e : Int} {m P : Nat} {r : Str} (k : Nat) : RQ sg (m * 2 ^ k) e P r = RQ sg m (e + k) P r := by
  by_cases hm : m = 0
  · simp [RQ, hm]
  · have hm' : m * 2 ^ k ≠ 0 := by
      have := Nat.mul_pos (Nat.pos_of_ne_zero hm) (Nat.two_pow_pos k); omega
    unfold RQ
    simp only [hm, hm', if_false]
    have hk := Nat.two_pow_pos k
    rw [lenN_mul_pow k (by omega)]
    have e1 : m * 2 ^ k * 2 ^ P = m * 2 ^ P * 2 ^ k := by grind
    rw [e1, Nat.pow_add, Nat.mul_div_mul_right _ _ hk, Nat.mul_mod_mul_right, upB_scale hk]
    congr 1
    push_cast
    omega
theorem upB_rest0 {r : Str} {sg : Int} {q low : Nat} : upB r sg q 0 low = false := by simp [upB]
theorem RQ_exact {sg e : Int} {m P : Nat} {r : Str} (h0 : 0 < m) (h : lenN m ≤ P) : RQ sg m e P r = stripN sg m e := by
  unfold RQ
  have hm : m ≠ 0 := by omega
  simp only [hm, if_false]
  obtain ⟨d, rfl⟩ : ∃ d, P = d + lenN m := ⟨P - lenN m, by omega⟩
  rw [Nat.pow_add, ← Nat.mul_assoc, Nat.mul_div_cancel _ (Nat.two_pow_pos _), Nat.mul_mod_left, upB_rest0]
  simp only [Bool.false_eq_true, if_false, Nat.add_zero]
  rw [strip_scale _ h0]
  congr 1
  push_cast
  omega
def trailingF (n : Int) : Int := if n = 0 then 0 else bl (bAnd n (-n)) - 1
def rndF (sg man n : Int) (r : Str) : Int :=
  if r = Str.ofString "n" then
    (if bAnd (shr man (n - 1)) 1 ≠ 0 ∧ (bAnd (shr man (n - 1)) 2 ≠ 0 ∨ bAnd man (shl 1 (n - 1) - 1) ≠ 0) then shr (shr man (n - 1)) 1 + 1 else shr (shr man (n - 1)) 1)
  else if r = Str.ofString "d" ∨ (r = Str.ofString "f" ∧ sg = 0) ∨ (r = Str.ofString "c" ∧ sg = 1) then shr man n else -(shr (-man) n)
def stripQ (sg man ex bc : Int) : Quad :=
  if bAnd man 1 = 0 then ⟨sg, shr man (trailingF man), ex + trailingF man, if shr man (trailingF man) = 1 then 1 else bc - trailingF man⟩
  else ⟨sg, man, ex, if man = 1 then 1 else bc⟩
def normF (sg man ex bc p : Int) (r : Str) : Quad :=
  if man = 0 then zeroQ else if 0 < bc - p then stripQ sg (rndF sg man (bc - p) r) (ex + (bc - p)) p else stripQ sg man ex bc
theorem bl1 : bl 1 = 1 := by unfold bl; decide
theorem shr_nat (m k : Nat) : shr (m : Int) (k : Int) = ((m / 2 ^ k : Nat) : Int) := by
  unfold shr
  rw [Int.toNat_natCast, Int.fdiv_eq_ediv_of_nonneg _ (Int.le_of_lt (Int.pow_pos (by decide)))]
  push_cast
  rfl
theorem shl_nat (m k : Nat) : shl (m : Int) (k : Int) = ((m * 2 ^ k : Nat) : Int) := by
  unfold shl
  rw [Int.toNat_natCast]
  push_cast
  rfl
theorem bAnd_one (x : Int) : bAnd x 1 = x % 2 := by unfold bAnd; exact bitAnd_m1 x
theorem bAnd_one_nat (m : Nat) : bAnd (m : Int) 1 = ((m % 2 : Nat) : Int) := by rw [bAnd_one]; push_cast; rfl
theorem bAnd_two (x : Int) : bAnd x 2 = (x / 2 % 2) * 2 := by
  unfold bAnd
  have := kbt_bit x 1
  simpa using this
theorem bAnd_mask (x : Int) (k : Nat) : bAnd x (2 ^ k - 1) = x % 2 ^ k := by unfold bAnd; exact kbt_mask x k
theorem trailing_nat {o t : Nat} (h : o % 2 = 1) : trailingF ((o * 2 ^ t : Nat) : Int) = t := by
  have hp : 0 < o * 2 ^ t := Nat.mul_pos (by omega) (Nat.two_pow_pos t)
  have h0 : ((o * 2 ^ t : Nat) : Int) ≠ 0 := by omega
  unfold trailingF
  simp only [h0, if_false]
  obtain ⟨a, rfl⟩ : ∃ a, o = 2 * a + 1 := ⟨o / 2, by omega⟩
  have e : (((2 * a + 1) * 2 ^ t : Nat) : Int) = 2 ^ t * (2 * (a : Int) + 1) := by push_cast; grind
  rw [e]
  unfold bAnd
  rw [kbt_low]
  have : ((2 : Int) ^ t) = ((2 ^ t : Nat) : Int) := by push_cast; rfl
  rw [this, bl_nat, lenN_pow]
  omega
theorem trailing_nn (n : Int) : 0 ≤ trailingF n := by
  by_cases h : n = 0
  · simp [trailingF, h]
  · obtain ⟨m, hm⟩ : ∃ m : Nat, n.natAbs = m := ⟨_, rfl⟩
    obtain ⟨o, t, ho, e⟩ := odd_part m (by omega)
    obtain ⟨a, ha⟩ : ∃ a : Int, n = 2 ^ t * (2 * a + 1) := by
      rcases Int.natAbs_eq n with h1 | h1
      · refine ⟨(o / 2 : Nat), ?_⟩
        rw [h1, hm, e]
        have : o = 2 * (o / 2) + 1 := by omega
        have h2 : (o : Int) = 2 * ((o / 2 : Nat) : Int) + 1 := by omega
        push_cast at *
        rw [h2]
        grind
      · refine ⟨-((o / 2 : Nat) : Int) - 1, ?_⟩
        rw [h1, hm, e]
        have h2 : (o : Int) = 2 * ((o / 2 : Nat) : Int) + 1 := by omega
        push_cast at *
        rw [h2]
        grind
    unfold trailingF
    simp only [h, if_false]
    rw [ha]
    unfold bAnd
    rw [kbt_low]
    have : ((2 : Int) ^ t) = ((2 ^ t : Nat) : Int) := by push_cast; rfl
    rw [this, bl_nat, lenN_pow]
    omega
theorem stripQ_eq {sg ex : Int} {m bc : Nat} (h0 : 0 < m) (h : bc = lenN m ∨ m = 2 ^ bc) : stripQ sg m ex bc = stripN sg m ex := by
  obtain ⟨o, t, ho, rfl⟩ := odd_part m h0
  have hl := lenN_mul_pow (m := o) t (by omega)
  rw [strip_odd_mul ho]
  unfold stripQ
  rw [trailing_nat ho, bAnd_one_nat, shr_nat, Nat.mul_div_cancel _ (Nat.two_pow_pos t)]
  rcases Nat.eq_zero_or_pos t with rfl | ht
  · have h1 : ((o * 2 ^ 0 % 2 : Nat) : Int) ≠ 0 := by rw [Nat.pow_zero, Nat.mul_one]; omega
    rw [if_neg h1]
    simp only [Nat.pow_zero, Nat.mul_one, Int.natCast_zero, Int.add_zero, Nat.add_zero] at *
    by_cases h2 : o = 1
    · subst h2; simp [lenN_one]
    · have h3 : (o : Int) ≠ 1 := by omega
      rw [if_neg h3]
      rcases h with h | h
      · rw [h]
      · exfalso
        rcases bc with _ | bc
        · simp at h; omega
        · rw [Nat.pow_succ] at h; omega
  · have h1 : ((o * 2 ^ t % 2 : Nat) : Int) = 0 := by
      obtain ⟨u, rfl⟩ : ∃ u, t = u + 1 := ⟨t - 1, by omega⟩
      have : o * 2 ^ (u + 1) = 2 * (o * 2 ^ u) := by rw [Nat.pow_succ]; grind
      rw [this]; omega
    rw [if_pos h1]
    by_cases h2 : o = 1
    · subst h2; simp [lenN_one]
    · have h3 : (o : Int) ≠ 1 := by omega
      rw [if_neg h3]
      rcases h with h | h
      · rw [h, hl]; congr 1; push_cast; omega
      · exfalso
        have h4 : t ≤ bc ∨ bc < t := by omega
        rcases h4 with h4 | h4
        · obtain ⟨d, rfl⟩ : ∃ d, bc = d + t := ⟨bc - t, by omega⟩
          rw [Nat.pow_add] at h
          have h5 := Nat.mul_right_cancel (Nat.two_pow_pos t) h
          rcases d with _ | d
          · simp at h5; omega
          · rw [Nat.pow_succ] at h5; omega
        · obtain ⟨d, rfl⟩ : ∃ d, t = (d + 1) + bc := ⟨t - bc - 1, by omega⟩
          rw [Nat.pow_add, ← Nat.mul_assoc] at h
          have h5 : o * 2 ^ (d + 1) = 1 := Nat.mul_right_cancel (Nat.two_pow_pos bc) (by rw [Nat.one_mul]; exact h)
          rw [Nat.pow_succ] at h5
          have := Nat.mul_pos (show 0 < o by omega) (Nat.two_pow_pos d)
          rw [← Nat.mul_assoc] at h5
          omega
theorem rnd_ne : (Str.ofString "n" = Str.ofString "f") = False ∧
  (Str.ofString "n" = Str.ofString "c") = False ∧
  (Str.ofString "n" = Str.ofString "d") = False ∧
  (Str.ofString "n" = Str.ofString "u") = False ∧
  (Str.ofString "f" = Str.ofString "n") = False ∧
  (Str.ofString "f" = Str.ofString "c") = False ∧
  (Str.ofString "f" = Str.ofString "d") = False ∧
  (Str.ofString "f" = Str.ofString "u") = False ∧
  (Str.ofString "c" = Str.ofString "n") = False ∧
  (Str.ofString "c" = Str.ofString "f") = False ∧
  (Str.ofString "c" = Str.ofString "d") = False ∧
  (Str.ofString "c" = Str.ofString "u") = False ∧
  (Str.ofString "d" = Str.ofString "n") = False ∧
  (Str.ofString "d" = Str.ofString "f") = False ∧
  (Str.ofString "d" = Str.ofString "c") = False ∧
  (Str.ofString "d" = Str.ofString "u") = False ∧
  (Str.ofString "u" = Str.ofString "n") = False ∧
  (Str.ofString "u" = Str.ofString "f") = False ∧
  (Str.ofString "u" = Str.ofString "c") = False ∧
  (Str.ofString "u" = Str.ofString "d") = False := by
  refine ⟨?_, ?_, ?_, ?_, ?_, ?_, ?_, ?_, ?_, ?_, ?_, ?_, ?_, ?_, ?_, ?_, ?_, ?_, ?_, ?_⟩ <;> exact eq_false (by decide)
/-- the rounded mantissa: quotient and the step up -/
theorem rndF_eq {sg : Int} {m n : Nat} {r : Str} (hn : 0 < n) (hs : sg = 0 ∨ sg = 1)
    (hr : r = Str.ofString "n" ∨ r = Str.ofString "f" ∨ r = Str.ofString "c" ∨ r = Str.ofString "d" ∨ r = Str.ofString "u") :
    rndF sg m n r = ((m / 2 ^ n + if upB r sg (m / 2 ^ n) (m % 2 ^ n) (2 ^ n) then 1 else 0 : Nat) : Int) := by
  have hceil : -(shr (-(m : Int)) (n : Int)) = ((m / 2 ^ n + if 0 < m % 2 ^ n then 1 else 0 : Nat) : Int) := by
    unfold shr
    rw [Int.toNat_natCast, Int.fdiv_eq_ediv_of_nonneg _ (Int.le_of_lt (Int.pow_pos (by decide)))]
    have hp := Nat.two_pow_pos n
    have hd := Nat.div_add_mod m (2 ^ n)
    have hm := Nat.mod_lt m hp
    have e2 : ((2 : Int) ^ n) = ((2 ^ n : Nat) : Int) := by push_cast; rfl
    rw [e2]
    generalize hD : 2 ^ n = D at *
    generalize hq : m / D = q at *
    generalize hc : m % D = c at *
    have hD0 : (D : Int) ≠ 0 := by omega
    split
    · have : (-(m : Int)) = (D - c : Int) + D * (-(q : Int) - 1) := by rw [← hd]; push_cast; grind
      rw [this, Int.add_mul_ediv_left _ _ hD0, Int.ediv_eq_zero_of_lt (by omega) (by omega)]
      push_cast; omega
    · have hc0 : c = 0 := by omega
      have : (-(m : Int)) = D * (-(q : Int)) := by rw [← hd, hc0]; push_cast; grind
      rw [this, Int.mul_ediv_cancel_left _ hD0]
      push_cast; omega
  have hlt := Nat.mod_lt m (Nat.two_pow_pos n)
  rcases hr with rfl | rfl | rfl | rfl | rfl
  · obtain ⟨k, rfl⟩ : ∃ k, n = k + 1 := ⟨n - 1, by omega⟩
    have ek : (((k + 1 : Nat) : Int) - 1) = (k : Nat) := by omega
    have h1 : shl 1 (k : Int) - 1 = 2 ^ k - 1 := by unfold shl; simp
    have e1 : m / 2 ^ (k + 1) = m / 2 ^ k / 2 := by rw [Nat.div_div_eq_div_mul, Nat.pow_succ]
    have hp := Nat.two_pow_pos k
    have e2 : m % 2 ^ (k + 1) = (m / 2 ^ k % 2) * 2 ^ k + m % 2 ^ k := by
      rw [Nat.pow_succ, Nat.mod_mul]
      grind
    have hc := Nat.mod_lt m hp
    unfold rndF
    rw [if_pos rfl, ek, shr_nat, h1, bAnd_mask, bAnd_one_nat, bAnd_two]
    have e3 : ((m : Int) % 2 ^ k) = ((m % 2 ^ k : Nat) : Int) := by push_cast; rfl
    have e4 : shr ((m / 2 ^ k : Nat) : Int) 1 = ((m / 2 ^ k / 2 : Nat) : Int) := by
      have := shr_nat (m / 2 ^ k) 1
      simpa using this
    rw [e3, e4, e1, e2, Nat.pow_succ]
    unfold upB
    simp only [show (Str.ofString "n" = Str.ofString "u") = False from by decide, show (Str.ofString "n" = Str.ofString "c") = False from by decide, show (Str.ofString "n" = Str.ofString "f") = False from by decide, decide_false, decide_true, Bool.false_and, Bool.false_or, Bool.true_and]
    generalize 2 ^ k = D at *
    generalize m / D = t at *
    generalize m % D = c at *
    rcases Nat.mod_two_eq_zero_or_one t with h | h
    · simp only [h, Nat.zero_mul, Nat.zero_add]
      have : ¬ D * 2 < 2 * c := by omega
      have h2 : ¬ 2 * c = D * 2 := by omega
      simp [this, h2]
    · simp only [h, Nat.one_mul]
      have h3 : 0 < D + c := by omega
      by_cases h4 : c = 0
      · subst h4
        have h5 : ¬ D * 2 < 2 * (D + 0) := by omega
        have h6 : 2 * (D + 0) = D * 2 := by omega
        simp only [h3, h5, h6]
        by_cases h7 : t / 2 % 2 = 1
        · have : (t : Int) / 2 % 2 * 2 ≠ 0 := by omega
          simp [h7, this]
        · have : (t : Int) / 2 % 2 * 2 = 0 := by omega
          simp [h7, this]
      · have h5 : D * 2 < 2 * (D + c) := by omega
        have h6 : (c : Int) ≠ 0 := by omega
        simp [h3, h5]
        omega
  all_goals (
    unfold rndF
    rw [if_neg (by decide)]
    rcases hs with rfl | rfl
    all_goals first
      | (rw [if_neg (by decide), hceil]; unfold upB; congr 2; simp [rnd_ne]; done)
      | (rw [if_pos (by decide), shr_nat]; unfold upB; congr 1; simp [rnd_ne]; done))
section
variable {sg man ex bc p n X : Int} {q : Quad} {r : Str}
theorem sq1 (h : bAnd man 1 = 0) (h2 : shr man (trailingF man) = 1) : (⟨sg, shr man (trailingF man), ex + trailingF man, 1⟩ : Quad) = stripQ sg man ex bc := by simp only [stripQ, if_pos h, if_pos h2]
theorem sq2 (h : bAnd man 1 = 0) (h2 : shr man (trailingF man) ≠ 1) : (⟨sg, shr man (trailingF man), ex + trailingF man, bc - trailingF man⟩ : Quad) = stripQ sg man ex bc := by simp only [stripQ, if_pos h, if_neg h2]
theorem sq3 (h : bAnd man 1 ≠ 0) (h2 : man = 1) : (⟨sg, man, ex, 1⟩ : Quad) = stripQ sg man ex bc := by simp only [stripQ, if_neg h, if_pos h2]
theorem sq4 (h : bAnd man 1 ≠ 0) (h2 : man ≠ 1) : (⟨sg, man, ex, bc⟩ : Quad) = stripQ sg man ex bc := by simp only [stripQ, if_neg h, if_neg h2]
theorem nf0 (h : man = 0) : zeroQ = normF sg man ex bc p r := by simp only [normF, if_pos h]
theorem nf1 (h0 : man ≠ 0) (h1 : 0 < bc - p) (e : rndF sg man (bc - p) r = X) (h : q = stripQ sg X (ex + (bc - p)) p) : q = normF sg man ex bc p r := by rw [normF, if_neg h0, if_pos h1, e, h]
theorem nf2 (h0 : man ≠ 0) (h1 : ¬ 0 < bc - p) (h : q = stripQ sg man ex bc) : q = normF sg man ex bc p r := by rw [normF, if_neg h0, if_neg h1, h]
theorem rn1 (h1 : bAnd (shr man (n - 1)) 1 ≠ 0) (h2 : bAnd (shr man (n - 1)) 2 ≠ 0) : rndF sg man n (Str.ofString "n") = shr (shr man (n - 1)) 1 + 1 := by rw [rndF, if_pos rfl, if_pos ⟨h1, .inl h2⟩]
theorem rn2 (h1 : bAnd (shr man (n - 1)) 1 ≠ 0) (h2 : bAnd man (shl 1 (n - 1) - 1) ≠ 0) : rndF sg man n (Str.ofString "n") = shr (shr man (n - 1)) 1 + 1 := by rw [rndF, if_pos rfl, if_pos ⟨h1, .inr h2⟩]
theorem rn3 (h1 : bAnd (shr man (n - 1)) 1 = 0) : rndF sg man n (Str.ofString "n") = shr (shr man (n - 1)) 1 := by rw [rndF, if_pos rfl, if_neg (fun h => h.1 h1)]
theorem rn4 (h1 : bAnd (shr man (n - 1)) 2 = 0) (h2 : bAnd man (shl 1 (n - 1) - 1) = 0) : rndF sg man n (Str.ofString "n") = shr (shr man (n - 1)) 1 := by rw [rndF, if_pos rfl, if_neg (fun h => h.2.elim (fun a => a h1) (fun a => a h2))]
theorem rd1 : rndF sg man n (Str.ofString "d") = shr man n := by simp [rndF, rnd_ne]
theorem rd2 : rndF 0 man n (Str.ofString "f") = shr man n := by simp [rndF, rnd_ne]
theorem rd3 : rndF 1 man n (Str.ofString "c") = shr man n := by simp [rndF, rnd_ne]
theorem ru1 : rndF sg man n (Str.ofString "u") = -(shr (-man) n) := by simp [rndF, rnd_ne]
theorem ru2 : rndF 1 man n (Str.ofString "f") = -(shr (-man) n) := by simp [rndF, rnd_ne]
theorem ru3 : rndF 0 man n (Str.ofString "c") = -(shr (-man) n) := by simp [rndF, rnd_ne]
end
theorem normF_eq {sg ex : Int} {m P : Nat} {r : Str} (hP : 0 < P) (hs : sg = 0 ∨ sg = 1)
    (hr : r = Str.ofString "n" ∨ r = Str.ofString "f" ∨ r = Str.ofString "c" ∨ r = Str.ofString "d" ∨ r = Str.ofString "u") :
    normF sg m ex (lenN m) P r = RQ sg m ex P r := by
  unfold normF
  by_cases hm : m = 0
  · subst hm; simp [RQ_zero]
  · have h0 : (m : Int) ≠ 0 := by omega
    have hm0 : 0 < m := by omega
    rw [if_neg h0]
    split
    · rename_i h
      obtain ⟨n, hn, hn0⟩ : ∃ n, lenN m = P + n ∧ 0 < n := ⟨lenN m - P, by omega, by omega⟩
      have e : ((lenN m : Nat) : Int) - (P : Int) = (n : Nat) := by omega
      rw [e, rndF_eq hn0 hs hr]
      have hpP := Nat.two_pow_pos P
      have e1 : m * 2 ^ P / 2 ^ lenN m = m / 2 ^ n := by rw [hn, Nat.add_comm, Nat.pow_add, Nat.mul_div_mul_right _ _ hpP]
      have e2 : m * 2 ^ P % 2 ^ lenN m = (m % 2 ^ n) * 2 ^ P := by rw [hn, Nat.add_comm, Nat.pow_add, Nat.mul_mod_mul_right]
      have e3 : 2 ^ lenN m = 2 ^ n * 2 ^ P := by rw [hn, Nat.add_comm, Nat.pow_add]
      have e4 : RQ sg m ex P r = stripN sg (m / 2 ^ n + if upB r sg (m / 2 ^ n) (m % 2 ^ n) (2 ^ n) then 1 else 0) (ex + n) := by
        unfold RQ
        rw [if_neg hm, e1, e2, e3, upB_scale hpP, hn]
        congr 1
        push_cast
        omega
      rw [e4]
      have hq1 : 2 ^ (P - 1) ≤ m / 2 ^ n := by
        rw [Nat.le_div_iff_mul_le (Nat.two_pow_pos n), ← Nat.pow_add]
        have := lenN_le hm0
        rw [hn] at this
        rwa [show P - 1 + n = P + n - 1 by omega]
      have hq2 : m / 2 ^ n < 2 ^ P := by
        rw [Nat.div_lt_iff_lt_mul (Nat.two_pow_pos n), ← Nat.pow_add, ← hn]
        exact lenN_lt m
      have hpos := Nat.two_pow_pos (P - 1)
      refine stripQ_eq (by omega) ?_
      split
      · by_cases h5 : m / 2 ^ n + 1 = 2 ^ P
        · exact .inr h5
        · refine .inl ?_
          have := lenN_unique (m := m / 2 ^ n + 1) (k := P - 1) (by omega) (by rw [show P - 1 + 1 = P by omega]; omega)
          omega
      · refine .inl ?_
        rw [Nat.add_zero]
        have := lenN_unique (m := m / 2 ^ n) (k := P - 1) hq1 (by rw [show P - 1 + 1 = P by omega]; exact hq2)
        omega
    · rw [RQ_exact hm0 (by omega)]
      exact stripQ_eq hm0 (.inl rfl)
theorem upB_low {r : Str} {sg : Int} {q rest low : Nat} (h0 : 0 < rest) (h : 2 * rest < low) : upB r sg q rest low = upB r sg 0 1 3 := by
  have h1 : ¬ low < 2 * rest := by omega
  have h2 : ¬ 2 * rest = low := by omega
  unfold upB
  simp only [h0, h1, h2]
  simp
theorem upB_high {r : Str} {sg : Int} {q rest low : Nat} (h : low < 2 * rest) : upB r sg q rest low = upB r sg 0 2 3 := by
  have h0 : 0 < rest := by omega
  unfold upB
  simp only [h0, h]
  simp
theorem stick_plus {sg e : Int} {r : Str} {M k d P : Nat} (hM : 0 < M) (hb : lenN M ≤ P) (hd0 : 0 < d) (hd : d * 2 ^ (P + 5) ≤ 2 ^ (k + lenN M)) :
    RQ sg (M * 2 ^ k + d) (e - k) P r = stripN sg (M * 2 ^ (P - lenN M) + if upB r sg 0 1 3 then 1 else 0) (e + lenN M - P) := by
  have hl := lenN_lt M
  have hl2 := lenN_le hM
  have hl0 := lenN_pos hM
  generalize hL : lenN M = l at *
  obtain ⟨c, rfl⟩ : ∃ c, P = l + c := ⟨P - l, by omega⟩
  have hk := Nat.two_pow_pos k
  have hlp := Nat.two_pow_pos l
  have hcp := Nat.two_pow_pos c
  have e5 : 2 ^ (l + c + 5) = 2 ^ l * 2 ^ c * 32 := by rw [Nat.pow_add, Nat.pow_add]
  have e6 : 2 ^ (k + l) = 2 ^ k * 2 ^ l := Nat.pow_add ..
  rw [e5, e6] at hd
  have hdk32 : d * 32 ≤ 2 ^ k := by
    refine Nat.le_of_mul_le_mul_right ?_ hlp
    refine Nat.le_trans ?_ hd
    rw [show d * (2 ^ l * 2 ^ c * 32) = d * 32 * 2 ^ l * 2 ^ c by grind]
    exact Nat.le_mul_of_pos_right _ hcp
  have hdk : d < 2 ^ k := by omega
  have hlen : lenN (M * 2 ^ k + d) = l + k := by
    have := lenN_unique (m := M * 2 ^ k + d) (k := l - 1 + k) (by
      rw [Nat.pow_add]
      have := Nat.mul_le_mul_right (2 ^ k) hl2
      omega) (by
      rw [show l - 1 + k + 1 = l + k by omega, Nat.pow_add]
      have := Nat.mul_le_mul_right (2 ^ k) (show M + 1 ≤ 2 ^ l by omega)
      rw [Nat.add_mul] at this
      omega)
    omega
  have e1 : (M * 2 ^ k + d) * 2 ^ (l + c) = d * (2 ^ l * 2 ^ c) + 2 ^ (l + k) * (M * 2 ^ c) := by
    rw [Nat.pow_add, Nat.pow_add]; grind
  have h32 : d * (2 ^ l * 2 ^ c) * 32 ≤ 2 ^ (l + k) := by
    rw [Nat.pow_add, Nat.mul_comm (2 ^ l) (2 ^ k)]
    rw [show d * (2 ^ l * 2 ^ c) * 32 = d * (2 ^ l * 2 ^ c * 32) by grind]
    exact hd
  have hpos : 0 < d * (2 ^ l * 2 ^ c) := Nat.mul_pos hd0 (Nat.mul_pos hlp hcp)
  have hq : (M * 2 ^ k + d) * 2 ^ (l + c) / 2 ^ (l + k) = M * 2 ^ c := by
    rw [e1, Nat.add_mul_div_left _ _ (Nat.two_pow_pos _), Nat.div_eq_of_lt (by omega), Nat.zero_add]
  have hr : (M * 2 ^ k + d) * 2 ^ (l + c) % 2 ^ (l + k) = d * (2 ^ l * 2 ^ c) := by
    rw [e1, Nat.add_mul_mod_self_left, Nat.mod_eq_of_lt (by omega)]
  unfold RQ
  have hne : M * 2 ^ k + d ≠ 0 := by omega
  rw [if_neg hne, hlen, hq, hr, upB_low hpos (by omega), show l + c - l = c by omega]
  congr 1
  push_cast
  omega
theorem stick_minus {sg e : Int} {r : Str} {M k d P : Nat} (hM : 0 < M) (hb : lenN M ≤ P) (hd0 : 0 < d) (hd : d * 2 ^ (P + 5) ≤ 2 ^ (k + lenN M)) :
    RQ sg (M * 2 ^ k - d) (e - k) P r = if M = 2 ^ (lenN M - 1) then stripN sg (2 ^ P - 1 + if upB r sg 0 2 3 then 1 else 0) (e + lenN M - 1 - P)
      else stripN sg (M * 2 ^ (P - lenN M) - 1 + if upB r sg 0 2 3 then 1 else 0) (e + lenN M - P) := by
  have hl := lenN_lt M
  have hl2 := lenN_le hM
  have hl0 := lenN_pos hM
  generalize hL : lenN M = l at *
  obtain ⟨c, rfl⟩ : ∃ c, P = l + c := ⟨P - l, by omega⟩
  have hk := Nat.two_pow_pos k
  have hlp := Nat.two_pow_pos l
  have hcp := Nat.two_pow_pos c
  have e5 : 2 ^ (l + c + 5) = 2 ^ l * 2 ^ c * 32 := by rw [Nat.pow_add, Nat.pow_add]
  have e6 : 2 ^ (k + l) = 2 ^ k * 2 ^ l := Nat.pow_add ..
  rw [e5, e6] at hd
  have hdk : d * 32 ≤ 2 ^ k := by
    refine Nat.le_of_mul_le_mul_right ?_ hlp
    refine Nat.le_trans ?_ hd
    rw [show d * (2 ^ l * 2 ^ c * 32) = d * 32 * 2 ^ l * 2 ^ c by grind]
    exact Nat.le_mul_of_pos_right _ hcp
  have hpos : 0 < d * (2 ^ l * 2 ^ c) := Nat.mul_pos hd0 (Nat.mul_pos hlp hcp)
  have h32 : d * (2 ^ l * 2 ^ c) * 32 ≤ 2 ^ (l + k) := by
    rw [Nat.pow_add, Nat.mul_comm (2 ^ l) (2 ^ k)]
    rw [show d * (2 ^ l * 2 ^ c) * 32 = d * (2 ^ l * 2 ^ c * 32) by grind]
    exact hd
  have hMk : 2 ^ k ≤ M * 2 ^ k := Nat.le_mul_of_pos_left _ hM
  split
  · rename_i hMe
    have e7 : M * 2 ^ k = 2 ^ (l - 1 + k) := by rw [hMe, Nat.pow_add]
    obtain ⟨j, hj⟩ : ∃ j, l - 1 + k = j + 1 := by
      rcases k with _ | k
      · simp at hdk; omega
      · exact ⟨l - 1 + k, by omega⟩
    have e8 : 2 ^ (l + k) = 4 * 2 ^ j := by rw [show l + k = j + 2 by omega, Nat.pow_succ, Nat.pow_succ]; omega
    have e9 : 2 ^ (l - 1 + k) = 2 * 2 ^ j := by rw [hj, Nat.pow_succ]; omega
    have hjp := Nat.two_pow_pos j
    have hd4 : d ≤ 2 ^ j := by
      have : d ≤ d * (2 ^ l * 2 ^ c) := Nat.le_mul_of_pos_right _ (Nat.mul_pos hlp hcp)
      omega
    have hlen : lenN (M * 2 ^ k - d) = j + 1 := by
      apply lenN_unique
      · rw [e7, e9]; omega
      · rw [e7, e9, Nat.pow_succ]; omega
    have hc1 : 0 < 2 ^ (l + c) := Nat.two_pow_pos _
    have e1 : (M * 2 ^ k - d) * 2 ^ (l + c) = (2 ^ (j + 1) - d * (2 ^ l * 2 ^ c)) + 2 ^ (j + 1) * (2 ^ (l + c) - 1) := by
      rw [e7, hj, Nat.sub_mul, Nat.mul_sub, Nat.mul_one]
      rw [Nat.pow_add 2 l c] at *
      have : d * (2 ^ l * 2 ^ c) ≤ 2 ^ (j + 1) := by rw [Nat.pow_succ]; omega
      have : 2 ^ (j + 1) ≤ 2 ^ (j + 1) * (2 ^ l * 2 ^ c) := Nat.le_mul_of_pos_right _ (Nat.mul_pos hlp hcp)
      omega
    have e10 : 2 ^ (j + 1) = 2 * 2 ^ j := by rw [Nat.pow_succ]; omega
    have hq : (M * 2 ^ k - d) * 2 ^ (l + c) / 2 ^ (j + 1) = 2 ^ (l + c) - 1 := by
      rw [e1, Nat.add_mul_div_left _ _ (Nat.two_pow_pos _), Nat.div_eq_of_lt (by omega), Nat.zero_add]
    have hr : (M * 2 ^ k - d) * 2 ^ (l + c) % 2 ^ (j + 1) = 2 ^ (j + 1) - d * (2 ^ l * 2 ^ c) := by
      rw [e1, Nat.add_mul_mod_self_left, Nat.mod_eq_of_lt (by omega)]
    unfold RQ
    have hne : M * 2 ^ k - d ≠ 0 := by rw [e7, e9]; omega
    rw [if_neg hne, hlen, hq, hr, upB_high (by omega)]
    congr 1
    push_cast
    omega
  · rename_i hMe
    have hM1 : 2 ^ (l - 1) + 1 ≤ M := by omega
    have hlen : lenN (M * 2 ^ k - d) = l + k := by
      have h1 := Nat.mul_le_mul_right (2 ^ k) hM1
      rw [Nat.add_mul] at h1
      have := lenN_unique (m := M * 2 ^ k - d) (k := l - 1 + k) (by
        rw [Nat.pow_add]
        omega) (by
        rw [show l - 1 + k + 1 = l + k by omega, Nat.pow_add]
        have := Nat.mul_le_mul_right (2 ^ k) (show M + 1 ≤ 2 ^ l by omega)
        rw [Nat.add_mul] at this
        omega)
      omega
    have hMc : 0 < M * 2 ^ c := Nat.mul_pos hM hcp
    have e1 : (M * 2 ^ k - d) * 2 ^ (l + c) = (2 ^ (l + k) - d * (2 ^ l * 2 ^ c)) + 2 ^ (l + k) * (M * 2 ^ c - 1) := by
      rw [Nat.sub_mul, Nat.mul_sub, Nat.mul_one, Nat.pow_add 2 l c]
      have h2 : M * 2 ^ k * (2 ^ l * 2 ^ c) = 2 ^ (l + k) * (M * 2 ^ c) := by rw [Nat.pow_add]; grind
      rw [h2]
      have : 2 ^ (l + k) ≤ 2 ^ (l + k) * (M * 2 ^ c) := Nat.le_mul_of_pos_right _ hMc
      omega
    have hp2 := Nat.two_pow_pos (l + k)
    have hq : (M * 2 ^ k - d) * 2 ^ (l + c) / 2 ^ (l + k) = M * 2 ^ c - 1 := by
      rw [e1, Nat.add_mul_div_left _ _ (Nat.two_pow_pos _), Nat.div_eq_of_lt (by omega), Nat.zero_add]
    have hr : (M * 2 ^ k - d) * 2 ^ (l + c) % 2 ^ (l + k) = 2 ^ (l + k) - d * (2 ^ l * 2 ^ c) := by
      rw [e1, Nat.add_mul_mod_self_left, Nat.mod_eq_of_lt (by omega)]
    unfold RQ
    have hne : M * 2 ^ k - d ≠ 0 := by omega
    rw [if_neg hne, hlen, hq, hr, upB_high (by omega), show l + c - l = c by omega]
    congr 1
    push_cast
    omega
def sgI (s m : Int) : Int := if s = 1 then -m else m
def RZ (z e p : Int) (r : Str) : Quad := RQ (if z < 0 then 1 else 0) z.natAbs e (if p = 0 then lenN z.natAbs else p.toNat) r
theorem RZ_of {sg man P z e p : Int} {r : Str} (hm : 0 ≤ man) (hz : (z = man ∧ sg = 0) ∨ (z = -man ∧ sg = 1) ∨ (z = 0 ∧ man = 0)) (hP : (p ≠ 0 ∧ P = p) ∨ (p = 0 ∧ P = bl man)) :
    RQ sg man.natAbs e P.toNat r = RZ z e p r := by
  unfold RZ
  by_cases h0 : man = 0
  · have : z.natAbs = 0 := by omega
    rw [this, h0]; simp [RQ_zero]
  · have hn : z.natAbs = man.natAbs := by omega
    rw [hn]
    have hs : (if z < 0 then (1 : Int) else 0) = sg := by
      rcases hz with ⟨h1, h2⟩ | ⟨h1, h2⟩ | ⟨h1, h2⟩
      · rw [if_neg (by omega), h2]
      · rw [if_pos (by omega), h2]
      · omega
    rw [hs]
    rcases hP with ⟨h1, h2⟩ | ⟨h1, h2⟩
    · rw [if_neg h1, h2]
    · rw [if_pos h1, h2, bl_eq]; simp
theorem RZ_zero {e p : Int} {r : Str} : RZ 0 e p r = zeroQ := by simp [RZ, RQ_zero]
theorem RZ_exact {z e : Int} {r : Str} (h : z ≠ 0) : RZ z e 0 r = stripN (if z < 0 then 1 else 0) z.natAbs e := by
  unfold RZ
  rw [if_pos rfl, RQ_exact (by omega) (Nat.le_refl _)]
theorem RZ_scale {z e p : Int} {r : Str} (k : Nat) : RZ (z * 2 ^ k) e p r = RZ z (e + k) p r := by
  have hk : (0 : Int) < 2 ^ k := Int.pow_pos (by decide)
  by_cases hz : z = 0
  · rw [hz, Int.zero_mul, RZ_zero, RZ_zero]
  · have hz2 : z * 2 ^ k ≠ 0 := Int.mul_ne_zero hz (by omega)
    have hna : (z * 2 ^ k).natAbs = z.natAbs * 2 ^ k := by
      rw [Int.natAbs_mul, Int.natAbs_pow]; rfl
    have hs : (if z * 2 ^ k < 0 then (1 : Int) else 0) = if z < 0 then 1 else 0 := by
      by_cases h : z < 0
      · rw [if_pos h, if_pos (Int.mul_neg_of_neg_of_pos h hk)]
      · have : 0 ≤ z * 2 ^ k := Int.mul_nonneg (by omega) (by omega)
        rw [if_neg h, if_neg (by omega)]
    by_cases hp : p = 0
    · subst hp
      rw [RZ_exact hz2, RZ_exact hz, hs, hna, strip_scale _ (by omega)]
    · unfold RZ
      rw [hs, hna, if_neg hp, if_neg hp, RQ_scale]
def addT (ss sm se ts tm te p : Int) (r : Str) : Quad := RZ (sgI ss sm * 2 ^ (se - min se te).toNat + sgI ts tm * 2 ^ (te - min se te).toNat) (min se te) p r
theorem addT_comm {ss sm se ts tm te p : Int} {r : Str} : addT ss sm se ts tm te p r = addT ts tm te ss sm se p r := by
  unfold addT
  rw [Int.min_comm te se, Int.add_comm]
theorem sgI_mul {s m k : Int} : sgI s m * k = sgI s (m * k) := by
  unfold sgI; split
  · rw [Int.neg_mul]
  · rfl
theorem addT_ge {ss sm se ts tm te p : Int} {r : Str} (h : te ≤ se) : addT ss sm se ts tm te p r = RZ (sgI ss (shl sm (se - te)) + sgI ts tm) te p r := by
  unfold addT
  rw [show min se te = te by omega, show te - te = 0 by omega, sgI_mul]
  unfold shl
  simp
theorem addT_le {ss sm se ts tm te p : Int} {r : Str} (h : se ≤ te) : addT ss sm se ts tm te p r = RZ (sgI ss sm + sgI ts (shl tm (-(se - te)))) se p r := by
  rw [addT_comm, addT_ge h, Int.add_comm, show -(se - te) = te - se by omega]
theorem addT_eq {ss sm se ts tm te p : Int} {r : Str} (h : se = te) : addT ss sm se ts tm te p r = RZ (sgI ss sm + sgI ts tm) te p r := by
  rw [addT_ge (by omega), h]
  unfold shl
  simp
theorem addT_zl {ss se ts tm te p : Int} {r : Str} (h : te ≤ se) : addT ss 0 se ts tm te p r = RZ (sgI ts tm) te p r := by
  rw [addT_ge h]
  unfold shl sgI
  simp
theorem two_le {a b : Nat} (h : a ≤ b) : 2 ^ a ≤ 2 ^ b := Nat.pow_le_pow_right (by decide) h
theorem addT_stick {ss sm se ts tm te p : Int} {r : Str} (hp : 0 < p) (hsm : 0 < sm) (htm : 0 < tm) (hb : bl sm ≤ p) (hgt : te < se) (hd : p + 4 < bl sm + se - bl tm - te)
    (hs : ss = 0 ∨ ss = 1) (ht : ts = 0 ∨ ts = 1) :
    (ts = ss → RQ ss (shl sm (p + 4) + 1).natAbs (se - (p + 4)) p.toNat r = addT ss sm se ts tm te p r) ∧
    (ts ≠ ss → RQ ss (shl sm (p + 4) - 1).natAbs (se - (p + 4)) p.toNat r = addT ss sm se ts tm te p r) := by
  obtain ⟨M, rfl⟩ : ∃ M : Nat, sm = M := ⟨sm.toNat, by omega⟩
  obtain ⟨T, rfl⟩ : ∃ T : Nat, tm = T := ⟨tm.toNat, by omega⟩
  obtain ⟨P, rfl⟩ : ∃ P : Nat, p = P := ⟨p.toNat, by omega⟩
  obtain ⟨k, hk⟩ : ∃ k : Nat, se - te = k := ⟨(se - te).toNat, by omega⟩
  rw [bl_nat, bl_nat] at hd
  rw [bl_nat] at hb
  have hM : 0 < M := by omega
  have hT : 0 < T := by omega
  have hl := lenN_pos hM
  have hl2 := lenN_le hM
  have hP : lenN M ≤ P := by omega
  have hdT : T * 2 ^ (P + 5) ≤ 2 ^ (k + lenN M) := by
    refine Nat.le_trans (Nat.mul_le_mul_right _ (Nat.le_of_lt (lenN_lt T))) ?_
    rw [← Nat.pow_add]
    exact two_le (by omega)
  have hd1 : 1 * 2 ^ (P + 5) ≤ 2 ^ (P + 4 + lenN M) := by
    rw [Nat.one_mul]; exact two_le (by omega)
  have hTk : T < M * 2 ^ k := by
    have h1 : T < 2 ^ (lenN M - 1 + k) := Nat.lt_of_lt_of_le (lenN_lt T) (two_le (by omega))
    rw [Nat.pow_add] at h1
    exact Nat.lt_of_lt_of_le h1 (Nat.mul_le_mul_right _ hl2)
  have e1 : shl (M : Int) ((P : Int) + 4) = ((M * 2 ^ (P + 4) : Nat) : Int) := by
    have := shl_nat M (P + 4)
    rw [← this]; push_cast; rfl
  have hpos : 0 < M * 2 ^ (P + 4) := Nat.mul_pos hM (Nat.two_pow_pos _)
  have e2 : (shl (M : Int) ((P : Int) + 4) + 1).natAbs = M * 2 ^ (P + 4) + 1 := by rw [e1]; omega
  have e3 : (shl (M : Int) ((P : Int) + 4) - 1).natAbs = M * 2 ^ (P + 4) - 1 := by rw [e1]; omega
  have e4 : se - ((P : Int) + 4) = se - ((P + 4 : Nat) : Int) := by push_cast; rfl
  have e5 : te = se - (k : Int) := by omega
  have hP0 : (P : Int) ≠ 0 := by omega
  have e6 : addT ss M se ts T te P r = RQ ss (if ts = ss then M * 2 ^ k + T else M * 2 ^ k - T) (se - k) P r := by
    rw [addT_ge (by omega), hk, shl_nat]
    unfold RZ
    rw [if_neg hP0, Int.toNat_natCast, ← e5]
    unfold sgI
    rcases hs with rfl | rfl <;> rcases ht with rfl | rfl
    · simp only [show ¬ ((0 : Int) = 1) by decide, if_false, if_true]
      rw [if_neg (by omega)]
      congr 1
    · simp only [show ¬ ((0 : Int) = 1) by decide, show ¬ ((1 : Int) = 0) by decide, if_false, if_true]
      rw [if_neg (by omega)]
      congr 1
      omega
    · simp only [show ¬ ((0 : Int) = 1) by decide, if_false, if_true]
      rw [if_pos (by omega)]
      congr 1
      omega
    · simp only [if_true]
      rw [if_pos (by omega)]
      congr 1
      omega
  rw [e6, e2, e3, e4, Int.toNat_natCast]
  constructor
  · intro h
    rw [if_pos h, stick_plus hM hP hT hdT, stick_plus hM hP (by omega) hd1]
  · intro h
    rw [if_neg h, stick_minus hM hP hT hdT, stick_minus hM hP (by omega) hd1]
@[irreducible] def bigE : Nat := 80000
@[irreducible] def bigS : Int := 2 ^ bigE
@[irreducible] def bigM : Int := 4 * 2 ^ bigE
theorem bigSM : 4 * bigS = bigM := by unfold bigS bigM; rfl
theorem bigE_eq : bigE = 80000 := by unfold bigE; rfl
theorem bigS_nat : bigS = ((2 ^ bigE : Nat) : Int) := by unfold bigS; push_cast; rfl
theorem bigS_big : 1000 ≤ bigS := by
  rw [bigS_nat]
  have : 2 ^ 10 ≤ 2 ^ bigE := Nat.pow_le_pow_right (by decide) (by rw [bigE_eq]; decide)
  omega
theorem bl_of_big {m : Int} (h0 : 0 ≤ m) (h : m < bigM) : bl m ≤ 100000 := by
  rw [bl_eq]
  have h1 : lenN m.natAbs ≤ bigE + 2 := by
    rw [lenN_le_iff, Nat.pow_add]
    rw [← bigSM, bigS_nat] at h
    omega
  rw [bigE_eq] at h1
  omega
theorem bl_nn (x : Int) : 0 ≤ bl x := by rw [bl_eq]; omega
theorem bl_pos (x : Int) : x = 0 ∨ 1 ≤ bl x := by
  rw [bl_eq]
  by_cases h : x = 0
  · exact .inl h
  · have := lenN_pos (m := x.natAbs) (by omega)
    exact .inr (by omega)
theorem shl_facts {a n : Int} (h0 : 0 ≤ a) (hb : bl a ≤ 200) (hn : n ≤ 70000) : 0 ≤ shl a n ∧ shl a n < bigS ∧ (a = 0 ∨ 1 ≤ shl a n) := by
  obtain ⟨m, rfl⟩ : ∃ m : Nat, a = m := ⟨a.toNat, by omega⟩
  have e : shl (m : Int) n = ((m * 2 ^ n.toNat : Nat) : Int) := by unfold shl; push_cast; rfl
  rw [e, bigS_nat]
  rw [bl_nat] at hb
  have h1 : m * 2 ^ n.toNat < 2 ^ bigE := by
    refine Nat.lt_of_lt_of_le (Nat.mul_lt_mul_of_pos_right (lenN_lt m) (Nat.two_pow_pos _)) ?_
    rw [← Nat.pow_add]
    exact two_le (by rw [bigE_eq]; omega)
  refine ⟨by omega, by omega, ?_⟩
  by_cases hm : m = 0
  · exact .inl (by omega)
  · refine .inr ?_
    have := Nat.mul_pos (show 0 < m by omega) (Nat.two_pow_pos n.toNat)
    omega
theorem small_big {a : Int} (h0 : 0 ≤ a) (hb : bl a ≤ 200) : a < bigS := by
  have := shl_facts (n := 0) h0 hb (by decide)
  unfold shl at this
  simp at this
  exact this.2.1
theorem sgI_cases {s m : Int} (hs : s = 0 ∨ s = 1) : (s = 0 ∧ sgI s m = m) ∨ (s = 1 ∧ sgI s m = -m) := by
  rcases hs with rfl | rfl <;> simp [sgI]
theorem sgI_0 {s : Int} : sgI s 0 = 0 := by unfold sgI; split <;> rfl
theorem bXor_0 (x : Int) : bXor x 0 = x := by unfold bXor; exact bitXor_zero x
theorem bXor_1 {x : Int} (h : x = 0 ∨ x = 1) : bXor x 1 = 1 - x := by
  unfold bXor
  rcases h with rfl | rfl <;> decide
theorem addT_z0 {ss se ts tm te p : Int} {r : Str} : addT ss 0 se ts tm te p r = RZ (sgI ts tm) te p r := by
  unfold addT
  rw [sgI_0, Int.zero_mul, Int.zero_add, RZ_scale]
  congr 1
  omega
theorem addT_0z {ss sm se ts te p : Int} {r : Str} : addT ss sm se ts 0 te p r = RZ (sgI ss sm) se p r := by
  rw [addT_comm, addT_z0]
section
variable {ss sm se ts tm te p : Int} {r : Str} (hss : ss = 0 ∨ ss = 1) (hts : ts = 0 ∨ ts = 1)
include hss hts
/-- ends of mpf_add: where the first lies higher -/
theorem fin_ge {sg man P : Int} (h : te ≤ se) (hm : 0 ≤ man) (hP : (p ≠ 0 ∧ P = p) ∨ (p = 0 ∧ P = bl man))
    (hz : ∀ A B : Int, ((ss = 0 ∧ A = shl sm (se - te)) ∨ (ss = 1 ∧ A = -shl sm (se - te))) → ((ts = 0 ∧ B = tm) ∨ (ts = 1 ∧ B = -tm)) →
      (A + B = man ∧ sg = 0) ∨ (A + B = -man ∧ sg = 1) ∨ (A + B = 0 ∧ man = 0)) : RQ sg man.natAbs te P.toNat r = addT ss sm se ts tm te p r := by
  rw [addT_ge h]
  exact RZ_of hm (hz _ _ (sgI_cases hss) (sgI_cases hts)) hP
theorem fin_le {sg man P : Int} (h : se ≤ te) (hm : 0 ≤ man) (hP : (p ≠ 0 ∧ P = p) ∨ (p = 0 ∧ P = bl man))
    (hz : ∀ A B : Int, ((ss = 0 ∧ A = sm) ∨ (ss = 1 ∧ A = -sm)) → ((ts = 0 ∧ B = shl tm (-(se - te))) ∨ (ts = 1 ∧ B = -shl tm (-(se - te)))) →
      (A + B = man ∧ sg = 0) ∨ (A + B = -man ∧ sg = 1) ∨ (A + B = 0 ∧ man = 0)) : RQ sg man.natAbs se P.toNat r = addT ss sm se ts tm te p r := by
  rw [addT_le h]
  exact RZ_of hm (hz _ _ (sgI_cases hss) (sgI_cases hts)) hP
theorem fin_eq {sg man P : Int} (h : se - te = 0) (hm : 0 ≤ man) (hP : (p ≠ 0 ∧ P = p) ∨ (p = 0 ∧ P = bl man))
    (hz : ∀ A B : Int, ((ss = 0 ∧ A = sm) ∨ (ss = 1 ∧ A = -sm)) → ((ts = 0 ∧ B = tm) ∨ (ts = 1 ∧ B = -tm)) →
      (A + B = man ∧ sg = 0) ∨ (A + B = -man ∧ sg = 1) ∨ (A + B = 0 ∧ man = 0)) : RQ sg man.natAbs te P.toNat r = addT ss sm se ts tm te p r := by
  rw [addT_eq (by omega)]
  exact RZ_of hm (hz _ _ (sgI_cases hss) (sgI_cases hts)) hP
theorem fin_st1 {x : Int} (hp : 0 < p) (hsm : 0 < sm) (htm : 0 < tm) (hb : bl sm ≤ p) (hgt : te < se) (hd : p + 4 < bl sm + se - bl tm - te)
    (hx : (ts = ss ∧ x = shl sm (p + 4) + 1) ∨ (ts ≠ ss ∧ x = shl sm (p + 4) - 1)) : RQ ss x.natAbs (se - (p + 4)) p.toNat r = addT ss sm se ts tm te p r := by
  obtain ⟨h1, h2⟩ := addT_stick (r := r) hp hsm htm hb hgt hd hss hts
  rcases hx with ⟨a, rfl⟩ | ⟨a, rfl⟩
  · exact h1 a
  · exact h2 a
theorem fin_st2 {x : Int} (hp : 0 < p) (hsm : 0 < sm) (htm : 0 < tm) (hb : bl tm ≤ p) (hgt : se < te) (hd : p + 4 < bl tm + te - bl sm - se)
    (hx : (ss = ts ∧ x = shl tm (p + 4) + 1) ∨ (ss ≠ ts ∧ x = shl tm (p + 4) - 1)) : RQ ts x.natAbs (te - (p + 4)) p.toNat r = addT ss sm se ts tm te p r := by
  rw [addT_comm]
  exact fin_st1 hts hss hp htm hsm hb hgt hd hx
theorem fin_z0 {P : Int} (hm : 0 ≤ tm) (h0 : sm = 0) (hP : (p ≠ 0 ∧ P = p) ∨ (p = 0 ∧ P = bl tm)) : RQ ts tm.natAbs te P.toNat r = addT ss sm se ts tm te p r := by
  rw [h0, addT_z0]
  have := sgI_cases (m := tm) hts
  exact RZ_of hm (by omega) hP
theorem fin_0z {P : Int} (hm : 0 ≤ sm) (h0 : tm = 0) (hP : (p ≠ 0 ∧ P = p) ∨ (p = 0 ∧ P = bl sm)) : RQ ss sm.natAbs se P.toNat r = addT ss sm se ts tm te p r := by
  rw [addT_comm]
  exact fin_z0 hts hss hm h0 hP
theorem fin_00 (h0 : sm = 0) (h1 : tm = 0) : zeroQ = addT ss sm se ts tm te p r := by
  rw [h0, h1, addT_z0, sgI_0, RZ_zero]
end
section
variable {sg m ex : Int} (hm : 0 < m)
include hm
theorem fm_a (h : bAnd m 1 ≠ 0) : (⟨sg, m, ex, bl m⟩ : Quad) = stripN sg m.natAbs ex := by
  obtain ⟨n, rfl⟩ : ∃ n : Nat, m = n := ⟨m.toNat, by omega⟩
  rw [bAnd_one_nat] at h
  rw [Int.natAbs_natCast, strip_odd (by omega), bl_nat]
theorem fm_c (h : bAnd m 1 = 0) : (⟨sg, shr m (trailingF m), ex + trailingF m, bl m - trailingF m⟩ : Quad) = stripN sg m.natAbs ex := by
  obtain ⟨n, rfl⟩ : ∃ n : Nat, m = n := ⟨m.toNat, by omega⟩
  obtain ⟨o, t, ho, rfl⟩ := odd_part n (by omega)
  rw [Int.natAbs_natCast, strip_odd_mul ho, trailing_nat ho, shr_nat, Nat.mul_div_cancel _ (Nat.two_pow_pos t), bl_nat, lenN_mul_pow t (by omega)]
  congr 1
  push_cast
  omega
theorem fm_b (h : bAnd m 1 = 0) (h2 : bAnd m 2 ≠ 0) : (⟨sg, shr m 1, ex + 1, bl m - 1⟩ : Quad) = stripN sg m.natAbs ex := by
  have : trailingF m = 1 := by
    obtain ⟨n, rfl⟩ : ∃ n : Nat, m = n := ⟨m.toNat, by omega⟩
    rw [bAnd_one_nat] at h
    rw [bAnd_two] at h2
    have h3 : n / 2 % 2 = 1 := by omega
    have := trailing_nat (o := n / 2) (t := 1) h3
    rw [show n / 2 * 2 ^ 1 = n by omega] at this
    simpa using this
  have h4 := fm_c (sg := sg) (ex := ex) hm h
  rw [this] at h4
  exact h4
end
theorem bl_neg (x : Int) : bl (-x) = bl x := by rw [bl_eq, bl_eq, Int.natAbs_neg]
theorem bl_le_of {x : Int} {k : Nat} (h : x.natAbs < 2 ^ k) : bl x ≤ k := by
  rw [bl_eq]; have := lenN_le_iff.mpr h; omega
theorem natAbs_lt {x : Int} {k : Nat} (h : bl x ≤ k) : x.natAbs < 2 ^ k := by
  rw [bl_eq] at h; exact lenN_le_iff.mp (by omega)
theorem bl_add_le {x y : Int} {k : Nat} (hx : bl x ≤ k) (hy : bl y ≤ k) : bl (x + y) ≤ (k + 1 : Nat) := by
  have h1 := natAbs_lt hx
  have h2 := natAbs_lt hy
  refine bl_le_of ?_
  rw [Nat.pow_succ]
  omega
theorem bl_shl_le {x n : Int} {k j : Nat} (hx : bl x ≤ k) (hn : n ≤ j) : bl (shl x n) ≤ (k + j : Nat) := by
  refine bl_le_of ?_
  unfold shl
  rw [Int.natAbs_mul, Int.natAbs_pow, Nat.pow_add]
  have h1 := natAbs_lt hx
  have h2 : (2 : Int).natAbs ^ n.toNat ≤ 2 ^ j := two_le (by omega)
  exact Nat.lt_of_lt_of_le (Nat.mul_lt_mul_of_pos_right h1 (Nat.two_pow_pos _)) (Nat.mul_le_mul_left _ h2)
theorem shl_add (a b n : Int) : shl (a + b) n = shl a n + shl b n := by unfold shl; exact Int.add_mul ..
theorem shl_neg (a n : Int) : shl (-a) n = -shl a n := by unfold shl; exact Int.neg_mul ..
theorem shl_zero (n : Int) : shl 0 n = 0 := by unfold shl; exact Int.zero_mul _
theorem shl_shl {a n k : Int} (h : 0 ≤ n) (h2 : 0 ≤ k) : shl (shl a n) k = shl a (n + k) := by
  unfold shl
  rw [Int.toNat_add h h2, Int.pow_add, Int.mul_assoc]
theorem RZ_fm {sg m z ex : Int} {r : Str} {q : Quad} (h : (z < 0 ∧ sg = 1 ∧ m = -z) ∨ (¬ z < 0 ∧ sg = 0 ∧ m = z)) (hm : m ≠ 0) (e : q = stripN sg m.natAbs ex) : q = RZ z ex 0 r := by
  rw [e, RZ_exact (by omega)]
  congr 1
  · split <;> omega
  · omega
theorem shl_self (a : Int) : shl a 0 = a := by unfold shl; simp
theorem RZ_r {z e : Int} {r r' : Str} : RZ z e 0 r = RZ z e 0 r' := by
  by_cases h : z = 0
  · rw [h, RZ_zero, RZ_zero]
  · rw [RZ_exact h, RZ_exact h]
/-- 2 S + T, exact -/
def sumT (ss sm se ts tm te : Int) (r : Str) : Quad := RZ (2 * (sgI ss sm * 2 ^ (se - min se te).toNat) + sgI ts tm * 2 ^ (te - min se te).toNat) (min se te) 0 r
theorem fin_sum {ss sm se ts tm te E man : Int} {r r' : Str} (h1 : E ≤ se) (h2 : E ≤ te)
    (hm : man = shl (sgI ss sm) (se - E) + shl (sgI ts tm) (te - E) + shl (sgI ss sm) (se - E)) : RZ man E 0 r = sumT ss sm se ts tm te r' := by
  unfold sumT
  rw [RZ_r (r := r) (r' := r')]
  obtain ⟨k, hk⟩ : ∃ k : Nat, min se te - E = k := ⟨(min se te - E).toNat, by omega⟩
  rw [show min se te = E + k by omega, ← RZ_scale]
  congr 1
  rw [hm]
  unfold shl
  obtain ⟨a, ha⟩ : ∃ a : Nat, se - (E + k) = a := ⟨(se - (E + k)).toNat, by omega⟩
  obtain ⟨b, hb⟩ : ∃ b : Nat, te - (E + k) = b := ⟨(te - (E + k)).toNat, by omega⟩
  rw [ha, hb, show se - E = ((a + k : Nat) : Int) by omega, show te - E = ((b + k : Nat) : Int) by omega]
  simp only [Int.toNat_natCast, Int.pow_add]
  grind
/-- the rounding up, over ints -/
def upI (r : Str) (sg w rest low : Int) : Prop :=
  0 < rest ∧ (r = Str.ofString "u" ∨ (r = Str.ofString "c" ∧ sg = 0) ∨ (r = Str.ofString "f" ∧ sg = 1) ∨ (r = Str.ofString "n" ∧ (low < 2 * rest ∨ (2 * rest = low ∧ w.fmod 2 = 1))))
theorem upI_nat {r : Str} {sg : Int} {q rest low : Nat} : upI r sg (q : Int) (rest : Int) (low : Int) ↔ upB r sg q rest low = true := by
  unfold upI upB
  rw [Int.fmod_eq_emod_of_nonneg _ (by decide)]
  simp only [Bool.and_eq_true, Bool.or_eq_true, decide_eq_true_eq]
  have h1 : ((0 : Int) < (rest : Int)) ↔ 0 < rest := by omega
  have h2 : ((low : Int) < 2 * (rest : Int)) ↔ low < 2 * rest := by omega
  have h3 : (2 * (rest : Int) = (low : Int)) ↔ 2 * rest = low := by omega
  have h4 : ((q : Int) % 2 = 1) ↔ q % 2 = 1 := by omega
  rw [h1, h2, h3, h4]
  simp only [or_assoc]
structure RndAt (m j p e num low : Int) : Prop where
  he : e = bl m - j - p
  hm : 0 < m
  hp : 1 ≤ p
  sc : ∃ (M n l a b : Nat), m = M ∧ num = n ∧ low = l ∧ 0 < l ∧ 0 < a ∧ 0 < b ∧ n * a = M * 2 ^ p.toNat * b ∧ l * a = 2 ^ lenN M * b
theorem rnd_gen {m j p e num low sg : Int} {r : Str} (h : RndAt m j p e num low) :
    ∃ (q rest l : Nat), num.fdiv low = q ∧ num.fmod low = rest ∧ low = l ∧ 2 ^ (p.toNat - 1) ≤ q ∧ q < 2 ^ p.toNat ∧ RQ sg m.natAbs (-j) p.toNat r = stripN sg (q + if upB r sg q rest l then 1 else 0) e := by
  obtain ⟨he, hm, hp, M, n, l, a, b, rfl, rfl, rfl, hl, ha, hb, h1, h2⟩ := h
  refine ⟨n / l, n % l, l, ?_, ?_, rfl, ?_⟩
  · rw [Int.fdiv_eq_ediv_of_nonneg _ (by omega)]; rfl
  · rw [Int.fmod_eq_emod_of_nonneg _ (by omega)]; rfl
  have hM : 0 < M := by omega
  obtain ⟨P, rfl⟩ : ∃ P : Nat, p = P := ⟨p.toNat, by omega⟩
  have hP : 0 < P := by omega
  rw [Int.toNat_natCast] at *
  have e1 : n / l = M * 2 ^ P / 2 ^ lenN M := by
    rw [← Nat.mul_div_mul_right n l ha, h1, h2, Nat.mul_div_mul_right _ _ hb]
  have e2 : n % l * a = M * 2 ^ P % 2 ^ lenN M * b := by
    rw [← Nat.mul_mod_mul_right, h1, h2, Nat.mul_mod_mul_right]
  have e3 : upB r sg (n / l) (n % l) l = upB r sg (M * 2 ^ P / 2 ^ lenN M) (M * 2 ^ P % 2 ^ lenN M) (2 ^ lenN M) := by
    rw [← upB_scale ha, e2, h2, upB_scale hb, e1]
  have hl2 := lenN_le hM
  have hlp := lenN_pos hM
  have hlt := lenN_lt M
  have b1 : 2 ^ (P - 1) ≤ n / l := by
    rw [e1, Nat.le_div_iff_mul_le (Nat.two_pow_pos _), ← Nat.pow_add, show P - 1 + lenN M = lenN M - 1 + P by omega, Nat.pow_add]
    exact Nat.mul_le_mul_right _ hl2
  have b2 : n / l < 2 ^ P := by
    rw [e1, Nat.div_lt_iff_lt_mul (Nat.two_pow_pos _), Nat.mul_comm (2 ^ P)]
    exact Nat.mul_lt_mul_of_pos_right hlt (Nat.two_pow_pos _)
  refine ⟨b1, b2, ?_⟩
  unfold RQ
  rw [Int.natAbs_natCast, if_neg (by omega), ← e3, ← e1]
  congr 1
  rw [he, bl_nat]
  omega
theorem rnd_up {m j p e num low sg : Int} {r : Str} (h : RndAt m j p e num low) (hu : upI r sg (num.fdiv low) (num.fmod low) low) :
    RQ sg m.natAbs (-j) p.toNat r = stripN sg (num.fdiv low + 1).natAbs e := by
  obtain ⟨q, rest, l, h1, h2, h3, -, -, h4⟩ := rnd_gen (sg := sg) (r := r) h
  rw [h1, h2, h3, upI_nat] at hu
  rw [h4, if_pos hu, h1]
  rfl
theorem rnd_no {m j p e num low sg : Int} {r : Str} (h : RndAt m j p e num low) (hu : ¬ upI r sg (num.fdiv low) (num.fmod low) low) :
    RQ sg m.natAbs (-j) p.toNat r = stripN sg (num.fdiv low).natAbs e := by
  obtain ⟨q, rest, l, h1, h2, h3, -, -, h4⟩ := rnd_gen (sg := sg) (r := r) h
  rw [h1, h2, h3, upI_nat] at hu
  rw [h4, if_neg hu, h1]
  rfl
theorem pw_nat (n : Nat) : pw (n : Int) = ((2 ^ n : Nat) : Int) := by
  unfold pw; push_cast; rfl
theorem rnd_lt {m j p e num low : Int} (h : RndAt m j p e num low) : 0 < num.fdiv low ∧ num.fdiv low < pw p := by
  obtain ⟨q, rest, l, h1, h2, h3, h5, h6, h4⟩ := rnd_gen (sg := 0) (r := Str.ofString "n") h
  obtain ⟨P, rfl⟩ : ∃ P : Nat, p = P := ⟨p.toNat, by have := h.hp; omega⟩
  rw [h1, pw_nat]
  rw [Int.toNat_natCast] at h5 h6
  have := Nat.two_pow_pos (P - 1)
  omega
theorem rnd_ge {m j p e num low : Int} (hp : 0 ≤ p) (h : RndAt m j (p + 1) e num low) : pw p ≤ num.fdiv low := by
  obtain ⟨q, rest, l, h1, h2, h3, h5, h6, h4⟩ := rnd_gen (sg := 0) (r := Str.ofString "n") h
  obtain ⟨P, rfl⟩ : ∃ P : Nat, p = P := ⟨p.toNat, by omega⟩
  rw [h1, pw_nat]
  rw [show ((P : Int) + 1).toNat - 1 = P by omega] at h5
  omega
section
variable {m j p e : Int} (hm : 0 < m) (hj : 0 ≤ j) (hp : 1 ≤ p) (he : e = bl m - j - p)
include hm hj hp he
theorem rnd_1 (h : 0 < e) : RndAt m j p e m (pw j * pw e) := by
  obtain ⟨M, rfl⟩ : ∃ M : Nat, m = M := ⟨m.toNat, by omega⟩
  obtain ⟨J, rfl⟩ : ∃ J : Nat, j = J := ⟨j.toNat, by omega⟩
  obtain ⟨P, rfl⟩ : ∃ P : Nat, p = P := ⟨p.toNat, by omega⟩
  obtain ⟨X, rfl⟩ : ∃ X : Nat, e = X := ⟨e.toNat, by omega⟩
  refine ⟨he, hm, hp, M, M, 2 ^ (J + X), 2 ^ P, 1, rfl, rfl, ?_, Nat.two_pow_pos _, Nat.two_pow_pos _, by decide, ?_, ?_⟩
  · rw [pw_nat, pw_nat, Nat.pow_add]; push_cast; rfl
  · simp
  · rw [bl_nat] at he
    rw [Nat.mul_one, ← Nat.pow_add]
    congr 1
    omega
theorem rnd_2 (h : e = 0) : RndAt m j p e m (pw j) := by
  obtain ⟨M, rfl⟩ : ∃ M : Nat, m = M := ⟨m.toNat, by omega⟩
  obtain ⟨J, rfl⟩ : ∃ J : Nat, j = J := ⟨j.toNat, by omega⟩
  obtain ⟨P, rfl⟩ : ∃ P : Nat, p = P := ⟨p.toNat, by omega⟩
  refine ⟨he, hm, hp, M, M, 2 ^ J, 2 ^ P, 1, rfl, rfl, ?_, Nat.two_pow_pos _, Nat.two_pow_pos _, by decide, ?_, ?_⟩
  · rw [pw_nat]
  · simp
  · rw [bl_nat] at he
    rw [Nat.mul_one, ← Nat.pow_add]
    congr 1
    omega
theorem rnd_3 (h : e < 0) : RndAt m j p e (m * pw (-e)) (pw j) := by
  obtain ⟨M, rfl⟩ : ∃ M : Nat, m = M := ⟨m.toNat, by omega⟩
  obtain ⟨J, rfl⟩ : ∃ J : Nat, j = J := ⟨j.toNat, by omega⟩
  obtain ⟨P, rfl⟩ : ∃ P : Nat, p = P := ⟨p.toNat, by omega⟩
  obtain ⟨X, hX⟩ : ∃ X : Nat, -e = X := ⟨(-e).toNat, by omega⟩
  rw [hX]
  rw [bl_nat] at he
  refine ⟨by rw [bl_nat]; exact he, hm, hp, M, M * 2 ^ X, 2 ^ J, 2 ^ lenN M, 2 ^ J, rfl, ?_, ?_, Nat.two_pow_pos _, Nat.two_pow_pos _, Nat.two_pow_pos _, ?_, ?_⟩
  · rw [pw_nat]; push_cast; rfl
  · rw [pw_nat]
  · rw [Int.toNat_natCast, Nat.mul_assoc, Nat.mul_assoc, ← Nat.pow_add, ← Nat.pow_add]
    congr 2
    omega
  · rw [Nat.mul_comm]
end
theorem pw_pos (n : Int) : 0 < pw n := by unfold pw; exact Int.pow_pos (by decide)
theorem pw_bl {n : Int} (h : 0 ≤ n) : bl (pw n) = n + 1 := by
  obtain ⟨N, rfl⟩ : ∃ N : Nat, n = N := ⟨n.toNat, by omega⟩
  rw [pw_nat, bl_nat, lenN_pow]
  push_cast; rfl
theorem mul_ok {a b : Int} (ha : bl a ≤ 1000000) (hb : bl b ≤ 1000000) : IntMulOk a b := by
  unfold bl at ha hb
  exact PySem.IntMulOk.of_le (m := 1000000) (n := 1000000) (by omega) (by omega) (by decide)
theorem np_of {x y : Int} (h : bl y ≤ 9000) : Builtin.divisionGoesByPylong x y = false := by
  by_cases h0 : y.natAbs = 0
  · exact PyProof.noPylong_of_log2 (by rw [h0]; decide +kernel)
  · refine PyProof.noPylong_of_log2 ?_
    rw [bl_eq] at h
    unfold lenN at h
    rw [if_neg h0] at h
    omega
theorem bl_mul_le {x y : Int} {j k : Nat} (hx : bl x ≤ j) (hy : bl y ≤ k) : bl (x * y) ≤ (j + k : Nat) := by
  have h1 := natAbs_lt hx
  have h2 := natAbs_lt hy
  refine bl_le_of ?_
  rw [Int.natAbs_mul, Nat.pow_add]
  exact Nat.mul_lt_mul'' h1 h2
theorem strip_half {sg e w : Int} (h0 : 0 < w) (h : w.fmod 2 = 0) : 0 < w.fdiv 2 ∧ w.fdiv 2 < w ∧ stripN sg (w.fdiv 2).natAbs (e + 1) = stripN sg w.natAbs e := by
  rw [Int.fmod_eq_emod_of_nonneg _ (by decide)] at h
  rw [Int.fdiv_eq_ediv_of_nonneg _ (by decide)]
  refine ⟨by omega, by omega, ?_⟩
  have := strip_scale (sg := sg) (e := e) (m := (w / 2).natAbs) 1 (by omega)
  rw [show (w / 2).natAbs * 2 ^ 1 = w.natAbs by omega] at this
  rw [this]
  rfl
theorem strip_end {sg e w : Int} (h0 : 0 < w) (h : w.fmod 2 ≠ 0) : (⟨sg, w, e, bl w⟩ : Quad) = stripN sg w.natAbs e := by
  rw [Int.fmod_eq_emod_of_nonneg _ (by decide)] at h
  obtain ⟨W, rfl⟩ : ∃ W : Nat, w = W := ⟨w.toNat, by omega⟩
  rw [Int.natAbs_natCast, strip_odd (by omega), bl_nat]
/-- what the conditional expressions of the rounding give -/
@[irreducible] def lowF (b e : Int) : Int := if 0 < e then b * pw e else b
@[irreducible] def numF (m e : Int) : Int := if e < 0 then m * pw (-e) else m
@[irreducible] def sgF (z : Int) : Int := if z < 0 then 1 else 0
@[irreducible] def absF (z : Int) : Int := if z < 0 then -z else z
theorem lowF_pos {b e : Int} (h : 0 < e) : b * pw e = lowF b e := by unfold lowF; rw [if_pos h]
theorem lowF_neg {b e : Int} (h : ¬ 0 < e) : b = lowF b e := by unfold lowF; rw [if_neg h]
theorem numF_pos {m e : Int} (h : e < 0) : m * pw (-e) = numF m e := by unfold numF; rw [if_pos h]
theorem numF_neg {m e : Int} (h : ¬ e < 0) : m = numF m e := by unfold numF; rw [if_neg h]
theorem sgF_pos {z : Int} (h : z < 0) : 1 = sgF z := by unfold sgF; rw [if_pos h]
theorem sgF_neg {z : Int} (h : ¬ z < 0) : 0 = sgF z := by unfold sgF; rw [if_neg h]
theorem absF_pos {z : Int} (h : z < 0) : -z = absF z := by unfold absF; rw [if_pos h]
theorem absF_neg {z : Int} (h : ¬ z < 0) : z = absF z := by unfold absF; rw [if_neg h]
theorem absF_bl (z : Int) : bl (absF z) = bl z := by
  by_cases h : z < 0
  · rw [← absF_pos h, bl_neg]
  · rw [← absF_neg h]
theorem absF_gt {z : Int} (h : z ≠ 0) : 0 < absF z := by
  unfold absF; split <;> omega
theorem sgF_01 (z : Int) : sgF z = 0 ∨ sgF z = 1 := by
  unfold sgF; split <;> simp
theorem rnd_all {m j p e b : Int} (hm : 0 < m) (hj : 0 ≤ j) (hp : 1 ≤ p) (hb : b = pw j) (he : e = bl m - j - p) : RndAt m j p e (numF m e) (lowF b e) := by
  subst hb
  rcases Int.lt_trichotomy e 0 with h | h | h
  · rw [← numF_pos h, ← lowF_neg (by omega)]; exact rnd_3 hm hj hp he h
  · rw [← numF_neg (by omega), ← lowF_neg (by omega)]; exact rnd_2 hm hj hp he h
  · rw [← numF_neg (by omega), ← lowF_pos h]; exact rnd_1 hm hj hp he h
/-- what the rounding loop's two turns need -/
structure Turns (m b j p : Int) : Prop where
  d : ∀ e, e = bl m - bl b - p - 1 + 1 → RndAt m j (p + 1) e (numF m e) (lowF b e)
  g : ∀ e, e = bl m - bl b - p - 1 + 1 + 1 → RndAt m j p e (numF m e) (lowF b e)
theorem turns_of {m b j p : Int} (hm : 0 < m) (hj : 0 ≤ j) (hp : 1 ≤ p) (hb : b = pw j) : Turns m b j p := by
  have := pw_bl hj
  rw [← hb] at this
  exact ⟨fun e he => rnd_all hm hj (by omega) hb (by omega), fun e he => rnd_all hm hj hp hb (by omega)⟩
section
variable {m b j p : Int} (T : Turns m b j p) (hp : 0 ≤ p)
include T hp
theorem t_d : pw p ≤ (numF m (bl m - bl b - p - 1 + 1)).fdiv (lowF b (bl m - bl b - p - 1 + 1)) := rnd_ge hp (T.d _ rfl)
omit hp
theorem t_g : ¬ pw p ≤ (numF m (bl m - bl b - p - 1 + 1 + 1)).fdiv (lowF b (bl m - bl b - p - 1 + 1 + 1)) := by have := rnd_lt (T.g _ rfl); omega
theorem t_p : 0 < (numF m (bl m - bl b - p - 1 + 1 + 1)).fdiv (lowF b (bl m - bl b - p - 1 + 1 + 1)) := (rnd_lt (T.g _ rfl)).1
end
theorem mul_pw {a n : Int} (ha : bl a ≤ 30000) (h0 : 0 ≤ n) (hn : n ≤ 30000) : IntMulOk a (pw n) := mul_ok (by omega) (by rw [pw_bl h0]; omega)
theorem np_mul {x j n b : Int} (hb : b = pw j) (hj : 0 ≤ j) (h0 : 0 ≤ n) (hn : j + n < 9000) : Builtin.divisionGoesByPylong x (b * pw n) = false := by
  refine np_of ?_
  have h1 : bl b ≤ (j.toNat + 1 : Nat) := by rw [hb, pw_bl hj]; omega
  have h2 : bl (pw n) ≤ (n.toNat + 1 : Nat) := by rw [pw_bl h0]; omega
  by_cases h : n = 0
  · subst h
    rw [show pw 0 = 1 by unfold pw; rfl, Int.mul_one]
    omega
  · obtain ⟨J, rfl⟩ : ∃ J : Nat, j = J := ⟨j.toNat, by omega⟩
    obtain ⟨N, rfl⟩ : ∃ N : Nat, n = N := ⟨n.toNat, by omega⟩
    rw [hb, pw_nat, pw_nat, ← Int.natCast_mul, ← Nat.pow_add, bl_nat, lenN_pow]
    omega
theorem pw_ne {b j : Int} (hb : b = pw j) : b ≠ 0 := by have := pw_pos j; omega
theorem pw_mul_ne {b j n : Int} (hb : b = pw j) : b * pw n ≠ 0 := Int.mul_ne_zero (pw_ne hb) (pw_ne rfl)
/-- the second loop's word -/
structure StripW (w0 e0 w e : Int) : Prop where
  pos : 0 < w
  same : ∀ sg, stripN sg w.natAbs e = stripN sg w0.natAbs e0
theorem st_start {w e : Int} (h : 0 < w) : StripW w e w e := ⟨h, fun _ => rfl⟩
theorem st_start1 {w e : Int} (h : 0 < w) : StripW (w + 1) e (w + 1) e := ⟨by omega, fun _ => rfl⟩
theorem st_turn {w0 e0 w e : Int} (h : StripW w0 e0 w e) (h2 : w.fmod 2 = 0) : StripW w0 e0 (w.fdiv 2) (e + 1) := by
  refine ⟨(strip_half (sg := 0) (e := e) h.pos h2).1, fun sg => ?_⟩
  rw [(strip_half (sg := sg) (e := e) h.pos h2).2.2, h.same]
theorem st_less {w0 e0 w e : Int} (h : StripW w0 e0 w e) (h2 : w.fmod 2 = 0) : (w.fdiv 2).toNat < w.toNat := by
  have := strip_half (sg := 0) (e := e) h.pos h2
  omega
theorem st_end {w0 e0 w e sg : Int} (h : StripW w0 e0 w e) (h2 : w.fmod 2 ≠ 0) : (⟨sg, w, e, bl w⟩ : Quad) = stripN sg w0.natAbs e0 := by
  rw [strip_end h.pos h2, h.same]
section
variable {prog : Program} {w : World} {A : Around} {E : Value → Shared → Prop} {s : Shared} {a b : Int} {t u : Tok} {Q : Value → Shared → Prop}
theorem o_divmod {h₀ : Heap} {L : Addr} {m : Str → Option Value} {news : List (Addr × Obj)} (F : Fr h₀ L s.heap m) (N : News h₀ L s.heap news) (hb : b ≠ 0) (hp : Builtin.divisionGoesByPylong a b = false)
    (h : ∀ h' D t1 t2 tk, Fr h₀ L h' m → News h₀ L h' ((D, { cls := .type "tuple", data := .seq #[.int (a.fdiv b) t1, .int (a.fmod b) t2] }) :: news) → Q (.ref D) { s with toks := tk, heap := h' }) :
    wpAny (model prog w) A (call (.builtin "divmod") [.int a t, .int b u]) Q E s := divmod_N F N hb (fun h' F' N' => h h' _ _ _ _ F' N') (Or.inl hp)
end
section
variable {sg w rest low : Int} {r : Str}
theorem up_u (h : 0 < rest) : upI (Str.ofString "u") sg w rest low := ⟨h, .inl rfl⟩
theorem up_c (h : 0 < rest) (hs : sg = 0) : upI (Str.ofString "c") sg w rest low := ⟨h, .inr (.inl ⟨rfl, hs⟩)⟩
theorem up_f (h : 0 < rest) (hs : sg = 1) : upI (Str.ofString "f") sg w rest low := ⟨h, .inr (.inr (.inl ⟨rfl, hs⟩))⟩
theorem up_n1 (h : 0 < rest) (h2 : low < 2 * rest) : upI (Str.ofString "n") sg w rest low := ⟨h, .inr (.inr (.inr ⟨rfl, .inl h2⟩))⟩
theorem up_n2 (h : 0 < rest) (h2 : 2 * rest = low) (h3 : w.fmod 2 = 1) : upI (Str.ofString "n") sg w rest low := ⟨h, .inr (.inr (.inr ⟨rfl, .inr ⟨h2, h3⟩⟩))⟩
theorem no_0 (h : ¬ 0 < rest) : ¬ upI r sg w rest low := fun x => h x.1
theorem no_d : ¬ upI (Str.ofString "d") sg w rest low := by simp [upI, rnd_ne]
theorem no_c (h : sg ≠ 0) : ¬ upI (Str.ofString "c") sg w rest low := by simp [upI, rnd_ne, h]
theorem no_f (h : sg ≠ 1) : ¬ upI (Str.ofString "f") sg w rest low := by simp [upI, rnd_ne, h]
theorem no_n1 (h : ¬ low < 2 * rest) (h2 : 2 * rest ≠ low) : ¬ upI (Str.ofString "n") sg w rest low := by simp [upI, rnd_ne, h2]; omega
theorem no_n2 (h : ¬ low < 2 * rest) (h2 : w.fmod 2 ≠ 1) : ¬ upI (Str.ofString "n") sg w rest low := by simp [upI, rnd_ne, h2]; omega
end
theorem rz_abs {z e p : Int} {r : Str} (hp : 1 ≤ p) : RZ z e p r = RQ (sgF z) (absF z).natAbs e p.toNat r := by
  unfold RZ
  rw [if_neg (show ¬ p = 0 by omega)]
  by_cases h : z < 0
  · rw [if_pos h, ← sgF_pos h, ← absF_pos h, Int.natAbs_neg]
  · rw [if_neg h, ← sgF_neg h, ← absF_neg h]
theorem rq_up {m j p e num low sg w' e' : Int} {r : Str} (h : RndAt m j p e num low) (S : StripW (num.fdiv low + 1) e w' e') (ho : w'.fmod 2 ≠ 0) (hu : upI r sg (num.fdiv low) (num.fmod low) low) :
    (⟨sg, w', e', bl w'⟩ : Quad) = RQ sg m.natAbs (-j) p.toNat r := by rw [rnd_up h hu, st_end S ho]
theorem rq_no {m j p e num low sg w' e' : Int} {r : Str} (h : RndAt m j p e num low) (S : StripW (num.fdiv low) e w' e') (ho : w'.fmod 2 ≠ 0) (hu : ¬ upI r sg (num.fdiv low) (num.fmod low) low) :
    (⟨sg, w', e', bl w'⟩ : Quad) = RQ sg m.natAbs (-j) p.toNat r := by rw [rnd_no h hu, st_end S ho]
theorem np_low {x b e j : Int} (hb : b = pw j) (hj : 0 ≤ j) (h1 : j < 9000) (h2 : j + e < 9000) : Builtin.divisionGoesByPylong x (lowF b e) = false := by
  by_cases h : 0 < e
  · rw [← lowF_pos h]; exact np_mul hb hj (by omega) h2
  · rw [← lowF_neg h]; exact np_of (by rw [hb, pw_bl hj]; omega)
theorem low_ne {b e j : Int} (hb : b = pw j) : lowF b e ≠ 0 := by
  by_cases h : 0 < e
  · rw [← lowF_pos h]; exact pw_mul_ne hb
  · rw [← lowF_neg h]; exact pw_ne hb
inductive RndMode : Str → Prop
  | n : RndMode (Str.ofString "n")
  | f : RndMode (Str.ofString "f")
  | c : RndMode (Str.ofString "c")
  | d : RndMode (Str.ofString "d")
  | u : RndMode (Str.ofString "u")
theorem RndMode.of {r : Str} (hr : r = Str.ofString "n" ∨ r = Str.ofString "f" ∨ r = Str.ofString "c" ∨ r = Str.ofString "d" ∨ r = Str.ofString "u") : RndMode r := by
  rcases hr with rfl | rfl | rfl | rfl | rfl
  · exact .n
  · exact .f
  · exact .c
  · exact .d
  · exact .u
/-- a conditional expression's two ways meet in one int -/
def CutI (x : Int) (s : Shared) (v : Value) (s' : Shared) : Prop := ∃ (t : Tok) (tk : Nat), v = .int x t ∧ s' = { s with toks := tk }
theorem cutI {x y : Int} {s : Shared} {t : Tok} {tk : Nat} (h : y = x) : CutI x s (.int y t) { s with toks := tk } := by subst h; exact ⟨t, tk, rfl, rfl⟩
abbrev tup2 (a b : Int) (ta tb : Tok) : Obj := { cls := .type "tuple", data := .seq #[.int a ta, .int b tb] }
/-- .. in one pair of ints -/
def CutT (h₀ : Heap) (L : Addr) (m : Str → Option Value) (news : List (Addr × Obj)) (x y : Int) (s : Shared) (v : Value) (s' : Shared) : Prop :=
  ∃ (D : Addr) (t1 t2 : Tok) (h' : Heap) (tk : Nat), v = .ref D ∧ s' = { s with heap := h', toks := tk } ∧ Fr h₀ L h' m ∧ News h₀ L h' ((D, tup2 x y t1 t2) :: news)
theorem cutT {h₀ h' : Heap} {L : Addr} {m : Str → Option Value} {news : List (Addr × Obj)} {x y x' y' : Int} {s : Shared} {D : Addr} {t1 t2 : Tok} {tk : Nat} (hx : x' = x) (hy : y' = y) (F : Fr h₀ L h' m) (N : News h₀ L h' ((D, tup2 x' y' t1 t2) :: news)) :
    CutT h₀ L m news x y s (.ref D) { s with heap := h', toks := tk } := by subst hx hy; exact ⟨D, t1, t2, h', tk, rfl, rfl, F, N⟩
section
variable {prog : Program} {w : World} {A : Around} {E : Value → Shared → Prop} {s : Shared} {c : Sem Value} {Q : Value → Shared → Prop} {h₀ : Heap} {L : Addr} {m : Str → Option Value}
theorem cut_low {b e : Int} {tb te : Tok} (F : Fr h₀ L s.heap m) (hb : m (Str.ofString "below") = some (.int b tb)) (he : m (Str.ofString "exp") = some (.int e te))
    (h1 : wpAny (model prog w) A c (CutI (lowF b e) s) E s) (h2 : ∀ t tk, Q (.int (lowF b e) t) { s with toks := tk }) : wpAny (model prog w) A c Q E s :=
  wpAny_mono h1 (fun _ _ ⟨t, tk, hv, hs⟩ => by subst hv hs; exact h2 t tk) fun _ _ h => h
theorem cut_num {z e : Int} {tb te : Tok} (F : Fr h₀ L s.heap m) (hb : m (Str.ofString "size") = some (.int z tb)) (he : m (Str.ofString "exp") = some (.int e te))
    (h1 : wpAny (model prog w) A c (CutI (numF z e) s) E s) (h2 : ∀ t tk, Q (.int (numF z e) t) { s with toks := tk }) : wpAny (model prog w) A c Q E s :=
  wpAny_mono h1 (fun _ _ ⟨t, tk, hv, hs⟩ => by subst hv hs; exact h2 t tk) fun _ _ h => h
theorem cut_sgn {z : Int} {tb : Tok} {news : List (Addr × Obj)} (F : Fr h₀ L s.heap m) (N : News h₀ L s.heap news) (hb : m (Str.ofString "above") = some (.int z tb))
    (h1 : wpAny (model prog w) A c (CutT h₀ L m news (sgF z) (absF z) s) E s)
    (h2 : ∀ D t1 t2 h' tk, Fr h₀ L h' m → News h₀ L h' ((D, tup2 (sgF z) (absF z) t1 t2) :: news) → Q (.ref D) { s with heap := h', toks := tk }) : wpAny (model prog w) A c Q E s :=
  wpAny_mono h1 (fun _ _ ⟨D, t1, t2, h', tk, hv, hs, F', N'⟩ => by subst hv hs; exact h2 D t1 t2 h' tk F' N') fun _ _ h => h
end
/-- the sum so far: man * 2 ^ exp = V * 2 ^ -45 -/
structure SumP (k : Nat) (V X Y : Int) : Prop where
  lo : -45 ≤ Y
  hi : Y ≤ 0
  val : X * 2 ^ (Y + 45).toNat = V
  size : V.natAbs ≤ k * 2 ^ 190
theorem SumP.bits {k : Nat} {V X Y : Int} (h : SumP k V X Y) (hk : k ≤ 8) : bl X ≤ 200 := by
  refine bl_le_of ?_
  have h1 : X.natAbs ≤ V.natAbs := by
    rw [← h.val, Int.natAbs_mul]
    refine Nat.le_mul_of_pos_right _ ?_
    rw [Int.natAbs_pow]
    exact Nat.two_pow_pos _
  have h2 := h.size
  have h3 : k * 2 ^ 190 ≤ 8 * 2 ^ 190 := Nat.mul_le_mul_right _ hk
  have h4 : 8 * 2 ^ 190 < 2 ^ 200 := by decide
  exact Nat.lt_of_le_of_lt (Nat.le_trans h1 (Nat.le_trans h2 h3)) h4
theorem sumP_0 : SumP 0 0 0 0 := ⟨by decide, by decide, by simp, by decide⟩
theorem size_step {k : Nat} {V x e : Int} (h : V.natAbs ≤ k * 2 ^ 190) (hb : bl x ≤ 100) (he : e ≤ 45) : (V + x * 2 ^ (e + 45).toNat).natAbs ≤ (k + 1) * 2 ^ 190 := by
  have h1 : (x * 2 ^ (e + 45).toNat).natAbs ≤ 2 ^ 190 := by
    rw [Int.natAbs_mul, Int.natAbs_pow]
    have h2 := natAbs_lt (k := 100) hb
    have h3 : (2 : Int).natAbs ^ (e + 45).toNat ≤ 2 ^ 90 := two_le (by omega)
    refine Nat.le_trans (Nat.mul_le_mul (Nat.le_of_lt h2) h3) ?_
    rw [← Nat.pow_add]
    exact two_le (by omega)
  omega
theorem sum_ge {k : Nat} {V X Y x y e : Int} (h : SumP k V X Y) (hx : x = y) (hb : bl x ≤ 100) (he : Y ≤ e) (h2 : e ≤ 45) : SumP (k + 1) (V + y * 2 ^ (e + 45).toNat) (X + shl x (e - Y)) Y := by
  subst hx
  refine ⟨h.lo, h.hi, ?_, size_step h.size hb h2⟩
  rw [Int.add_mul, h.val]
  congr 1
  unfold shl
  have := h.lo
  obtain ⟨a, ha⟩ : ∃ a : Nat, e - Y = a := ⟨(e - Y).toNat, by omega⟩
  obtain ⟨b, hb⟩ : ∃ b : Nat, Y + 45 = b := ⟨(Y + 45).toNat, by omega⟩
  rw [Int.mul_assoc, ha, hb, show e + 45 = ((a + b : Nat) : Int) by omega, Int.toNat_natCast, Int.toNat_natCast, Int.toNat_natCast, Int.pow_add]
theorem sum_lt {k : Nat} {V X Y x y e : Int} (h : SumP k V X Y) (hx : x = y) (hb : bl x ≤ 100) (he : e ≤ Y) (h2 : -45 ≤ e) : SumP (k + 1) (V + y * 2 ^ (e + 45).toNat) (shl X (-(e - Y)) + x) e := by
  subst hx
  have := h.hi
  refine ⟨h2, by omega, ?_, size_step h.size hb (by omega)⟩
  rw [Int.add_mul, ← h.val]
  congr 1
  unfold shl
  obtain ⟨a, ha⟩ : ∃ a : Nat, -(e - Y) = a := ⟨(-(e - Y)).toNat, by omega⟩
  obtain ⟨b, hb⟩ : ∃ b : Nat, e + 45 = b := ⟨(e + 45).toNat, by omega⟩
  rw [Int.mul_assoc, ha, hb, show Y + 45 = ((a + b : Nat) : Int) by omega, Int.toNat_natCast, Int.toNat_natCast, Int.toNat_natCast, Int.pow_add]
theorem sum_0 {k : Nat} {V X Y y e : Int} (h : SumP k V X Y) (hy : y = 0) : SumP (k + 1) (V + y * 2 ^ (e + 45).toNat) X Y := by
  rw [hy, Int.zero_mul, Int.add_zero]
  exact ⟨h.lo, h.hi, h.val, Nat.le_trans h.size (Nat.mul_le_mul_right _ (by omega))⟩
/-- S + T + S at the scale 2 ^ -45 -/
def sumZ (ss sm se ts tm te : Int) : Int := 0 + sgI ss sm * 2 ^ (se + 45).toNat + sgI ts tm * 2 ^ (te + 45).toNat + sgI ss sm * 2 ^ (se + 45).toNat
theorem sum_end {k : Nat} {V X Y : Int} {r r' : Str} (h : SumP k V X Y) : RZ X Y 0 r = RZ V (-45) 0 r' := by
  have := h.lo
  obtain ⟨b, hb⟩ : ∃ b : Nat, Y + 45 = b := ⟨(Y + 45).toNat, by omega⟩
  rw [RZ_r (r := r) (r' := r'), ← h.val, hb, Int.toNat_natCast, RZ_scale]
  congr 1
  omega
@[reducible] def sumFrame (m u : Str → Option Value) (X Y : Int) (tX tY : Tok) : Str → Option Value := fun z =>
  if z = Str.ofString "man" then some (.int X tX) else if z = Str.ofString "exp" then some (.int Y tY) else
  if [Str.ofString "x", Str.ofString "xsign", Str.ofString "xman", Str.ofString "xexp", Str.ofString "xbc", Str.ofString "delta"].contains z then u z else m z
def TurnEnd (m : Str → Option Value) (news : List (Addr × Obj)) (k : Nat) (V : Int) (m' : Str → Option Value) (n' : List (Addr × Obj)) : Prop :=
  (∀ p ∈ news, p ∈ n') ∧ ∃ X Y tX tY, m' (Str.ofString "man") = some (.int X tX) ∧ m' (Str.ofString "exp") = some (.int Y tY) ∧ SumP k V X Y ∧
    ∀ z, z ≠ Str.ofString "man" → z ≠ Str.ofString "exp" → [Str.ofString "x", Str.ofString "xsign", Str.ofString "xman", Str.ofString "xexp", Str.ofString "xbc", Str.ofString "delta"].contains z = false → m' z = m z
theorem turn_end {m m' : Str → Option Value} {news n' : List (Addr × Obj)} {k : Nat} {V X Y : Int} {tX tY : Tok} (h1 : m' (Str.ofString "man") = some (.int X tX)) (h2 : m' (Str.ofString "exp") = some (.int Y tY)) (hs : ∀ p ∈ news, p ∈ n')
    (h : SumP k V X Y)
    (hr : ∀ z, z ≠ Str.ofString "man" → z ≠ Str.ofString "exp" → z ≠ Str.ofString "x" → z ≠ Str.ofString "xsign" → z ≠ Str.ofString "xman" → z ≠ Str.ofString "xexp" → z ≠ Str.ofString "xbc" → z ≠ Str.ofString "delta" → m' z = m z) :
    TurnEnd m news k V m' n' := by
  refine ⟨hs, X, Y, tX, tY, h1, h2, h, fun z a b c => ?_⟩
  simp only [List.contains_cons, List.contains_nil, Bool.or_false, Bool.or_eq_false_iff, beq_eq_false_iff_ne, ne_eq] at c
  exact hr z a b c.1 c.2.1 c.2.2.1 c.2.2.2.1 c.2.2.2.2.1 c.2.2.2.2.2
section
variable {prog : Program} {w : World} {A : Around} {E : Value → Shared → Prop} {s : Shared} {env : Env} {h₀ : Heap} {x : Str} {body : List Stmt} {Q : Flow → Shared → Prop} {I : Addr} {lp : Addr × Obj}
theorem listRest_mono {l : List Value} {m : Str → Option Value} {news n' : List (Addr × Obj)} (hs : ∀ p ∈ news, p ∈ n') (h : ListRest prog w A E h₀ env x body Q s I lp l m news) : ListRest prog w A E h₀ env x body Q s I lp l m n' := by
  cases l with
  | nil => exact fun h' tk F N => h h' tk F (fun p hp => N p (hs p hp))
  | cons v r => exact fun it h' tk hc F N => h it h' tk hc F (fun p hp => N p (by
      rcases List.mem_cons.mp hp with rfl | hp
      · exact List.mem_cons_self ..
      · exact List.mem_cons_of_mem _ (hs p hp)))
/-- the same, but the walk stops here -/
def SumRest (prog : Program) (w : World) (A : Around) (E : Value → Shared → Prop) (h₀ : Heap) (env : Env) (x : Str) (body : List Stmt) (Q : Flow → Shared → Prop) (s : Shared) (I : Addr) (lp : Addr × Obj) (l : List Value) (m : Str → Option Value) (news : List (Addr × Obj)) : Prop :=
  ListRest prog w A E h₀ env x body Q s I lp l m news
theorem SumRest.out {l : List Value} {m : Str → Option Value} {news : List (Addr × Obj)} (h : SumRest prog w A E h₀ env x body Q s I lp l m news) : ListRest prog w A E h₀ env x body Q s I lp l m news := h
theorem SumRest.zero {m : Str → Option Value} {news : List (Addr × Obj)} (h : ∀ h tk, Fr h₀ env.locals h m → News h₀ env.locals h news → Q .next { s with heap := h, toks := tk }) :
    SumRest prog w A E h₀ env x body Q s I lp [] m news := h
theorem SumRest.turn {v : Value} {r : List Value} {m : Str → Option Value} {news : List (Addr × Obj)} (k : Nat) (V : Int)
    (turn : ∀ (it : Obj) h tk, it.cls = .type "list_iterator" → Fr h₀ env.locals h (fun y => if y = x then some v else m y) → News h₀ env.locals h ((I, it) :: news) →
      wpAny (model prog w) A (execs body env) (UnrPost h₀ env.locals { s with heap := h, toks := tk } I it (fun m' n' => lp ∈ n' ∧ TurnEnd m news k V m' n') Q) E { s with heap := h, toks := tk })
    (rest : ∀ X Y tX tY u, SumP k V X Y → SumRest prog w A E h₀ env x body Q s I lp r (sumFrame m u X Y tX tY) news) :
    SumRest prog w A E h₀ env x body Q s I lp (v :: r) m news := by
  intro it h tk hc F N
  refine wpAny_mono (turn it h tk hc F N) (fun f s₂ p => ?_) fun _ _ x => x
  have key : UnrEnd h₀ env.locals { s with heap := h, toks := tk } I it (fun m' n' => lp ∈ n' ∧ TurnEnd m news k V m' n') s₂ →
      UnrEnd h₀ env.locals { s with heap := h, toks := tk } I it (fun m' n' => lp ∈ n' ∧ ListRest prog w A E h₀ env x body Q s I lp r m' n') s₂ := by
    rintro ⟨h', tk', m', news', e, F', N', ho, hl, hs, X, Y, tX, tY, h1, h2, hp, hr⟩
    refine ⟨h', tk', m', news', e, F', N', ho, hl, ?_⟩
    have em : sumFrame m m' X Y tX tY = m' := by
      funext z
      unfold sumFrame
      by_cases a : z = Str.ofString "man"
      · rw [if_pos a, a, h1]
      rw [if_neg a]
      by_cases b : z = Str.ofString "exp"
      · rw [if_pos b, b, h2]
      rw [if_neg b]
      by_cases c : [Str.ofString "x", Str.ofString "xsign", Str.ofString "xman", Str.ofString "xexp", Str.ofString "xbc", Str.ofString "delta"].contains z = true
      · rw [if_pos c]
      · rw [if_neg c]
        exact (hr z a b (Bool.eq_false_iff.mpr c)).symm
    have := rest X Y tX tY m' hp
    rw [em] at this
    exact listRest_mono hs this
  cases f with
  | ret v => exact p
  | brk => exact p
  | next => exact key p
  | cont => exact key p
end
/-- a number that _law_raw builds -/
structure RawOk (bits spread sg man ex bc : Int) : Prop where
  sg01 : sg = 0 ∨ sg = 1
  nn : 0 ≤ man
  len : bc = bl man
  le : bl man ≤ bits
  lo : -spread ≤ ex
  hi : ex ≤ spread
  zero : man ≠ 0 ∨ (sg = 0 ∧ ex = 0 ∧ bc = 0)
theorem fmod_range (a : Int) {b : Int} (h : 0 < b) : 0 ≤ a.fmod b ∧ a.fmod b < b := ⟨Int.fmod_nonneg_of_pos a h, Int.fmod_lt_of_pos a h⟩
theorem bl_lt_pw {x n : Int} (h0 : 0 ≤ x) (hn : 0 ≤ n) (h : x < pw n) : bl x ≤ n := by
  obtain ⟨N, rfl⟩ : ∃ N : Nat, n = N := ⟨n.toNat, by omega⟩
  rw [pw_nat] at h
  exact bl_le_of (by omega)
theorem pw_succ {n : Int} (h : 0 ≤ n) : pw (n + 1) = 2 * pw n := by
  obtain ⟨N, rfl⟩ : ∃ N : Nat, n = N := ⟨n.toNat, by omega⟩
  rw [pw_nat, show (N : Int) + 1 = ((N + 1 : Nat) : Int) by push_cast; rfl, pw_nat, Nat.pow_succ]
  push_cast
  omega
theorem raw_zero {bits spread : Int} (hb : 1 ≤ bits) (hs : 0 ≤ spread) : RawOk bits spread 0 0 0 0 := by
  have h : bl 0 = 0 := by unfold bl; decide
  exact ⟨.inl rfl, by omega, h.symm, by omega, by omega, by omega, .inr ⟨rfl, rfl, rfl⟩⟩
section
variable {bits spread rich : Int} (hb : 1 ≤ bits) (hs : 0 ≤ spread)
include hb hs
theorem raw_gen {man : Int} (h0 : 0 < man) (hl : bl man ≤ bits) : RawOk bits spread (rich.fmod 2) man ((rich.fdiv 16).fmod (2 * spread + 1) - spread) (bl man) := by
  have h1 := fmod_range rich (b := 2) (by decide)
  have h2 := fmod_range (rich.fdiv 16) (b := 2 * spread + 1) (by omega)
  exact ⟨by omega, by omega, rfl, hl, by omega, by omega, .inl (by omega)⟩
theorem raw_a {M : Int} : RawOk bits spread (rich.fmod 2) ((M.fmod (pw (1 + M.fmod bits))).fdiv 2 * 2 + 1) ((rich.fdiv 16).fmod (2 * spread + 1) - spread) (bl ((M.fmod (pw (1 + M.fmod bits))).fdiv 2 * 2 + 1)) := by
  have h1 := fmod_range M (b := bits) (by omega)
  have h2 := fmod_range M (b := pw (1 + M.fmod bits)) (pw_pos _)
  have h3 := pw_succ (n := M.fmod bits) (by omega)
  rw [Int.add_comm (M.fmod bits) 1] at h3
  generalize pw (1 + M.fmod bits) = z at *
  have h4 : (M.fmod z).fdiv 2 = M.fmod z / 2 := Int.fdiv_eq_ediv_of_nonneg _ (by decide)
  refine raw_gen hb hs (by omega) ?_
  have h5 := pw_pos (M.fmod bits)
  have h6 : (M.fmod z).fdiv 2 * 2 + 1 < pw (M.fmod bits + 1) := by rw [pw_succ (by omega)]; omega
  have := bl_lt_pw (by omega) (by omega) h6
  omega
theorem raw_1 : RawOk bits spread (rich.fmod 2) 1 ((rich.fdiv 16).fmod (2 * spread + 1) - spread) (bl 1) := raw_gen hb hs (by decide) (by rw [bl1]; exact hb)
theorem raw_2 {M : Int} : RawOk bits spread (rich.fmod 2) (pw (1 + M.fmod bits) - 1) ((rich.fdiv 16).fmod (2 * spread + 1) - spread) (bl (pw (1 + M.fmod bits) - 1)) := by
  have h1 := fmod_range M (b := bits) (by omega)
  have h3 := pw_succ (n := M.fmod bits) (by omega)
  have h5 := pw_pos (M.fmod bits)
  rw [Int.add_comm (M.fmod bits) 1] at h3
  refine raw_gen hb hs (by omega) ?_
  have := bl_lt_pw (x := pw (1 + M.fmod bits) - 1) (n := 1 + M.fmod bits) (by omega) (by omega) (by omega)
  omega
theorem raw_3 {M : Int} (h : 1 < bits) : RawOk bits spread (rich.fmod 2) (pw (1 + M.fmod (bits - 1)) + 1) ((rich.fdiv 16).fmod (2 * spread + 1) - spread) (bl (pw (1 + M.fmod (bits - 1)) + 1)) := by
  have h1 := fmod_range M (b := bits - 1) (by omega)
  have h3 := pw_succ (n := 1 + M.fmod (bits - 1)) (by omega)
  have h4 := pw_succ (n := M.fmod (bits - 1)) (by omega)
  have h5 := pw_pos (M.fmod (bits - 1))
  rw [Int.add_comm (M.fmod (bits - 1)) 1] at h4
  refine raw_gen hb hs (by omega) ?_
  have := bl_lt_pw (x := pw (1 + M.fmod (bits - 1)) + 1) (n := 1 + M.fmod (bits - 1) + 1) (by omega) (by omega) (by omega)
  omega
end
@[irreducible] def wN (sg man ex : Int) : Int := if 0 ≤ ex then sgI sg man * pw ex else sgI sg man
@[irreducible] def wD (ex : Int) : Int := if 0 ≤ ex then 1 else pw (-ex)
@[irreducible] def dn (ex : Int) : Int := if 0 ≤ ex then 0 else -ex
theorem dn_cases (ex : Int) : (0 ≤ ex ∧ dn ex = 0) ∨ (ex < 0 ∧ dn ex = -ex) := by unfold dn; split <;> omega
theorem wN_pos {sg man ex x : Int} (h : 0 ≤ ex) (hx : x = sgI sg man) : x * pw ex = wN sg man ex := by unfold wN; rw [if_pos h, hx]
theorem wN_neg {sg man ex x : Int} (h : ¬ 0 ≤ ex) (hx : x = sgI sg man) : x = wN sg man ex := by unfold wN; rw [if_neg h, hx]
theorem wD_pos {ex : Int} (h : 0 ≤ ex) : 1 = wD ex := by unfold wD; rw [if_pos h]
theorem wD_neg {ex : Int} (h : ¬ 0 ≤ ex) : pw (-ex) = wD ex := by unfold wD; rw [if_neg h]
theorem pw_zero : pw 0 = 1 := by unfold pw; rfl
theorem pw_add {a b : Int} (ha : 0 ≤ a) (hb : 0 ≤ b) : pw a * pw b = pw (a + b) := by
  unfold pw
  rw [Int.toNat_add ha hb, Int.pow_add]
theorem wD_pw (ex : Int) : wD ex = pw (dn ex) := by
  unfold wD dn
  split
  · rw [pw_zero]
  · rfl
theorem dn_nn (ex : Int) : 0 ≤ dn ex := by have := dn_cases ex; omega
theorem below_pw (se te : Int) : wD se * wD te = pw (dn se + dn te) := by
  rw [wD_pw, wD_pw, pw_add (dn_nn _) (dn_nn _)]
/-- numerator over the other's denominator: an integer at the common scale -/
theorem one_pw {ss sm se te : Int} : wN ss sm se * wD te = sgI ss sm * pw (se + (dn se + dn te)) := by
  have h1 := dn_cases se
  have h2 := dn_nn te
  rw [wD_pw]
  unfold wN
  split
  · rw [Int.mul_assoc, pw_add (by omega) h2]
    congr 2
    omega
  · congr 2
    omega
theorem bl_sgI (s m : Int) : bl (sgI s m) = bl m := by
  unfold sgI; split
  · exact bl_neg m
  · rfl
theorem bl_mul_pw {x n : Int} {k : Nat} (hx : bl x ≤ k) (hn : n ≤ 9000) : bl (x * pw n) ≤ (k + 9000 : Nat) := by
  have := bl_shl_le (n := n) (j := 9000) hx (by omega)
  unfold shl at this
  unfold pw
  exact this
theorem wN_bl {ss sm se : Int} (h : bl sm ≤ 100) (hs : se ≤ 3000) : bl (wN ss sm se) ≤ 9100 := by
  have h1 := bl_sgI ss sm
  unfold wN
  split
  · exact bl_mul_pw (k := 100) (by omega) (by omega)
  · omega
theorem wD_bl {se : Int} (hs : -3000 ≤ se) : bl (wD se) ≤ 3001 := by
  rw [wD_pw, pw_bl (dn_nn _)]
  have := dn_cases se
  omega
/-- the exact sum at the common scale, rounded, is the rounded exact sum -/
theorem law_add {ss sm se ts tm te p : Int} {r : Str} : RZ (wN ss sm se * wD te + wN ts tm te * wD se) (-(dn se + dn te)) p r = addT ss sm se ts tm te p r := by
  have h1 := dn_cases se
  have h2 := dn_cases te
  rw [one_pw, one_pw, Int.add_comm (dn te) (dn se)]
  unfold addT pw
  obtain ⟨k, hk⟩ : ∃ k : Nat, min se te + (dn se + dn te) = k := ⟨(min se te + (dn se + dn te)).toNat, by omega⟩
  obtain ⟨a, ha⟩ : ∃ a : Nat, se - min se te = a := ⟨(se - min se te).toNat, by omega⟩
  obtain ⟨b, hb⟩ : ∃ b : Nat, te - min se te = b := ⟨(te - min se te).toNat, by omega⟩
  rw [ha, hb, show se + (dn se + dn te) = ((a + k : Nat) : Int) by omega, show te + (dn se + dn te) = ((b + k : Nat) : Int) by omega]
  rw [Int.toNat_natCast, Int.toNat_natCast, Int.toNat_natCast, Int.toNat_natCast, Int.pow_add, Int.pow_add, ← Int.mul_assoc, ← Int.mul_assoc, ← Int.add_mul, RZ_scale]
  congr 1
  omega
theorem sgI_flip {s m : Int} (h : s = 0 ∨ s = 1) : sgI (1 - s) m = -sgI s m := by
  unfold sgI
  rcases h with rfl | rfl <;> simp
theorem wN_flip {s m e : Int} (h : s = 0 ∨ s = 1) : wN (1 - s) m e = -wN s m e := by
  unfold wN
  rw [sgI_flip h]
  split
  · rw [Int.neg_mul]
  · rfl
theorem law_sub {ss sm se ts tm te p : Int} {r : Str} (h : ts = 0 ∨ ts = 1) : RZ (wN ss sm se * wD te - wN ts tm te * wD se) (-(dn se + dn te)) p r = addT ss sm se (1 - ts) tm te p r := by
  rw [← law_add, wN_flip h, Int.neg_mul, Int.sub_eq_add_neg]
theorem law_sub2 {ss sm se ts tm te p : Int} {r : Str} (h : ss = 0 ∨ ss = 1) : RZ (wN ts tm te * wD se - wN ss sm se * wD te) (-(dn se + dn te)) p r = addT ts tm te (1 - ss) sm se p r := by
  rw [← law_sub h, Int.add_comm (dn se) (dn te)]
theorem law_add2 {ss sm se ts tm te p : Int} {r : Str} : RZ (wN ss sm se * wD te + wN ts tm te * wD se) (-(dn se + dn te)) p r = addT ts tm te ss sm se p r := by
  rw [law_add, addT_comm]
theorem law_sum {ss sm se ts tm te : Int} {r : Str} (hs : -45 ≤ se) (ht : -45 ≤ te) : RZ (2 * (wN ss sm se * wD te) + wN ts tm te * wD se) (-(dn se + dn te)) 0 r = RZ (sumZ ss sm se ts tm te) (-45) 0 r := by
  have h1 := dn_cases se
  have h2 := dn_cases te
  rw [one_pw, one_pw, Int.add_comm (dn te) (dn se)]
  have e1 : ∀ (z : Int) (k : Nat) (e : Int), RZ (z * 2 ^ k) (e - k) 0 r = RZ z e 0 r := fun z k e => by rw [RZ_scale]; congr 1; omega
  rw [← e1 _ 45 _, ← e1 (sumZ ss sm se ts tm te) (dn se + dn te).toNat (-45)]
  congr 1
  · unfold sumZ pw
    obtain ⟨d, hd⟩ : ∃ d : Nat, dn se + dn te = d := ⟨(dn se + dn te).toNat, by omega⟩
    obtain ⟨a, ha⟩ : ∃ a : Nat, se + 45 = a := ⟨(se + 45).toNat, by omega⟩
    obtain ⟨b, hb⟩ : ∃ b : Nat, te + 45 = b := ⟨(te + 45).toNat, by omega⟩
    obtain ⟨x, hx⟩ : ∃ x : Nat, se + (dn se + dn te) = x := ⟨(se + (dn se + dn te)).toNat, by omega⟩
    obtain ⟨y, hy⟩ : ∃ y : Nat, te + (dn se + dn te) = y := ⟨(te + (dn se + dn te)).toNat, by omega⟩
    rw [hx, hy, ha, hb, hd]
    simp only [Int.toNat_natCast]
    have ex : (2 : Int) ^ x * 2 ^ 45 = 2 ^ a * 2 ^ d := by rw [← Int.pow_add, ← Int.pow_add]; congr 1; omega
    have ey : (2 : Int) ^ y * 2 ^ 45 = 2 ^ b * 2 ^ d := by rw [← Int.pow_add, ← Int.pow_add]; congr 1; omega
    have hX : sgI ss sm * 2 ^ x * 2 ^ 45 = sgI ss sm * 2 ^ a * 2 ^ d := by rw [Int.mul_assoc, ex, ← Int.mul_assoc]
    have hY : sgI ts tm * 2 ^ y * 2 ^ 45 = sgI ts tm * 2 ^ b * 2 ^ d := by rw [Int.mul_assoc, ey, ← Int.mul_assoc]
    rw [Int.add_mul, Int.mul_assoc 2, hX, hY, Int.add_mul, Int.add_mul, Int.add_mul, Int.zero_mul]
    generalize sgI ss sm * 2 ^ a * 2 ^ d = A
    generalize sgI ts tm * 2 ^ b * 2 ^ d = B
    omega
  · omega
theorem law_sumr {ss sm se ts tm te : Int} {r r' : Str} (hs : -45 ≤ se) (ht : -45 ≤ te) : RZ (sumZ ss sm se ts tm te) (-45) 0 r' = RZ (2 * (wN ss sm se * wD te) + wN ts tm te * wD se) (-(dn se + dn te)) 0 r := by
  rw [law_sum hs ht, RZ_r]
theorem RZ_p0 {z e : Int} {r : Str} : RZ z e (max 1 (bl z)) r = RZ z e 0 r := by
  by_cases h : z = 0
  · rw [h, RZ_zero, RZ_zero]
  · have h1 := lenN_pos (m := z.natAbs) (by omega)
    have h2 := bl_eq z
    unfold RZ
    rw [if_neg (show ¬ max 1 (bl z) = 0 by omega), if_pos (rfl : (0 : Int) = 0)]
    congr 1
    omega
abbrev tup2n (a b : Int) (ta tb : Tok) (n : Nat) : Obj := { cls := .type "tuple", data := .seq #[.int a ta, .int b tb] n }
theorem retP {h₀ h' : Heap} {L : Addr} {m : Str → Option Value} {news news' : List (Addr × Obj)} {s : Shared} {Q : Value → Shared → Prop} {x y x' y' : Int} {D : Addr} {ta tb : Tok} {n : Nat} {tk' : Nat}
    (hret : ∀ (D : Addr) (ta tb : Tok) (n : Nat) (h' : Heap) (tk' : Nat), Fr h₀ L h' m → News h₀ L h' ((D, tup2n x y ta tb n) :: news) → Q (.ref D) { s with heap := h', toks := tk' })
    (e1 : x' = x) (e2 : y' = y) (F : Fr h₀ L h' m) (N : News h₀ L h' news') (hs : ∀ p ∈ news, p ∈ news') (hm : (D, tup2n x' y' ta tb n) ∈ news') : Q (.ref D) { s with heap := h', toks := tk' } := by
  subst e1 e2
  exact hret D ta tb n h' tk' F (fun p hp => N p (by
    rcases List.mem_cons.mp hp with rfl | hp
    · exact hm
    · exact hs p hp))
theorem dn_sum {se te : Int} (h1 : -3000 ≤ se) (h2 : -3000 ≤ te) : 0 ≤ dn se + dn te ∧ dn se + dn te ≤ 8000 := by
  have h1 := dn_cases se
  have h2 := dn_cases te
  omega
theorem one_bl {ss sm se te : Int} (hb : bl sm ≤ 100) (h1 : -3000 ≤ se ∧ se ≤ 3000) (h2 : -3000 ≤ te ∧ te ≤ 3000) : bl (wN ss sm se * wD te) ≤ 6100 := by
  have h3 := dn_cases se
  have h4 := dn_cases te
  have h5 := bl_sgI ss sm
  rw [one_pw]
  have := bl_shl_le (x := sgI ss sm) (n := se + (dn se + dn te)) (k := 100) (j := 6000) (by omega) (by omega)
  unfold shl at this
  unfold pw
  exact this
theorem sum_bl {x y : Int} (hx : bl x ≤ 6100) (hy : bl y ≤ 6100) : bl (x + y) ≤ 8000 := by
  have := bl_add_le (k := 6100) hx hy
  omega
theorem dif_bl {x y : Int} (hx : bl x ≤ 6100) (hy : bl y ≤ 6100) : bl (x - y) ≤ 8000 := by
  rw [Int.sub_eq_add_neg]
  exact sum_bl hx (by rw [bl_neg]; exact hy)
theorem two_bl {x y : Int} (hx : bl x ≤ 6100) (hy : bl y ≤ 6100) : bl (2 * x + y) ≤ 8000 := by
  rw [show 2 * x + y = x + (x + y) by omega]
  have h1 := bl_add_le (k := 6100) hx hy
  have := bl_add_le (x := x) (y := x + y) (k := 6101) (by omega) (by omega)
  omega
theorem RndMode.out {r : Str} (h : RndMode r) : r = Str.ofString "n" ∨ r = Str.ofString "f" ∨ r = Str.ofString "c" ∨ r = Str.ofString "d" ∨ r = Str.ofString "u" := by
  cases h <;> simp
/-- the law's choices -/
def CutP (s : Shared) (v : Value) (s' : Shared) : Prop := ∃ (x : Int) (t : Tok) (tk : Nat), (0 ≤ x ∧ x ≤ 100) ∧ v = .int x t ∧ s' = { s with toks := tk }
theorem cutP {x : Int} {s : Shared} {t : Tok} {tk : Nat} (h : 0 ≤ x ∧ x ≤ 100) : CutP s (.int x t) { s with toks := tk } := ⟨x, t, tk, h, rfl, rfl⟩
def CutR (h₀ : Heap) (L : Addr) (m : Str → Option Value) (news : List (Addr × Obj)) (s : Shared) (v : Value) (s' : Shared) : Prop :=
  ∃ (r : Str) (t : Tok) (h' : Heap) (tk : Nat), RndMode r ∧ v = .str r t ∧ s' = { s with heap := h', toks := tk } ∧ Fr h₀ L h' m ∧ News h₀ L h' news
theorem cutR {h₀ h' : Heap} {L : Addr} {m : Str → Option Value} {news news' : List (Addr × Obj)} {s : Shared} {r : Str} {t : Tok} {tk : Nat} (h : RndMode r) (F : Fr h₀ L h' m) (N : News h₀ L h' news') (hs : ∀ p ∈ news, p ∈ news') :
    CutR h₀ L m news s (.str r t) { s with heap := h', toks := tk } := ⟨r, t, h', tk, h, rfl, rfl, F, fun p hp => N p (hs p hp)⟩
abbrev BS (p x y : Int) : Prop := (x = 90 ∧ y = 45) ∨ (x = p ∧ y = 3000 ∧ 1 ≤ p)
def CutB (p : Int) (h₀ : Heap) (L : Addr) (m : Str → Option Value) (news : List (Addr × Obj)) (s : Shared) (v : Value) (s' : Shared) : Prop :=
  ∃ (D : Addr) (x y : Int) (t1 t2 : Tok) (n : Nat) (h' : Heap) (tk : Nat), BS p x y ∧ v = .ref D ∧ s' = { s with heap := h', toks := tk } ∧ Fr h₀ L h' m ∧ News h₀ L h' ((D, tup2n x y t1 t2 n) :: news)
theorem cutB {p : Int} {h₀ h' : Heap} {L : Addr} {m : Str → Option Value} {news news' : List (Addr × Obj)} {s : Shared} {D : Addr} {x y : Int} {t1 t2 : Tok} {n : Nat} {tk : Nat} (h : BS p x y) (F : Fr h₀ L h' m) (N : News h₀ L h' news') (hs : ∀ p ∈ news, p ∈ news') (hm : (D, tup2n x y t1 t2 n) ∈ news') :
    CutB p h₀ L m news s (.ref D) { s with heap := h', toks := tk } := ⟨D, x, y, t1, t2, n, h', tk, h, rfl, rfl, F, fun p hp => N p (by
      rcases List.mem_cons.mp hp with rfl | hp
      · exact hm
      · exact hs p hp)⟩
section
variable {prog : Program} {w : World} {A : Around} {E : Value → Shared → Prop} {s : Shared} {c : Sem Value} {Q : Value → Shared → Prop} {h₀ : Heap} {L : Addr} {m : Str → Option Value} {news : List (Addr × Obj)}
theorem cut_prec (h1 : wpAny (model prog w) A c (CutP s) E s) (h2 : ∀ x t tk, 0 ≤ x → x ≤ 100 → Q (.int x t) { s with toks := tk }) : wpAny (model prog w) A c Q E s :=
  wpAny_mono h1 (fun _ _ ⟨x, t, tk, h, hv, hs⟩ => by subst hv hs; exact h2 x t tk h.1 h.2) fun _ _ h => h
theorem cut_rnd (F : Fr h₀ L s.heap m) (N : News h₀ L s.heap news) (h1 : wpAny (model prog w) A c (CutR h₀ L m news s) E s)
    (h2 : ∀ r t h' tk, RndMode r → Fr h₀ L h' m → News h₀ L h' news → Q (.str r t) { s with heap := h', toks := tk }) : wpAny (model prog w) A c Q E s :=
  wpAny_mono h1 (fun _ _ ⟨r, t, h', tk, h, hv, hs, F', N'⟩ => by subst hv hs; exact h2 r t h' tk h F' N') fun _ _ h => h
theorem cut_bits {p : Int} {tp : Tok} (F : Fr h₀ L s.heap m) (N : News h₀ L s.heap news) (hp : m (Str.ofString "prec") = some (.int p tp)) (h1 : wpAny (model prog w) A c (CutB p h₀ L m news s) E s)
    (h2 : ∀ D x y t1 t2 n h' tk, BS p x y → Fr h₀ L h' m → News h₀ L h' ((D, tup2n x y t1 t2 n) :: news) → Q (.ref D) { s with heap := h', toks := tk }) : wpAny (model prog w) A c Q E s :=
  wpAny_mono h1 (fun _ _ ⟨D, x, y, t1, t2, n, h', tk, h, hv, hs, F', N'⟩ => by subst hv hs; exact h2 D x y t1 t2 n h' tk h F' N') fun _ _ h => h
end
/-- prec or bc -/
@[irreducible] def orF (p b : Int) : Int := if p ≠ 0 then p else b
theorem orF_pos {p b : Int} (h : p ≠ 0) : p = orF p b := by unfold orF; rw [if_pos h]
theorem orF_neg {p b : Int} (h : p = 0) : b = orF p b := by unfold orF; rw [if_neg (by omega)]
theorem orF_cases (p b : Int) : (p ≠ 0 ∧ orF p b = p) ∨ (p = 0 ∧ orF p b = b) := by
  by_cases h : p = 0
  · exact .inr ⟨h, (orF_neg h).symm⟩
  · exact .inl ⟨h, (orF_pos h).symm⟩
def CutO (x : Int) (s : Shared) (v : Value) (s' : Shared) : Prop := ∃ (t : Tok) (tk : Nat), v = .int x t ∧ s' = { s with toks := tk }
theorem cutO {x y : Int} {s : Shared} {t : Tok} {tk : Nat} (h : y = x) : CutO x s (.int y t) { s with toks := tk } := by subst h; exact ⟨t, tk, rfl, rfl⟩
theorem cut_or {prog : Program} {w : World} {A : Around} {E : Value → Shared → Prop} {s : Shared} {c : Sem Value} {Q : Value → Shared → Prop} {h₀ : Heap} {L : Addr} {m : Str → Option Value}
    {p x : Int} {tp tb : Tok} (F : Fr h₀ L s.heap m) (hp : m (Str.ofString "prec") = some (.int p tp)) (hb : m (Str.ofString "bc") = some (.int (bl x) tb))
    (h1 : wpAny (model prog w) A c (CutO (orF p (bl x)) s) E s)
    (h2 : ∀ t tk, ((p ≠ 0 ∧ orF p (bl x) = p) ∨ (p = 0 ∧ orF p (bl x) = bl x)) → (x = 0 ∨ 1 ≤ bl x) → 0 ≤ bl x → Q (.int (orF p (bl x)) t) { s with toks := tk }) : wpAny (model prog w) A c Q E s :=
  wpAny_mono h1 (fun _ _ ⟨t, tk, hv, hs⟩ => by subst hv hs; exact h2 t tk (orF_cases _ _) (bl_pos _) (bl_nn _)) fun _ _ h => h
/-- a rounding with a sign: nine ways, the nearest needs no sign -/
inductive RndSg : Str → Int → Prop
  | n (sg : Int) : RndSg (Str.ofString "n") sg
  | f0 : RndSg (Str.ofString "f") 0
  | f1 : RndSg (Str.ofString "f") 1
  | c0 : RndSg (Str.ofString "c") 0
  | c1 : RndSg (Str.ofString "c") 1
  | d0 : RndSg (Str.ofString "d") 0
  | d1 : RndSg (Str.ofString "d") 1
  | u0 : RndSg (Str.ofString "u") 0
  | u1 : RndSg (Str.ofString "u") 1
theorem RndSg.of {r : Str} {sg : Int} (hs : sg = 0 ∨ sg = 1) (hr : r = Str.ofString "n" ∨ r = Str.ofString "f" ∨ r = Str.ofString "c" ∨ r = Str.ofString "d" ∨ r = Str.ofString "u") : RndSg r sg := by
  rcases hr with rfl | rfl | rfl | rfl | rfl
  · exact .n sg
  all_goals rcases hs with rfl | rfl
  · exact .f0
  · exact .f1
  · exact .c0
  · exact .c1
  · exact .d0
  · exact .d1
  · exact .u0
  · exact .u1
local macro_rules | `(tactic| walk_at "execs cons") => `(tactic| (k_here; (with_reducible refine gen_toks ?_); intro tk; (with_reducible refine wpAny_execs_cons ?_); (try dsimp only)))
local macro_rules | `(tactic| walk_at "execs nil") => `(tactic| (k_here; (with_reducible refine gen_toks ?_); intro tk; (with_reducible refine wpAny_execs_nil ?_); (try dsimp only)))
local macro_rules | `(tactic| walk_at "binaryOp Add int int") => `(tactic| ((with_reducible refine o_add ?_); intro t' tk; (try dsimp only)))
local macro_rules | `(tactic| walk_at "binaryOp Sub int int") => `(tactic| ((with_reducible refine o_sub ?_); intro t' tk; (try dsimp only)))
local macro_rules | `(tactic| walk_at "inplaceOp Add int int") => `(tactic| ((with_reducible refine o_iadd ?_); intro t' tk; (try dsimp only)))
local macro_rules | `(tactic| walk_at "inplaceOp Sub int int") => `(tactic| ((with_reducible refine o_isub ?_); intro t' tk; (try dsimp only)))
local macro_rules | `(tactic| walk_at "unaryOp USub int") => `(tactic| ((with_reducible refine o_neg ?_); intro t' tk; (try dsimp only)))
local macro_rules | `(tactic| walk_at "binaryOp BitAnd int int") => `(tactic| ((with_reducible refine o_and ?_); intro t' tk; (try dsimp only)))
local macro_rules | `(tactic| walk_at "inplaceOp BitXor int int") => `(tactic| ((with_reducible refine o_ixor ?_); intro t' tk; (try dsimp only)))
local macro_rules | `(tactic| walk_at "binaryOp RShift int int") => `(tactic| ((with_reducible refine o_shr ?o1 ?_); (case o1 => l_fact); intro t' tk; (try dsimp only)))
local macro_rules | `(tactic| walk_at "inplaceOp RShift int int") => `(tactic| ((with_reducible refine o_ishr ?o1 ?_); (case o1 => l_fact); intro t' tk; (try dsimp only)))
local macro_rules | `(tactic| walk_at "binaryOp LShift int int") => `(tactic| ((with_reducible refine o_shl ?o1 ?o2 ?_); (case o1 => l_fact); (case o2 => l_fact); intro t' tk; (try dsimp only)))
local macro_rules | `(tactic| walk_at "inplaceOp LShift int int") => `(tactic| ((with_reducible refine o_ishl ?o1 ?o2 ?_); (case o1 => l_fact); (case o2 => l_fact); intro t' tk; (try dsimp only)))
local macro_rules | `(tactic| walk_at "binaryOp Pow int int") => `(tactic| ((with_reducible refine o_pw ?o1 ?o2 ?_); (case o1 => l_fact); (case o2 => l_fact); intro t' tk; (try dsimp only)))
local macro_rules | `(tactic| walk_at "call builtin:int.bit_length") => `(tactic| ((with_reducible refine o_bl ?_); intro t' tk; (try dsimp only)))
local macro_rules | `(tactic| walk_at "ite") => `(tactic| ((fail_if_success k_closed); first | (with_reducible refine ite_ne0p (by with_reducible assumption) ?_) | (with_reducible refine ite_ne0n (by with_reducible assumption) ?_) | (with_reducible refine ite_ne0p (by omega) ?_) | (with_reducible refine ite_ne0n (by omega) ?_) | ((with_reducible refine ite_ne0 ?_ ?_) <;> intro _)))
local macro_rules | `(tactic| walk_at "enter") => `(tactic| (refine' code_def ?k1 ?k2 ?k3 ?k4 ?k5 ?kA ?kF ?kK ?k6 ?k7 ?k8 ?k9 ?kB ?_ ?c2 ?c3 ?c4 ?c5; (case kA => exact rfl); (case kF => exact rfl); (case kK => assumption); (case k1 => k_asm); (case k2 => k_asm); (case k3 => k_asm); (case k4 => k_asm); (case k5 => k_asm); (case k6 => k_is); (case k7 => k_is); (case k8 => ktr_room); (case k9 => first | exact BindsTo.of_eq rfl | exact binds_K (by k_in) rfl (by k_is) rfl rfl rfl); (case c5 => decide); (case kB => exact locs rfl); (case c2 => exact rfl); (case c3 => exact rfl); (case c4 => exact rfl); k_whole; intro g' L' h' FG' F' N' B' X' T'; (try dsimp only); (try k_lift B'); (try k_fold)))
section
variable {w : World} {loose : List Str} {mean : ExcName → Option Value} {mg mb : Str → Option Value}
theorem c_trailing (n : Int) (tn : Tok) (news : List (Addr × Obj)) :
    Con w loose mean mg mb 21 1 [.int n tn] news (fun h₀ L m s Q => RetI h₀ L m news s Q (trailingF n) (0 ≤ trailingF n)) := by
  refine unbox ?_
  simp (disch := (k_dflt (
  w_on
  unfold Con
  k_fill
  intro dp un gd cn cs a ccd cl outer A₀ base h₀ L m s Q E B F X N T hk hdp hun hret
  refine wpAny_call ?_
  w_strict (k_dflt cell_enter)
  w_strict k_steps
  all_goals (exact retI_p hret (by simp [trailingF, *]) (trailing_nn n) (by k_asm) (by k_asm) (fun _ h => h))
  ))) only [↓box_t]
local macro_rules | `(tactic| walk_at "call ref") => `(tactic| (k_here; (with_reducible show wpAny _ _ (call (Value.ref 21) _) _ _ _); k_dflt (refine' c_trailing _ _ _ _ _ _ _ _ _ _ _ _ _ _ _ _ _ _ _ _ ?k1 ?k2 ?k3 ?k4 ?k5 ?kK ?kd ?ku ?_; (case k1 => k_asm); (case k2 => k_asm); (case k3 => k_asm); (case k4 => k_asm); (case k5 => k_asm); (case kK => first | exact rfl | assumption); (case kd => ktr_room); (case ku => ktr_units)); intro t9 h9 tk9 F9 N9 p9; (try dsimp only); (try k_fold)))
local macro_rules | `(tactic| walk_at "compareOp Eq str str") => `(tactic| ((with_reducible show wpAny _ _ (compareOp _ (Value.str _ _) _) _ _ _); cases (show RndSg _ _ by with_reducible assumption)))
theorem c_normi (sg man ex bc p : Int) (r : Str) (t1 t2 t3 t4 t5 t6 : Tok) (news : List (Addr × Obj)) (hm : 0 ≤ man) (hs : sg = 0 ∨ sg = 1) (hb2 : bc ≤ 100000) (hp : 0 ≤ p)
    (hr : r = Str.ofString "n" ∨ r = Str.ofString "f" ∨ r = Str.ofString "c" ∨ r = Str.ofString "d" ∨ r = Str.ofString "u") :
    Con w loose mean mg mb 37 2 [.int sg t1, .int man t2, .int ex t3, .int bc t4, .int p t5, .str r t6] news (fun h₀ L m s Q => RetQ h₀ L m news s Q (normF sg man ex bc p r)) := by
  refine unbox ?_
  simp (disch := (k_dflt (
  w_on
  unfold Con
  k_fill
  have hb1 := bl1
  have hrs := RndSg.of hs hr
  clear hs hr
  all_goals (
    intro dp un gd cn cs a ccd cl outer A₀ base h₀ L m s Q E B F X N T hk hdp hun hret
    refine wpAny_call ?_
    w_strict (k_dflt cell_enter)
    w_strict k_steps
    all_goals first
      | exact retQ_zero hret (nf0 (by with_reducible assumption)) (by k_asm) (by k_asm) (fun _ h => h)
      | (refine' retQ_new hret ?e1 ?e2 ?e3 ?e4 ?e5; (case e2 => k_asm); (case e3 => k_asm); (case e5 => k_mem); (case e4 => exact fun _ h => .tail _ h); (case e1 => first | exact nf1 (by with_reducible assumption) (by with_reducible assumption) (by first | with_reducible exact rd1 | with_reducible exact rd2 | with_reducible exact rd3 | with_reducible exact ru1 | with_reducible exact ru2 | with_reducible exact ru3 | with_reducible exact rn1 (by with_reducible assumption) (by with_reducible assumption) | with_reducible exact rn2 (by with_reducible assumption) (by with_reducible assumption) | with_reducible exact rn3 (by with_reducible assumption) | with_reducible exact rn4 (by with_reducible assumption) (by with_reducible assumption)) (sq1 (by with_reducible assumption) (by with_reducible assumption)) | exact nf1 (by with_reducible assumption) (by with_reducible assumption) (by first | with_reducible exact rd1 | with_reducible exact rd2 | with_reducible exact rd3 | with_reducible exact ru1 | with_reducible exact ru2 | with_reducible exact ru3 | with_reducible exact rn1 (by with_reducible assumption) (by with_reducible assumption) | with_reducible exact rn2 (by with_reducible assumption) (by with_reducible assumption) | with_reducible exact rn3 (by with_reducible assumption) | with_reducible exact rn4 (by with_reducible assumption) (by with_reducible assumption)) (sq2 (by with_reducible assumption) (by with_reducible assumption)) | exact nf1 (by with_reducible assumption) (by with_reducible assumption) (by first | with_reducible exact rd1 | with_reducible exact rd2 | with_reducible exact rd3 | with_reducible exact ru1 | with_reducible exact ru2 | with_reducible exact ru3 | with_reducible exact rn1 (by with_reducible assumption) (by with_reducible assumption) | with_reducible exact rn2 (by with_reducible assumption) (by with_reducible assumption) | with_reducible exact rn3 (by with_reducible assumption) | with_reducible exact rn4 (by with_reducible assumption) (by with_reducible assumption)) (sq3 (by with_reducible assumption) (by with_reducible assumption)) | exact nf1 (by with_reducible assumption) (by with_reducible assumption) (by first | with_reducible exact rd1 | with_reducible exact rd2 | with_reducible exact rd3 | with_reducible exact ru1 | with_reducible exact ru2 | with_reducible exact ru3 | with_reducible exact rn1 (by with_reducible assumption) (by with_reducible assumption) | with_reducible exact rn2 (by with_reducible assumption) (by with_reducible assumption) | with_reducible exact rn3 (by with_reducible assumption) | with_reducible exact rn4 (by with_reducible assumption) (by with_reducible assumption)) (sq4 (by with_reducible assumption) (by with_reducible assumption)) | exact nf2 (by with_reducible assumption) (by omega) (sq1 (by with_reducible assumption) (by with_reducible assumption)) | exact nf2 (by with_reducible assumption) (by omega) (sq2 (by with_reducible assumption) (by with_reducible assumption)) | exact nf2 (by with_reducible assumption) (by omega) (sq3 (by with_reducible assumption) (by with_reducible assumption)) | exact nf2 (by with_reducible assumption) (by omega) (sq4 (by with_reducible assumption) (by with_reducible assumption)))))
  ))) only [↓box_t]
end
section
local macro_rules | `(tactic| walk_at "mine pad") => `(tactic| fail "no line")
local macro_rules | `(tactic| walk_at "mine pad") => `(tactic| fail "no line")
local macro_rules | `(tactic| walk_at "mine pad") => `(tactic| fail "no line")
variable {w : World} {loose : List Str} {mean : ExcName → Option Value} {mg mb : Str → Option Value}
local macro_rules | `(tactic| walk_at "call ref") => `(tactic| (k_here; (with_reducible show wpAny _ _ (call (Value.ref 37) _) _ _ _); k_dflt (refine' c_normi _ _ _ _ _ _ _ _ _ _ _ _ _ ?p1 ?p2 ?p3 ?p4 ?p5 _ _ _ _ _ _ _ _ _ _ _ _ _ _ _ _ _ ?k1 ?k2 ?k3 ?k4 ?k5 ?kK ?kd ?ku ?_; (case k1 => k_asm); (case k2 => k_asm); (case k3 => k_asm); (case k4 => k_asm); (case k5 => k_asm); (case kK => first | exact rfl | assumption); (case kd => ktr_room); (case ku => ktr_units); (case p1 => with_reducible assumption); (case p2 => with_reducible assumption); (case p3 => with_reducible assumption); (case p4 => with_reducible assumption); (case p5 => with_reducible assumption)); intro v9 tl9 h9 tk9 F9 N9 q9; (try dsimp only); (try k_fold)))
theorem c_norm (sg man ex bc p : Int) (r : Str) (t1 t2 t3 t4 t5 t6 : Tok) (news : List (Addr × Obj)) (hm : 0 ≤ man) (hs : sg = 0 ∨ sg = 1) (hb : bc = bl man) (hb2 : bc ≤ 100000) (hp0 : 0 ≤ p) (hp : man = 0 ∨ 1 ≤ p)
    (hr : r = Str.ofString "n" ∨ r = Str.ofString "f" ∨ r = Str.ofString "c" ∨ r = Str.ofString "d" ∨ r = Str.ofString "u") :
    Con w loose mean mg mb 44 3 [.int sg t1, .int man t2, .int ex t3, .int bc t4, .int p t5, .str r t6] news (fun h₀ L m s Q => RetQ h₀ L m news s Q (RQ sg man.natAbs ex p.toNat r)) := by
  refine unbox ?_
  simp (disch := (k_dflt (
  w_on
  unfold Con
  k_fill
  have he : normF sg man ex bc p r = RQ sg man.natAbs ex p.toNat r := by
    rcases hp with rfl | hp
    · simp [normF, RQ_zero]
    · have h1 := normF_eq (sg := sg) (ex := ex) (m := man.natAbs) (P := p.toNat) (r := r) (by omega) hs hr
      rw [hb, bl_eq, ← h1]
      congr 1 <;> omega
  rw [← he]
  intro dp un gd cn cs a ccd cl outer A₀ base h₀ L m s Q E B F X N T hk hdp hun hret
  refine wpAny_call ?_
  w_strict (k_dflt cell_enter)
  w_strict k_steps
  all_goals first
    | exact hret _ _ _ _ (by k_asm) (by k_asm) (by with_reducible assumption)
    | exact absurd hb (by with_reducible assumption)
  ))) only [↓box_t]
end
section
local macro_rules | `(tactic| walk_at "mine pad") => `(tactic| fail "no line")
local macro_rules | `(tactic| walk_at "mine pad") => `(tactic| fail "no line")
local macro_rules | `(tactic| walk_at "mine pad") => `(tactic| fail "no line")
local macro_rules | `(tactic| walk_at "mine pad") => `(tactic| fail "no line")
local macro_rules | `(tactic| walk_at "mine pad") => `(tactic| fail "no line")
variable {w : World} {loose : List Str} {mean : ExcName → Option Value} {mg mb : Str → Option Value}
theorem c_normB (sg man ex bc p : Int) (r : Str) (t1 t2 t3 t4 t5 t6 : Tok) (news : List (Addr × Obj)) (hm : 0 ≤ man) (hs : sg = 0 ∨ sg = 1) (hb : bc = bl man) (hb2 : man < bigM) (hp0 : 0 ≤ p) (hp : man = 0 ∨ 1 ≤ p)
    (hr : r = Str.ofString "n" ∨ r = Str.ofString "f" ∨ r = Str.ofString "c" ∨ r = Str.ofString "d" ∨ r = Str.ofString "u") :
    Con w loose mean mg mb 44 3 [.int sg t1, .int man t2, .int ex t3, .int bc t4, .int p t5, .str r t6] news (fun h₀ L m s Q => RetQ h₀ L m news s Q (RQ sg man.natAbs ex p.toNat r)) :=
  c_norm sg man ex bc p r t1 t2 t3 t4 t5 t6 news hm hs hb (by rw [hb]; exact bl_of_big hm hb2) hp0 hp hr
theorem retQ_c {h₀ h' : Heap} {L : Addr} {m : Str → Option Value} {news tl : List (Addr × Obj)} {s : Shared} {Q : Value → Shared → Prop} {q q' : Quad} {v : Value} {tk' : Nat}
    (hret : RetQ h₀ L m news s Q q) (F : Fr h₀ L h' m) (N : News h₀ L h' (news ++ tl)) (hq : QuadAt (news ++ tl) v q') (e : q' = q) : Q v { s with heap := h', toks := tk' } := by
  subst e
  exact hret v tl h' tk' F N hq
theorem retQ_c2 {h₀ h' : Heap} {L : Addr} {m : Str → Option Value} {news tl tl2 : List (Addr × Obj)} {s : Shared} {Q : Value → Shared → Prop} {q q' : Quad} {v : Value} {tk' : Nat}
    (hret : RetQ h₀ L m news s Q q) (F : Fr h₀ L h' m) (N : News h₀ L h' (news ++ tl ++ tl2)) (hq : QuadAt (news ++ tl ++ tl2) v q') (e : q' = q) : Q v { s with heap := h', toks := tk' } := by
  rw [List.append_assoc] at N hq
  exact retQ_c hret F N hq e
theorem retQ_old {h₀ h' : Heap} {L : Addr} {m : Str → Option Value} {news news' : List (Addr × Obj)} {s : Shared} {Q : Value → Shared → Prop} {q : Quad} {a b c d : Int} {ta tb tc td : Tok} {n : Nat} {D : Addr} {tk' : Nat}
    (hret : RetQ h₀ L m news s Q q) (e : (⟨a, b, c, d⟩ : Quad) = q) (F : Fr h₀ L h' m) (N : News h₀ L h' news') (hs : ∀ p ∈ news, p ∈ news') (hm : (D, tup4 a b c d ta tb tc td n) ∈ news) : Q (.ref D) { s with heap := h', toks := tk' } :=
  retQ_new hret e F N hs (hs _ hm)
theorem c_neg0 (ts te tb : Int) (D : Addr) (n : Nat) (t1 t2 t3 t4 : Tok) (news : List (Addr × Obj)) (hm : (D, tup4 ts 0 te tb t1 t2 t3 t4 n) ∈ news) (he : te = 0) :
    Con w loose mean mg mb 60 3 [.ref D] news (fun h₀ L m s Q => ∀ (h' : Heap) (tk' : Nat), Fr h₀ L h' m → News h₀ L h' news → Q (.ref D) { s with heap := h', toks := tk' }) := by
  refine unbox ?_
  simp (disch := (k_dflt (
  w_on
  unfold Con
  k_fill
  intro dp un gd cn cs a ccd cl outer A₀ base h₀ L m s Q E B F X N T hk hdp hun hret
  refine wpAny_call ?_
  w_strict (k_dflt (walk_at "enter"))
  w_strict k_steps
  all_goals (try k_data)
  all_goals exact hret _ _ (by k_asm) (by k_asm)
  ))) only [↓box_t]
theorem c_neg1 (ts tm te tb : Int) (D : Addr) (n : Nat) (t1 t2 t3 t4 : Tok) (news : List (Addr × Obj)) (hm : (D, tup4 ts tm te tb t1 t2 t3 t4 n) ∈ news) (h0 : tm ≠ 0) :
    Con w loose mean mg mb 60 3 [.ref D] news (fun h₀ L m s Q => RetQ h₀ L m news s Q ⟨1 - ts, tm, te, tb⟩) := by
  refine unbox ?_
  simp (disch := (k_dflt (
  w_on
  unfold Con
  k_fill
  intro dp un gd cn cs a ccd cl outer A₀ base h₀ L m s Q E B F X N T hk hdp hun hret
  refine wpAny_call ?_
  w_strict (k_dflt (walk_at "enter"))
  w_strict k_steps
  all_goals (try k_data)
  all_goals (refine' retQ_new hret ?e1 ?e2 ?e3 ?e4 ?e5; (case e2 => k_asm); (case e3 => k_asm); (case e5 => k_mem); (case e4 => exact fun _ h => .tail _ h); (case e1 => rfl))
  ))) only [↓box_t]
end
section
local macro_rules | `(tactic| walk_at "mine pad") => `(tactic| fail "no line")
local macro_rules | `(tactic| walk_at "mine pad") => `(tactic| fail "no line")
local macro_rules | `(tactic| walk_at "mine pad") => `(tactic| fail "no line")
local macro_rules | `(tactic| walk_at "mine pad") => `(tactic| fail "no line")
local macro_rules | `(tactic| walk_at "mine pad") => `(tactic| fail "no line")
local macro_rules | `(tactic| walk_at "mine pad") => `(tactic| fail "no line")
variable {w : World} {loose : List Str} {mean : ExcName → Option Value} {mg mb : Str → Option Value}
local macro_rules | `(tactic| walk_at "call ref") => `(tactic| (k_here; (with_reducible show wpAny _ _ (call (Value.ref 44) _) _ _ _); k_dflt (refine' c_normB _ _ _ _ _ _ _ _ _ _ _ _ _ ?p1 ?p2 ?p3 ?p4 ?p5 ?p6 ?p7 _ _ _ _ _ _ _ _ _ _ _ _ _ _ _ _ _ ?k1 ?k2 ?k3 ?k4 ?k5 ?kK ?kd ?ku ?_; (case k1 => k_asm); (case k2 => k_asm); (case k3 => k_asm); (case k4 => k_asm); (case k5 => k_asm); (case kK => first | exact rfl | assumption); (case kd => ktr_room); (case ku => ktr_units); (case p1 => omega); (case p2 => omega); (case p3 => first | exact rfl | with_reducible assumption); (case p4 => omega); (case p5 => first | omega | exact bl_nn _); (case p6 => first | omega | exact bl_pos _); (case p7 => with_reducible assumption)); intro v9 tl9 h9 tk9 F9 N9 q9; (try dsimp only); (try k_fold)))
local macro_rules | `(tactic| walk_at "call ref") => `(tactic| (k_here; (with_reducible show wpAny _ _ (call (Value.ref 60) _) _ _ _); k_dflt (refine' c_neg1 _ _ _ _ _ _ _ _ _ _ _ ?p1 ?p2 _ _ _ _ _ _ _ _ _ _ _ _ _ _ _ _ _ ?k1 ?k2 ?k3 ?k4 ?k5 ?kK ?kd ?ku ?_; (case k1 => k_asm); (case k2 => k_asm); (case k3 => k_asm); (case k4 => k_asm); (case k5 => k_asm); (case kK => first | exact rfl | assumption); (case kd => ktr_room); (case ku => ktr_units); (case p1 => first | assumption | exact List.mem_append.mpr (Or.inl (by assumption))); (case p2 => with_reducible assumption)); intro v9 tl9 h9 tk9 F9 N9 q9; (try dsimp only); (try k_fold)))
local macro_rules | `(tactic| walk_at "call ref") => `(tactic| (k_here; (with_reducible show wpAny _ _ (call (Value.ref 60) _) _ _ _); k_dflt (refine' c_neg0 _ _ _ _ _ _ _ _ _ _ ?p1 ?p2 _ _ _ _ _ _ _ _ _ _ _ _ _ _ _ _ _ ?k1 ?k2 ?k3 ?k4 ?k5 ?kK ?kd ?ku ?_; (case k1 => k_asm); (case k2 => k_asm); (case k3 => k_asm); (case k4 => k_asm); (case k5 => k_asm); (case kK => first | exact rfl | assumption); (case kd => ktr_room); (case ku => ktr_units); (case p1 => first | assumption | exact List.mem_append.mpr (Or.inl (by assumption))); (case p2 => omega)); intro h9 tk9 F9 N9; (try dsimp only); (try k_fold)))
local macro_rules | `(tactic| walk_at "add ends") => `(tactic| ((first
  | (refine' retQ_c (by with_reducible assumption) ?e1 ?e2 ?e3 ?e4; (case e1 => k_asm); (case e2 => with_reducible assumption); (case e3 => with_reducible assumption))
  | (refine' retQ_c2 (by with_reducible assumption) ?e1 ?e2 ?e3 ?e4; (case e1 => k_asm); (case e2 => with_reducible assumption); (case e3 => with_reducible assumption))); (case e4 => first
    | (with_reducible refine' fin_ge ?f0 ?f1 ?f2 ?f3 ?f4 ?f5; (case f0 => with_reducible assumption); (case f1 => with_reducible assumption); (case f2 => omega); (case f3 => omega); (case f4 => omega); (case f5 => (intro A B hA hB; omega)))
    | (with_reducible refine' fin_le ?f0 ?f1 ?f2 ?f3 ?f4 ?f5; (case f0 => with_reducible assumption); (case f1 => with_reducible assumption); (case f2 => omega); (case f3 => omega); (case f4 => omega); (case f5 => (intro A B hA hB; omega)))
    | (with_reducible refine' fin_eq ?f0 ?f1 ?f2 ?f3 ?f4 ?f5; (case f0 => with_reducible assumption); (case f1 => with_reducible assumption); (case f2 => omega); (case f3 => omega); (case f4 => omega); (case f5 => (intro A B hA hB; omega)))
    | (with_reducible refine' fin_st1 ?f0 ?f1 ?f2 ?f3 ?f4 ?f5 ?f6 ?f7 ?f8; (case f0 => with_reducible assumption); (case f1 => with_reducible assumption); (case f2 => omega); (case f3 => omega); (case f4 => omega); (case f5 => omega); (case f6 => omega); (case f7 => omega); (case f8 => omega))
    | (with_reducible refine' fin_st2 ?f0 ?f1 ?f2 ?f3 ?f4 ?f5 ?f6 ?f7 ?f8; (case f0 => with_reducible assumption); (case f1 => with_reducible assumption); (case f2 => omega); (case f3 => omega); (case f4 => omega); (case f5 => omega); (case f6 => omega); (case f7 => omega); (case f8 => omega))
    | (with_reducible refine' fin_z0 ?f0 ?f1 ?f2 ?f3 ?f4; (case f0 => with_reducible assumption); (case f1 => with_reducible assumption); (case f2 => omega); (case f3 => omega); (case f4 => omega))
    | (with_reducible refine' fin_0z ?f0 ?f1 ?f2 ?f3 ?f4; (case f0 => with_reducible assumption); (case f1 => with_reducible assumption); (case f2 => omega); (case f3 => omega); (case f4 => omega)))))
local macro_rules | `(tactic| walk_at "eval BoolOp") => `(tactic| (k_here; (with_reducible show wpAny _ _ (eval (PySem.Expr.BoolOp _ [PySem.Expr.Name _ _, PySem.Expr.Name _ _] _) _) _ _ _); (fail_if_success (with_reducible show wpAny _ _ _ (CutO _ _) _ _)); (refine' cut_or ?k1 ?k2 ?k3 ?_ ?_; (case k1 => k_asm); (case k2 => with_unfolding_all rfl); (case k3 => with_unfolding_all rfl)); rotate_left; intro t' tk' o9 o8 o7; (try dsimp only)))
local macro_rules | `(tactic| walk_at "CutO") => `(tactic| (first | exact cutO (orF_pos (by first | with_reducible assumption | omega)) | exact cutO (orF_neg (by first | with_reducible assumption | omega))))
theorem c_addG (q : Int) (args : List Value) (ss sm se sb ts tm te tb p : Int) (r : Str) (D1 D2 : Addr) (n1 n2 : Nat) (s1 s2 s3 s4 t1 t2 t3 t4 t5 t6 t7 : Tok) (news : List (Addr × Obj))
    (m1 : (D1, tup4 ss sm se sb s1 s2 s3 s4 n1) ∈ news) (m2 : (D2, tup4 ts tm te tb t1 t2 t3 t4 n2) ∈ news)
    (hss : ss = 0 ∨ ss = 1) (hts : ts = 0 ∨ ts = 1) (hsm : 0 ≤ sm) (htm : 0 ≤ tm) (hsb : sb = bl sm) (htb : tb = bl tm) (hsb2 : bl sm ≤ 100) (htb2 : bl tm ≤ 100)
    (hse : -3000 ≤ se ∧ se ≤ 3000) (hte : -3000 ≤ te ∧ te ≤ 3000) (hp : 0 ≤ p ∧ p ≤ 100)
    (hzs : sm ≠ 0 ∨ (ss = 0 ∧ se = 0 ∧ sb = 0)) (hzt : tm ≠ 0 ∨ (ts = 0 ∧ te = 0 ∧ tb = 0)) (hreg : (1 ≤ p ∧ bl sm ≤ p ∧ bl tm ≤ p) ∨ (-100 ≤ se - te ∧ se - te ≤ 100))
    (hq : q = 0 ∨ q = 1)
    (hb : ∀ (s : Shared) (fd : FuncData) (oc : Value) (od : Option Addr) (osl : Array (Option Value)), (hd.heap_39 w.params).In s.heap → (hd.heap_39 w.params).lookup 76 = some ⟨oc, od, .func fd, osl⟩ →
      BindsTo s fd ⟨args, []⟩ [(Str.ofString "s", .ref D1), (Str.ofString "t", .ref D2), (Str.ofString "prec", .int p t5), (Str.ofString "rnd", .str r t6), (Str.ofString "_sub", .int q t7)])
    (hr : r = Str.ofString "n" ∨ r = Str.ofString "f" ∨ r = Str.ofString "c" ∨ r = Str.ofString "d" ∨ r = Str.ofString "u") :
    Con w loose mean mg mb 76 6 args news (fun h₀ L m s Q => RetQ h₀ L m news s Q (addT ss sm se (bXor ts q) tm te p r)) := by
  refine unbox ?_
  simp (disch := (k_dflt (
  w_on
  unfold Con
  k_fill
  have hx1 : (q = 0 ∧ bXor ts q = ts) ∨ (q = 1 ∧ bXor ts q = 1 - ts) := by
    rcases hq with rfl | rfl
    · exact .inl ⟨rfl, bXor_0 ts⟩
    · exact .inr ⟨rfl, bXor_1 hts⟩
  have hx : bXor ts q = 0 ∨ bXor ts q = 1 := by omega
  have f1 := shl_facts (n := se - te) hsm (by omega) (by omega)
  have f2 := shl_facts (n := -(se - te)) htm (by omega) (by omega)
  have f3 := shl_facts (n := p + 4) hsm (by omega) (by omega)
  have f4 := shl_facts (n := p + 4) htm (by omega) (by omega)
  have f5 := small_big hsm (by omega)
  have f6 := small_big htm (by omega)
  have f7 := bigSM
  have f9 := bl_pos sm
  have f10 := bl_pos tm
  have f8 := bigS_big
  by_cases htm0 : tm = 0
  · subst htm0
    intro dp un gd cn cs a ccd cl outer A₀ base h₀ L m s Q E B F X N T hk hdp hun hret
    refine wpAny_call ?_
    w_strict (k_dflt (refine' code_def ?k1 ?k2 ?k3 ?k4 ?k5 ?kA ?kF ?kK ?k6 ?k7 ?k8 ?k9 ?kB ?_ ?c2 ?c3 ?c4 ?c5; (case kA => exact rfl); (case kF => exact rfl); (case kK => assumption); (case k1 => k_asm); (case k2 => k_asm); (case k3 => k_asm); (case k4 => k_asm); (case k5 => k_asm); (case k6 => k_is); (case k7 => k_is); (case k8 => ktr_room); (case k9 => exact hb _ _ _ _ _ (by k_in) (by k_is)); (case c5 => decide); (case kB => exact locs rfl); (case c2 => exact rfl); (case c3 => exact rfl); (case c4 => exact rfl); k_whole; intro g' L' h' FG' F' N' B' X' T'; (try dsimp only); (try k_lift B'); (try k_fold)))
    w_strict k_steps
    all_goals (try k_data)
    all_goals first
      | walk_at "add ends"
      | (refine' retQ_old hret ?e1 ?e2 ?e3 ?e4 ?e5; (case e5 => exact m2); (case e2 => k_asm); (case e3 => k_asm); (case e4 => exact fun _ h => h); (case e1 => (rw [← fin_00 hss hx (by omega) rfl]; congr 1 <;> omega)))
  · intro dp un gd cn cs a ccd cl outer A₀ base h₀ L m s Q E B F X N T hk hdp hun hret
    refine wpAny_call ?_
    w_strict (k_dflt (refine' code_def ?k1 ?k2 ?k3 ?k4 ?k5 ?kA ?kF ?kK ?k6 ?k7 ?k8 ?k9 ?kB ?_ ?c2 ?c3 ?c4 ?c5; (case kA => exact rfl); (case kF => exact rfl); (case kK => assumption); (case k1 => k_asm); (case k2 => k_asm); (case k3 => k_asm); (case k4 => k_asm); (case k5 => k_asm); (case k6 => k_is); (case k7 => k_is); (case k8 => ktr_room); (case k9 => exact hb _ _ _ _ _ (by k_in) (by k_is)); (case c5 => decide); (case kB => exact locs rfl); (case c2 => exact rfl); (case c3 => exact rfl); (case c4 => exact rfl); k_whole; intro g' L' h' FG' F' N' B' X' T'; (try dsimp only); (try k_lift B'); (try k_fold)))
    w_strict k_steps
    all_goals (try k_data)
    all_goals walk_at "add ends"
  ))) only [↓box_t]
end
section
local macro_rules | `(tactic| walk_at "mine pad") => `(tactic| fail "no line")
local macro_rules | `(tactic| walk_at "mine pad") => `(tactic| fail "no line")
local macro_rules | `(tactic| walk_at "mine pad") => `(tactic| fail "no line")
local macro_rules | `(tactic| walk_at "mine pad") => `(tactic| fail "no line")
local macro_rules | `(tactic| walk_at "mine pad") => `(tactic| fail "no line")
local macro_rules | `(tactic| walk_at "mine pad") => `(tactic| fail "no line")
local macro_rules | `(tactic| walk_at "mine pad") => `(tactic| fail "no line")
local macro_rules | `(tactic| walk_at "mine pad") => `(tactic| fail "no line")
local macro_rules | `(tactic| walk_at "mine pad") => `(tactic| fail "no line")
local macro_rules | `(tactic| walk_at "mine pad") => `(tactic| fail "no line")
local macro_rules | `(tactic| walk_at "mine pad") => `(tactic| fail "no line")
local macro_rules | `(tactic| walk_at "mine pad") => `(tactic| fail "no line")
local macro_rules | `(tactic| walk_at "mine pad") => `(tactic| fail "no line")
variable {w : World} {loose : List Str} {mean : ExcName → Option Value} {mg mb : Str → Option Value}
theorem c_add5 (ss sm se sb ts tm te tb p : Int) (r : Str) (D1 D2 : Addr) (n1 n2 : Nat) (s1 s2 s3 s4 t1 t2 t3 t4 t5 t6 t7 : Tok) (news : List (Addr × Obj))
    (m1 : (D1, tup4 ss sm se sb s1 s2 s3 s4 n1) ∈ news) (m2 : (D2, tup4 ts tm te tb t1 t2 t3 t4 n2) ∈ news)
    (hss : ss = 0 ∨ ss = 1) (hts : ts = 0 ∨ ts = 1) (hsm : 0 ≤ sm) (htm : 0 ≤ tm) (hsb : sb = bl sm) (htb : tb = bl tm) (hsb2 : bl sm ≤ 100) (htb2 : bl tm ≤ 100)
    (hse : -3000 ≤ se ∧ se ≤ 3000) (hte : -3000 ≤ te ∧ te ≤ 3000) (hp : 0 ≤ p ∧ p ≤ 100)
    (hzs : sm ≠ 0 ∨ (ss = 0 ∧ se = 0 ∧ sb = 0)) (hzt : tm ≠ 0 ∨ (ts = 0 ∧ te = 0 ∧ tb = 0)) (hreg : (1 ≤ p ∧ bl sm ≤ p ∧ bl tm ≤ p) ∨ (-100 ≤ se - te ∧ se - te ≤ 100))
    (hr : r = Str.ofString "n" ∨ r = Str.ofString "f" ∨ r = Str.ofString "c" ∨ r = Str.ofString "d" ∨ r = Str.ofString "u") :
    Con w loose mean mg mb 76 6 [.ref D1, .ref D2, .int p t5, .str r t6, .int 1 t7] news (fun h₀ L m s Q => RetQ h₀ L m news s Q (addT ss sm se (1 - ts) tm te p r)) := by
  refine unbox ?_
  simp (disch := (k_dflt (
  w_on
  unfold Con
  k_fill
  have h := c_addG (w := w) (loose := loose) (mean := mean) (mg := mg) (mb := mb) 1 [.ref D1, .ref D2, .int p t5, .str r t6, .int 1 t7] ss sm se sb ts tm te tb p r D1 D2 n1 n2 s1 s2 s3 s4 t1 t2 t3 t4 t5 t6 t7 news m1 m2 hss hts hsm htm hsb htb hsb2 htb2 hse hte hp hzs hzt hreg (.inr rfl)
    (by
      intro s fd oc od osl X h
      cases h
      refine' binds_K X ?b1 ?b2 ?b3 ?b4 ?b5
      case b1 => exact rfl
      case b2 => k_is
      case b3 => exact rfl
      case b4 => exact rfl
      case b5 => exact rfl) hr
  rw [bXor_1 hts] at h
  exact h
  ))) only [↓box_t]
theorem c_add4 (ss sm se sb ts tm te tb p : Int) (r : Str) (D1 D2 : Addr) (n1 n2 : Nat) (s1 s2 s3 s4 t1 t2 t3 t4 t5 t6 : Tok) (news : List (Addr × Obj))
    (m1 : (D1, tup4 ss sm se sb s1 s2 s3 s4 n1) ∈ news) (m2 : (D2, tup4 ts tm te tb t1 t2 t3 t4 n2) ∈ news)
    (hss : ss = 0 ∨ ss = 1) (hts : ts = 0 ∨ ts = 1) (hsm : 0 ≤ sm) (htm : 0 ≤ tm) (hsb : sb = bl sm) (htb : tb = bl tm) (hsb2 : bl sm ≤ 100) (htb2 : bl tm ≤ 100)
    (hse : -3000 ≤ se ∧ se ≤ 3000) (hte : -3000 ≤ te ∧ te ≤ 3000) (hp : 0 ≤ p ∧ p ≤ 100)
    (hzs : sm ≠ 0 ∨ (ss = 0 ∧ se = 0 ∧ sb = 0)) (hzt : tm ≠ 0 ∨ (ts = 0 ∧ te = 0 ∧ tb = 0)) (hreg : (1 ≤ p ∧ bl sm ≤ p ∧ bl tm ≤ p) ∨ (-100 ≤ se - te ∧ se - te ≤ 100))
    (hr : r = Str.ofString "n" ∨ r = Str.ofString "f" ∨ r = Str.ofString "c" ∨ r = Str.ofString "d" ∨ r = Str.ofString "u") :
    Con w loose mean mg mb 76 6 [.ref D1, .ref D2, .int p t5, .str r t6] news (fun h₀ L m s Q => RetQ h₀ L m news s Q (addT ss sm se ts tm te p r)) := by
  refine unbox ?_
  simp (disch := (k_dflt (
  w_on
  unfold Con
  k_fill
  have h := c_addG (w := w) (loose := loose) (mean := mean) (mg := mg) (mb := mb) 0 [.ref D1, .ref D2, .int p t5, .str r t6] ss sm se sb ts tm te tb p r D1 D2 n1 n2 s1 s2 s3 s4 t1 t2 t3 t4 t5 t6 _ news m1 m2 hss hts hsm htm hsb htb hsb2 htb2 hse hte hp hzs hzt hreg (.inl rfl)
    (by
      intro s fd oc od osl X h
      cases h
      refine' binds_K X ?b1 ?b2 ?b3 ?b4 ?b5
      case b1 => exact rfl
      case b2 => k_is
      case b3 => exact rfl
      case b4 => exact rfl
      case b5 => exact rfl) hr
  rw [bXor_0] at h
  exact h
  ))) only [↓box_t]
end
section
local macro_rules | `(tactic| walk_at "mine pad") => `(tactic| fail "no line")
local macro_rules | `(tactic| walk_at "mine pad") => `(tactic| fail "no line")
local macro_rules | `(tactic| walk_at "mine pad") => `(tactic| fail "no line")
local macro_rules | `(tactic| walk_at "mine pad") => `(tactic| fail "no line")
local macro_rules | `(tactic| walk_at "mine pad") => `(tactic| fail "no line")
local macro_rules | `(tactic| walk_at "mine pad") => `(tactic| fail "no line")
local macro_rules | `(tactic| walk_at "mine pad") => `(tactic| fail "no line")
local macro_rules | `(tactic| walk_at "mine pad") => `(tactic| fail "no line")
local macro_rules | `(tactic| walk_at "mine pad") => `(tactic| fail "no line")
local macro_rules | `(tactic| walk_at "mine pad") => `(tactic| fail "no line")
local macro_rules | `(tactic| walk_at "mine pad") => `(tactic| fail "no line")
local macro_rules | `(tactic| walk_at "mine pad") => `(tactic| fail "no line")
local macro_rules | `(tactic| walk_at "mine pad") => `(tactic| fail "no line")
local macro_rules | `(tactic| walk_at "mine pad") => `(tactic| fail "no line")
variable {w : World} {loose : List Str} {mean : ExcName → Option Value} {mg mb : Str → Option Value}
local macro_rules | `(tactic| walk_at "call ref") => `(tactic| (k_here; (with_reducible show wpAny _ _ (call (Value.ref 76) _) _ _ _); k_dflt (refine' c_add5 _ _ _ _ _ _ _ _ _ _ _ _ _ _ _ _ _ _ _ _ _ _ _ _ _ _ ?qa ?qb ?qc ?qd ?qe ?qf ?qg ?qh ?qi ?qj ?qk ?ql ?qm ?qn ?qo ?qp ?qq _ _ _ _ _ _ _ _ _ _ _ _ _ _ _ _ _ ?k1 ?k2 ?k3 ?k4 ?k5 ?kK ?kd ?ku ?_; (case k1 => k_asm); (case k2 => k_asm); (case k3 => k_asm); (case k4 => k_asm); (case k5 => k_asm); (case kK => first | exact rfl | assumption); (case kd => ktr_room); (case ku => ktr_units); (case qa => first | assumption | exact List.mem_append.mpr (Or.inl (by assumption))); (case qb => first | assumption | exact List.mem_append.mpr (Or.inl (by assumption))); (case qc => with_reducible assumption); (case qd => with_reducible assumption); (case qe => with_reducible assumption); (case qf => with_reducible assumption); (case qg => with_reducible assumption); (case qh => with_reducible assumption); (case qi => with_reducible assumption); (case qj => with_reducible assumption); (case qk => with_reducible assumption); (case ql => with_reducible assumption); (case qm => with_reducible assumption); (case qn => with_reducible assumption); (case qo => with_reducible assumption); (case qp => with_reducible assumption); (case qq => with_reducible assumption)); intro v9 tl9 h9 tk9 F9 N9 q9; (try dsimp only); (try k_fold)))
theorem c_sub (ss sm se sb ts tm te tb p : Int) (r : Str) (D1 D2 : Addr) (n1 n2 : Nat) (s1 s2 s3 s4 t1 t2 t3 t4 t5 t6 : Tok) (news : List (Addr × Obj))
    (m1 : (D1, tup4 ss sm se sb s1 s2 s3 s4 n1) ∈ news) (m2 : (D2, tup4 ts tm te tb t1 t2 t3 t4 n2) ∈ news)
    (hss : ss = 0 ∨ ss = 1) (hts : ts = 0 ∨ ts = 1) (hsm : 0 ≤ sm) (htm : 0 ≤ tm) (hsb : sb = bl sm) (htb : tb = bl tm) (hsb2 : bl sm ≤ 100) (htb2 : bl tm ≤ 100)
    (hse : -3000 ≤ se ∧ se ≤ 3000) (hte : -3000 ≤ te ∧ te ≤ 3000) (hp : 0 ≤ p ∧ p ≤ 100)
    (hzs : sm ≠ 0 ∨ (ss = 0 ∧ se = 0 ∧ sb = 0)) (hzt : tm ≠ 0 ∨ (ts = 0 ∧ te = 0 ∧ tb = 0)) (hreg : (1 ≤ p ∧ bl sm ≤ p ∧ bl tm ≤ p) ∨ (-100 ≤ se - te ∧ se - te ≤ 100))
    (hr : r = Str.ofString "n" ∨ r = Str.ofString "f" ∨ r = Str.ofString "c" ∨ r = Str.ofString "d" ∨ r = Str.ofString "u") :
    Con w loose mean mg mb 84 7 [.ref D1, .ref D2, .int p t5, .str r t6] news (fun h₀ L m s Q => RetQ h₀ L m news s Q (addT ss sm se (1 - ts) tm te p r)) := by
  refine unbox ?_
  simp (disch := (k_dflt (
  w_on
  unfold Con
  k_fill
  intro dp un gd cn cs a ccd cl outer A₀ base h₀ L m s Q E B F X N T hk hdp hun hret
  refine wpAny_call ?_
  w_strict (k_dflt (walk_at "enter"))
  w_strict k_steps
  all_goals (try k_data)
  all_goals exact hret _ _ _ _ (by k_asm) (by k_asm) (by with_reducible assumption)
  ))) only [↓box_t]
end
section
local macro_rules | `(tactic| walk_at "mine pad") => `(tactic| fail "no line")
local macro_rules | `(tactic| walk_at "mine pad") => `(tactic| fail "no line")
local macro_rules | `(tactic| walk_at "mine pad") => `(tactic| fail "no line")
local macro_rules | `(tactic| walk_at "mine pad") => `(tactic| fail "no line")
local macro_rules | `(tactic| walk_at "mine pad") => `(tactic| fail "no line")
local macro_rules | `(tactic| walk_at "mine pad") => `(tactic| fail "no line")
local macro_rules | `(tactic| walk_at "mine pad") => `(tactic| fail "no line")
local macro_rules | `(tactic| walk_at "mine pad") => `(tactic| fail "no line")
local macro_rules | `(tactic| walk_at "mine pad") => `(tactic| fail "no line")
local macro_rules | `(tactic| walk_at "mine pad") => `(tactic| fail "no line")
local macro_rules | `(tactic| walk_at "mine pad") => `(tactic| fail "no line")
local macro_rules | `(tactic| walk_at "mine pad") => `(tactic| fail "no line")
local macro_rules | `(tactic| walk_at "mine pad") => `(tactic| fail "no line")
local macro_rules | `(tactic| walk_at "mine pad") => `(tactic| fail "no line")
local macro_rules | `(tactic| walk_at "mine pad") => `(tactic| fail "no line")
local macro_rules | `(tactic| walk_at "mine pad") => `(tactic| fail "no line")
variable {w : World} {loose : List Str} {mean : ExcName → Option Value} {mg mb : Str → Option Value}
local macro_rules | `(tactic| walk_at "call ref") => `(tactic| (k_here; (with_reducible show wpAny _ _ (call (Value.ref 21) _) _ _ _); k_dflt (refine' c_trailing _ _ _  _ _ _ _ _ _ _ _ _ _ _ _ _ _ _ _ _ ?k1 ?k2 ?k3 ?k4 ?k5 ?kK ?kd ?ku ?_; (case k1 => k_asm); (case k2 => k_asm); (case k3 => k_asm); (case k4 => k_asm); (case k5 => k_asm); (case kK => first | exact rfl | assumption); (case kd => ktr_room); (case ku => ktr_units)); intro t9 h9 tk9 F9 N9 p9; (try dsimp only); (try k_fold)))
theorem c_fme (z ex : Int) (r : Str) (t1 t2 t3 t4 : Tok) (news : List (Addr × Obj)) :
    Con w loose mean mg mb 52 3 [.int z t1, .int ex t2, .int 0 t3, .str r t4] news (fun h₀ L m s Q => RetQ h₀ L m news s Q (RZ z ex 0 r)) := by
  refine unbox ?_
  simp (disch := (k_dflt (
  w_on
  unfold Con
  k_fill
  intro dp un gd cn cs a ccd cl outer A₀ base h₀ L m s Q E B F X N T hk hdp hun hret
  refine wpAny_call ?_
  w_strict (k_dflt (walk_at "enter"))
  w_strict k_steps
  all_goals (try k_data)
  all_goals first
    | exact retQ_zero hret (by rw [show z = 0 by omega, RZ_zero]) (by k_asm) (by k_asm) (fun _ h => h)
    | (refine' retQ_new hret ?e1 ?e2 ?e3 ?e4 ?e5; (case e2 => k_asm); (case e3 => k_asm); (case e5 => k_mem); (case e4 => exact fun _ h => .tail _ h); (case e1 => first | exact RZ_fm (by omega) (by omega) (fm_a (by omega) (by with_reducible assumption)) | exact RZ_fm (by omega) (by omega) (fm_b (by omega) (by with_reducible assumption) (by with_reducible assumption)) | exact RZ_fm (by omega) (by omega) (fm_c (by omega) (by with_reducible assumption))))
  ))) only [↓box_t]
end
section
local macro_rules | `(tactic| walk_at "mine pad") => `(tactic| fail "no line")
local macro_rules | `(tactic| walk_at "mine pad") => `(tactic| fail "no line")
local macro_rules | `(tactic| walk_at "mine pad") => `(tactic| fail "no line")
local macro_rules | `(tactic| walk_at "mine pad") => `(tactic| fail "no line")
local macro_rules | `(tactic| walk_at "mine pad") => `(tactic| fail "no line")
local macro_rules | `(tactic| walk_at "mine pad") => `(tactic| fail "no line")
local macro_rules | `(tactic| walk_at "mine pad") => `(tactic| fail "no line")
local macro_rules | `(tactic| walk_at "mine pad") => `(tactic| fail "no line")
local macro_rules | `(tactic| walk_at "mine pad") => `(tactic| fail "no line")
local macro_rules | `(tactic| walk_at "mine pad") => `(tactic| fail "no line")
local macro_rules | `(tactic| walk_at "mine pad") => `(tactic| fail "no line")
local macro_rules | `(tactic| walk_at "mine pad") => `(tactic| fail "no line")
local macro_rules | `(tactic| walk_at "mine pad") => `(tactic| fail "no line")
local macro_rules | `(tactic| walk_at "mine pad") => `(tactic| fail "no line")
local macro_rules | `(tactic| walk_at "mine pad") => `(tactic| fail "no line")
local macro_rules | `(tactic| walk_at "mine pad") => `(tactic| fail "no line")
local macro_rules | `(tactic| walk_at "mine pad") => `(tactic| fail "no line")
local macro_rules | `(tactic| walk_at "mine pad") => `(tactic| fail "no line")
variable {w : World} {loose : List Str} {mean : ExcName → Option Value} {mg mb : Str → Option Value}
local macro_rules | `(tactic| walk_at "call ref") => `(tactic| (k_here; (with_reducible show wpAny _ _ (call (Value.ref 52) _) _ _ _); k_dflt (refine' c_fme _ _ _ _ _ _ _ _  _ _ _ _ _ _ _ _ _ _ _ _ _ _ _ _ _ ?k1 ?k2 ?k3 ?k4 ?k5 ?kK ?kd ?ku ?_; (case k1 => k_asm); (case k2 => k_asm); (case k3 => k_asm); (case k4 => k_asm); (case k5 => k_asm); (case kK => first | exact rfl | assumption); (case kd => ktr_room); (case ku => ktr_units)); intro v9 tl9 h9 tk9 F9 N9 q9; (try dsimp only); (try k_fold)))
local macro_rules | `(tactic| walk_at "pyIter ref") => `(tactic| ((with_reducible show wpAny _ _ (pyIter (Value.ref _)) (fun it s₂ => LoopAtV _ _ _ _ _ _ _ _ _ it s₂) _ _); k_listUnr; (refine SumRest.out ?_)))
local macro_rules | `(tactic| walk_at "TurnEnd") => `(tactic| (refine' turn_end ?k1 ?k2 ?k3 ?k4 ?k5; (case k1 => with_unfolding_all rfl); (case k2 => with_unfolding_all rfl); (case k3 => first | exact fun _ h => h | exact fun _ h => List.mem_cons_of_mem _ h); (case k4 => first | with_reducible exact sum_ge (by with_reducible assumption) (by omega) (by omega) (by omega) (by omega) | with_reducible exact sum_lt (by with_reducible assumption) (by omega) (by omega) (by omega) (by omega) | with_reducible exact sum_0 (by with_reducible assumption) (by omega)); (case k5 => (intro z z1 z2 z3 z4 z5 z6 z7 z8; (repeat (first | with_reducible rfl | (refine (if_neg (by with_reducible assumption)).trans ?_) | exact rfl))))))
theorem c_sum (ss sm se sb ts tm te tb : Int) (D1 D2 D3 : Addr) (n1 n2 n3 : Nat) (s1 s2 s3 s4 t1 t2 t3 t4 : Tok)
    (hss : ss = 0 ∨ ss = 1) (hts : ts = 0 ∨ ts = 1) (hsm : 0 ≤ sm) (htm : 0 ≤ tm) (hsb : sb = bl sm) (htb : tb = bl tm) (hsb2 : bl sm ≤ 100) (htb2 : bl tm ≤ 100)
    (hse : -45 ≤ se ∧ se ≤ 45) (hte : -45 ≤ te ∧ te ≤ 45)
    (hzs : sm ≠ 0 ∨ (ss = 0 ∧ se = 0 ∧ sb = 0)) (hzt : tm ≠ 0 ∨ (ts = 0 ∧ te = 0 ∧ tb = 0)) (r : Str) :
    Con w loose mean mg mb 92 6 [.ref D3] [(D3, listOf #[.ref D1, .ref D2, .ref D1] n3), (D1, tup4 ss sm se sb s1 s2 s3 s4 n1), (D2, tup4 ts tm te tb t1 t2 t3 t4 n2)] (fun h₀ L m s Q => RetQ h₀ L m [(D3, listOf #[.ref D1, .ref D2, .ref D1] n3), (D1, tup4 ss sm se sb s1 s2 s3 s4 n1), (D2, tup4 ts tm te tb t1 t2 t3 t4 n2)] s Q (RZ (sumZ ss sm se ts tm te) (-45) 0 r)) := by
  refine unbox ?_
  simp (disch := (k_dflt (
  w_on
  unfold Con
  k_fill
  have g1 : bl (-sm) = bl sm := bl_neg sm
  have g2 : bl (-tm) = bl tm := bl_neg tm
  have g0 : bl 0 ≤ 0 := by unfold bl; decide
  have g3 := bl_nn sm
  have g4 := bl_nn tm
  intro dp un gd cn cs a ccd cl outer A₀ base h₀ L m s Q E B F X N T hk hdp hun hret
  refine wpAny_call ?_
  w_strict (k_dflt (walk_at "enter"))
  w_strict k_steps
  have hx := sgI_cases (m := sm) hss
  have hx2 := sgI_cases (m := tm) hts
  refine SumRest.turn 1 (0 + sgI ss sm * 2 ^ (se + 45).toNat) ?t1 ?r1
  case t1 =>
    have hp0 := sumP_0
    intro it h tk hit F N
    w_strict k_steps
  intro X1 Y1 tX1 tY1 u1 hp1
  refine SumRest.turn 2 (0 + sgI ss sm * 2 ^ (se + 45).toNat + sgI ts tm * 2 ^ (te + 45).toNat) ?t2 ?r2
  case t2 =>
    have hpl := hp1.lo
    have hph := hp1.hi
    have hpb := hp1.bits (by decide)
    intro it h tk hit F N
    w_strict k_steps
  intro X2 Y2 tX2 tY2 u2 hp2
  refine SumRest.turn 3 (sumZ ss sm se ts tm te) ?t3 ?r3
  case t3 =>
    have hpl := hp2.lo
    have hph := hp2.hi
    have hpb := hp2.bits (by decide)
    intro it h tk hit F N
    unfold sumZ
    w_strict k_steps
  intro X3 Y3 tX3 tY3 u3 hp3
  refine SumRest.zero ?_
  intro h tk F N
  w_strict k_steps
  all_goals (try k_data)
  all_goals (
    refine' retQ_c hret ?e1 ?e2 ?e3 ?e4
    case e1 => k_asm
    case e2 => with_reducible assumption
    case e3 => with_reducible assumption
    case e4 => exact sum_end hp3)
  ))) only [↓box_t]
end
section
local macro_rules | `(tactic| walk_at "mine pad") => `(tactic| fail "no line")
local macro_rules | `(tactic| walk_at "mine pad") => `(tactic| fail "no line")
local macro_rules | `(tactic| walk_at "mine pad") => `(tactic| fail "no line")
local macro_rules | `(tactic| walk_at "mine pad") => `(tactic| fail "no line")
local macro_rules | `(tactic| walk_at "mine pad") => `(tactic| fail "no line")
local macro_rules | `(tactic| walk_at "mine pad") => `(tactic| fail "no line")
local macro_rules | `(tactic| walk_at "mine pad") => `(tactic| fail "no line")
local macro_rules | `(tactic| walk_at "mine pad") => `(tactic| fail "no line")
local macro_rules | `(tactic| walk_at "mine pad") => `(tactic| fail "no line")
local macro_rules | `(tactic| walk_at "mine pad") => `(tactic| fail "no line")
local macro_rules | `(tactic| walk_at "mine pad") => `(tactic| fail "no line")
local macro_rules | `(tactic| walk_at "mine pad") => `(tactic| fail "no line")
local macro_rules | `(tactic| walk_at "mine pad") => `(tactic| fail "no line")
local macro_rules | `(tactic| walk_at "mine pad") => `(tactic| fail "no line")
local macro_rules | `(tactic| walk_at "mine pad") => `(tactic| fail "no line")
local macro_rules | `(tactic| walk_at "mine pad") => `(tactic| fail "no line")
local macro_rules | `(tactic| walk_at "mine pad") => `(tactic| fail "no line")
local macro_rules | `(tactic| walk_at "mine pad") => `(tactic| fail "no line")
local macro_rules | `(tactic| walk_at "mine pad") => `(tactic| fail "no line")
local macro_rules | `(tactic| walk_at "mine pad") => `(tactic| fail "no line")
local macro_rules | `(tactic| walk_at "mine pad") => `(tactic| fail "no line")
local macro_rules | `(tactic| walk_at "mine pad") => `(tactic| fail "no line")
variable {w : World} {loose : List Str} {mean : ExcName → Option Value} {mg mb : Str → Option Value}
local macro_rules | `(tactic| walk_at "exec While Compare cons nil") => `(tactic| (k_here; (with_reducible show wpAny _ _ (exec (Stmt.While (PySem.Expr.Compare (PySem.Expr.Name _ _) _ _ _) _ _ _) _) _ _ _); k_dflt (refine whl_start 100 ?_)))
local macro_rules | `(tactic| walk_at "exec While Compare cons nil") => `(tactic| (k_here; (with_reducible show wpAny _ _ (exec (Stmt.While (PySem.Expr.Compare (PySem.Expr.BinOp _ _ _ _) _ _ _) _ _ _) _) _ _ _); k_while_given ["whole!", "exp!"] (fun w0 e0 _ w e => StripW w0 e0 w e) (fun _ _ _ w _ => w.toNat) "whole" "exp"))
theorem ksw_fast {h₀ : Heap} {L : Addr} {s : Shared} {Led : List (Addr × Obj)} {n1 n2 : Str} {m₀ m' : Str → Option Value} {w0 e0 w' e' : Int} {tw te : Tok} {c : Int × Nat × Int × Nat} {h' : Heap} {tk : Nat} {news' : List (Addr × Obj)}
    (F : Fr h₀ L h' m') (N : News h₀ L h' news') (hn : ∀ p ∈ Led, p ∈ news') (h1 : m' n1 = some (.int w' tw)) (h2 : m' n2 = some (.int e' te)) (hr : ∀ z, z ≠ n1 → z ≠ n2 → m' z = m₀ z) (hp : StripW w0 e0 w' e') (hm : w'.toNat < c.1.toNat) :
    KswEnd h₀ L s (fun _ => Led) (fun c : Int × Nat × Int × Nat => [(n1, .int c.1 c.2.1), (n2, .int c.2.2.1 c.2.2.2)]) (fun _ => True) [] m₀ (fun c => StripW w0 e0 c.1 c.2.2.1) (fun c => c.1.toNat) c { s with heap := h', toks := tk } := by
  refine ksw_end ⟨w', tw, e', te⟩ F N hn trivial ?_ ?_ hp hm
  · intro p hp
    rcases List.mem_cons.mp hp with rfl | hp
    · exact h1
    rcases List.mem_cons.mp hp with rfl | hp
    · exact h2
    cases hp
  · intro z hz _
    exact hr z (hz _ (.head _)) (hz _ (.tail _ (.head _)))
local macro_rules | `(tactic| walk_at "KswEnd") => `(tactic| (refine' ksw_fast ?k1 ?k2 ?k3 ?k4 ?k5 ?k6 ?k7 ?k8; (case k1 => k_asm); (case k2 => k_asm); (case k3 => exact fun _ h => List.mem_cons_of_mem _ h); (case k4 => with_unfolding_all rfl); (case k5 => with_unfolding_all rfl); (case k6 => exact fun z hz1 hz2 => (if_neg hz1).trans ((if_neg hz2).trans ((if_neg hz1).trans ((if_neg hz2).trans (if_neg (by simp)))))); (case k7 => exact st_turn (by assumption) (by assumption)); (case k8 => exact st_less (by assumption) (by assumption))))
local macro_rules | `(tactic| walk_at "WhlIf") => `(tactic| (first
  | (with_reducible refine WhlIf.yes (decide_eq_true (Int.le_refl _)) ?_)
  | (with_reducible refine WhlIf.yes (decide_eq_true (t_d (by assumption) (by omega))) ?_)
  | (with_reducible refine WhlIf.no (decide_eq_false (t_g (by assumption))) ?_)))
local macro_rules | `(tactic| walk_at "binaryOp Mult int int") => `(tactic| ((with_reducible refine o_mul ?o1 ?_); (case o1 => exact mul_pw (by omega) (by omega) (by omega)); intro t' tk; (try dsimp only)))
local macro_rules | `(tactic| walk_at "call builtin:divmod") => `(tactic| ((refine' o_divmod ?k1 ?k2 ?k3 ?k4 ?_; (case k1 => k_asm); (case k2 => k_asm); (case k3 => exact low_ne (by assumption)); (case k4 => exact np_low (by assumption) (by omega) (by omega) (by omega))); intro h' D' t' t'' tk' F' N'; (try dsimp only)))
local macro_rules | `(tactic| walk_at "eval IfExp") => `(tactic| (k_here; (with_reducible show wpAny _ _ (eval (PySem.Expr.IfExp _ (PySem.Expr.BinOp _ _ (PySem.Expr.BinOp _ _ (PySem.Expr.Name _ _) _) _) _ _) _) _ _ _); (fail_if_success (with_reducible show wpAny _ _ _ (CutI _ _) _ _)); (refine' cut_low ?k1 ?k2 ?k3 ?_ ?_; (case k1 => k_asm); (case k2 => with_unfolding_all rfl); (case k3 => with_unfolding_all rfl)); rotate_left; intro t' tk'; (try dsimp only)))
local macro_rules | `(tactic| walk_at "eval IfExp") => `(tactic| (k_here; (with_reducible show wpAny _ _ (eval (PySem.Expr.IfExp _ (PySem.Expr.BinOp _ _ (PySem.Expr.BinOp _ _ (PySem.Expr.UnaryOp _ _ _) _) _) _ _) _) _ _ _); (fail_if_success (with_reducible show wpAny _ _ _ (CutI _ _) _ _)); (refine' cut_num ?k1 ?k2 ?k3 ?_ ?_; (case k1 => k_asm); (case k2 => with_unfolding_all rfl); (case k3 => with_unfolding_all rfl)); rotate_left; intro t' tk'; (try dsimp only)))
local macro_rules | `(tactic| walk_at "eval IfExp") => `(tactic| (k_here; (with_reducible show wpAny _ _ (eval (PySem.Expr.IfExp _ (PySem.Expr.Tuple _ _ _) _ _) _) _ _ _); (fail_if_success (with_reducible show wpAny _ _ _ (CutT _ _ _ _ _ _ _) _ _)); (refine' cut_sgn ?k1 ?k2 ?k3 ?_ ?_; (case k1 => k_asm); (case k2 => k_asm); (case k3 => with_unfolding_all rfl)); rotate_left; intro D' t' t'' h' tk' F' N'; (try dsimp only)))
local macro_rules | `(tactic| walk_at "CutI") => `(tactic| (first | exact cutI (lowF_pos (by assumption)) | exact cutI (lowF_neg (by assumption)) | exact cutI (numF_pos (by assumption)) | exact cutI (numF_neg (by assumption))))
local macro_rules | `(tactic| walk_at "CutT") => `(tactic| (first | (refine' cutT (sgF_pos ?k1) (absF_pos ?k1) ?k2 ?k3; (case k1 => assumption); (case k2 => k_asm); (case k3 => k_asm)) | (refine' cutT (sgF_neg ?k1) (absF_neg ?k1) ?k2 ?k3; (case k1 => assumption); (case k2 => k_asm); (case k3 => k_asm))))
local macro_rules | `(tactic| walk_at "compareOp Eq str str") => `(tactic| ((with_reducible show wpAny _ _ (compareOp _ (Value.str _ _) _) _ _ _); cases (show RndMode _ by with_reducible assumption)))
/-- back comes a new tuple -/
abbrev RetN (h₀ : Heap) (L : Addr) (m : Str → Option Value) (news : List (Addr × Obj)) (s : Shared) (Q : Value → Shared → Prop) (q : Quad) : Prop :=
  ∀ (D : Addr) (ta tb tc td : Tok) (n : Nat) (h' : Heap) (tk' : Nat), Fr h₀ L h' m → News h₀ L h' ((D, tup4 q.sg q.man q.ex q.bc ta tb tc td n) :: news) → Q (.ref D) { s with heap := h', toks := tk' }
theorem retN_new {h₀ h' : Heap} {L : Addr} {m : Str → Option Value} {news news' : List (Addr × Obj)} {s : Shared} {Q : Value → Shared → Prop} {q : Quad} {a b c d : Int} {ta tb tc td : Tok} {n : Nat} {D : Addr} {tk' : Nat}
    (hret : RetN h₀ L m news s Q q) (e : (⟨a, b, c, d⟩ : Quad) = q) (F : Fr h₀ L h' m) (N : News h₀ L h' news') (hs : ∀ p ∈ news, p ∈ news') (hm : (D, tup4 a b c d ta tb tc td n) ∈ news') : Q (.ref D) { s with heap := h', toks := tk' } := by
  subst e
  exact hret D ta tb tc td n h' tk' F (fun p hp => N p (by
    rcases List.mem_cons.mp hp with rfl | hp
    · exact hm
    · exact hs p hp))
theorem c_rnd (z j b p : Int) (r : Str) (t1 t2 t3 t4 : Tok) (news : List (Addr × Obj)) (hj : 0 ≤ j ∧ j ≤ 8000) (hb : b = pw j) (hp : 1 ≤ p ∧ p ≤ 10000) (hz : bl z ≤ 8000) (hr : RndMode r) :
    Con w loose mean mg mb 120 3 [.int z t1, .int b t2, .int p t3, .str r t4] news (fun h₀ L m s Q => RetN h₀ L m news s Q (RZ z (-j) p r)) := by
  refine unbox ?_
  simp (disch := (k_dflt (
  (k_with "state" => first
    | exact st_start (t_p (by assumption))
    | exact st_start1 (t_p (by assumption)))
  w_on
  unfold Con
  k_fill
  have hbb : bl b = j + 1 := by rw [hb, pw_bl hj.1]
  have hzn : bl (absF z) = bl z := absF_bl z
  have hnn := bl_nn z
  have hT : z ≠ 0 → Turns (absF z) b j p := fun h => turns_of (absF_gt h) (by omega) (by omega) hb
  by_cases hz0 : z = 0
  -- WALK
  all_goals (
    first | (have hT1 := hT hz0) | subst hz0
    clear hT
    intro dp un gd cn cs a ccd cl outer A₀ base h₀ L m s Q E B F X N T hk hdp hun hret
    refine wpAny_call ?_
    w_strict (k_dflt (walk_at "enter"))
    w_strict k_steps
    all_goals first
      | exact absurd (by with_reducible assumption) hz0
      | (refine' retN_new hret ?e1 ?e2 ?e3 ?e4 ?e5
         case e2 => k_asm
         case e3 => k_asm
         case e5 => k_mem
         case e4 => exact fun _ h => by (repeat' (first | with_reducible assumption | with_reducible apply List.mem_cons_of_mem))
         case e1 => first
           | with_reducible exact RZ_zero.symm
           | (rw [rz_abs hp.1]
              first
                | with_reducible exact rq_up (hT1.g _ rfl) (by assumption) (by assumption) (by first | exact up_u (by assumption) | exact up_c (by assumption) (by assumption) | exact up_f (by assumption) (by assumption) | exact up_n1 (by assumption) (by assumption) | exact up_n2 (by assumption) (by assumption) (by assumption))
                | with_reducible exact rq_no (hT1.g _ rfl) (by assumption) (by assumption) (by first | exact no_0 (by assumption) | exact no_d | exact no_c (by assumption) | exact no_f (by assumption) | exact no_n1 (by assumption) (by assumption) | exact no_n2 (by assumption) (by assumption))))
      | (exfalso; omega))
  -- END WALK
  ))) only [↓box_t]
end
section
local macro_rules | `(tactic| walk_at "mine pad") => `(tactic| fail "no line")
local macro_rules | `(tactic| walk_at "mine pad") => `(tactic| fail "no line")
local macro_rules | `(tactic| walk_at "mine pad") => `(tactic| fail "no line")
local macro_rules | `(tactic| walk_at "mine pad") => `(tactic| fail "no line")
local macro_rules | `(tactic| walk_at "mine pad") => `(tactic| fail "no line")
local macro_rules | `(tactic| walk_at "mine pad") => `(tactic| fail "no line")
local macro_rules | `(tactic| walk_at "mine pad") => `(tactic| fail "no line")
local macro_rules | `(tactic| walk_at "mine pad") => `(tactic| fail "no line")
local macro_rules | `(tactic| walk_at "mine pad") => `(tactic| fail "no line")
local macro_rules | `(tactic| walk_at "mine pad") => `(tactic| fail "no line")
local macro_rules | `(tactic| walk_at "mine pad") => `(tactic| fail "no line")
local macro_rules | `(tactic| walk_at "mine pad") => `(tactic| fail "no line")
local macro_rules | `(tactic| walk_at "mine pad") => `(tactic| fail "no line")
local macro_rules | `(tactic| walk_at "mine pad") => `(tactic| fail "no line")
local macro_rules | `(tactic| walk_at "mine pad") => `(tactic| fail "no line")
local macro_rules | `(tactic| walk_at "mine pad") => `(tactic| fail "no line")
local macro_rules | `(tactic| walk_at "mine pad") => `(tactic| fail "no line")
local macro_rules | `(tactic| walk_at "mine pad") => `(tactic| fail "no line")
local macro_rules | `(tactic| walk_at "mine pad") => `(tactic| fail "no line")
local macro_rules | `(tactic| walk_at "mine pad") => `(tactic| fail "no line")
local macro_rules | `(tactic| walk_at "mine pad") => `(tactic| fail "no line")
local macro_rules | `(tactic| walk_at "mine pad") => `(tactic| fail "no line")
local macro_rules | `(tactic| walk_at "mine pad") => `(tactic| fail "no line")
local macro_rules | `(tactic| walk_at "mine pad") => `(tactic| fail "no line")
local macro_rules | `(tactic| walk_at "mine pad") => `(tactic| fail "no line")
local macro_rules | `(tactic| walk_at "mine pad") => `(tactic| fail "no line")
local macro_rules | `(tactic| walk_at "mine pad") => `(tactic| fail "no line")
local macro_rules | `(tactic| walk_at "mine pad") => `(tactic| fail "no line")
local macro_rules | `(tactic| walk_at "mine pad") => `(tactic| fail "no line")
local macro_rules | `(tactic| walk_at "mine pad") => `(tactic| fail "no line")
local macro_rules | `(tactic| walk_at "mine pad") => `(tactic| fail "no line")
local macro_rules | `(tactic| walk_at "mine pad") => `(tactic| fail "no line")
local macro_rules | `(tactic| walk_at "mine pad") => `(tactic| fail "no line")
local macro_rules | `(tactic| walk_at "mine pad") => `(tactic| fail "no line")
local macro_rules | `(tactic| walk_at "mine pad") => `(tactic| fail "no line")
variable {w : World} {loose : List Str} {mean : ExcName → Option Value} {mg mb : Str → Option Value}
theorem fmod_nn {a b : Int} (h : 0 < b) : 0 ≤ a.fmod b := Int.fmod_nonneg_of_pos a h
/-- the context of a call that reads the script -/
abbrev ConL (w : World) (loose : List Str) (mean : ExcName → Option Value) (mg mb : Str → Option Value) (f : Addr) (d : Nat) (l : Addr) (vs : List Value) (ns : List Int) (args : List Value) (news : List (Addr × Obj))
    (Ret : Heap → Addr → (Str → Option Value) → Shared → (Value → Shared → Prop) → Prop) : Prop :=
  ∀ (dp un : Nat) (gd : Option (List Code)) (cn : Str) (cs : Scope) (a : Addr) (ccd : Value) (cl : List (Str × Addr)) (outer : List Env) (A₀ : Around) (base h₀ : Heap) (L : Addr) (m : Str → Option Value) (s : Shared) (Q E : Value → Shared → Prop),
    Below A₀ base outer h₀ → Fr h₀ L s.heap m → (hd.heap_39 w.params).In h₀ → News h₀ L s.heap news → Top hd.view_39 loose mean mg mb h₀ → cs.kind = .function →
    base.IsList l vs.toArray → IntsAre vs ns → ns.length < 2 ^ 62 →
    dp + d < recursionLimit → un + 8 * d < cLine → Ret h₀ L m s Q →
      wpAny (model PySem.Challenge.rw_ah5006_01.row.prog w) (ktrTop dp un gd cn cs L a ccd cl outer) (call (.ref f) args) Q E s
theorem c_mixed (l : Addr) (vs : List Value) (ns : List Int) (k : Int) (t : Tok) (news : List (Addr × Obj)) (hk : 0 ≤ k ∧ k < 100) :
    ConL w loose mean mg mb 99 1 l vs ns [.ref l, .int k t] news (fun h₀ L m s Q => ∀ (x : Int) (t : Tok) (h' : Heap) (tk' : Nat), 0 ≤ x → Fr h₀ L h' m → News h₀ L h' news → Q (.int x t) { s with heap := h', toks := tk' }) := by
  refine unbox ?_
  simp (disch := (k_dflt (
  w_on
  unfold ConL
  have h64 := pw_pos 64
  have h190 := pw_pos 190
  k_fill
  intro dp un gd cn cs a ccd cl outer A₀ base h₀ L m s Q E B F X N T hk2 hL hI hlen hdp hun hret
  refine wpAny_call ?_
  w_strict (k_dflt cell_enter)
  w_strict k_steps
  all_goals (refine hret _ _ _ _ ?e1 ?e2 ?e3; (case e2 => k_asm); (case e3 => k_asm); (case e1 => first | omega | exact fmod_nn (by with_reducible assumption)))
  ))) only [↓box_t]
end
section
local macro_rules | `(tactic| walk_at "mine pad") => `(tactic| fail "no line")
local macro_rules | `(tactic| walk_at "mine pad") => `(tactic| fail "no line")
local macro_rules | `(tactic| walk_at "mine pad") => `(tactic| fail "no line")
local macro_rules | `(tactic| walk_at "mine pad") => `(tactic| fail "no line")
local macro_rules | `(tactic| walk_at "mine pad") => `(tactic| fail "no line")
local macro_rules | `(tactic| walk_at "mine pad") => `(tactic| fail "no line")
local macro_rules | `(tactic| walk_at "mine pad") => `(tactic| fail "no line")
local macro_rules | `(tactic| walk_at "mine pad") => `(tactic| fail "no line")
local macro_rules | `(tactic| walk_at "mine pad") => `(tactic| fail "no line")
local macro_rules | `(tactic| walk_at "mine pad") => `(tactic| fail "no line")
local macro_rules | `(tactic| walk_at "mine pad") => `(tactic| fail "no line")
local macro_rules | `(tactic| walk_at "mine pad") => `(tactic| fail "no line")
local macro_rules | `(tactic| walk_at "mine pad") => `(tactic| fail "no line")
local macro_rules | `(tactic| walk_at "mine pad") => `(tactic| fail "no line")
local macro_rules | `(tactic| walk_at "mine pad") => `(tactic| fail "no line")
local macro_rules | `(tactic| walk_at "mine pad") => `(tactic| fail "no line")
local macro_rules | `(tactic| walk_at "mine pad") => `(tactic| fail "no line")
local macro_rules | `(tactic| walk_at "mine pad") => `(tactic| fail "no line")
local macro_rules | `(tactic| walk_at "mine pad") => `(tactic| fail "no line")
local macro_rules | `(tactic| walk_at "mine pad") => `(tactic| fail "no line")
local macro_rules | `(tactic| walk_at "mine pad") => `(tactic| fail "no line")
local macro_rules | `(tactic| walk_at "mine pad") => `(tactic| fail "no line")
local macro_rules | `(tactic| walk_at "mine pad") => `(tactic| fail "no line")
local macro_rules | `(tactic| walk_at "mine pad") => `(tactic| fail "no line")
local macro_rules | `(tactic| walk_at "mine pad") => `(tactic| fail "no line")
local macro_rules | `(tactic| walk_at "mine pad") => `(tactic| fail "no line")
local macro_rules | `(tactic| walk_at "mine pad") => `(tactic| fail "no line")
local macro_rules | `(tactic| walk_at "mine pad") => `(tactic| fail "no line")
local macro_rules | `(tactic| walk_at "mine pad") => `(tactic| fail "no line")
local macro_rules | `(tactic| walk_at "mine pad") => `(tactic| fail "no line")
local macro_rules | `(tactic| walk_at "mine pad") => `(tactic| fail "no line")
local macro_rules | `(tactic| walk_at "mine pad") => `(tactic| fail "no line")
local macro_rules | `(tactic| walk_at "mine pad") => `(tactic| fail "no line")
local macro_rules | `(tactic| walk_at "mine pad") => `(tactic| fail "no line")
local macro_rules | `(tactic| walk_at "mine pad") => `(tactic| fail "no line")
local macro_rules | `(tactic| walk_at "mine pad") => `(tactic| fail "no line")
variable {w : World} {loose : List Str} {mean : ExcName → Option Value} {mg mb : Str → Option Value}
/-- back comes a new tuple that is a number -/
abbrev RetRaw (h₀ : Heap) (L : Addr) (m : Str → Option Value) (news : List (Addr × Obj)) (s : Shared) (Q : Value → Shared → Prop) (bits spread : Int) : Prop :=
  ∀ (D : Addr) (sg man ex bc : Int) (ta tb tc td : Tok) (n : Nat) (h' : Heap) (tk' : Nat), RawOk bits spread sg man ex bc → Fr h₀ L h' m → News h₀ L h' ((D, tup4 sg man ex bc ta tb tc td n) :: news) → Q (.ref D) { s with heap := h', toks := tk' }
theorem retRaw {h₀ h' : Heap} {L : Addr} {m : Str → Option Value} {news news' : List (Addr × Obj)} {s : Shared} {Q : Value → Shared → Prop} {bits spread sg man ex bc : Int} {ta tb tc td : Tok} {n : Nat} {D : Addr} {tk' : Nat}
    (hret : RetRaw h₀ L m news s Q bits spread) (h : RawOk bits spread sg man ex bc) (F : Fr h₀ L h' m) (N : News h₀ L h' news') (hs : ∀ p ∈ news, p ∈ news') (hm : (D, tup4 sg man ex bc ta tb tc td n) ∈ news') : Q (.ref D) { s with heap := h', toks := tk' } :=
  hret D sg man ex bc ta tb tc td n h' tk' h F (fun p hp => N p (by
    rcases List.mem_cons.mp hp with rfl | hp
    · exact hm
    · exact hs p hp))
local macro_rules | `(tactic| walk_at "binaryOp Pow int int") => `(tactic| ((with_reducible refine o_pw ?o1 ?o2 ?_); (case o1 => first | l_fact | omega); (case o2 => first | l_fact | omega); intro t' tk; (try dsimp only)))
theorem c_raw (rich bits spread : Int) (t1 t2 t3 : Tok) (news : List (Addr × Obj)) (hr : 0 ≤ rich) (hb : 1 ≤ bits ∧ bits ≤ 100) (hs : 0 ≤ spread ∧ spread ≤ 3000) :
    Con w loose mean mg mb 106 1 [.int rich t1, .int bits t2, .int spread t3] news (fun h₀ L m s Q => RetRaw h₀ L m news s Q bits spread) := by
  refine unbox ?_
  simp (disch := (k_dflt (
  w_on
  unfold Con
  k_fill
  have f1 := fmod_range (rich.fdiv (pw 16)) (b := bits) (by omega)
  have f2 := fun h : 1 < bits => fmod_range (rich.fdiv (pw 16)) (b := bits - 1) (by omega)
  have f3 := pw_pos (1 + (rich.fdiv (pw 16)).fmod bits)
  have f4 := pw_pos 16
  intro dp un gd cn cs a ccd cl outer A₀ base h₀ L m s Q E B F X N T hk hdp hun hret
  refine wpAny_call ?_
  w_strict (k_dflt cell_enter)
  w_strict k_steps
  all_goals (
    refine' retRaw hret ?e0 ?e1 ?e2 ?e3 ?e4
    case e1 => k_asm
    case e2 => k_asm
    case e4 => k_mem
    case e3 => exact fun _ h => by (repeat' (first | with_reducible assumption | with_reducible apply List.mem_cons_of_mem))
    case e0 => with_reducible first
      | exact raw_zero hb.1 hs.1
      | exact raw_a hb.1 hs.1
      | exact raw_1 hb.1 hs.1
      | exact raw_2 hb.1 hs.1
      | exact raw_3 hb.1 hs.1 (by omega))
  ))) only [↓box_t]
end
section
local macro_rules | `(tactic| walk_at "mine pad") => `(tactic| fail "no line")
local macro_rules | `(tactic| walk_at "mine pad") => `(tactic| fail "no line")
local macro_rules | `(tactic| walk_at "mine pad") => `(tactic| fail "no line")
local macro_rules | `(tactic| walk_at "mine pad") => `(tactic| fail "no line")
local macro_rules | `(tactic| walk_at "mine pad") => `(tactic| fail "no line")
local macro_rules | `(tactic| walk_at "mine pad") => `(tactic| fail "no line")
local macro_rules | `(tactic| walk_at "mine pad") => `(tactic| fail "no line")
local macro_rules | `(tactic| walk_at "mine pad") => `(tactic| fail "no line")
local macro_rules | `(tactic| walk_at "mine pad") => `(tactic| fail "no line")
local macro_rules | `(tactic| walk_at "mine pad") => `(tactic| fail "no line")
local macro_rules | `(tactic| walk_at "mine pad") => `(tactic| fail "no line")
local macro_rules | `(tactic| walk_at "mine pad") => `(tactic| fail "no line")
local macro_rules | `(tactic| walk_at "mine pad") => `(tactic| fail "no line")
local macro_rules | `(tactic| walk_at "mine pad") => `(tactic| fail "no line")
local macro_rules | `(tactic| walk_at "mine pad") => `(tactic| fail "no line")
local macro_rules | `(tactic| walk_at "mine pad") => `(tactic| fail "no line")
local macro_rules | `(tactic| walk_at "mine pad") => `(tactic| fail "no line")
local macro_rules | `(tactic| walk_at "mine pad") => `(tactic| fail "no line")
local macro_rules | `(tactic| walk_at "mine pad") => `(tactic| fail "no line")
local macro_rules | `(tactic| walk_at "mine pad") => `(tactic| fail "no line")
local macro_rules | `(tactic| walk_at "mine pad") => `(tactic| fail "no line")
local macro_rules | `(tactic| walk_at "mine pad") => `(tactic| fail "no line")
local macro_rules | `(tactic| walk_at "mine pad") => `(tactic| fail "no line")
local macro_rules | `(tactic| walk_at "mine pad") => `(tactic| fail "no line")
local macro_rules | `(tactic| walk_at "mine pad") => `(tactic| fail "no line")
local macro_rules | `(tactic| walk_at "mine pad") => `(tactic| fail "no line")
local macro_rules | `(tactic| walk_at "mine pad") => `(tactic| fail "no line")
local macro_rules | `(tactic| walk_at "mine pad") => `(tactic| fail "no line")
local macro_rules | `(tactic| walk_at "mine pad") => `(tactic| fail "no line")
local macro_rules | `(tactic| walk_at "mine pad") => `(tactic| fail "no line")
local macro_rules | `(tactic| walk_at "mine pad") => `(tactic| fail "no line")
local macro_rules | `(tactic| walk_at "mine pad") => `(tactic| fail "no line")
local macro_rules | `(tactic| walk_at "mine pad") => `(tactic| fail "no line")
local macro_rules | `(tactic| walk_at "mine pad") => `(tactic| fail "no line")
local macro_rules | `(tactic| walk_at "mine pad") => `(tactic| fail "no line")
local macro_rules | `(tactic| walk_at "mine pad") => `(tactic| fail "no line")
local macro_rules | `(tactic| walk_at "mine pad") => `(tactic| fail "no line")
local macro_rules | `(tactic| walk_at "mine pad") => `(tactic| fail "no line")
variable {w : World} {loose : List Str} {mean : ExcName → Option Value} {mg mb : Str → Option Value}
local macro_rules | `(tactic| walk_at "binaryOp Mult int int") => `(tactic| ((with_reducible refine o_mul ?o1 ?_); (case o1 => exact mul_pw (by omega) (by omega) (by omega)); intro t' tk; (try dsimp only)))
theorem c_worth (ss sm se sb : Int) (D1 : Addr) (n1 : Nat) (s1 s2 s3 s4 : Tok) (news : List (Addr × Obj)) (m1 : (D1, tup4 ss sm se sb s1 s2 s3 s4 n1) ∈ news) (hss : ss = 0 ∨ ss = 1) (hsb : bl sm ≤ 100) (hse : -3000 ≤ se ∧ se ≤ 3000) :
    Con w loose mean mg mb 113 1 [.ref D1] news (fun h₀ L m s Q => ∀ (D : Addr) (ta tb : Tok) (n : Nat) (h' : Heap) (tk' : Nat), Fr h₀ L h' m → News h₀ L h' ((D, tup2n (wN ss sm se) (wD se) ta tb n) :: news) → bl (wN ss sm se) ≤ 9100 → bl (wD se) ≤ 3001 → Q (.ref D) { s with heap := h', toks := tk' }) := by
  refine unbox ?_
  simp (disch := (k_dflt (
  w_on
  unfold Con
  k_fill
  have g1 := bl_neg sm
  have hx := sgI_cases (m := sm) hss
  have hb1 := wN_bl (ss := ss) hsb hse.2
  have hb2 := wD_bl hse.1
  intro dp un gd cn cs a ccd cl outer A₀ base h₀ L m s Q E B F X N T hk hdp hun hret0
  have hret := fun D ta tb n h' tk' F N => hret0 D ta tb n h' tk' F N hb1 hb2
  clear hret0
  refine wpAny_call ?_
  w_strict (k_dflt cell_enter)
  w_strict k_steps
  all_goals (
    refine' retP hret ?e0 ?e1 ?e2 ?e3 ?e4 ?e5
    case e2 => k_asm
    case e3 => k_asm
    case e5 => k_mem
    case e4 => exact fun _ h => by (repeat' (first | with_reducible assumption | with_reducible apply List.mem_cons_of_mem))
    case e0 => with_reducible first
      | exact wN_pos (by omega) (by omega)
      | exact wN_neg (by omega) (by omega)
    case e1 => with_reducible first
      | exact wD_pos (by omega)
      | exact wD_neg (by omega))
  ))) only [↓box_t]
end
section
local macro_rules | `(tactic| walk_at "mine pad") => `(tactic| fail "no line")
local macro_rules | `(tactic| walk_at "mine pad") => `(tactic| fail "no line")
local macro_rules | `(tactic| walk_at "mine pad") => `(tactic| fail "no line")
local macro_rules | `(tactic| walk_at "mine pad") => `(tactic| fail "no line")
local macro_rules | `(tactic| walk_at "mine pad") => `(tactic| fail "no line")
local macro_rules | `(tactic| walk_at "mine pad") => `(tactic| fail "no line")
local macro_rules | `(tactic| walk_at "mine pad") => `(tactic| fail "no line")
local macro_rules | `(tactic| walk_at "mine pad") => `(tactic| fail "no line")
local macro_rules | `(tactic| walk_at "mine pad") => `(tactic| fail "no line")
local macro_rules | `(tactic| walk_at "mine pad") => `(tactic| fail "no line")
local macro_rules | `(tactic| walk_at "mine pad") => `(tactic| fail "no line")
local macro_rules | `(tactic| walk_at "mine pad") => `(tactic| fail "no line")
local macro_rules | `(tactic| walk_at "mine pad") => `(tactic| fail "no line")
local macro_rules | `(tactic| walk_at "mine pad") => `(tactic| fail "no line")
local macro_rules | `(tactic| walk_at "mine pad") => `(tactic| fail "no line")
local macro_rules | `(tactic| walk_at "mine pad") => `(tactic| fail "no line")
local macro_rules | `(tactic| walk_at "mine pad") => `(tactic| fail "no line")
local macro_rules | `(tactic| walk_at "mine pad") => `(tactic| fail "no line")
local macro_rules | `(tactic| walk_at "mine pad") => `(tactic| fail "no line")
local macro_rules | `(tactic| walk_at "mine pad") => `(tactic| fail "no line")
local macro_rules | `(tactic| walk_at "mine pad") => `(tactic| fail "no line")
local macro_rules | `(tactic| walk_at "mine pad") => `(tactic| fail "no line")
local macro_rules | `(tactic| walk_at "mine pad") => `(tactic| fail "no line")
local macro_rules | `(tactic| walk_at "mine pad") => `(tactic| fail "no line")
local macro_rules | `(tactic| walk_at "mine pad") => `(tactic| fail "no line")
local macro_rules | `(tactic| walk_at "mine pad") => `(tactic| fail "no line")
local macro_rules | `(tactic| walk_at "mine pad") => `(tactic| fail "no line")
local macro_rules | `(tactic| walk_at "mine pad") => `(tactic| fail "no line")
local macro_rules | `(tactic| walk_at "mine pad") => `(tactic| fail "no line")
local macro_rules | `(tactic| walk_at "mine pad") => `(tactic| fail "no line")
local macro_rules | `(tactic| walk_at "mine pad") => `(tactic| fail "no line")
local macro_rules | `(tactic| walk_at "mine pad") => `(tactic| fail "no line")
local macro_rules | `(tactic| walk_at "mine pad") => `(tactic| fail "no line")
local macro_rules | `(tactic| walk_at "mine pad") => `(tactic| fail "no line")
local macro_rules | `(tactic| walk_at "mine pad") => `(tactic| fail "no line")
local macro_rules | `(tactic| walk_at "mine pad") => `(tactic| fail "no line")
local macro_rules | `(tactic| walk_at "mine pad") => `(tactic| fail "no line")
local macro_rules | `(tactic| walk_at "mine pad") => `(tactic| fail "no line")
local macro_rules | `(tactic| walk_at "mine pad") => `(tactic| fail "no line")
local macro_rules | `(tactic| walk_at "mine pad") => `(tactic| fail "no line")
variable {w : World} {loose : List Str} {mean : ExcName → Option Value} {mg mb : Str → Option Value}
theorem eq_quads {prog : Program} {w : World} {A : Around} {E : Value → Shared → Prop} {s : Shared} {Q : Value → Shared → Prop} {a b : Addr} {x1 x2 x3 x4 : Int} {t1 t2 t3 t4 u1 u2 u3 u4 : Tok} {n k : Nat} {x1' x2' x3' x4' : Int}
    (ha : s.heap.get? a = some (tup4 x1 x2 x3 x4 t1 t2 t3 t4 n)) (hb : s.heap.get? b = some (tup4 x1' x2' x3' x4' u1 u2 u3 u4 k)) (hu : A.units + 64 < cLine) (e : (⟨x1, x2, x3, x4⟩ : Quad) = ⟨x1', x2', x3', x4'⟩) (h : Q (.bool true) s) :
    wpAny (model prog w) A (compareOp .Eq (.ref a) (.ref b)) Q E s := by
  cases e
  refine eq_dataH (da := .tuple [.int x1, .int x2, .int x3, .int x4]) (db := .tuple [.int x1, .int x2, .int x3, .int x4])
    (reads_tuple_at ha rfl rfl (.cons (.int _ _) (.cons (.int _ _) (.cons (.int _ _) (.cons (.int _ _) .nil))))) (reads_tuple_at hb rfl rfl (.cons (.int _ _) (.cons (.int _ _) (.cons (.int _ _) (.cons (.int _ _) .nil))))) rfl rfl hu ?_
  simpa [PyData.eqv, PyData.eqvAll] using h
theorem fzero_at {w : World} {h : Heap} (X : (hd.heap_39 w.params).In h) : ∃ t1 t2 t3 t4 n, h.get? 22 = some (tup4 0 0 0 0 t1 t2 t3 t4 n) := ⟨_, _, _, _, _, X 22 _ rfl⟩
theorem eq_zero {prog : Program} {w w' : World} {A : Around} {E : Value → Shared → Prop} {s : Shared} {Q : Value → Shared → Prop} {b : Addr} {u1 u2 u3 u4 : Tok} {k : Nat} {x1' x2' x3' x4' : Int}
    (X : (hd.heap_39 w'.params).In s.heap) (hb : s.heap.get? b = some (tup4 x1' x2' x3' x4' u1 u2 u3 u4 k)) (hu : A.units + 64 < cLine) (e : zeroQ = ⟨x1', x2', x3', x4'⟩) (h : Q (.bool true) s) :
    wpAny (model prog w) A (compareOp .Eq (.ref 22) (.ref b)) Q E s := by
  obtain ⟨_, _, _, _, _, ha⟩ := fzero_at X
  exact eq_quads ha hb hu e h
theorem quad_eq {q q' : Quad} (h : q = q') : (⟨q.sg, q.man, q.ex, q.bc⟩ : Quad) = ⟨q'.sg, q'.man, q'.ex, q'.bc⟩ := by subst h; rfl
theorem right_p0 {q : Quad} {z e p : Int} {r : Str} (h : q = RZ z e p r) (hp : p = 0) : q = RZ z e (if bl z > 1 then bl z else 1) r := by
  rw [h, hp, ← RZ_p0]
  congr 1
  split <;> omega
local macro_rules | `(tactic| walk_at "compareOp Eq ref ref") => `(tactic| (k_here; first
  | (refine' eq_quads ?k1 ?k2 ?k3 ?k4 ?_; (case k1 => exact News.get (by k_asm) (List.mem_cons_of_mem _ (by assumption))); (case k2 => exact News.get (by k_asm) (List.mem_cons_self ..)); (case k3 => ktr_units); (case k4 => first | exact quad_eq (by with_reducible assumption) | exact quad_eq (right_p0 (by with_reducible assumption) (by omega))))
  | (refine' eq_zero ?k1 ?k2 ?k3 ?k4 ?_; (case k1 => k_in); (case k2 => exact News.get (by k_asm) (List.mem_cons_self ..)); (case k3 => ktr_units); (case k4 => first | exact quad_eq (by with_reducible assumption) | exact quad_eq (right_p0 (by with_reducible assumption) (by omega))))))
local macro_rules | `(tactic| walk_at "call ref") => `(tactic| (k_here; (with_reducible show wpAny _ _ (call (Value.ref 120) _) _ _ _); k_dflt (refine' c_rnd _ _ _ _ _ _ _ _ _ _ ?qa ?qb ?qc ?qd ?qe _ _ _ _ _ _ _ _ _ _ _ _ _ _ _ _ _ ?k1 ?k2 ?k3 ?k4 ?k5 ?kK ?kd ?ku ?_; (case k1 => k_asm); (case k2 => k_asm); (case k3 => k_asm); (case k4 => k_asm); (case k5 => k_asm); (case kK => first | exact rfl | assumption); (case kd => ktr_room); (case ku => ktr_units); (case qb => with_reducible assumption); (case qa => with_reducible assumption); (case qc => omega); (case qd => with_reducible assumption); (case qe => with_reducible assumption)); intro D9 ta9 tb9 tc9 td9 n9 h9 tk9 F9 N9; (try dsimp only); (try k_fold)))
theorem retT_end {h₀ h' : Heap} {L : Addr} {m : Str → Option Value} {news news' : List (Addr × Obj)} {s : Shared} {Q : Value → Shared → Prop} {tk' : Nat}
    (hret : ∀ (h' : Heap) (tk' : Nat), Fr h₀ L h' m → News h₀ L h' news → Q (.bool true) { s with heap := h', toks := tk' }) (F : Fr h₀ L h' m) (N : News h₀ L h' news') (hs : ∀ p ∈ news, p ∈ news') : Q (.bool true) { s with heap := h', toks := tk' } :=
  hret _ _ F (fun p hp => N p (hs p hp))
theorem c_right (v : Value) (q : Quad) (z j b p : Int) (r : Str) (t1 t2 t3 t4 : Tok) (news : List (Addr × Obj)) (hq : QuadAt news v q) (e : q = RZ z (-j) p r) (hj : 0 ≤ j ∧ j ≤ 8000) (hb : b = pw j) (hp : 0 ≤ p ∧ p ≤ 100) (hz : bl z ≤ 8000) (hr : RndMode r) :
    Con w loose mean mg mb 127 14 [v, .int z t1, .int b t2, .int p t3, .str r t4] news (fun h₀ L m s Q => ∀ (h' : Heap) (tk' : Nat), Fr h₀ L h' m → News h₀ L h' news → Q (.bool true) { s with heap := h', toks := tk' }) := by
  refine unbox ?_
  simp (disch := (k_dflt (
  w_on
  unfold Con
  k_fill
  have hzn := bl_nn z
  rcases hq with ⟨rfl, rfl⟩ | ⟨D8, ta8, tb8, tc8, td8, n8, rfl, hq⟩
  all_goals (
    intro dp un gd cn cs a ccd cl outer A₀ base h₀ L m s Q E B F X N T hk hdp hun hret
    refine wpAny_call ?_
    w_strict (k_dflt cell_enter)
    w_strict k_steps
    all_goals (refine' retT_end hret ?e1 ?e2 ?e3; (case e1 => k_asm); (case e2 => k_asm); (case e3 => exact fun _ h => List.mem_cons_of_mem _ h)))
  ))) only [↓box_t]
end
section
local macro_rules | `(tactic| walk_at "mine pad") => `(tactic| fail "no line")
local macro_rules | `(tactic| walk_at "mine pad") => `(tactic| fail "no line")
local macro_rules | `(tactic| walk_at "mine pad") => `(tactic| fail "no line")
local macro_rules | `(tactic| walk_at "mine pad") => `(tactic| fail "no line")
local macro_rules | `(tactic| walk_at "mine pad") => `(tactic| fail "no line")
local macro_rules | `(tactic| walk_at "mine pad") => `(tactic| fail "no line")
local macro_rules | `(tactic| walk_at "mine pad") => `(tactic| fail "no line")
local macro_rules | `(tactic| walk_at "mine pad") => `(tactic| fail "no line")
local macro_rules | `(tactic| walk_at "mine pad") => `(tactic| fail "no line")
local macro_rules | `(tactic| walk_at "mine pad") => `(tactic| fail "no line")
local macro_rules | `(tactic| walk_at "mine pad") => `(tactic| fail "no line")
local macro_rules | `(tactic| walk_at "mine pad") => `(tactic| fail "no line")
local macro_rules | `(tactic| walk_at "mine pad") => `(tactic| fail "no line")
local macro_rules | `(tactic| walk_at "mine pad") => `(tactic| fail "no line")
local macro_rules | `(tactic| walk_at "mine pad") => `(tactic| fail "no line")
local macro_rules | `(tactic| walk_at "mine pad") => `(tactic| fail "no line")
local macro_rules | `(tactic| walk_at "mine pad") => `(tactic| fail "no line")
local macro_rules | `(tactic| walk_at "mine pad") => `(tactic| fail "no line")
local macro_rules | `(tactic| walk_at "mine pad") => `(tactic| fail "no line")
local macro_rules | `(tactic| walk_at "mine pad") => `(tactic| fail "no line")
local macro_rules | `(tactic| walk_at "mine pad") => `(tactic| fail "no line")
local macro_rules | `(tactic| walk_at "mine pad") => `(tactic| fail "no line")
local macro_rules | `(tactic| walk_at "mine pad") => `(tactic| fail "no line")
local macro_rules | `(tactic| walk_at "mine pad") => `(tactic| fail "no line")
local macro_rules | `(tactic| walk_at "mine pad") => `(tactic| fail "no line")
local macro_rules | `(tactic| walk_at "mine pad") => `(tactic| fail "no line")
local macro_rules | `(tactic| walk_at "mine pad") => `(tactic| fail "no line")
local macro_rules | `(tactic| walk_at "mine pad") => `(tactic| fail "no line")
local macro_rules | `(tactic| walk_at "mine pad") => `(tactic| fail "no line")
local macro_rules | `(tactic| walk_at "mine pad") => `(tactic| fail "no line")
local macro_rules | `(tactic| walk_at "mine pad") => `(tactic| fail "no line")
local macro_rules | `(tactic| walk_at "mine pad") => `(tactic| fail "no line")
local macro_rules | `(tactic| walk_at "mine pad") => `(tactic| fail "no line")
local macro_rules | `(tactic| walk_at "mine pad") => `(tactic| fail "no line")
local macro_rules | `(tactic| walk_at "mine pad") => `(tactic| fail "no line")
local macro_rules | `(tactic| walk_at "mine pad") => `(tactic| fail "no line")
local macro_rules | `(tactic| walk_at "mine pad") => `(tactic| fail "no line")
local macro_rules | `(tactic| walk_at "mine pad") => `(tactic| fail "no line")
local macro_rules | `(tactic| walk_at "mine pad") => `(tactic| fail "no line")
local macro_rules | `(tactic| walk_at "mine pad") => `(tactic| fail "no line")
local macro_rules | `(tactic| walk_at "mine pad") => `(tactic| fail "no line")
local macro_rules | `(tactic| walk_at "mine pad") => `(tactic| fail "no line")
local macro_rules | `(tactic| walk_at "mine pad") => `(tactic| fail "no line")
variable {w : World} {loose : List Str} {mean : ExcName → Option Value} {mg mb : Str → Option Value}
theorem c_sumM (ss sm se sb ts tm te tb : Int) (D1 D2 D3 : Addr) (n1 n2 n3 : Nat) (s1 s2 s3 s4 t1 t2 t3 t4 : Tok) (news : List (Addr × Obj))
    (m3 : (D3, listOf #[.ref D1, .ref D2, .ref D1] n3) ∈ news) (m1 : (D1, tup4 ss sm se sb s1 s2 s3 s4 n1) ∈ news) (m2 : (D2, tup4 ts tm te tb t1 t2 t3 t4 n2) ∈ news)
    (hss : ss = 0 ∨ ss = 1) (hts : ts = 0 ∨ ts = 1) (hsm : 0 ≤ sm) (htm : 0 ≤ tm) (hsb : sb = bl sm) (htb : tb = bl tm) (hsb2 : bl sm ≤ 100) (htb2 : bl tm ≤ 100)
    (hse : -45 ≤ se ∧ se ≤ 45) (hte : -45 ≤ te ∧ te ≤ 45)
    (hzs : sm ≠ 0 ∨ (ss = 0 ∧ se = 0 ∧ sb = 0)) (hzt : tm ≠ 0 ∨ (ts = 0 ∧ te = 0 ∧ tb = 0)) (r : Str) :
    Con w loose mean mg mb 92 6 [.ref D3] news (fun h₀ L m s Q => ∀ (v : Value) (news' : List (Addr × Obj)) (h' : Heap) (tk' : Nat), Fr h₀ L h' m → News h₀ L h' news' → QuadAt news' v (RZ (sumZ ss sm se ts tm te) (-45) 0 r) → Q v { s with heap := h', toks := tk' }) := by
  refine unbox ?_
  simp (disch := (k_dflt (
  intro dp un gd cn cs a ccd cl outer A₀ base h₀ L m s Q E B F X N T hk hdp hun hret
  refine c_sum ss sm se sb ts tm te tb D1 D2 D3 n1 n2 n3 s1 s2 s3 s4 t1 t2 t3 t4 hss hts hsm htm hsb htb hsb2 htb2 hse hte hzs hzt r dp un gd cn cs a ccd cl outer A₀ base h₀ L m s Q E B F X (fun p hp => N p ?_) T hk hdp hun (fun v tl h' tk' F' N' hq => hret v _ h' tk' F' N' hq)
  rcases List.mem_cons.mp hp with rfl | hp
  · exact m3
  rcases List.mem_cons.mp hp with rfl | hp
  · exact m1
  rcases List.mem_cons.mp hp with rfl | hp
  · exact m2
  cases hp
  ))) only [↓box_t]
local macro_rules | `(tactic| walk_at "eval IfExp") => `(tactic| (k_here; (with_reducible show wpAny _ _ (eval (PySem.Expr.IfExp _ (PySem.Expr.BinOp (PySem.Expr.Constant _ _ _) _ _ _) _ _) _) _ _ _); (fail_if_success (with_reducible show wpAny _ _ _ (CutP _) _ _)); (refine' cut_prec ?_ ?_); rotate_left; intro x9 t9 tk9 p9 p8; (try dsimp only)))
local macro_rules | `(tactic| walk_at "eval IfExp") => `(tactic| (k_here; (with_reducible show wpAny _ _ (eval (PySem.Expr.IfExp _ (PySem.Expr.Tuple _ _ _) (PySem.Expr.Tuple _ _ _) _) _) _ _ _); (fail_if_success (with_reducible show wpAny _ _ _ (CutB _ _ _ _ _ _) _ _)); (refine' cut_bits ?k1 ?k2 ?k3 ?_ ?_; (case k1 => k_asm); (case k2 => k_asm); (case k3 => with_unfolding_all rfl)); rotate_left; intro D9 x9 y9 t9 t8 n9 h9 tk9 b9 F9 N9; (try dsimp only)))
local macro_rules | `(tactic| walk_at "eval Subscript") => `(tactic| (k_here; (with_reducible show wpAny _ _ (eval (PySem.Expr.Subscript (PySem.Expr.List _ _) _ _) _) _ _ _); (fail_if_success (with_reducible show wpAny _ _ _ (CutR _ _ _ _ _) _ _)); (refine' cut_rnd ?k1 ?k2 ?_ ?_; (case k1 => k_asm); (case k2 => k_asm)); rotate_left; intro r9 t9 h9 tk9 b9 F9 N9; (try dsimp only)))
local macro_rules | `(tactic| walk_at "CutP") => `(tactic| (refine cutP ?_; constructor <;> first | omega | l_fact))
local macro_rules | `(tactic| walk_at "CutR") => `(tactic| (refine' cutR ?k1 ?k2 ?k3 ?k4; (case k1 => first | exact RndMode.n | exact RndMode.f | exact RndMode.c | exact RndMode.d | exact RndMode.u); (case k2 => k_asm); (case k3 => k_asm); (case k4 => exact fun _ h => by (repeat' (first | with_reducible assumption | with_reducible apply List.mem_cons_of_mem)))))
local macro_rules | `(tactic| walk_at "CutB") => `(tactic| (refine' cutB ?k1 ?k2 ?k3 ?k4 ?k5; (case k2 => k_asm); (case k3 => k_asm); (case k5 => k_mem); (case k4 => exact fun _ h => by (repeat' (first | with_reducible assumption | with_reducible apply List.mem_cons_of_mem))); (case k1 => first | exact Or.inl ⟨rfl, rfl⟩ | exact Or.inr ⟨rfl, rfl, by omega⟩)))
local macro_rules | `(tactic| walk_at "binaryOp Mult int int") => `(tactic| ((with_reducible refine o_mul ?o1 ?_); (case o1 => first | exact mul_ok (by omega) (by omega) | exact PySem.IntMulOk.of_left (by decide)); intro t' tk; (try dsimp only)))
local macro_rules | `(tactic| walk_at "eval Call") => `(tactic| (k_here; (with_reducible show wpAny _ _ (eval (PySem.Expr.Call (PySem.Expr.Name _ _) _ [] _) _) _ _ _); k_dflt (refine Call_ ?_)))
local macro_rules | `(tactic| walk_at "call ref") => `(tactic| (k_here; (with_reducible show wpAny _ _ (call (Value.ref 99) _) _ _ _); k_dflt (refine' c_mixed _ _ _ _ _ _ ?qa  _ _ _ _ _ _ _ _ _ _ _ _ _ _ _ _ _ ?k1 ?k2 ?k3 ?k4 ?k5 ?kK ?kL ?kI ?kn ?kd ?ku ?_; (case k1 => k_asm); (case k2 => k_asm); (case k3 => k_asm); (case k4 => k_asm); (case k5 => k_asm); (case kK => first | exact rfl | assumption); (case kL => assumption); (case kI => assumption); (case kn => omega); (case kd => ktr_room); (case ku => ktr_units); (case qa => decide)); intro x9 t9 h9 tk9 p9 F9 N9; (try dsimp only); (try k_fold)))
local macro_rules | `(tactic| walk_at "call ref") => `(tactic| (k_here; (with_reducible show wpAny _ _ (call (Value.ref 106) _) _ _ _); k_dflt (refine' c_raw _ _ _ _ _ _ _ ?qa ?qb ?qc  _ _ _ _ _ _ _ _ _ _ _ _ _ _ _ _ _ ?k1 ?k2 ?k3 ?k4 ?k5 ?kK ?kd ?ku ?_; (case k1 => k_asm); (case k2 => k_asm); (case k3 => k_asm); (case k4 => k_asm); (case k5 => k_asm); (case kK => first | exact rfl | assumption); (case kd => ktr_room); (case ku => ktr_units); (case qa => with_reducible assumption); (case qb => omega); (case qc => omega)); intro D9 sg9 man9 ex9 bc9 ta9 tb9 tc9 td9 n9 h9 tk9 ok9 F9 N9; (rcases ok9 with ⟨o1, o2, o3, o4, o5, o6, o7⟩); (try dsimp only); (try k_fold)))
local macro_rules | `(tactic| walk_at "call ref") => `(tactic| (k_here; (with_reducible show wpAny _ _ (call (Value.ref 113) _) _ _ _); k_dflt (refine' c_worth _ _ _ _ _ _ _ _ _ _ _ ?qa ?qb ?qc ?qd  _ _ _ _ _ _ _ _ _ _ _ _ _ _ _ _ _ ?k1 ?k2 ?k3 ?k4 ?k5 ?kK ?kd ?ku ?_; (case k1 => k_asm); (case k2 => k_asm); (case k3 => k_asm); (case k4 => k_asm); (case k5 => k_asm); (case kK => first | exact rfl | assumption); (case kd => ktr_room); (case ku => ktr_units); (case qa => k_mem); (case qb => with_reducible assumption); (case qc => omega); (case qd => omega)); intro D9 ta9 tb9 n9 h9 tk9 F9 N9 b9 b8; (try dsimp only); (try k_fold)))
local macro_rules | `(tactic| walk_at "call ref") => `(tactic| (k_here; (with_reducible show wpAny _ _ (call (Value.ref 76) _) _ _ _); k_dflt (refine' c_add4 _ _ _ _ _ _ _ _ _ _ _ _ _ _ _ _ _ _ _ _ _ _ _ _ _ ?qa ?qb ?qc ?qd ?qe ?qf ?qg ?qh ?qi ?qj ?qk ?ql ?qm ?qn ?qo ?qp ?qq  _ _ _ _ _ _ _ _ _ _ _ _ _ _ _ _ _ ?k1 ?k2 ?k3 ?k4 ?k5 ?kK ?kd ?ku ?_; (case k1 => k_asm); (case k2 => k_asm); (case k3 => k_asm); (case k4 => k_asm); (case k5 => k_asm); (case kK => first | exact rfl | assumption); (case kd => ktr_room); (case ku => ktr_units); (case qa => k_mem); (case qb => k_mem); (case qc => with_reducible assumption); (case qd => with_reducible assumption); (case qe => with_reducible assumption); (case qf => with_reducible assumption); (case qg => with_reducible assumption); (case qh => with_reducible assumption); (case qi => omega); (case qj => omega); (case qk => omega); (case ql => omega); (case qm => omega); (case qn => with_reducible assumption); (case qo => with_reducible assumption); (case qp => omega); (case qq => exact RndMode.out (by with_reducible assumption))); intro v9 tl9 h9 tk9 F9 N9 q9; (try dsimp only); (try k_fold)))
local macro_rules | `(tactic| walk_at "call ref") => `(tactic| (k_here; (with_reducible show wpAny _ _ (call (Value.ref 84) _) _ _ _); k_dflt (refine' c_sub _ _ _ _ _ _ _ _ _ _ _ _ _ _ _ _ _ _ _ _ _ _ _ _ _ ?qa ?qb ?qc ?qd ?qe ?qf ?qg ?qh ?qi ?qj ?qk ?ql ?qm ?qn ?qo ?qp ?qq  _ _ _ _ _ _ _ _ _ _ _ _ _ _ _ _ _ ?k1 ?k2 ?k3 ?k4 ?k5 ?kK ?kd ?ku ?_; (case k1 => k_asm); (case k2 => k_asm); (case k3 => k_asm); (case k4 => k_asm); (case k5 => k_asm); (case kK => first | exact rfl | assumption); (case kd => ktr_room); (case ku => ktr_units); (case qa => k_mem); (case qb => k_mem); (case qc => with_reducible assumption); (case qd => with_reducible assumption); (case qe => with_reducible assumption); (case qf => with_reducible assumption); (case qg => with_reducible assumption); (case qh => with_reducible assumption); (case qi => omega); (case qj => omega); (case qk => omega); (case ql => omega); (case qm => omega); (case qn => with_reducible assumption); (case qo => with_reducible assumption); (case qp => omega); (case qq => exact RndMode.out (by with_reducible assumption))); intro v9 tl9 h9 tk9 F9 N9 q9; (try dsimp only); (try k_fold)))
local macro_rules | `(tactic| walk_at "call ref") => `(tactic| (k_here; (with_reducible show wpAny _ _ (call (Value.ref 92) _) _ _ _); k_dflt (refine' c_sumM _ _ _ _ _ _ _ _ _ _ _ _ _ _ _ _ _ _ _ _ _ _ _ ?qa ?qb ?qc ?qd ?qe ?qf ?qg ?qh ?qi ?qj ?qk ?ql ?qm ?qn ?qo (Str.ofString "n")  _ _ _ _ _ _ _ _ _ _ _ _ _ _ _ _ _ ?k1 ?k2 ?k3 ?k4 ?k5 ?kK ?kd ?ku ?_; (case k1 => k_asm); (case k2 => k_asm); (case k3 => k_asm); (case k4 => k_asm); (case k5 => k_asm); (case kK => first | exact rfl | assumption); (case kd => ktr_room); (case ku => ktr_units); (case qa => k_mem); (case qb => k_mem); (case qc => k_mem); (case qd => with_reducible assumption); (case qe => with_reducible assumption); (case qf => with_reducible assumption); (case qg => with_reducible assumption); (case qh => with_reducible assumption); (case qi => with_reducible assumption); (case qj => omega); (case qk => omega); (case ql => omega); (case qm => omega); (case qn => with_reducible assumption); (case qo => with_reducible assumption)); intro v9 tl9 h9 tk9 F9 N9 q9; (try dsimp only); (try k_fold)))
local macro_rules | `(tactic| walk_at "call ref") => `(tactic| (k_here; (with_reducible show wpAny _ _ (call (Value.ref 127) _) _ _ _); k_dflt (refine' c_right _ _ _ _ _ _ _ _ _ _ _ _ ?qa ?qb ?qc ?qd ?qe ?qf ?qg  _ _ _ _ _ _ _ _ _ _ _ _ _ _ _ _ _ ?k1 ?k2 ?k3 ?k4 ?k5 ?kK ?kd ?ku ?_; (case k1 => k_asm); (case k2 => k_asm); (case k3 => k_asm); (case k4 => k_asm); (case k5 => k_asm); (case kK => first | exact rfl | assumption); (case kd => ktr_room); (case ku => ktr_units); (case qa => with_reducible assumption); (case qd => exact below_pw _ _); (case qc => exact dn_sum (by omega) (by omega)); (case qb => first | with_reducible exact law_add.symm | with_reducible exact (law_sub (by with_reducible assumption)).symm | with_reducible exact (law_sub2 (by with_reducible assumption)).symm | with_reducible exact law_add2.symm | with_reducible exact law_sumr (by omega) (by omega)); (case qe => omega); (case qf => first | exact sum_bl (one_bl (by omega) (by omega) (by omega)) (one_bl (by omega) (by omega) (by omega)) | exact dif_bl (one_bl (by omega) (by omega) (by omega)) (one_bl (by omega) (by omega) (by omega)) | exact two_bl (one_bl (by omega) (by omega) (by omega)) (one_bl (by omega) (by omega) (by omega))); (case qg => with_reducible assumption)); intro h9 tk9 F9 N9; (try (replace N9 := cb_drop N9 (fun _ h => List.mem_append_left _ h))); (try dsimp only); (try k_fold)))
theorem law_holds : PySem.Challenge.rw_ah5006_01.Holds := by
  refine hd ?_
  w_on
  w_strict (k_go0; (all_goals try k_fold))
  w_strict k_steps
  all_goals (try k_data)
end
end Mine
theorem PySem.Challenge.cw_ah5006_01_holds : PySem.Challenge.rw_ah5006_01.Holds :=
  Mine.law_holds
