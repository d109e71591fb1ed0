import PyProof.Rows.All
import Wide.All
import OpenK.AllK
import Wide.FinOn
import Lean
import PySem.Challenge.RW_wr0011_01
set_option Elab.async false
/-! part H1 -/
namespace Mine
open PySem PySem.W PyProof.Rows
set_option maxRecDepth 100000 in
set_option maxHeartbeats 8000000 in
open_top hd for PySem.Challenge.rw_wr0011_01
end Mine
/-! part T0 -/
namespace Mine
open PySem PySem.W PyProof.Rows
set_option maxRecDepth 100000
theorem runs_toks {M : Model} {Γ : Ctx} {p : Pos} {t : Sem Fin} {fs : List Frame} {s : Shared} {e : End} {s' : Shared} (h : Runs M Γ p t fs s e s') : s.toks ≤ s'.toks := by
  induction h <;> first | exact Nat.le_refl _ | assumption | ((try simp only [Shared.setGen] at *); omega)
theorem wakes_toks {M : Model} {Γ : Ctx} {p : Pos} {g : Nat} {r : Resume} {s : Shared} {res : GenResult} {s' : Shared} (h : Wakes M Γ p g r s res s') : s.toks ≤ s'.toks := by
  unfold Wakes at h
  split at h
  · exact h.elim
  · split at h
    · obtain ⟨e₁, s₁, h1, _, _, rfl⟩ := h; have q := runs_toks h1; exact q
    · rw [h.2]; exact Nat.le_refl _
    · rw [h.2]; exact Nat.le_refl _
  · obtain ⟨e₁, s₁, h1, _, _, rfl⟩ := h; have q := runs_toks h1; exact q
  · rw [h.2]; exact Nat.le_refl _
  · rw [h.2]; exact Nat.le_refl _
theorem wp_toks {α : Type} {M : Model} {Γ : Ctx} {n : Nat} {Q : α → Pos → Shared → Prop} {E : Value → Pos → Shared → Prop} (t : Sem α) :
    ∀ (p : Pos) (s : Shared), n ≤ s.toks → Sem.wp M Γ t (fun a p' s' => n ≤ s'.toks → Q a p' s') (fun e p' s' => n ≤ s'.toks → E e p' s') p s → Sem.wp M Γ t Q E p s := by
  induction t with
  | pure a => intro p s hn h; exact h hn
  | raise e => intro p s hn h; exact h hn
  | unsupported => intro p s hn h; exact h
  | finish => intro p s hn h; exact h
  | rule _ k ih => intro p s hn h; exact ih _ p s hn h
  | «at» p' k ih => intro p s hn h; exact ih _ p' s hn h
  | load a _ k ih => intro p s hn h; obtain ⟨o, ho, h⟩ := h; exact ⟨o, ho, ih o p s hn h⟩
  | update a _ f k ih => intro p s hn h; exact ⟨h.1, ih _ p _ hn h.2⟩
  | loadIfAlive a k ih => intro p s hn h; exact ih _ p s hn h
  | point _ k ih => intro p s hn h; exact ih _ p s hn h
  | register => intro p s hn h; exact h
  | alloc o k ih => intro p s hn h; exact ih _ p _ hn h
  | fresh k ih => intro p s hn h; exact ih _ p _ (Nat.le_succ_of_le hn) h
  | ask k ih => intro p s hn h; exact ih _ p _ hn h
  | choose src n k ih => intro p s hn h; exact ⟨h.1, ih _ p _ hn h.2⟩
  | os q _ k ih => intro p s hn h; exact ih _ p _ hn h
  | call c h _ _ k ih => intro p s hn hh; obtain ⟨r, s', h1, h2⟩ := hh; exact ⟨r, s', h1, ih r p s' (Nat.le_trans hn (runs_toks h1)) h2⟩
  | handled own k ih => intro p s hn h; exact ih _ p _ hn h
  | genState g k ih => intro p s hn h; obtain ⟨st, h1, h2⟩ := h; exact ⟨st, h1, ih _ p s hn h2⟩
  | newGen c k ih => intro p s hn h; exact ih _ p _ hn h
  | resume g r _ k ih => intro p s hn h; obtain ⟨res, s', h1, h2⟩ := h; exact ⟨res, s', h1, ih res p s' (Nat.le_trans hn (wakes_toks h1)) h2⟩
  | yield => intro p s hn h; exact h
  | stack k ih => intro p s hn h; exact ih _ p _ hn h
  | fork => intro p s hn h; exact h
  | thread k ih => intro p s hn h; exact ih _ p _ hn h
  | await => intro p s hn h; exact h
/-- what a tree leaves has no fewer tokens than it met -/
theorem wpAny_toks {α : Type} {M : Model} {A : Around} {t : Sem α} {Q : α → Shared → Prop} {E : Value → Shared → Prop} {s : Shared}
    (h : wpAny M A t (fun a s' => s.toks ≤ s'.toks → Q a s') E s) : wpAny M A t Q E s := fun Γ p hΓ =>
  wp_toks t p s (Nat.le_refl _) (Sem.wp_mono M Γ t (fun _ _ _ h => h) (fun e _ s' (h : E e s') (_ : s.toks ≤ s'.toks) => h) p s (h Γ p hΓ))
end Mine
/-! part B1 -/
namespace Mine
open PySem PySem.W PyProof.Rows
open PySem.Spec PySem.Calls
set_option maxRecDepth 100000
/-- what a call of the def at f gives back, from every state, k frames deep at most -/
abbrev Cl (k : Nat) (w : World) (mean : ExcName → Option Value) (mg mb : Str → Option Value) (f : Addr) (news : List (Addr × Obj)) (pre : Prop) (vs : List Value) (R : Tok → Value) : Prop :=
  ∀ (dp un : Nat) (gd : Option (List Code)) (cn : Str) (cs : Scope) (a : Addr) (ccd : Value) (cl : List (Str × Addr)) (outer : List Env) (A₀ : Around) (base h₀ : Heap) (L : Addr) (m : Str → Option Value) (s : Shared) (Q E : Value → Shared → Prop),
    Below A₀ base outer h₀ → Fr h₀ L s.heap m → (hd.heap_39 w.params).In h₀ → News h₀ L s.heap news → Top hd.view_39 (looseW hd.view_39 []) mean mg mb h₀ → cs.kind = .function →
    pre → dp + k < recursionLimit → un + 8 * k < cLine →
    (∀ (t : Tok) (h' : Heap) (tk' : Nat), Fr h₀ L h' m → News h₀ L h' news → Q (R t) { s with heap := h', toks := tk' }) →
      wpAny (model PySem.Challenge.rw_wr0011_01.row.prog w) (ktrTop dp un gd cn cs L a ccd cl outer) (call (.ref f) vs) Q E s
theorem Cl.use {k : Nat} {w : World} {mean : ExcName → Option Value} {mg mb : Str → Option Value} {f : Addr} {news : List (Addr × Obj)} {pre : Prop} {vs : List Value} {R : Tok → Value}
    {dp un : Nat} {gd : Option (List Code)} {cn : Str} {cs : Scope} {a : Addr} {ccd : Value} {cl : List (Str × Addr)} {outer : List Env} {A₀ : Around} {base h₀ : Heap} {L : Addr} {m : Str → Option Value} {s : Shared} {Q E : Value → Shared → Prop}
    (C : Cl k w mean mg mb f news pre vs R) (B : Below A₀ base outer h₀) (F : Fr h₀ L s.heap m) (X : (hd.heap_39 w.params).In h₀) (N : News h₀ L s.heap news) (T : Top hd.view_39 (looseW hd.view_39 []) mean mg mb h₀) (hk : cs.kind = .function)
    (hp : pre) (hd' : dp + k < recursionLimit) (hu : un + 8 * k < cLine)
    (ret : ∀ (t : Tok) (h' : Heap) (tk' : Nat), s.toks ≤ tk' → Fr h₀ L h' m → News h₀ L h' news → Q (R t) { s with heap := h', toks := tk' }) :
    wpAny (model PySem.Challenge.rw_wr0011_01.row.prog w) (ktrTop dp un gd cn cs L a ccd cl outer) (call (.ref f) vs) Q E s :=
  wpAny_toks (C dp un gd cn cs a ccd cl outer A₀ base h₀ L m s _ E B F X N T hk hp hd' hu (fun t h' tk' F' N' ht => ret t h' tk' ht F' N'))
theorem cb_retY {h₀ h' : Heap} {L : Addr} {m : Str → Option Value} {news : List (Addr × Obj)} {s : Shared} {Q : Value → Shared → Prop} {x y : Array UInt8} {t : Tok} {tk' : Nat}
    (hret : ∀ (t : Tok) (h' : Heap) (tk' : Nat), Fr h₀ L h' m → News h₀ L h' news → Q (.bytes x t) { s with heap := h', toks := tk' }) (e : y = x) (F : Fr h₀ L h' m) (N : News h₀ L h' news) : Q (.bytes y t) { s with heap := h', toks := tk' } := by
  subst e
  exact hret t h' tk' F N
/-! ints -/
theorem bits_le {x : Int} {k : Nat} (h : x.natAbs < 2 ^ k) : Builtin.Int.intBits x ≤ k := by
  unfold Builtin.Int.intBits
  split
  · exact Nat.zero_le _
  · rename_i hx
    have h0 : x.natAbs ≠ 0 := by intro e; apply hx; simpa using e
    have := (Nat.log2_lt h0).mpr h
    omega
theorem not_pylong {a b : Int} (h : b.natAbs < 2 ^ 64) : ¬ (Builtin.divisionGoesByPylong a b) = true := by
  unfold Builtin.divisionGoesByPylong
  simp only [Bool.and_eq_true, decide_eq_true_eq, not_and]
  intro h1
  exfalso
  split at h1
  · omega
  · rename_i hb
    have h0 : b.natAbs ≠ 0 := by intro e; apply hb; simpa using e
    have := (Nat.log2_lt h0).mpr h
    omega
section
variable {prog : Program} {w : World} {A : Around} {E : Value → Shared → Prop} {s : Shared} {a b : Int} {t u : Tok} {Q : Value → Shared → Prop}
theorem m_lshift (h0 : 0 ≤ b) (hb : b ≤ 64) (ha : a.natAbs < 2 ^ 120) (h : Q (.int (a * 2 ^ b.toNat) s.toks) { s with toks := s.toks + 1 }) :
    wpAny (model prog w) A (inplaceOp .LShift (.int a t) (.int b u)) Q E s :=
  ilshift_int h0 (by have := bits_le ha; omega) h
theorem m_rshift (h0 : 0 ≤ b) (ha : 0 ≤ a) (h : Q (.int (a / 2 ^ b.toNat) s.toks) { s with toks := s.toks + 1 }) :
    wpAny (model prog w) A (inplaceOp .RShift (.int a t) (.int b u)) Q E s := by
  by_cases hb : b ≥ ((Builtin.Int.intBits a : Nat) : Int)
  · refine AutoIntOps.irshift_1 (by omega) hb ?_
    rw [if_neg (by omega)]
    show Q _ _
    have e : a / 2 ^ b.toNat = 0 := by
      refine Int.ediv_eq_zero_of_lt ha ?_
      have hx : a.natAbs < 2 ^ (Builtin.Int.intBits a) := by
        unfold Builtin.Int.intBits
        split
        · rename_i hz; have : a = 0 := by simpa using hz
          subst this; decide
        · rename_i hz; exact Nat.lt_log2_self
      have h2 : (2 : Nat) ^ (Builtin.Int.intBits a) ≤ 2 ^ b.toNat := Nat.pow_le_pow_right (by decide) (by omega)
      have h3 : a.natAbs < 2 ^ b.toNat := Nat.lt_of_lt_of_le hx h2
      have h4 : ((2 ^ b.toNat : Nat) : Int) = 2 ^ b.toNat := by norm_cast
      rw [← h4]
      omega
    rw [e] at h
    exact h
  · refine AutoIntOps.irshift_2 (by omega) hb ?_
    show Q _ _
    rw [Int.fdiv_eq_ediv_of_nonneg _ (Int.le_of_lt (Int.pow_pos (by decide)))]
    exact h
theorem m_floordiv (h0 : 0 < b) (hb : b.natAbs < 2 ^ 64) (h : Q (.int (a / b) s.toks) { s with toks := s.toks + 1 }) :
    wpAny (model prog w) A (inplaceOp .FloorDiv (.int a t) (.int b u)) Q E s := by
  refine AutoIntOps.ifloordiv_1 (by simp; omega) (not_pylong hb) ?_
  show Q _ _
  rw [Int.fdiv_eq_ediv_of_nonneg _ (by omega)]
  exact h
theorem m_mod (h0 : 0 < b) (h : Q (.int (a % b) s.toks) { s with toks := s.toks + 1 }) :
    wpAny (model prog w) A (inplaceOp .Mod (.int a t) (.int b u)) Q E s := by
  refine AutoIntOps.imod_1 (by simp; omega) ?_
  show Q _ _
  rw [Int.fmod_eq_emod_of_nonneg _ (by omega)]
  exact h
theorem m_mul (ha : a.natAbs < 2 ^ 64) (h : Q (.int (a * b) s.toks) { s with toks := s.toks + 1 }) :
    wpAny (model prog w) A (inplaceOp .Mult (.int a t) (.int b u)) Q E s :=
  AutoIntOps.imul_0 h (IntMulOk.of_left (bits_le ha))
theorem m_pow3 (_h0 : 2 ≤ a) (ha : a.natAbs < 2 ^ 64) (h : Q (.int (a ^ 3) s.toks) { s with toks := s.toks + 1 }) :
    wpAny (model prog w) A (inplaceOp .Pow (.int a t) (.int 3 u)) Q E s := by
  have := bits_le ha
  exact ipow_int (by decide) (by omega) h
end
end Mine
/-! part C1 -/
namespace Mine
open PySem PySem.W PyProof.Rows
open PySem.Spec PySem.Calls
set_option maxRecDepth 100000
section
local macro_rules | `(tactic| walk_at "inplaceOp") => `(tactic| (k_here; first
  | (with_reducible refine m_lshift (by omega) (by omega) (by omega) ?_)
  | (with_reducible refine m_rshift (by omega) (by omega) ?_)
  | (with_reducible refine m_floordiv (by omega) (by omega) ?_)
  | (with_reducible refine m_mod (by omega) ?_)
  | (with_reducible refine m_mul (by omega) ?_)
  | (with_reducible refine m_pow3 (by omega) ?_)))
local macro_rules | `(tactic| walk_at "inplaceOp Mod int int") => `(tactic| (k_here; (with_reducible refine m_mod (by omega) ?_)))
set_option maxHeartbeats 4000000 in
theorem c_iadd (w : World) (mean : ExcName → Option Value) (mg mb : Str → Option Value) (news : List (Addr × Obj)) (a b : Int) (ta tb : Tok) :
    Cl 1 w mean mg mb 49 news (True) [.int a ta, .int b tb] (fun t => .int (a + b) t) := by
  dsimp only [Cl]
  w_top off
  k_fill
  intro dp un gd cn cs ad ccd cl outer A₀ base h₀ L m s Q E B F X N T hk hpre hd hu hret
  refine wpAny_call ?_
  k_dflt cell_enter
  k_steps
  all_goals cb_end hret
set_option maxHeartbeats 4000000 in
theorem c_ifloordiv (w : World) (mean : ExcName → Option Value) (mg mb : Str → Option Value) (news : List (Addr × Obj)) (a b : Int) (ta tb : Tok) :
    Cl 1 w mean mg mb 56 news (0 < b ∧ b.natAbs < 2 ^ 64) [.int a ta, .int b tb] (fun t => .int (a / b) t) := by
  dsimp only [Cl]
  w_top off
  k_fill
  intro dp un gd cn cs ad ccd cl outer A₀ base h₀ L m s Q E B F X N T hk hpre hd hu hret
  refine wpAny_call ?_
  k_dflt cell_enter
  k_steps
  all_goals cb_end hret
set_option maxHeartbeats 4000000 in
theorem c_ilshift (w : World) (mean : ExcName → Option Value) (mg mb : Str → Option Value) (news : List (Addr × Obj)) (a b : Int) (ta tb : Tok) :
    Cl 1 w mean mg mb 63 news (0 ≤ b ∧ b ≤ 64 ∧ a.natAbs < 2 ^ 120) [.int a ta, .int b tb] (fun t => .int (a * 2 ^ b.toNat) t) := by
  dsimp only [Cl]
  w_top off
  k_fill
  intro dp un gd cn cs ad ccd cl outer A₀ base h₀ L m s Q E B F X N T hk hpre hd hu hret
  refine wpAny_call ?_
  k_dflt cell_enter
  k_steps
  all_goals cb_end hret
set_option maxHeartbeats 4000000 in
theorem c_imod (w : World) (mean : ExcName → Option Value) (mg mb : Str → Option Value) (news : List (Addr × Obj)) (a b : Int) (ta tb : Tok) :
    Cl 1 w mean mg mb 70 news (0 < b) [.int a ta, .int b tb] (fun t => .int (a % b) t) := by
  dsimp only [Cl]
  w_top off
  k_fill
  intro dp un gd cn cs ad ccd cl outer A₀ base h₀ L m s Q E B F X N T hk hpre hd hu hret
  refine wpAny_call ?_
  k_dflt cell_enter
  k_steps
  all_goals cb_end hret
set_option maxHeartbeats 4000000 in
theorem c_imul (w : World) (mean : ExcName → Option Value) (mg mb : Str → Option Value) (news : List (Addr × Obj)) (a b : Int) (ta tb : Tok) :
    Cl 1 w mean mg mb 77 news (a.natAbs < 2 ^ 64) [.int a ta, .int b tb] (fun t => .int (a * b) t) := by
  dsimp only [Cl]
  w_top off
  k_fill
  intro dp un gd cn cs ad ccd cl outer A₀ base h₀ L m s Q E B F X N T hk hpre hd hu hret
  refine wpAny_call ?_
  k_dflt cell_enter
  k_steps
  all_goals cb_end hret
set_option maxHeartbeats 4000000 in
theorem c_ipow (w : World) (mean : ExcName → Option Value) (mg mb : Str → Option Value) (news : List (Addr × Obj)) (a : Int) (ta tb : Tok) :
    Cl 1 w mean mg mb 84 news (a.natAbs < 2 ^ 64) [.int a ta, .int 3 tb] (fun t => .int (a ^ 3) t) := by
  dsimp only [Cl]
  w_top off
  k_fill
  intro dp un gd cn cs ad ccd cl outer A₀ base h₀ L m s Q E B F X N T hk hpre hd hu hret
  refine wpAny_call ?_
  k_dflt cell_enter
  k_steps
  all_goals cb_end hret
set_option maxHeartbeats 4000000 in
theorem c_irshift (w : World) (mean : ExcName → Option Value) (mg mb : Str → Option Value) (news : List (Addr × Obj)) (a b : Int) (ta tb : Tok) :
    Cl 1 w mean mg mb 91 news (0 ≤ b ∧ 0 ≤ a) [.int a ta, .int b tb] (fun t => .int (a / 2 ^ b.toNat) t) := by
  dsimp only [Cl]
  w_top off
  k_fill
  intro dp un gd cn cs ad ccd cl outer A₀ base h₀ L m s Q E B F X N T hk hpre hd hu hret
  refine wpAny_call ?_
  k_dflt cell_enter
  k_steps
  all_goals cb_end hret
set_option maxHeartbeats 4000000 in
theorem c_neg (w : World) (mean : ExcName → Option Value) (mg mb : Str → Option Value) (news : List (Addr × Obj)) (a : Int) (ta : Tok) :
    Cl 1 w mean mg mb 42 news (True) [.int a ta] (fun t => .int (-a) t) := by
  dsimp only [Cl]
  w_top off
  k_fill
  intro dp un gd cn cs ad ccd cl outer A₀ base h₀ L m s Q E B F X N T hk hpre hd hu hret
  refine wpAny_call ?_
  k_dflt cell_enter
  k_steps
  all_goals cb_end hret
end
end Mine
/-! part C2 -/
namespace Mine
open PySem PySem.W PyProof.Rows
set_option maxRecDepth 100000
/-- the letters A..P of a number, base 16 -/
noncomputable def apN (n : Nat) : List Nat := if _h : n = 0 then [] else apN (n / 16) ++ [65 + n % 16]
termination_by n
decreasing_by omega
noncomputable def apB (n : Int) : Array UInt8 := ((apN n.toNat).map UInt8.ofNat).toArray
theorem apN_zero : apN 0 = [] := by rw [apN]; simp
theorem apN_pos {n : Nat} (h : n ≠ 0) : apN n = apN (n / 16) ++ [65 + n % 16] := by rw [apN]; simp [h]
theorem apN_length_le : ∀ (k n : Nat), n < 16 ^ k → (apN n).length ≤ k
  | 0, n, h => by
    have : n = 0 := by simpa using h
    subst this; simp [apN_zero]
  | k + 1, n, h => by
    by_cases h0 : n = 0
    · subst h0; simp [apN_zero]
    · rw [apN_pos h0, List.length_append, List.length_singleton]
      have : n / 16 < 16 ^ k := by rw [Nat.div_lt_iff_lt_mul (by decide)]; rw [Nat.pow_succ] at h; exact h
      have := apN_length_le k _ this
      omega
abbrev apTab : Array UInt8 := #[65, 66, 67, 68, 69, 70, 71, 72, 73, 74, 75, 76, 77, 78, 79, 80]
theorem apTab_all : ∀ k : Fin 16, KBy.picked apTab (some (k.val : Int)) (some ((k.val : Int) + 1)) = #[UInt8.ofNat (65 + k.val)] := by decide +kernel
theorem apTab_picked {k : Int} (h0 : 0 ≤ k) (h1 : k < 16) : KBy.picked apTab (some k) (some (k + 1)) = #[UInt8.ofNat (65 + k.toNat)] := by
  have := apTab_all ⟨k.toNat, by omega⟩
  have e : ((k.toNat : Nat) : Int) = k := Int.toNat_of_nonneg h0
  simp only [e] at this
  exact this
section
variable {prog : Program} {w : World} {A : Around} {E : Value → Shared → Prop} {s : Shared} {value slice : PySem.Expr} {t : Tok} {h₀ : Heap} {L : Addr} {m : PySem.Str → Option Value} {news : List (Addr × Obj)} {k : Int} {tl tu : Tok} {Q : Value → Shared → Prop}
theorem ap_slice (hF : Fr h₀ L s.heap m) (hN : News h₀ L s.heap news) (h0 : 0 ≤ k) (h1 : k < 16)
    (h : ∀ h' t' k', Fr h₀ L h' m → News h₀ L h' news → Q (.bytes #[UInt8.ofNat (65 + k.toNat)] t') { s with heap := h', toks := k' })
    (hs : subscripted slice false (.bytes apTab t) (.ref s.heap.objs.size) = operate [.ref s.heap.objs.size, .bytes apTab t] (getItem (.bytes apTab t) (.ref s.heap.objs.size)) := by with_unfolding_all rfl)
    (ht : ∀ r, letTemporaryGo value (.bytes apTab t) r = pure () := by intro _; with_unfolding_all rfl) :
    wpAny (model prog w) A (subscriptTail value slice (.bytes apTab t) (.ref s.heap.objs.size)) Q E { s with heap := s.heap.push { cls := .type "slice", data := .fields #[.int k tl, .int (k + 1) tu, .none] } } := by
  refine KBc.slice_K hF hN (lo := some k) (hi := some (k + 1)) rfl (.int _ _) (.int _ _) (by rw [KBw.ints_length]; decide) ?_ hs ht
  intro h' t' k' F' N' _
  rw [apTab_picked h0 h1]
  exact h h' t' k' F' N'
end
section
local macro_rules | `(tactic| walk_at "subscriptTail Name Slice bytes ref") => `(tactic| (k_here; (with_reducible rename Fr _ _ _ _ => F'); (with_reducible rename News _ _ _ _ => N'); (refine ap_slice (s := ⟨_, _, _, _, _⟩) F' N' (by rw [Int.fmod_eq_emod_of_nonneg _ (by decide)]; omega) (by rw [Int.fmod_eq_emod_of_nonneg _ (by decide)]; omega) ?_); intro _ _ _ _ _))
/-- the loop of Int2AP: what is still to come, and what stands -/
def I2 (n0 num : Int) (val : Array UInt8) : Prop := n0 < 2 ^ 120 ∧ num ≤ n0 ∧ apB num ++ val = apB n0
theorem apB_size {n : Int} (h : n < 2 ^ 120) : (apB n).size ≤ 30 := by
  unfold apB
  rw [List.size_toArray, List.length_map]
  refine apN_length_le 30 _ ?_
  have : (16 : Nat) ^ 30 = 2 ^ 120 := by decide
  rw [this]
  omega
theorem I2_size {n0 num : Int} {val : Array UInt8} (h : I2 n0 num val) : val.size ≤ 30 := by
  obtain ⟨h1, h2, h3⟩ := h
  have := congrArg Array.size h3
  rw [Array.size_append] at this
  have := apB_size h1
  omega
theorem I2_start {n0 : Int} (h0 : 0 ≤ n0) (h : n0 < 2 ^ 120) : 0 ≤ n0 ∧ (#[] : Array UInt8).size ≤ 100 ∧ I2 n0 n0 #[] := ⟨h0, by decide, h, Int.le_refl _, by simp⟩
theorem apB_pos {n : Int} (h0 : 0 ≤ n) (h : n ≠ 0) : apB n = apB (n.fdiv 16) ++ #[UInt8.ofNat (65 + (n.fmod 16).toNat)] := by
  have e1 : (n.fdiv 16).toNat = n.toNat / 16 := by rw [Int.fdiv_eq_ediv_of_nonneg _ (by decide)]; omega
  have e2 : (n.fmod 16).toNat = n.toNat % 16 := by rw [Int.fmod_eq_emod_of_nonneg _ (by decide)]; omega
  unfold apB
  rw [e1, e2, apN_pos (n := n.toNat) (by omega)]
  simp
theorem I2_step {n0 num : Int} {val : Array UInt8} (h0 : 0 ≤ num) (hn : num ≠ 0) (h : I2 n0 num val) :
    0 ≤ num.fdiv 16 ∧ (#[UInt8.ofNat (65 + (num.fmod 16).toNat)] ++ val).size ≤ 100 ∧ I2 n0 (num.fdiv 16) (#[UInt8.ofNat (65 + (num.fmod 16).toNat)] ++ val) := by
  have hd : num.fdiv 16 = num / 16 := Int.fdiv_eq_ediv_of_nonneg _ (by decide)
  have hI : I2 n0 (num.fdiv 16) (#[UInt8.ofNat (65 + (num.fmod 16).toNat)] ++ val) := by
    refine ⟨h.1, ?_, ?_⟩
    · rw [hd]; have := h.2.1; omega
    · have := h.2.2
      rw [apB_pos h0 hn] at this
      rw [← this, Array.append_assoc]
  exact ⟨by rw [hd]; omega, by have := I2_size hI; omega, hI⟩
theorem I2_less {num : Int} (h0 : 0 ≤ num) (hn : num ≠ 0) : (num.fdiv 16).toNat < num.toNat := by
  rw [Int.fdiv_eq_ediv_of_nonneg _ (by decide)]; omega
theorem I2_end {a num : Int} {val : Array UInt8} (ha : 0 ≤ a) (hz : num = 0) (h : I2 (if a < 0 then -a else a) num val) : val = apB a := by
  rw [if_neg (by omega)] at h
  have h3 := h.2.2
  subst hz
  rw [← h3]
  show val = apB 0 ++ val
  unfold apB
  simp [apN_zero]
set_option maxHeartbeats 4000000 in
theorem c_Int2AP (w : World) (mean : ExcName → Option Value) (mg mb : Str → Option Value) (news : List (Addr × Obj)) (a : Int) (ta : Tok) :
    Cl 1 w mean mg mb 35 news (0 ≤ a ∧ a < 2 ^ 120) [.int a ta] (fun t => .bytes (apB a) t) := by
  dsimp only [Cl]
  w_top off
  k_fill
  intro dp un gd cn cs ad ccd cl outer A₀ base h₀ L m s Q E B F X N T hk hpre hd hu hret
  refine wpAny_call ?_
  k_with "exec While Name cons nil" => k_while_given ["num!"] (fun n0 script num val => 0 ≤ num ∧ val.size ≤ 100 ∧ I2 n0 num val) (fun _ _ num _ => num.toNat) "num" "val"
  k_with "state" => first | exact I2_start (by omega) (by omega) | exact I2_step (by assumption) (by assumption) (by assumption)
  k_with "measure" => exact I2_less (by assumption) (by assumption)
  k_dflt cell_enter
  k_steps
  all_goals (exact cb_retY hret (I2_end hpre.1 (by assumption) (by assumption)) (by k_asm) (by k_asm))
end
end Mine
/-! part C3 -/
namespace Mine
open PySem PySem.W PyProof.Rows
open PySem.Spec PySem.Calls
set_option maxRecDepth 100000
def txtB (b : Array UInt8) : Str := ⟨b.map UInt8.toNat⟩
/-- the iterable of a comprehension is bytes -/
def SrcB (prog : Program) (w : World) (A : Around) (h₀ : Heap) (L : Addr) (m : Str → Option Value) (env : Env) (elt : Expr) (x : Str) (scope : Scope) (cl : List (Str × Addr)) (Fin : Shared → List Value → List (Addr × Obj) → Prop) (xv : Value) (s₁ : Shared) : Prop :=
  ∃ b tb news, xv = .bytes b tb ∧ A.handled = none ∧ Fr h₀ L s₁.heap m ∧ News h₀ L s₁.heap news ∧ b.size ≤ sizeLine ∧
    ∀ s₂ : Shared, (∃ h, s₂ = { s₁ with heap := h }) → LCg.CompRest prog w A h₀ L m env elt x scope cl s₂ (fun _ => True) (fun i v => ∃ c u, b[i]? = some c ∧ v = .int (c.toNat : Int) u) (Fin s₂) b.size 0 [] news
section
variable {prog : Program} {w : World} {A : Around} {E : Value → Shared → Prop} {s : Shared} {h₀ : Heap} {L : Addr} {m : Str → Option Value} {env : Env}
theorem bytes_st {I : Addr} {b : Array UInt8} {tb : Tok} : ∀ i (h h' : Heap) (o : Obj) (nw : List (Addr × Obj)), KBw.IsBytesIter h I b tb i → h.get? I = some o → h'.get? I = some o → (∀ b o, h₀.get? b = some o → h'.get? b = some o) → News h₀ L h' nw → True → KBw.IsBytesIter h' I b tb i :=
  fun i h h' o nw st e e' _ _ _ => by
    obtain ⟨o', q, r⟩ := st
    rw [e] at q
    cases q
    exact ⟨o, e', r⟩
theorem ListComp_B {elt iter : Expr} {x : Str} {px : Pos} {scope : Scope} {cl : List (Str × Addr)} {pos : Pos} {Q : Value → Shared → Prop} (_F₀ : Fr h₀ L s.heap m)
    (hclos : closureFor scope env = pure cl) (hcell : ∀ y ∈ scope.names, y.2 ≠ .cell) (hkind : scope.kind = .function)
    (hnames : ∀ y ∈ scope.names, y.2 = .local → scope.names.lookup y.1 = some .local) (hx : scope.names.lookup x = some .local)
    (h : wpAny (model prog w) A (eval iter env) (SrcB prog w A h₀ L m env elt x scope cl (fun s₂ => LCg.FinE h₀ L m s₂ Q)) E s)
    (hs : ∀ x, foldedSetIterable iter env x = pure x := by intro _; rfl) :
    wpAny (model prog w) A (eval (.ListComp elt [⟨.Name x px, iter, [], 0⟩] scope pos) env) Q E s := by
  rw [eval_ListComp]
  refine wpAny_comprehension_free (use := none) rfl hs hclos hkind hnames (wpAny_mono h (fun xv s₁ h₁ => ?_) fun _ _ e => e)
  obtain ⟨b, tb, news, rfl, hh, F, N, hsz, R⟩ := h₁
  refine KBw.pyIter_bytes ?_
  refine LCg.block_U (KBw.walks hh s₁.heap.objs.size b tb) hsz (fun i h st => by obtain ⟨o, e, _⟩ := st; exact ⟨o, e⟩) bytes_st hcell hkind hx ⟨_, Heap.get?_push_size _ rfl, rfl, rfl⟩ (fun b hb => ?_)
      (F.keeps fun _ _ e => Heap.get?_push_of_some _ e) (N.grown fun _ _ e => Heap.get?_push_of_some _ e) (Nat.ne_of_lt F.ns.lt) (next_is_new F) (fun p hp => Nat.ne_of_lt (Heap.lt_size (N p hp).1)) trivial (R _ ⟨_, rfl⟩) ?_
  · rw [List.mem_singleton.mp hb]
    show s₁.heap.objs.size < (s₁.heap.push _).objs.size
    rw [Heap.size_push]; exact Nat.lt_succ_self _
  · intro D C h tk m' ys news' F' N' o1 hn hC₀ hD₀ hCL hDL hCD offC fin
    refine ⟨m', hn, fun h'' hs'' => fin D h'' tk (F'.change hs'' hCL hC₀) (fun p hp => ?_) o1⟩
    refine ⟨hs''.extBut _ _ ?_ (N' p hp).1, (N' p hp).2⟩
    rcases List.mem_cons.mp hp with rfl | hp
    · exact Ne.symm hCD
    · exact offC p hp
theorem SrcB.of {elt : Expr} {x : Str} {scope : Scope} {cl : List (Str × Addr)} {Q : Value → Shared → Prop} {b : Array UInt8} {tb : Tok} {news : List (Addr × Obj)} {s₁ : Shared} (g : Int → Str)
    (hh : A.handled = none) (F : Fr h₀ L s₁.heap m) (N : News h₀ L s₁.heap news) (hsz : b.size ≤ 100)
    (turn : ∀ k t I oI C oC D m₂ ys h tk (E' : Value → Shared → Prop), 0 ≤ k → k < 256 → LCg.NsObj oC m₂ → m₂ x = some (.int k t) → Fr h₀ L h m → News h₀ L h ((I, oI) :: (C, oC) :: (D, LCg.lst ys) :: news) → LCg.Off3 I C D news → ((@Ne Nat I C) ∧ (@Ne Nat I D) ∧ (@Ne Nat C D)) → KPfMark →
      wpAny (model prog w) A (eval elt (compEnvC scope cl C env)) (LCg.CompEnd h₀ L m { s₁ with heap := h, toks := tk } I oI C oC D (LCg.lst ys) (fun _ => True) (fun y news' => KCtEl news (g k) y news')) E' { s₁ with heap := h, toks := tk })
    (fin : ∀ ys D h tk, CarriedAll ys ((KBw.bInts b).map fun k => PyData.str (g k)) → Fr h₀ L h m → News h₀ L h ((D, LCg.lst ys) :: news) → Q (.ref D) { s₁ with heap := h, toks := tk }) :
    SrcB prog w A h₀ L m env elt x scope cl (fun s₂ => LCg.FinE h₀ L m s₂ Q) (.bytes b tb) s₁ := by
  refine ⟨b, tb, news, rfl, hh, F, N, Nat.le_trans hsz (by rw [sizeLine_eq]; decide), ?_⟩
  rintro s₂ ⟨g₂, rfl⟩
  refine kct_rest (ks := KBw.bInts b) g (KBw.ints_length b) ?_ ?_ ?_
  · rintro i v hi ⟨c, u, hc, rfl⟩
    exact ⟨_, u, KBw.ints_get hc, rfl⟩
  · intro k t I oI C oC D m₂ ys h tk E' hk hC hx F N off ne mk
    exact turn k t I oI C oC D m₂ ys h tk E' (KBw.ints_in hk).1 (KBw.ints_in hk).2 hC hx F N off ne mk
  · intro ys hy _ D h tk F N _
    exact fin ys D h tk hy F N
end
section
local macro_rules | `(tactic| walk_at "eval ListComp") => `(tactic| (k_here; k_dflt (refine ListComp_B (by k_asm) (by with_unfolding_all rfl) (by decide) (by rfl) (by decide) (by rfl) ?_)))
local macro_rules | `(tactic| walk_at "SrcB") => `(tactic| (k_here; k_dflt (refine' SrcB.of (fun k => ⟨#[k.toNat]⟩) (by rfl) (by k_asm) (by k_asm) (by assumption) ?kturn ?kfin); (case' kturn => (intro k t I oI C oC D m₂ ys h tk E' hlo' hhi' hC' hx' F' N' off' ne' hMark'; (try k_fold))); (case' kfin => (intro ys D h tk hcar F' N'; (try k_fold)))))
theorem join_txt (b : Array UInt8) : PySem.Txt.join (PySem.Str.ofString "") ((KBw.bInts b).map fun k => (⟨#[k.toNat]⟩ : Str)) = txtB b := by
  show Builtin.Str.glued (PySem.Str.ofString "") _ = _
  unfold Builtin.Str.glued
  have e0 : (PySem.Str.ofString "").cps = #[] := by decide
  rw [e0]
  have key : ∀ (l : List UInt8) (a : Array Nat), (List.map (fun k : Int => (⟨#[k.toNat]⟩ : Str)) (l.map fun c => (c.toNat : Int))).foldl (fun acc p => acc ++ #[] ++ p.cps) a = a ++ (l.map UInt8.toNat).toArray := by
    intro l
    induction l with
    | nil => intro a; simp
    | cons c r ih => intro a; rw [List.map_cons, List.map_cons, List.foldl_cons, ih]; simp
  unfold txtB
  obtain ⟨l⟩ := b
  congr 1
  cases l with
  | nil => simp [KBw.bInts, Str.empty]
  | cons c r =>
    show (List.map _ (List.map _ r)).foldl _ (#[((c.toNat : Nat) : Int).toNat]) = _
    rw [key r]
    simp
section
variable {prog : Program} {w : World} {A : Around} {E : Value → Shared → Prop} {s : Shared} {t : Tok} {D : Addr} {ys : List Value} {b : Array UInt8} {Q : Value → Shared → Prop}
theorem join_bytes (hl : s.heap.IsList D ys.toArray) (hc : CarriedAll ys ((KBw.bInts b).map fun k => PyData.str ⟨#[k.toNat]⟩)) (hn : b.size ≤ 100)
    (h : ∀ t' k, Q (.str (txtB b) t') { s with toks := k }) :
    wpAny (model prog w) A (call (.builtin "str.join") [.str (PySem.Str.ofString "") t, .ref D]) Q E s := by
  refine KT.join_1 (g := fun k : Int => (⟨#[k.toNat]⟩ : Str)) hl hc (fun _ _ => rfl) (by rw [KBw.ints_length]; omega) ?_
  intro t' k _
  rw [join_txt]
  exact h t' k
end
local macro_rules | `(tactic| walk_at "call builtin:str.join") => `(tactic| (k_here; refine join_bytes (News.isList (by k_asm) (by k_mem)) (by assumption) (by assumption) ?_; intro _ _))
set_option maxHeartbeats 4000000 in
theorem c_text (w : World) (mean : ExcName → Option Value) (mg mb : Str → Option Value) (news : List (Addr × Obj)) (b : Array UInt8) (tb : Tok) :
    Cl 1 w mean mg mb 96 news (b.size ≤ 100) [.bytes b tb] (fun t => .str (txtB b) t) := by
  dsimp only [Cl]
  w_top off
  k_fill
  intro dp un gd cn cs ad ccd cl outer A₀ base h₀ L m s Q E B F X N T hk hpre hd hu hret
  refine wpAny_call ?_
  k_dflt cell_enter
  k_steps
  · cb_end hret
  · exact LCg.CompEnd.intro (by k_asm) (by k_asm) _ (fun _ hp => hp) (by assumption) trivial ⟨rfl, _, rfl⟩
end
end Mine
/-! part C4 -/
namespace Mine
open PySem PySem.W PyProof.Rows
open PySem.Spec PySem.Calls
set_option maxRecDepth 100000
/-- n in letters, filled up with A's ahead to p letters -/
noncomputable def wordL (n p : Nat) : List Nat := List.replicate (p - (apN n).length) 65 ++ apN n
def strL (l : List Nat) : Str := ⟨l.toArray⟩
theorem strL_length (l : List Nat) : (strL l).length = l.length := by show l.toArray.size = _; simp
theorem strL_append (a b : List Nat) : strL a ++ strL b = strL (a ++ b) := by
  refine congrArg PySem.Str.mk ?_
  show (strL a).cps ++ (strL b).cps = _
  simp [strL]
theorem apN_le {n : Nat} : ∀ c ∈ apN n, 65 ≤ c ∧ c ≤ 80 := by
  induction n using apN.induct with
  | case1 => simp [apN_zero]
  | case2 n h ih =>
    rw [apN_pos h]
    intro c hc
    rcases List.mem_append.mp hc with hc | hc
    · exact ih c hc
    · rw [List.mem_singleton.mp hc]; omega
theorem txtB_apB (n : Int) : txtB (apB n) = strL (apN n.toNat) := by
  unfold txtB apB strL
  refine congrArg PySem.Str.mk ?_
  rw [List.map_toArray, List.map_map]
  refine congrArg List.toArray ?_
  conv => rhs; rw [← List.map_id (apN n.toNat)]
  refine List.map_congr_left fun c hc => ?_
  have := apN_le c hc
  show (UInt8.ofNat c).toNat = c
  rw [UInt8.toNat_ofNat']
  omega
theorem c_textAP (w : World) (mean : ExcName → Option Value) (mg mb : Str → Option Value) (news : List (Addr × Obj)) (n : Int) (tb : Tok) :
    Cl 1 w mean mg mb 96 news (n < 2 ^ 120) [.bytes (apB n) tb] (fun t => .str (strL (apN n.toNat)) t) := by
  have C := c_text w mean mg mb news (apB n) tb
  rw [txtB_apB] at C
  intro dp un gd cn cs ad ccd cl outer A₀ base h₀ L m s Q E B F X N T hk hpre hd hu hret
  exact C dp un gd cn cs ad ccd cl outer A₀ base h₀ L m s Q E B F X N T hk (by have := apB_size hpre; omega) hd hu hret
/-! texts of letters: the rules of the walk -/
section
variable {prog : Program} {w : World} {A : Around} {E : Value → Shared → Prop} {s : Shared} {x y : Str} {t u : Tok} {k : Int} {Q : Value → Shared → Prop}
theorem m_len (hx : x.length ≤ 1000) (h : Q (.int x.length (s.toks + 1)) { s with toks := s.toks + 1 + 1 }) : wpAny (model prog w) A (call (.builtin "len") [.str x t]) Q E s :=
  P.len_str (by omega) h
theorem m_add (hx : x.length + y.length ≤ 1000) (h : ∀ t' k, Q (.str (x ++ y) t') { s with toks := k }) : wpAny (model prog w) A (binaryOp .Add (.str x t) (.str y u)) Q E s :=
  SB.add h (Nat.le_trans hx (by rw [sizeLine_eq]; decide))
theorem mulA (k : Int) : Txt.mul (Str.ofString "A") k = strL (List.replicate k.toNat 65) := by
  have e : (Str.ofString "A").cps = #[65] := by decide
  have key : ∀ (n : Nat) (a : Array Nat), (List.replicate n #[65]).foldl (· ++ ·) a = a ++ (List.replicate n 65).toArray := by
    intro n
    induction n with
    | zero => intro a; simp
    | succ n ih => intro a; rw [List.replicate_succ, List.foldl_cons, ih, List.replicate_succ, ← Array.toList_inj]; simp
  unfold Txt.mul strL
  split
  · rename_i h
    have : k.toNat = 0 := by omega
    rw [this]; rfl
  · split
    · rename_i h h2
      have h3 : (Str.ofString "A").length = 1 := by decide
      rw [h3] at h2
      have : k = 1 := by simpa using h2
      subst this
      decide
    · rw [e, key]
      simp
theorem m_mulA (hk : k ≤ 16) (hlo : -1000 ≤ k) (h : ∀ t' c, Q (.str (strL (List.replicate k.toNat 65)) t') { s with toks := c }) : wpAny (model prog w) A (binaryOp .Mult (.str (Str.ofString "A") t) (.int k u)) Q E s :=
  SB.mul (mulOk_of 1 16 (by decide) (by omega) (by omega) (by decide) (by decide)) (by rw [mulA]; exact h)
end
theorem word_eq {p : Int} {n : Nat} (_hp : 0 ≤ p) : strL (List.replicate (p - ((apN n).length : Int)).toNat 65) ++ strL (apN n) = strL (wordL n p.toNat) := by
  rw [strL_append]
  unfold wordL
  have : (p - ((apN n).length : Int)).toNat = p.toNat - (apN n).length := by omega
  rw [this]
section
local macro_rules | `(tactic| walk_at "MINE use") => `(tactic| ((case k1 => k_asm); (case k2 => k_asm); (case k3 => k_asm); (case k4 => k_asm); (case k5 => k_asm); (case kK => first | exact rfl | assumption); (case kp => first | trivial | assumption | omega | exact ⟨by omega, by omega⟩); (case kd => ktr_room); (case ku => ktr_units); intro t9 h9 tk9 hT9 F9 N9; (try dsimp only at hT9); (try dsimp only); (try k_fold)))
local macro_rules | `(tactic| walk_at "call ref") => `(tactic| (k_here; first
  | ((with_reducible show wpAny _ _ (call (Value.ref 35) _) _ _ _); k_dflt (refine' Cl.use (c_Int2AP _ _ _ _ _ _ _) ?k1 ?k2 ?k3 ?k4 ?k5 ?kK ?kp ?kd ?ku ?_))
  | ((with_reducible show wpAny _ _ (call (Value.ref 96) _) _ _ _); k_dflt (refine' Cl.use (c_textAP _ _ _ _ _ _ _) ?k1 ?k2 ?k3 ?k4 ?k5 ?kK ?kp ?kd ?ku ?_)));
  walk_at "MINE use")
local macro_rules | `(tactic| walk_at "call builtin:len cons nil") => `(tactic| (k_here; (with_reducible refine m_len (by simp only [strL_length]; omega) ?_); (try simp only [strL_length])))
local macro_rules | `(tactic| walk_at "binaryOp Mult str int") => `(tactic| (k_here; (refine m_mulA (by omega) (by omega) ?_); intro _ _))
local macro_rules | `(tactic| walk_at "binaryOp Add str str") => `(tactic| (k_here; (refine m_add (by simp only [strL_length, List.length_replicate]; omega) ?_); intro _ _))
set_option maxHeartbeats 4000000 in
theorem c_word (w : World) (mean : ExcName → Option Value) (mg mb : Str → Option Value) (news : List (Addr × Obj)) (n p : Int) (tn tp : Tok) :
    Cl 2 w mean mg mb 103 news (0 ≤ n ∧ n < 2 ^ 120 ∧ 0 ≤ p ∧ p ≤ 8) [.int n tn, .int p tp] (fun t => .str (strL (wordL n.toNat p.toNat)) t) := by
  dsimp only [Cl]
  w_top off
  k_fill
  intro dp un gd cn cs ad ccd cl outer A₀ base h₀ L m s Q E B F X N T hk hpre hd hu hret
  have hsz : (apN n.toNat).length ≤ 30 := apN_length_le 30 _ (by have : (16 : Nat) ^ 30 = 2 ^ 120 := by decide
                                                                 omega)
  refine wpAny_call ?_
  k_dflt cell_enter
  k_steps
  all_goals (refine' cb_retS (Q := Q) hret ?e1 ?e2 ?e3; (case e2 => k_asm); (case e3 => k_asm); (case e1 => exact word_eq hpre.2.2.1))
end
end Mine
/-! part C5 -/
namespace Mine
open PySem PySem.W PyProof.Rows
open PySem.Spec PySem.Calls
set_option maxRecDepth 100000
def rstL (l : List Nat) : List Nat := (l.reverse.dropWhile Unicode.isSpace).reverse
def cmtL (l : List Nat) : List Nat := if rstL l = [] then [35] else 35 :: 32 :: rstL l
theorem rstL_eq (l : List Nat) : rstL l = l.take (l.length - (l.reverse.takeWhile Unicode.isSpace).length) := by
  have h := List.takeWhile_append_dropWhile (p := Unicode.isSpace) (l := l.reverse)
  have h2 := congrArg List.reverse h
  rw [List.reverse_append, List.reverse_reverse] at h2
  have h3 : rstL l ++ (l.reverse.takeWhile Unicode.isSpace).reverse = l := h2
  have h4 : l.length = (rstL l).length + (l.reverse.takeWhile Unicode.isSpace).length := by
    have := congrArg List.length h3
    rw [List.length_append, List.length_reverse] at this
    omega
  have h5 : l.length - (l.reverse.takeWhile Unicode.isSpace).length = (rstL l).length := by omega
  rw [h5]
  conv => rhs; arg 2; rw [← h3]
  rw [List.take_left]
theorem rstL_length_le (l : List Nat) : (rstL l).length ≤ l.length := by
  rw [rstL_eq, List.length_take]
  omega
theorem rstrip_strL (l : List Nat) : Txt.rstrip (strL l) = strL (rstL l) := by
  unfold Txt.rstrip
  rw [PyProof.Rows.stripBy_eq, rstL_eq]
  unfold stripLo stripHi strL Builtin.Str.strSub
  refine congrArg PySem.Str.mk ?_
  simp only [Bool.false_eq_true, if_false, if_true, List.drop_zero, Str.length, List.size_toArray]
  rw [← Array.toList_inj, Array.toList_extract]
  simp [List.extract]
section
variable {prog : Program} {w : World} {A : Around} {E : Value → Shared → Prop} {s : Shared} {l : List Nat} {t : Tok} {Q : Value → Shared → Prop}
theorem m_rstrip (hl : l.length ≤ 1000) (h : ∀ t' k, Q (.str (strL (rstL l)) t') { s with toks := k }) : wpAny (model prog w) A (call (.builtin "str.rstrip") [.str (strL l) t]) Q E s :=
  SC.rstrip (fun t' k => by rw [rstrip_strL]; exact h t' k) (by rw [strL_length, sizeLine_eq]; omega)
theorem m_truthy {Q : Bool → Shared → Prop} (hl : l.length ≤ 1000) (h1 : l ≠ [] → ∀ k, Q true { s with toks := k }) (h2 : l = [] → ∀ k, Q false { s with toks := k }) : wpAny (model prog w) A (truthy (.str (strL l) t)) Q E s := by
  refine P.truthy_str (by rw [strL_length]; omega) ?_
  rw [strL_length]
  cases l with
  | nil => exact h2 rfl _
  | cons a r => exact h1 (by simp) _
end
theorem cmt_some {l : List Nat} (h : rstL l ≠ []) : Str.ofString "# " ++ strL (rstL l) = strL (cmtL l) := by
  have e : Str.ofString "# " = strL [35, 32] := by decide
  rw [e, strL_append]
  unfold cmtL
  rw [if_neg h]
  rfl
theorem cmt_none {l : List Nat} (h : rstL l = []) : Str.ofString "#" = strL (cmtL l) := by
  unfold cmtL
  rw [if_pos h]
  decide
theorem cmt_len2 : (Str.ofString "# ").length = 2 := by decide
section
local macro_rules | `(tactic| walk_at "truthy str") => `(tactic| (k_here; (refine m_truthy (by omega) ?_ ?_) <;> intro _ _))
local macro_rules | `(tactic| walk_at "call builtin:str.rstrip") => `(tactic| (k_here; (refine m_rstrip (by omega) ?_); intro _ _))
local macro_rules | `(tactic| walk_at "binaryOp Add str str") => `(tactic| (k_here; (refine m_add (by simp only [strL_length, cmt_len2]; omega) ?_); intro _ _))
set_option maxHeartbeats 4000000 in
theorem c_comment (w : World) (mean : ExcName → Option Value) (mg mb : Str → Option Value) (news : List (Addr × Obj)) (l : List Nat) (tl : Tok) :
    Cl 1 w mean mg mb 21 news (l.length ≤ 100) [.str (strL l) tl] (fun t => .str (strL (cmtL l)) t) := by
  dsimp only [Cl]
  w_top off
  k_fill
  intro dp un gd cn cs ad ccd cl outer A₀ base h₀ L m s Q E B F X N T hk hpre hd hu hret
  have hsz := rstL_length_le l
  refine wpAny_call ?_
  k_dflt cell_enter
  k_steps
  all_goals (refine' cb_retS (Q := Q) hret ?e1 ?e2 ?e3; (case e2 => k_asm); (case e3 => k_asm); (case e1 => first | exact cmt_some (by assumption) | exact cmt_none (by assumption)))
end
end Mine
/-! part S1 -/
namespace Mine
open PySem PySem.W PyProof.Rows
open PySem.Spec PySem.Calls
set_option maxRecDepth 100000
/-! laws of texts of letters: cuts, items, replace, find -/
theorem strL_list (l : List Nat) : (strL l).cps.toList = l := by show l.toArray.toList = l; simp
theorem strL_inj {a b : List Nat} (h : strL a = strL b) : a = b := by
  have := congrArg (fun x : Str => x.cps.toList) h
  simpa [strL_list] using this
theorem str_eq (x : Str) : x = strL x.cps.toList := by obtain ⟨a⟩ := x; show _ = PySem.Str.mk _; simp
theorem strL_beq (a b : List Nat) : (strL a == strL b) = decide (a = b) := by
  by_cases h : a = b
  · subst h; simp
  · rw [decide_eq_false h]
    exact beq_eq_false_iff_ne.mpr fun e => h (strL_inj e)
theorem slice_ss {l : List Nat} {i j : Int} (h0 : 0 ≤ i) (h1 : i ≤ j) (h2 : j ≤ l.length) : Txt.slice (strL l) (some i) (some j) = strL ((l.drop i.toNat).take (j - i).toNat) := by
  have := eq_of_beq (slice_closes (x := strL l) (i := i) (j := j) ⟨h0, h1, by rw [strL_list]; exact h2⟩)
  rw [this, strL_list]; rfl
theorem slice_to {l : List Nat} {j : Int} (h0 : 0 ≤ j) (h2 : j ≤ l.length) : Txt.slice (strL l) none (some j) = strL (l.take j.toNat) := by
  have := eq_of_beq (slice_closes_to (x := strL l) (j := j) ⟨h0, by rw [strL_list]; exact h2⟩)
  rw [this, strL_list]
  simp [strL]
theorem slice_from {l : List Nat} {i : Int} (h0 : 0 ≤ i) (h2 : i ≤ l.length) : Txt.slice (strL l) (some i) none = strL (l.drop i.toNat) := by
  have := eq_of_beq (slice_closes_from (x := strL l) (i := i) ⟨h0, by rw [strL_list]; exact h2⟩)
  rw [this, strL_list]
  have e : ((l.length : Int) - i).toNat = (l.drop i.toNat).length := by rw [List.length_drop]; omega
  rw [e, List.take_length]
  rfl
theorem item_strL {l : List Nat} {i : Int} (h0 : 0 ≤ i) (h1 : i < l.length) : Txt.item (strL l) i = strL [l.getD i.toNat 0] := by
  have e : seqIndex? i l.length = some i.toNat := by
    have h2 : ¬ i < 0 := by omega
    simp [seqIndex?, h2]; omega
  unfold Txt.item Txt.charAt
  rw [strL_length, e]
  show (⟨#[((strL l).cps[i.toNat]?).getD 0]⟩ : Str) = _
  have e2 : ((strL l).cps[i.toNat]?) = l[i.toNat]? := by show l.toArray[i.toNat]? = _; simp
  rw [e2, List.getD_eq_getElem?_getD]
  rfl
/-- each A turned to w -/
def toW (w : Nat) (l : List Nat) : List Nat := l.map fun x => if x = 65 then w else x
theorem toW_free (w : Nat) {l : List Nat} (h : 65 ∉ l) : toW w l = l := by
  unfold toW
  conv => rhs; rw [← List.map_id l]
  refine List.map_congr_left fun c hc => ?_
  show (if c = 65 then w else c) = c
  rw [if_neg]
  intro e
  subst e
  exact h hc
theorem toW_join (w : Nat) : ∀ parts : List Str, (∀ p ∈ parts, 65 ∉ p.cps.toList) → toW w (Str.join ⟨#[65]⟩ parts).cps.toList = (Str.join ⟨#[w]⟩ parts).cps.toList
  | [], _ => rfl
  | [p], h => toW_free w (h p (List.mem_singleton.mpr rfl))
  | p :: q :: r, h => by
    have ih := toW_join w (q :: r) fun a ha => h a (List.mem_cons_of_mem _ ha)
    have hp' := toW_free w (h p (List.mem_cons_self ..))
    show toW w (p ++ ⟨#[65]⟩ ++ Str.join ⟨#[65]⟩ (q :: r)).cps.toList = (p ++ ⟨#[w]⟩ ++ Str.join ⟨#[w]⟩ (q :: r)).cps.toList
    simp only [Str.cps_append, Array.toList_append]
    unfold toW at ih hp' ⊢
    rw [List.map_append, List.map_append, ih, hp']
    simp
theorem replaceA (w : Nat) (l : List Nat) : Txt.replace (strL l) ⟨#[65]⟩ ⟨#[w]⟩ = strL (toW w l) := by
  rw [StrLaws.replace_one, str_eq (Str.join ⟨#[w]⟩ _), ← toW_join w _ (StrLaws.split_free (strL l) 65), StrLaws.join_split, strL_list]
/-! find -/
open PySem.StrLaws in
theorem at_iff (l : List Nat) (c hi i : Nat) (hh : hi ≤ l.length) : At (strL l) ⟨#[c]⟩ hi i ↔ i < hi ∧ l[i]? = some c := by
  have e : (⟨#[c]⟩ : Str).length = 1 := rfl
  constructor
  · intro h
    have h1 := h.1
    rw [e] at h1
    refine ⟨by omega, ?_⟩
    have := (subAt_one (strL l) c i).mp ⟨by rw [e, strL_length]; omega, h.2⟩
    rwa [strL_list] at this
  · rintro ⟨h1, h2⟩
    refine ⟨by rw [e]; omega, ((subAt_one (strL l) c i).mpr ?_).2⟩
    rwa [strL_list]
def findIn1 (l : List Nat) (c hi : Nat) : Int := match Builtin.Str.occurrences (strL l) ⟨#[c]⟩ 0 hi 1 with | i :: _ => (i : Int) | [] => -1
def lastIn1 (l : List Nat) (c hi : Nat) : Int := match Builtin.Str.lastOccurrence (strL l) ⟨#[c]⟩ 0 hi with | some i => (i : Int) | none => -1
open PySem.StrLaws in
theorem find_spec (l : List Nat) (c hi : Nat) (hh : hi ≤ l.length) :
    (findIn1 l c hi = -1 ∧ ∀ i, i < hi → l[i]? ≠ some c) ∨ ∃ i : Nat, findIn1 l c hi = i ∧ i < hi ∧ l[i]? = some c ∧ ∀ k, k < i → l[k]? ≠ some c := by
  unfold findIn1
  rw [occ_eq]
  rcases occ_first (strL l) ⟨#[c]⟩ hi 1 (Nat.le_refl _) (List.range' 0 (hi + 1 - 0)) 0 (fun _ _ => Nat.zero_le _) with ⟨h0, hn⟩ | ⟨pre, a, post, e, h0, ha, hn⟩
  · refine .inl ⟨by rw [h0], fun i hi1 hi2 => ?_⟩
    exact hn i (by simp [List.mem_range'] <;> omega) ((at_iff l c hi i hh).mpr ⟨hi1, hi2⟩)
  · have ha' := (at_iff l c hi a hh).mp ha
    refine .inr ⟨a, ?_, ha'.1, ha'.2, fun k hk hk2 => hn k (range'_split e k hk) ((at_iff l c hi k hh).mpr ⟨by omega, hk2⟩)⟩
    generalize hx : (forIn (List.range' 0 (hi + 1 - 0)) ((#[] : Array Nat), 0) (occBody (strL l) ⟨#[c]⟩ hi 1)).run.fst = X at h0
    obtain ⟨X⟩ := X
    cases X with
    | nil => simp at h0
    | cons b r => have : b = a := by simpa using h0
                  subst this; rfl
open PySem.StrLaws in
theorem last_spec' (l : List Nat) (c hi : Nat) (hh : hi ≤ l.length) :
    (lastIn1 l c hi = -1 ∧ ∀ i, i < hi → l[i]? ≠ some c) ∨ ∃ i : Nat, lastIn1 l c hi = i ∧ i < hi ∧ l[i]? = some c ∧ ∀ k, i < k → k < hi → l[k]? ≠ some c := by
  unfold lastIn1
  rw [last_eq]
  have key := last_run (strL l) ⟨#[c]⟩ hi (List.range' 0 (hi + 1 - 0)) [] none (fun _ h => nomatch h) (fun _ h => nomatch h) (by simpa using List.pairwise_lt_range' (s := 0) (n := hi + 1 - 0))
  have mem : ∀ i, i < hi → i ∈ [] ++ List.range' 0 (hi + 1 - 0) := fun i h => by simp [List.mem_range'] <;> omega
  cases hr : (forIn (List.range' 0 (hi + 1 - 0)) none (lastBody (strL l) ⟨#[c]⟩ hi)).run with
  | none =>
    rw [hr] at key
    exact .inl ⟨rfl, fun i h1 h2 => key i (mem i h1) ((at_iff l c hi i hh).mpr ⟨h1, h2⟩)⟩
  | some a =>
    rw [hr] at key
    have ha := (at_iff l c hi a hh).mp key.1
    exact .inr ⟨a, rfl, ha.1, ha.2, fun k h1 h2 h3 => key.2 k (mem k h2) h1 ((at_iff l c hi k hh).mpr ⟨h2, h3⟩)⟩
theorem findIn1_none {l : List Nat} {c hi : Nat} (hh : hi ≤ l.length) (h : ∀ i, i < hi → l[i]? ≠ some c) : findIn1 l c hi = -1 := by
  rcases find_spec l c hi hh with h1 | ⟨i, _, h2, h3, _⟩
  · exact h1.1
  · exact absurd h3 (h i h2)
theorem findIn1_at {l : List Nat} {c hi n : Nat} (hh : hi ≤ l.length) (hn : n < hi) (hc : l[n]? = some c) (h : ∀ i, i < n → l[i]? ≠ some c) : findIn1 l c hi = n := by
  rcases find_spec l c hi hh with h1 | ⟨i, e, h2, h3, h4⟩
  · exact absurd hc (h1.2 n hn)
  · rw [e]
    have a1 : ¬ i < n := fun q => h i q h3
    have a2 : ¬ n < i := fun q => h4 n q hc
    omega
theorem lastIn1_at {l : List Nat} {c hi n : Nat} (hh : hi ≤ l.length) (hn : n < hi) (hc : l[n]? = some c) (h : ∀ i, n < i → i < hi → l[i]? ≠ some c) : lastIn1 l c hi = n := by
  rcases last_spec' l c hi hh with h1 | ⟨i, e, h2, h3, h4⟩
  · exact absurd hc (h1.2 n hn)
  · rw [e]
    have a1 : ¬ n < i := fun q => h i q h2 h3
    have a2 : ¬ i < n := fun q => h4 n q hn hc
    omega
/-! the rules of the walk -/
section
open PySem.Builtin PySem.Builtin.Str
theorem gives_find4 (x y : Str) (i e : Int) (t u v v2 : Tok) : Gives (Builtin.«str.find» ⟨[.str x t, .str y u, .int i v, .int e v2], []⟩) (.int (match occurrences x y (fromIndex x.length i) (min (fromIndex x.length e) x.length) 1 with | k :: _ => (k : Int) | [] => -1)) := by
  show Gives (match occurrences x y (fromIndex x.length i) (min (fromIndex x.length e) x.length) 1 with | k :: _ => retInt k | [] => (do rule "str.find.not-found"; retInt (-1))) _
  cases occurrences x y (fromIndex x.length i) (min (fromIndex x.length e) x.length) 1 with
  | nil => exact .rule (.of_eq rfl)
  | cons k _ => exact .of_eq rfl
theorem gives_rfind4 (x y : Str) (i e : Int) (t u v v2 : Tok) : Gives (Builtin.«str.rfind» ⟨[.str x t, .str y u, .int i v, .int e v2], []⟩) (.int (match lastOccurrence x y (fromIndex x.length i) (min (fromIndex x.length e) x.length) with | some k => (k : Int) | none => -1)) := by
  show Gives (match lastOccurrence x y (fromIndex x.length i) (min (fromIndex x.length e) x.length) with | some k => retInt k | none => (do rule "str.rfind.not-found"; retInt (-1))) _
  cases lastOccurrence x y (fromIndex x.length i) (min (fromIndex x.length e) x.length) with
  | none => exact .rule (.of_eq rfl)
  | some k => exact .of_eq rfl
variable {prog : Program} {w : World} {A : Around} {E : Value → Shared → Prop} {s : Shared} {l : List Nat} {c : Nat} {e : Int} {t u v v2 : Tok} {Q : Value → Shared → Prop}
theorem fromIndex_zero (n : Nat) : fromIndex n 0 = 0 := by unfold fromIndex; simp
theorem fromIndex_pos {n : Nat} {e : Int} (h0 : 0 ≤ e) : fromIndex n e = e.toNat := by
  unfold fromIndex
  rw [if_neg (by omega)]
  omega
theorem m_find (h : Q (.int (findIn1 l c l.length) s.toks) { s with toks := s.toks + 1 }) : wpAny (model prog w) A (call (.builtin "str.find") [.str (strL l) t, .str ⟨#[c]⟩ u]) Q E s := by
  refine call_gives F.slot_str_find (typeIs_str _ _ _) F.entry_str_find (F.args_str_find_2 _ _) (gives_str_find (strL l) ⟨#[c]⟩ t u) ?_
  rw [strL_length]
  exact h
theorem m_find4 (h0 : 0 ≤ e) (h1 : e ≤ l.length) (h : Q (.int (findIn1 l c e.toNat) s.toks) { s with toks := s.toks + 1 }) : wpAny (model prog w) A (call (.builtin "str.find") [.str (strL l) t, .str ⟨#[c]⟩ u, .int 0 v, .int e v2]) Q E s := by
  refine call_gives F.slot_str_find (typeIs_str _ _ _) F.entry_str_find (F.args_str_find_4 _ _ _ _) (gives_find4 (strL l) ⟨#[c]⟩ 0 e t u v v2) ?_
  rw [strL_length, fromIndex_zero, fromIndex_pos h0, Nat.min_eq_left (by omega)]
  exact h
theorem m_rfind4 (h0 : 0 ≤ e) (h1 : e ≤ l.length) (h : Q (.int (lastIn1 l c e.toNat) s.toks) { s with toks := s.toks + 1 }) : wpAny (model prog w) A (call (.builtin "str.rfind") [.str (strL l) t, .str ⟨#[c]⟩ u, .int 0 v, .int e v2]) Q E s := by
  refine call_gives F.slot_str_rfind (typeIs_str _ _ _) F.entry_str_rfind (F.args_str_rfind_4 _ _ _ _) (gives_rfind4 (strL l) ⟨#[c]⟩ 0 e t u v v2) ?_
  rw [strL_length, fromIndex_zero, fromIndex_pos h0, Nat.min_eq_left (by omega)]
  exact h
theorem m_replace {wc : Nat} (hu : u ≠ 0) (hv : v ≠ 0) (huv : u ≠ v) (hw : wc ≠ 65) (hl : l.length ≤ 1000) (h : ∀ t' k, Q (.str (strL (toW wc l)) t') { s with toks := k }) :
    wpAny (model prog w) A (call (.builtin "str.replace") [.str (strL l) t, .str ⟨#[65]⟩ u, .str ⟨#[wc]⟩ v]) Q E s := by
  refine SC.replaceW hu hv huv (beq_eq_false_iff_ne.mpr fun q => hw ?_) (by rw [strL_length]; omega) (by show (1 : Nat) ≤ 14; decide) (fun t' k => by rw [replaceA]; exact h t' k)
  have := congrArg (fun x : Str => x.cps.toList) q
  simpa using this.symm
end
end Mine
/-! part C6 -/
namespace Mine
open PySem PySem.W PyProof.Rows
open PySem.Spec PySem.Calls
set_option maxRecDepth 100000
structure StripAt (l : List Nat) (r1 r2 : Int) (n1 n2 d : Nat) : Prop where
  len : l.length ≤ 100
  f1 : findIn1 l 10 l.length = r1
  e1 : 0 ≤ r1 → r1 = n1
  e1' : r1 < 0 → n1 = l.length
  le1 : n1 ≤ l.length
  f2 : findIn1 l 58 n1 = r2
  e2 : 0 ≤ r2 → r2 = n2
  e2' : r2 < 0 → n2 = n1
  le2 : n2 ≤ l.length
  f3 : lastIn1 l 46 n2 = d
  lt3 : d < n2
section
variable {prog : Program} {w : World} {A : Around} {E : Value → Shared → Prop} {s : Shared} {l : List Nat} {c n : Nat} {e r i j : Int} {t u v v2 : Tok} {Q : Value → Shared → Prop}
theorem s_find {y : Str} (hy : y = ⟨#[c]⟩) (hf : findIn1 l c l.length = r) (h : Q (.int r s.toks) { s with toks := s.toks + 1 }) : wpAny (model prog w) A (call (.builtin "str.find") [.str (strL l) t, .str y u]) Q E s := by
  subst hf hy
  exact m_find h
theorem s_find4 {y : Str} (hy : y = ⟨#[c]⟩) (hf : findIn1 l c n = r) (he : e = n) (hn : n ≤ l.length) (h : Q (.int r s.toks) { s with toks := s.toks + 1 }) : wpAny (model prog w) A (call (.builtin "str.find") [.str (strL l) t, .str y u, .int 0 v, .int e v2]) Q E s := by
  subst hf he hy
  exact m_find4 (by omega) (by omega) h
theorem s_rfind4 {y : Str} (hy : y = ⟨#[c]⟩) (hf : lastIn1 l c n = r) (he : e = n) (hn : n ≤ l.length) (h : Q (.int r s.toks) { s with toks := s.toks + 1 }) : wpAny (model prog w) A (call (.builtin "str.rfind") [.str (strL l) t, .str y u, .int 0 v, .int e v2]) Q E s := by
  subst hf he hy
  exact m_rfind4 (by omega) (by omega) h
variable {h₀ : Heap} {L : Addr} {m : Str → Option Value} {news : List (Addr × Obj)} {value slice : PySem.Expr} {ui uj : Tok}
theorem m_slice_ss (hF : Fr h₀ L s.heap m) (hN : News h₀ L s.heap news) (h0 : 0 ≤ i) (h1 : i ≤ j) (h2 : j ≤ l.length) (hl : l.length ≤ 1000)
    (h : ∀ h' t' k, Fr h₀ L h' m → News h₀ L h' news → Q (.str (strL ((l.drop i.toNat).take (j - i).toNat)) t') { s with heap := h', toks := k })
    (hs : subscripted slice false (.str (strL l) t) (.ref s.heap.objs.size) = operate [.ref s.heap.objs.size, .str (strL l) t] (getItem (.str (strL l) t) (.ref s.heap.objs.size)) := by with_unfolding_all rfl)
    (ht : ∀ r, letTemporaryGo value (.str (strL l) t) r = pure () := by intro _; with_unfolding_all rfl) :
    wpAny (model prog w) A (subscriptTail value slice (.str (strL l) t) (.ref s.heap.objs.size)) Q E { s with heap := s.heap.push { cls := .type "slice", data := .fields #[.int i ui, .int j uj, .none] } } :=
  slice_strN_ss hF hN (fun h' t' k a b => by rw [slice_ss h0 h1 h2]; exact h h' t' k a b) hs ht (by rw [strL_length, sizeLine_eq]; omega)
theorem m_slice_to (hF : Fr h₀ L s.heap m) (hN : News h₀ L s.heap news) (h0 : 0 ≤ j) (h2 : j ≤ l.length) (hl : l.length ≤ 1000)
    (h : ∀ h' t' k, Fr h₀ L h' m → News h₀ L h' news → Q (.str (strL (l.take j.toNat)) t') { s with heap := h', toks := k })
    (hs : subscripted slice false (.str (strL l) t) (.ref s.heap.objs.size) = operate [.ref s.heap.objs.size, .str (strL l) t] (getItem (.str (strL l) t) (.ref s.heap.objs.size)) := by with_unfolding_all rfl)
    (ht : ∀ r, letTemporaryGo value (.str (strL l) t) r = pure () := by intro _; with_unfolding_all rfl) :
    wpAny (model prog w) A (subscriptTail value slice (.str (strL l) t) (.ref s.heap.objs.size)) Q E { s with heap := s.heap.push { cls := .type "slice", data := .fields #[.none, .int j uj, .none] } } :=
  slice_strN_ns hF hN (fun h' t' k a b => by rw [slice_to h0 h2]; exact h h' t' k a b) hs ht (by rw [strL_length, sizeLine_eq]; omega)
theorem m_slice_from (hF : Fr h₀ L s.heap m) (hN : News h₀ L s.heap news) (h0 : 0 ≤ i) (h2 : i ≤ l.length) (hl : l.length ≤ 1000)
    (h : ∀ h' t' k, Fr h₀ L h' m → News h₀ L h' news → Q (.str (strL (l.drop i.toNat)) t') { s with heap := h', toks := k })
    (hs : subscripted slice false (.str (strL l) t) (.ref s.heap.objs.size) = operate [.ref s.heap.objs.size, .str (strL l) t] (getItem (.str (strL l) t) (.ref s.heap.objs.size)) := by with_unfolding_all rfl)
    (ht : ∀ r, letTemporaryGo value (.str (strL l) t) r = pure () := by intro _; with_unfolding_all rfl) :
    wpAny (model prog w) A (subscriptTail value slice (.str (strL l) t) (.ref s.heap.objs.size)) Q E { s with heap := s.heap.push { cls := .type "slice", data := .fields #[.int i ui, .none, .none] } } :=
  slice_strN_sn hF hN (fun h' t' k a b => by rw [slice_from h0 h2]; exact h h' t' k a b) hs ht (by rw [strL_length, sizeLine_eq]; omega)
end
theorem strip_eq {l : List Nat} {e : Int} {n2 d : Nat} (he : e = n2) : strL ((l.drop ((d : Int) + 1).toNat).take (e - ((d : Int) + 1)).toNat) = strL ((l.drop (d + 1)).take (n2 - (d + 1))) := by
  subst he
  have e1 : ((d : Int) + 1).toNat = d + 1 := by omega
  have e2 : ((n2 : Int) - ((d : Int) + 1)).toNat = n2 - (d + 1) := by omega
  rw [e1, e2]
section
local macro_rules | `(tactic| walk_at "call builtin:len cons nil") => `(tactic| (k_here; (with_reducible refine m_len (by simp only [strL_length]; omega) ?_); (try simp only [strL_length])))
local macro_rules | `(tactic| walk_at "call builtin:str.find cons nil") => `(tactic| (k_here; first
  | refine s_find (by decide) (StripAt.f1 (by assumption)) ?_
  | refine s_find4 (by decide) (StripAt.f2 (by assumption)) (by omega) (by omega) ?_))
local macro_rules | `(tactic| walk_at "call builtin:str.rfind cons nil") => `(tactic| (k_here; refine s_rfind4 (by decide) (StripAt.f3 (by assumption)) (by omega) (by omega) ?_))
local macro_rules | `(tactic| walk_at "subscriptTail Name Slice str ref") => `(tactic| (k_here; (with_reducible rename Fr _ _ _ _ => F'); (with_reducible rename News _ _ _ _ => N'); (refine m_slice_ss (s := ⟨_, _, _, _, _⟩) F' N' (by omega) (by omega) (by omega) (by omega) ?_); intro _ _ _ _ _))
set_option maxHeartbeats 8000000 in
theorem c_strip (w : World) (mean : ExcName → Option Value) (mg mb : Str → Option Value) (news : List (Addr × Obj)) (l : List Nat) (r1 r2 : Int) (n1 n2 d : Nat) (tl : Tok) :
    Cl 1 w mean mg mb 28 news (StripAt l r1 r2 n1 n2 d) [.str (strL l) tl] (fun t => .str (strL ((l.drop (d + 1)).take (n2 - (d + 1)))) t) := by
  dsimp only [Cl]
  w_top off
  k_fill
  intro dp un gd cn cs ad ccd cl outer A₀ base h₀ L m s Q E B F X N T hk hS hd hu hret
  have hlen := hS.len
  have hle1 := hS.le1
  have hle2 := hS.le2
  have hlt3 := hS.lt3
  have he1 := hS.e1
  have he1' := hS.e1'
  have he2 := hS.e2
  have he2' := hS.e2'
  refine wpAny_call ?_
  k_dflt cell_enter
  k_steps
  all_goals (refine' cb_retS (Q := Q) hret ?e1 ?e2 ?e3; (case e2 => k_asm); (case e3 => exact cb_drop (by k_asm) (fun _ hp => .tail _ hp)); (case e1 => exact strip_eq (by omega)))
end
end Mine
/-! part P1 -/
namespace Mine
open PySem PySem.W PyProof.Rows
/-! long division, over naturals -/
/-- the rest before place j -/
def rN (n m j : Nat) : Nat := n * 16 ^ j % m
/-- the letter at place j -/
def dN (n m j : Nat) : Nat := 65 + 16 * rN n m j / m
def tellsL (n m p k : Nat) : List Nat := (List.range' (p - k) k).map (dN n m)
def metL (n m p k : Nat) : List Int := ((List.range' (p - k) k).reverse.filter fun j => decide (j = 0 ∨ rN n m j % 16 ≠ 0)).map fun j => ((rN n m j : Nat) : Int)
/-- between two stages -/
def U (n m p c : Nat) (now : Int) (found : Str) (met : List Int) : Prop :=
  ∃ k, k ≤ p ∧ c ≤ k ∧ now = ((rN n m (p - k) : Nat) : Int) ∧ found = strL (tellsL n m p k) ∧ met = metL n m p k ∧ (k = 0 ∨ rN n m 0 ≠ 0)
def UPre (n m p : Nat) (r o q : Int) : Prop := r = ((rN n m p : Nat) : Int) ∧ o = (m : Int) ∧ q = (p : Int) ∧ m % 2 = 1 ∧ 3 ≤ m ∧ m < 4194304 ∧ 1 ≤ p ∧ p ≤ 8
theorem UPre.facts {n m p : Nat} {r o q : Int} (h : UPre n m p r o q) : 3 ≤ o ∧ o < 4194304 ∧ 1 ≤ q ∧ q ≤ 12 := by unfold UPre at h; omega
/-! words -/
theorem toW_length (wc : Nat) (l : List Nat) : (toW wc l).length = l.length := by unfold toW; simp
theorem apN_mul {c : Nat} (hc : 0 < c) : ∀ z, apN (c * 16 ^ z) = apN c ++ List.replicate z 65
  | 0 => by simp
  | z + 1 => by
    have h0 : c * 16 ^ (z + 1) ≠ 0 := Nat.ne_of_gt (Nat.mul_pos hc (Nat.pow_pos (by decide)))
    have e : c * 16 ^ (z + 1) = (c * 16 ^ z) * 16 := by rw [Nat.pow_succ, Nat.mul_assoc]
    rw [apN_pos h0]
    have e1 : c * 16 ^ (z + 1) / 16 = c * 16 ^ z := by rw [e, Nat.mul_div_cancel _ (by decide)]
    have e2 : c * 16 ^ (z + 1) % 16 = 0 := by rw [e, Nat.mul_mod_left]
    rw [e1, e2, apN_mul hc z, List.append_assoc, List.replicate_succ']
theorem wordL_mul {c z p : Nat} (hc : 0 < c) : wordL (c * 16 ^ z) p = wordL c (p - z) ++ List.replicate z 65 := by
  unfold wordL
  rw [apN_mul hc z, List.length_append, List.length_replicate, List.append_assoc]
  have : p - ((apN c).length + z) = p - z - (apN c).length := by omega
  rw [this]
theorem wordL_length {n p : Nat} (h : (apN n).length ≤ p) : (wordL n p).length = p := by
  unfold wordL
  rw [List.length_append, List.length_replicate]
  omega
theorem split16 : ∀ N : Nat, 0 < N → ∃ z c, N = c * 16 ^ z ∧ c % 16 ≠ 0 := by
  intro N
  induction N using Nat.strongRecOn with
  | ind N ih =>
    intro h
    by_cases h0 : N % 16 = 0
    · obtain ⟨z, c, e, hc⟩ := ih (N / 16) (by omega) (by omega)
      refine ⟨z + 1, c, ?_, hc⟩
      rw [Nat.pow_succ, ← Nat.mul_assoc, ← e]
      omega
    · exact ⟨0, N, by simp, h0⟩
theorem rstL_append_space {l : List Nat} {wc z : Nat} (hw : Unicode.isSpace wc = true) (hl : ∀ c, l.getLast? = some c → Unicode.isSpace c = false) : rstL (l ++ List.replicate z wc) = l := by
  unfold rstL
  rw [List.reverse_append, List.reverse_replicate]
  have h1 : (List.replicate z wc ++ l.reverse).dropWhile Unicode.isSpace = l.reverse.dropWhile Unicode.isSpace := by
    induction z with
    | zero => simp
    | succ z ih => rw [List.replicate_succ, List.cons_append, List.dropWhile_cons, hw, if_pos rfl, ih]
  rw [h1]
  have h2 : l.reverse.dropWhile Unicode.isSpace = l.reverse := by
    cases hr : l.reverse with
    | nil => rfl
    | cons c r =>
      have : l.getLast? = some c := by rw [List.getLast?_eq_head?_reverse, hr]; rfl
      rw [List.dropWhile_cons, hl c this]
      rfl
  rw [h2, List.reverse_reverse]
theorem space_wc {wc : Nat} (h : wc = 32 ∨ wc = 9 ∨ wc = 10) : Unicode.isSpace wc = true := by
  rcases h with rfl | rfl | rfl <;> decide +kernel
theorem letter_nospace : ∀ k : Fin 16, Unicode.isSpace (65 + k.val) = false := by decide +kernel
theorem toW_append (wc : Nat) (a b : List Nat) : toW wc (a ++ b) = toW wc a ++ toW wc b := by unfold toW; simp
theorem line_of {N wc : Nat} (h0 : 0 < N) (hN : N < 268435456) (hw : wc = 32 ∨ wc = 9 ∨ wc = 10) :
    ∃ z c, N = c * 16 ^ z ∧ c % 16 ≠ 0 ∧ z ≤ 6 ∧ cmtL (toW wc (wordL N 7)) = 35 :: 32 :: toW wc (wordL c (7 - z)) ∧ (wordL c (7 - z)).length = 7 - z := by
  obtain ⟨z, c, e, hc⟩ := split16 N h0
  have hc0 : 0 < c := by omega
  have hlenN : (apN N).length ≤ 7 := apN_length_le 7 N (by have : (16 : Nat) ^ 7 = 268435456 := by decide
                                                           omega)
  have hlen : (apN c).length + z ≤ 7 := by
    rw [e, apN_mul hc0, List.length_append, List.length_replicate] at hlenN
    exact hlenN
  have hpos : 0 < (apN c).length := by rw [apN_pos (by omega), List.length_append, List.length_singleton]; omega
  have hL : (wordL c (7 - z)).length = 7 - z := wordL_length (by omega)
  have hr : rstL (toW wc (wordL N 7)) = toW wc (wordL c (7 - z)) := by
    rw [e, wordL_mul hc0, toW_append]
    have e2 : toW wc (List.replicate z 65) = List.replicate z wc := by unfold toW; simp
    rw [e2]
    refine rstL_append_space (space_wc hw) fun d hd => ?_
    have e3 : wordL c (7 - z) = (List.replicate (7 - z - (apN c).length) 65 ++ apN (c / 16)) ++ [65 + c % 16] := by
      unfold wordL
      rw [apN_pos (n := c) (by omega), List.append_assoc]
    rw [e3, toW_append] at hd
    have e4 : toW wc [65 + c % 16] = [65 + c % 16] := by
      unfold toW
      rw [List.map_cons, List.map_nil, if_neg (by omega)]
    rw [e4, List.getLast?_append, List.getLast?_singleton] at hd
    have : d = 65 + c % 16 := by simpa using hd.symm
    subst this
    exact letter_nospace ⟨c % 16, by omega⟩
  refine ⟨z, c, e, hc, by omega, ?_, hL⟩
  unfold cmtL
  rw [if_neg, hr]
  rw [hr]
  intro q
  have := congrArg List.length q
  rw [toW_length, hL] at this
  simp at this
  omega
theorem line_zero {wc : Nat} (hw : wc = 32 ∨ wc = 9 ∨ wc = 10) : cmtL (toW wc (wordL 0 7)) = [35] := by
  have e : toW wc (wordL 0 7) = [] ++ List.replicate 7 wc := by
    unfold wordL toW
    rw [apN_zero]
    simp
  unfold cmtL
  rw [if_pos]
  rw [e]
  exact rstL_append_space (space_wc hw) (by simp)
end Mine
/-! part P2 -/
namespace Mine
open PySem PySem.W PyProof.Rows
theorem rN_lt {n m j : Nat} (hm : 0 < m) : rN n m j < m := Nat.mod_lt _ hm
theorem rN_succ (n m j : Nat) : rN n m (j + 1) = 16 * rN n m j % m := by
  unfold rN
  rw [Nat.pow_succ, ← Nat.mul_assoc, Nat.mul_mod, Nat.mul_comm 16, Nat.mul_mod (n * 16 ^ j % m) 16 m, Nat.mod_mod]
theorem rN_step (n m j : Nat) : 16 * rN n m j = (16 * rN n m j / m) * m + rN n m (j + 1) := by
  rw [rN_succ]
  have := Nat.div_add_mod (16 * rN n m j) m
  rw [Nat.mul_comm m] at this
  omega
theorem digit_lt {n m j : Nat} (hm : 0 < m) : 16 * rN n m j / m < 16 := by
  rw [Nat.div_lt_iff_lt_mul hm]
  have := rN_lt (n := n) (j := j) hm
  omega
theorem rN_zero_all {n m : Nat} (h : rN n m 0 = 0) : ∀ j, rN n m j = 0
  | 0 => h
  | j + 1 => by rw [rN_succ, rN_zero_all h j]; simp
theorem odd16 {m : Nat} (h : m % 2 = 1) : m % 16 = 1 ∨ m % 16 = 3 ∨ m % 16 = 5 ∨ m % 16 = 7 ∨ m % 16 = 9 ∨ m % 16 = 11 ∨ m % 16 = 13 ∨ m % 16 = 15 := by omega
/-- odd: what is told of the letter -/
theorem told {m : Nat} (hm : m % 2 = 1) {a b D : Nat} (hD : D < 16) (h : 16 * a = D * m + b) : (-((b : Int) * (m : Int) ^ 3)) % 16 = (D : Int) := by
  have h4 : (m : Int) ^ 4 % 16 = 1 := by
    have e : (m : Int) % 16 = 1 ∨ (m : Int) % 16 = 3 ∨ (m : Int) % 16 = 5 ∨ (m : Int) % 16 = 7 ∨ (m : Int) % 16 = 9 ∨ (m : Int) % 16 = 11 ∨ (m : Int) % 16 = 13 ∨ (m : Int) % 16 = 15 := by omega
    rw [show (m : Int) ^ 4 = m * m * (m * m) by rw [Int.pow_succ, Int.pow_succ, Int.pow_succ, Int.pow_succ, Int.pow_zero, Int.one_mul, Int.mul_assoc, Int.mul_assoc]]
    rw [Int.mul_emod, Int.mul_emod (m : Int) m]
    rcases e with e | e | e | e | e | e | e | e <;> rw [e] <;> decide
  have hb : (b : Int) = 16 * a - D * m := by omega
  have e1 : -((b : Int) * (m : Int) ^ 3) = (D : Int) * (m : Int) ^ 4 + 16 * (-(a * (m : Int) ^ 3)) := by
    rw [hb, Int.sub_mul]
    have : (D : Int) * m * (m : Int) ^ 3 = D * (m : Int) ^ 4 := by rw [Int.mul_assoc, Int.pow_succ (m : Int) 3, Int.mul_comm ((m : Int) ^ 3)]
    rw [this, Int.mul_assoc 16]
    omega
  rw [e1, Int.add_mul_emod_self_left, Int.mul_emod, h4, Int.mul_one, Int.emod_emod_of_dvd _ (Int.dvd_refl _)]
  omega
/-- A's at the end of a rest are the letters ahead of it -/
theorem rN_back {n m j N z c : Nat} (hm : m % 2 = 1) (hm0 : 3 ≤ m) (hN : N = 16 * rN n m (j - 1)) (hj : 1 ≤ j) (hz : N = c * 16 ^ z) :
    ∀ i, 1 ≤ i → i ≤ z → i ≤ j → rN n m (j - i) * 16 ^ i = N ∧ (2 ≤ i → dN n m (j - i) = 65) := by
  intro i
  induction i with
  | zero => intro h; omega
  | succ i ih =>
    intro _ hiz hij
    by_cases h1 : i = 0
    · subst h1
      refine ⟨by rw [hN]; simp [Nat.mul_comm], fun h => by omega⟩
    · obtain ⟨e, _⟩ := ih (by omega) (by omega) (by omega)
      -- the rest at j - i ends in an A
      have hdiv : rN n m (j - i) = c * 16 ^ (z - i - 1) * 16 := by
        have e2 : rN n m (j - i) * 16 ^ i = c * 16 ^ (z - i - 1) * 16 * 16 ^ i := by
          have e3 : z = (z - i - 1) + 1 + i := by omega
          rw [e, hz, Nat.mul_assoc (c * 16 ^ (z - i - 1)), Nat.mul_assoc c]
          conv => lhs; rw [e3, Nat.pow_add, Nat.pow_succ]
          rw [Nat.mul_assoc (16 ^ (z - i - 1))]
        exact Nat.eq_of_mul_eq_mul_right (Nat.pow_pos (by decide)) e2
      have hs := rN_step n m (j - i - 1)
      have hj1 : j - i - 1 + 1 = j - i := by omega
      rw [hj1] at hs
      have hD := digit_lt (n := n) (j := j - i - 1) (m := m) (by omega)
      generalize hDD : 16 * rN n m (j - i - 1) / m = D at hs hD
      have hD0 : D = 0 := by
        have h16 : (D * m) % 16 = 0 := by omega
        have hm16 : m % 16 = 1 ∨ m % 16 = 3 ∨ m % 16 = 5 ∨ m % 16 = 7 ∨ m % 16 = 9 ∨ m % 16 = 11 ∨ m % 16 = 13 ∨ m % 16 = 15 := odd16 hm
        rw [Nat.mul_mod, Nat.mod_eq_of_lt hD] at h16
        rcases hm16 with q | q | q | q | q | q | q | q <;> rw [q] at h16 <;> omega
      have hi1 : j - (i + 1) = j - i - 1 := by omega
      rw [hi1]
      subst hD0
      refine ⟨?_, fun _ => ?_⟩
      · rw [← e, Nat.pow_succ, ← Nat.mul_assoc]
        have : rN n m (j - i) = 16 * rN n m (j - i - 1) := by omega
        rw [this, Nat.mul_comm 16, Nat.mul_assoc, Nat.mul_assoc, Nat.mul_comm 16]
      · unfold dN; rw [hDD]
theorem range'_cut (a g k : Nat) : List.range' a (g + k) = List.range' a g ++ List.range' (a + g) k := by
  rw [List.range'_append_1]
theorem tells_step {n m p k j g : Nat} (hj : j = p - k) (hk : k ≤ p) (hg : 1 ≤ g) (hgj : g ≤ j) (h : ∀ i, 2 ≤ i → i ≤ g → dN n m (j - i) = 65) :
    List.replicate (g - 1) 65 ++ [dN n m (j - 1)] ++ tellsL n m p k = tellsL n m p (k + g) := by
  unfold tellsL
  have e1 : p - (k + g) = j - g := by omega
  rw [e1, Nat.add_comm k g, range'_cut, ← hj]
  have e2 : j - g + g = j := by omega
  rw [e2, List.map_append]
  congr 1
  have e3 : g = (g - 1) + 1 := by omega
  conv => rhs; rw [e3, range'_cut, List.map_append]
  congr 1
  · refine List.ext_getElem (by simp) fun i h1 h2 => ?_
    rw [List.getElem_replicate, List.getElem_map, List.getElem_range']
    have h3 : i < g - 1 := by simpa using h1
    have := h (g - i) (by omega) (by omega)
    rw [← this]
    congr 1
    omega
  · simp only [List.range'_one, List.map_cons, List.map_nil]
    congr 2
    omega
theorem met_step {n m p k j g : Nat} (hj : j = p - k) (hk : k ≤ p) (hg : 1 ≤ g) (hgj : g ≤ j) (h : ∀ i, 1 ≤ i → i < g → rN n m (j - i) % 16 = 0) (he : j - g = 0 ∨ rN n m (j - g) % 16 ≠ 0) :
    metL n m p k ++ [((rN n m (j - g) : Nat) : Int)] = metL n m p (k + g) := by
  unfold metL
  have e1 : p - (k + g) = j - g := by omega
  rw [e1, Nat.add_comm k g, range'_cut, ← hj]
  have e2 : j - g + g = j := by omega
  rw [e2, List.reverse_append, List.filter_append, List.map_append]
  congr 1
  have e3 : g = 1 + (g - 1) := by omega
  have e4 : (List.range' (j - g) g).reverse = (List.range' (j - g + 1) (g - 1)).reverse ++ [j - g] := by
    conv => lhs; rw [e3, range'_cut, List.reverse_append]
    have : j - (1 + (g - 1)) = j - g := by omega
    rw [this]
    rfl
  rw [e4, List.filter_append, List.map_append]
  have e5 : (List.range' (j - g + 1) (g - 1)).reverse.filter (fun j => decide (j = 0 ∨ rN n m j % 16 ≠ 0)) = [] := by
    rw [List.filter_eq_nil_iff]
    intro x hx
    rw [List.mem_reverse, List.mem_range'_1] at hx
    have := h (j - x) (by omega) (by omega)
    have e : j - (j - x) = x := by omega
    rw [e] at this
    simp only [decide_eq_true_eq, not_or, Decidable.not_not]
    exact ⟨by omega, this⟩
  rw [e5, List.filter_cons, if_pos (by simpa using he)]
  rfl
theorem metL_length (n m p k : Nat) : (metL n m p k).length ≤ k := by
  unfold metL
  rw [List.length_map]
  exact Nat.le_trans (List.length_filter_le _ _) (by simp)
theorem tellsL_length (n m p k : Nat) : (tellsL n m p k).length = k := by unfold tellsL; simp
end Mine
/-! part P3 -/
namespace Mine
open PySem PySem.W PyProof.Rows
theorem pow4 (z : Nat) : (2 : Int) ^ (4 * z) = ((16 ^ z : Nat) : Int) := by
  rw [Int.pow_mul]
  norm_cast
theorem line_int {N : Int} {wc : Nat} {w1 l1 : List Nat} (h0 : 0 ≤ N) (hN : N < 134217728) (hw : wc = 32 ∨ wc = 9 ∨ wc = 10) (h1 : w1 = wordL N.toNat (7 : Int).toNat) (hl : l1 = cmtL (toW wc w1)) (hne : l1 ≠ [35]) :
    ∃ z c, N.toNat = c * 16 ^ z ∧ c % 16 ≠ 0 ∧ z ≤ 6 ∧ l1 = 35 :: 32 :: toW wc (wordL c (7 - z)) ∧ l1.length = 9 - z := by
  have e7 : (7 : Int).toNat = 7 := rfl
  rw [e7] at h1
  have hpos : 0 < N.toNat := by
    refine Nat.pos_of_ne_zero fun q => hne ?_
    rw [hl, h1, q]
    exact line_zero hw
  obtain ⟨z, c, a1, a2, a3, a4, a5⟩ := line_of (wc := wc) hpos (by omega) hw
  refine ⟨z, c, a1, a2, a3, by rw [hl, h1, a4], ?_⟩
  rw [hl, h1, a4, List.length_cons, List.length_cons, toW_length, a5]
  omega
/-- the letters left of a rest are told again, the A's off its end -/
theorem word_back {N sh : Int} {wc : Nat} {w1 w2 l1 : List Nat} (h0 : 0 ≤ N) (hN : N < 134217728) (hw : wc = 32 ∨ wc = 9 ∨ wc = 10) (h1 : w1 = wordL N.toNat (7 : Int).toNat) (hl : l1 = cmtL (toW wc w1)) (hne : l1 ≠ [35])
    (hsh : sh = N / 2 ^ (4 * (9 - (l1.length : Int))).toNat) (h2 : w2 = wordL sh.toNat (7 - (9 - (l1.length : Int))).toNat) :
    strL l1 = Str.ofString "# " ++ strL (toW wc w2) := by
  obtain ⟨z, c, a1, a2, a3, a4, a5⟩ := line_int h0 hN hw h1 hl hne
  have e1 : (4 * (9 - (l1.length : Int))).toNat = 4 * z := by omega
  have e2 : (7 - (9 - (l1.length : Int))).toNat = 7 - z := by omega
  have e3 : sh.toNat = c := by
    rw [hsh, e1, pow4]
    have : N = ((c * 16 ^ z : Nat) : Int) := by omega
    rw [this, ← Int.natCast_ediv, Nat.mul_div_cancel _ (Nat.pow_pos (by decide))]
    rfl
  rw [h2, e2, e3, a4]
  have e : Str.ofString "# " = strL [35, 32] := by decide
  rw [e, strL_append]
  rfl
theorem word_len7 {N : Int} {w1 : List Nat} (h0 : 0 ≤ N) (hN : N < 134217728) (h1 : w1 = wordL N.toNat (7 : Int).toNat) : w1.length = 7 := by
  subst h1
  refine wordL_length (apN_length_le 7 _ ?_)
  have : (16 : Nat) ^ 7 = 268435456 := by decide
  omega
theorem U_start {n m p : Nat} {r o q : Int} (hP : UPre n m p r o q) : 0 ≤ r ∧ r < 4194304 ∧ ((Str.ofString "").length : Int) ≤ q ∧ ([] : List Int).length ≤ 8 ∧ U n m p ([] : List Int).length r (Str.ofString "") [] := by
  obtain ⟨h1, h2, h3, h4, h5, h6, h7, h8⟩ := hP
  have hr := rN_lt (n := n) (j := p) (m := m) (by omega)
  have hz : (Str.ofString "").length = 0 := by decide
  refine ⟨by omega, by omega, by rw [hz]; omega, by simp, 0, by omega, by simp, by rw [h1]; rfl, ?_, rfl, .inl rfl⟩
  show _ = strL []
  decide
theorem gone_is {p k z j f l : Nat} {q : Int} (p3 : q = (p : Int)) (hfl : f = k) (hj : j = p - k) (hkp : k < p) (hl : l = 9 - z) (a3 : z ≤ 6) :
    (if q - (f : Int) < 9 - (l : Int) then q - (f : Int) else 9 - (l : Int)) = ((min j z : Nat) : Int) := by
  subst p3 hfl hj hl
  have e1 : (9 : Int) - ((9 - z : Nat) : Int) = z := by omega
  have e2 : (p : Int) - (f : Int) = ((p - f : Nat) : Int) := by omega
  rw [e1, e2]
  by_cases h : p - f < z
  · rw [if_pos (by omega), Nat.min_eq_left (by omega)]
  · rw [if_neg (by omega), Nat.min_eq_right (by omega)]
theorem stage {n m p : Nat} {r o q : Int} (hP : UPre n m p r o q) {now N now' y1 y2 y3 T y5 kN : Int} {found : Str} {met kPre : List Int} {w1 l1 : List Nat} {wc : Nat}
    (hU : U n m p kPre.length now found met) (hq : (found.length : Int) ≠ q) (e1 : y1 = o ^ 3) (e2 : y2 = now * y1) (e3 : y3 = -y2) (e4 : T = y3 % 16) (e5 : y5 = T * o) (e6 : N = now + y5)
    (hw : wc = 32 ∨ wc = 9 ∨ wc = 10) (h1 : w1 = wordL N.toNat (7 : Int).toNat) (h2 : l1 = cmtL (toW wc w1)) (hne : l1 ≠ [35]) (h0 : 0 ≤ N) (hN : N < 134217728)
    (e7 : now' = N / 2 ^ (4 * (if q - (found.length : Int) < 9 - (l1.length : Int) then q - (found.length : Int) else 9 - (l1.length : Int))).toNat) :
    0 ≤ now' ∧ now' < 4194304 ∧
      ((strL (List.replicate ((if q - (found.length : Int) < 9 - (l1.length : Int) then q - (found.length : Int) else 9 - (l1.length : Int)) - 1).toNat 65) ++ strL [65 + T.toNat] ++ found).length : Int) ≤ q ∧
      (met ++ [now']).length ≤ 8 ∧
      U n m p (kPre ++ [kN]).length now' (strL (List.replicate ((if q - (found.length : Int) < 9 - (l1.length : Int) then q - (found.length : Int) else 9 - (l1.length : Int)) - 1).toNat 65) ++ strL [65 + T.toNat] ++ found) (met ++ [now']) := by
  obtain ⟨z, c, a1, a2, a3, a4, a5⟩ := line_int h0 hN hw h1 h2 hne
  obtain ⟨p1, p2, p3, p4, p5, p6, p7, p8⟩ := hP
  obtain ⟨k, u1, u2, u3, u4, u5, u6⟩ := hU
  have hfl : found.length = k := by rw [u4, strL_length, tellsL_length]
  have hkp : k < p := by omega
  obtain ⟨j, hj⟩ : ∃ j, j = p - k := ⟨_, rfl⟩
  have hj1 : 1 ≤ j := by omega
  rw [← hj] at u3
  have hm0 : 0 < m := by omega
  have hs := rN_step n m (j - 1)
  have hjj : j - 1 + 1 = j := by omega
  rw [hjj] at hs
  have hD := digit_lt (n := n) (j := j - 1) (m := m) hm0
  obtain ⟨D, hDD⟩ : ∃ D, D = 16 * rN n m (j - 1) / m := ⟨_, rfl⟩
  rw [← hDD] at hs hD
  have hT : T = (D : Int) := by
    rw [e4, e3, e2, e1, u3, p2]
    exact told p4 hD hs
  have hNn : N = ((16 * rN n m (j - 1) : Nat) : Int) := by
    rw [e6, e5, hT, u3, p2, hs]
    push_cast
    first | exact Int.add_comm _ _ | exact rfl | omega
  have hNt : N.toNat = 16 * rN n m (j - 1) := by rw [hNn]; rfl
  have back := rN_back (n := n) (m := m) (j := j) (N := N.toNat) (z := z) (c := c) p4 p5 hNt hj1 a1
  have hc0 : 0 < c := by omega
  have hz1 : 1 ≤ z := by
    refine Nat.pos_of_ne_zero fun q0 => a2 ?_
    rw [q0, Nat.pow_zero, Nat.mul_one] at a1
    omega
  -- how many places are gone
  obtain ⟨g, hg⟩ : ∃ g, g = min j z := ⟨_, rfl⟩
  have hif : (if q - (found.length : Int) < 9 - (l1.length : Int) then q - (found.length : Int) else 9 - (l1.length : Int)) = (g : Int) := by
    rw [hg]
    exact gone_is p3 hfl hj hkp a5 a3
  rw [hif] at e7 ⊢
  clear hif
  have hg1 : 1 ≤ g := by omega
  have hgj : g ≤ j := by omega
  have hgz : g ≤ z := by omega
  obtain ⟨b1, _⟩ := back g hg1 hgz hgj
  have hnow : now' = ((rN n m (j - g) : Nat) : Int) := by
    have ee : (4 * (g : Int)).toNat = 4 * g := by omega
    rw [e7, ee, pow4]
    have : N = ((rN n m (j - g) * 16 ^ g : Nat) : Int) := by rw [b1]; omega
    rw [this, ← Int.natCast_ediv, Nat.mul_div_cancel _ (Nat.pow_pos (by decide))]
  have hlt := rN_lt (n := n) (j := j - g) hm0
  have hpk : p - (k + g) = j - g := by omega
  have hfound : strL (List.replicate ((g : Int) - 1).toNat 65) ++ strL [65 + T.toNat] ++ found = strL (tellsL n m p (k + g)) := by
    have e8 : ((g : Int) - 1).toNat = g - 1 := by omega
    have e9 : 65 + T.toNat = dN n m (j - 1) := by rw [hT]; unfold dN; rw [← hDD]; rfl
    rw [e8, e9, u4, strL_append, strL_append, tells_step hj u1 hg1 hgj (fun i hi1 hi2 => (back i (by omega) (by omega) (by omega)).2 hi1)]
  have hmet : met ++ [now'] = metL n m p (k + g) := by
    rw [u5, hnow]
    refine met_step hj u1 hg1 hgj (fun i hi1 hi2 => ?_) ?_
    · obtain ⟨q1, _⟩ := back i hi1 (by omega) (by omega)
      have q2 : rN n m (j - i) = c * 16 ^ (z - i - 1) * 16 := by
        refine Nat.eq_of_mul_eq_mul_right (Nat.pow_pos (n := i) (show 0 < 16 by decide)) ?_
        have e3' : z = (z - i - 1) + 1 + i := by omega
        rw [q1, a1, Nat.mul_assoc (c * 16 ^ (z - i - 1)), Nat.mul_assoc c]
        conv => lhs; rw [e3', Nat.pow_add, Nat.pow_succ]
        rw [Nat.mul_assoc (16 ^ (z - i - 1))]
      rw [q2, Nat.mul_mod_left]
    · by_cases hgj2 : g = j
      · exact .inl (by omega)
      · refine .inr ?_
        have hgz2 : g = z := by omega
        have q2 : rN n m (j - g) = c := by
          refine Nat.eq_of_mul_eq_mul_right (Nat.pow_pos (n := g) (show 0 < 16 by decide)) ?_
          rw [b1, a1, hgz2]
        rw [q2]; exact a2
  have hlen1 := metL_length n m p (k + g)
  refine ⟨by omega, by omega, ?_, ?_, k + g, by omega, ?_, by rw [hpk]; exact hnow, hfound, hmet, .inr ?_⟩
  · rw [hfound, strL_length, tellsL_length]; omega
  · rw [hmet]; omega
  · rw [List.length_append, List.length_singleton]; omega
  · intro q0
    have := rN_zero_all q0 (j - 1)
    rw [this] at hNt
    rw [hNt] at a1
    have := Nat.mul_pos hc0 (Nat.pow_pos (n := z) (show 0 < 16 by decide))
    omega
/-- what _law_undone tells -/
def foundE (n m p : Nat) : List Nat := (List.range' 0 p).map (dN n m)
def metE (n m p : Nat) : List Int := if rN n m 0 = 0 then [] else metL n m p p
theorem end_full {n m p : Nat} {r o q : Int} (hP : UPre n m p r o q) {c : Nat} {now : Int} {found : Str} {met : List Int} (hU : U n m p c now found met) (hq : (found.length : Int) = q ∨ (p ≤ c)) :
    strL (List.replicate (q - (found.length : Int)).toNat 65) ++ found = strL (foundE n m p) ∧ met = metE n m p := by
  obtain ⟨p1, p2, p3, p4, p5, p6, p7, p8⟩ := hP
  obtain ⟨k, u1, u2, u3, u4, u5, u6⟩ := hU
  have hfl : found.length = k := by rw [u4, strL_length, tellsL_length]
  have hk : k = p := by omega
  subst hk
  have e1 : (q - (found.length : Int)).toNat = 0 := by omega
  rw [e1, u4, strL_append, u5]
  have e2 : k - k = 0 := by omega
  refine ⟨?_, ?_⟩
  · unfold tellsL foundE
    rw [e2]; rfl
  · unfold metE
    rw [if_neg (by rcases u6 with h | h; · omega
                   · exact h)]
theorem end_zero {n m p : Nat} {r o q : Int} (hP : UPre n m p r o q) {c : Nat} {now N y1 y2 y3 T y5 : Int} {found : Str} {met : List Int} {w1 l1 : List Nat} {wc : Nat} (hU : U n m p c now found met)
    (hq : (found.length : Int) ≠ q) (e1 : y1 = o ^ 3) (e2 : y2 = now * y1) (e3 : y3 = -y2) (e4 : T = y3 % 16) (e5 : y5 = T * o) (e6 : N = now + y5)
    (hw : wc = 32 ∨ wc = 9 ∨ wc = 10) (h1 : w1 = wordL N.toNat (7 : Int).toNat) (h2 : l1 = cmtL (toW wc w1)) (hne : l1 = [35]) (h0 : 0 ≤ N) (hN : N < 134217728) :
    strL (List.replicate (q - (found.length : Int)).toNat 65) ++ found = strL (foundE n m p) ∧ met = metE n m p := by
  obtain ⟨p1, p2, p3, p4, p5, p6, p7, p8⟩ := hP
  obtain ⟨k, u1, u2, u3, u4, u5, u6⟩ := hU
  have hfl : found.length = k := by rw [u4, strL_length, tellsL_length]
  have e7 : (7 : Int).toNat = 7 := rfl
  have hN0 : N.toNat = 0 := by
    refine Classical.byContradiction fun q0 => ?_
    obtain ⟨z, c, a1, a2, a3, a4, a5⟩ := line_of (N := N.toNat) (wc := wc) (by omega) (by omega) hw
    rw [h2, h1, e7, a4] at hne
    simp at hne
  have hm0 : 0 < m := by omega
  have hkp : k < p := by omega
  have hs := rN_step n m (p - k - 1)
  have hjj : p - k - 1 + 1 = p - k := by omega
  rw [hjj] at hs
  have hD := digit_lt (n := n) (j := p - k - 1) (m := m) hm0
  obtain ⟨D, hDD⟩ : ∃ D, D = 16 * rN n m (p - k - 1) / m := ⟨_, rfl⟩
  rw [← hDD] at hs hD
  have hT : T = (D : Int) := by
    rw [e4, e3, e2, e1, u3, p2]
    exact told p4 hD hs
  have hNn : N = ((16 * rN n m (p - k - 1) : Nat) : Int) := by
    rw [e6, e5, hT, u3, p2, hs]
    push_cast
    first | exact Int.add_comm _ _ | exact rfl | omega
  have hz : rN n m (p - k - 1) = 0 := by omega
  -- then the share is a multiple
  have hall : ∀ i, rN n m (i + 1) = 0 → rN n m i = 0 := by
    intro i hi
    have hs := rN_step n m i
    rw [hi] at hs
    have hD := digit_lt (n := n) (j := i) (m := m) hm0
    generalize 16 * rN n m i / m = D at hs hD
    have h16 : (D * m) % 16 = 0 := by omega
    have hm16 : m % 16 = 1 ∨ m % 16 = 3 ∨ m % 16 = 5 ∨ m % 16 = 7 ∨ m % 16 = 9 ∨ m % 16 = 11 ∨ m % 16 = 13 ∨ m % 16 = 15 := odd16 p4
    rw [Nat.mul_mod, Nat.mod_eq_of_lt hD] at h16
    have hD0 : D = 0 := by rcases hm16 with q | q | q | q | q | q | q | q <;> rw [q] at h16 <;> omega
    subst hD0
    omega
  have hzero : ∀ i, rN n m i = 0 → rN n m 0 = 0 := by
    intro i
    induction i with
    | zero => exact id
    | succ i ih => exact fun h => ih (hall i h)
  have h00 := hzero _ hz
  have hk0 : k = 0 := by
    rcases u6 with h | h
    · exact h
    · exact absurd h00 h
  subst hk0
  have e8 : (q - (found.length : Int)).toNat = p := by omega
  rw [e8, u4, strL_append, u5]
  refine ⟨?_, ?_⟩
  · congr 1
    have : tellsL n m p 0 = [] := rfl
    rw [this, List.append_nil]
    unfold foundE
    refine List.ext_getElem (by simp) fun i h1 h2 => ?_
    rw [List.getElem_replicate, List.getElem_map, List.getElem_range']
    unfold dN
    rw [rN_zero_all h00]
    simp
  · unfold metE
    rw [if_pos h00]
    rfl
end Mine
/-! part C7 -/
namespace Mine
open PySem PySem.W PyProof.Rows
open PySem.Spec PySem.Calls
set_option maxRecDepth 100000
theorem mul_bd {x o y : Int} (hy : y = x * o) (hx0 : 0 ≤ x) (hx : x < 16) (ho : 0 < o) (ho2 : o < 4194304) : 0 ≤ y ∧ y < 67108864 := by
  have a := Int.mul_nonneg hx0 (Int.le_of_lt ho)
  have b : x * o ≤ 15 * o := Int.mul_le_mul_of_nonneg_right (by omega) (Int.le_of_lt ho)
  omega
theorem shr_bd {x y : Int} {k : Nat} (hy : y = x / 2 ^ k) (h0 : 0 ≤ x) : 0 ≤ y ∧ y ≤ x := by
  subst hy
  exact ⟨Int.ediv_nonneg h0 (Int.le_of_lt (Int.pow_pos (by decide))), Int.ediv_le_self _ h0⟩
theorem wordL_le {y : List Nat} {n p : Int} (hy : y = wordL n.toNat p.toNat) (h : n < 2 ^ 120) (hp : p ≤ 8) : y.length ≤ 38 := by
  have h1 : (apN n.toNat).length ≤ 30 := apN_length_le 30 _ (by have : (16 : Nat) ^ 30 = 2 ^ 120 := by decide
                                                                omega)
  subst hy
  unfold wordL
  rw [List.length_append, List.length_replicate]
  omega
theorem cmtL_le {y l : List Nat} (hy : y = cmtL l) : y.length ≤ l.length + 2 := by
  subst hy
  have := rstL_length_le l
  unfold cmtL
  split
  · simp
  · simp only [List.length_cons]; omega
theorem cmt_ge3 {y l : List Nat} (hy : y = cmtL l) (h : y ≠ [35]) : 3 ≤ y.length := by
  subst hy
  unfold cmtL at h ⊢
  split
  · rename_i h2; rw [if_pos h2] at h; exact absurd rfl h
  · rename_i h2
    have : 0 < (rstL l).length := List.length_pos_iff.mpr h2
    simp only [List.length_cons]; omega
section
variable {k : Nat} {w : World} {mean : ExcName → Option Value} {mg mb : Str → Option Value} {f : Addr} {news : List (Addr × Obj)} {pre : Prop} {vs : List Value}
    {dp un : Nat} {gd : Option (List Code)} {cn : Str} {cs : Scope} {a : Addr} {ccd : Value} {cl : List (Str × Addr)} {outer : List Env} {A₀ : Around} {base h₀ : Heap} {L : Addr} {m : Str → Option Value} {s : Shared} {Q E : Value → Shared → Prop}
theorem Cl.useI {x : Int} (C : Cl k w mean mg mb f news pre vs (fun t => .int x t)) (B : Below A₀ base outer h₀) (F : Fr h₀ L s.heap m) (X : (hd.heap_39 w.params).In h₀) (N : News h₀ L s.heap news) (T : Top hd.view_39 (looseW hd.view_39 []) mean mg mb h₀) (hk : cs.kind = .function)
    (hp : pre) (hd' : dp + k < recursionLimit) (hu : un + 8 * k < cLine)
    (ret : ∀ (y : Int) (t : Tok) (h' : Heap) (tk' : Nat), y = x → s.toks ≤ tk' → Fr h₀ L h' m → News h₀ L h' news → Q (.int y t) { s with heap := h', toks := tk' }) :
    wpAny (model PySem.Challenge.rw_wr0011_01.row.prog w) (ktrTop dp un gd cn cs L a ccd cl outer) (call (.ref f) vs) Q E s :=
  Cl.use C B F X N T hk hp hd' hu (fun t h' tk' ht F' N' => ret x t h' tk' rfl ht F' N')
theorem Cl.useS {x : List Nat} (C : Cl k w mean mg mb f news pre vs (fun t => .str (strL x) t)) (B : Below A₀ base outer h₀) (F : Fr h₀ L s.heap m) (X : (hd.heap_39 w.params).In h₀) (N : News h₀ L s.heap news) (T : Top hd.view_39 (looseW hd.view_39 []) mean mg mb h₀) (hk : cs.kind = .function)
    (hp : pre) (hd' : dp + k < recursionLimit) (hu : un + 8 * k < cLine)
    (ret : ∀ (y : List Nat) (t : Tok) (h' : Heap) (tk' : Nat), y = x → s.toks ≤ tk' → Fr h₀ L h' m → News h₀ L h' news → Q (.str (strL y) t) { s with heap := h', toks := tk' }) :
    wpAny (model PySem.Challenge.rw_wr0011_01.row.prog w) (ktrTop dp un gd cn cs L a ccd cl outer) (call (.ref f) vs) Q E s :=
  Cl.use C B F X N T hk hp hd' hu (fun t h' tk' ht F' N' => ret x t h' tk' rfl ht F' N')
end
section
variable {prog : Program} {w : World} {A : Around} {E : Value → Shared → Prop} {s : Shared} {value slice : PySem.Expr} {i : Int} {t u : Tok} {Q : Value → Shared → Prop}
theorem white_eq : Str.ofString " \t\n" = strL [32, 9, 10] := by decide
theorem alpha_eq : Str.ofString "ABCDEFGHIJKLMNOP" = strL [65, 66, 67, 68, 69, 70, 71, 72, 73, 74, 75, 76, 77, 78, 79, 80] := by decide
theorem m_white (h0 : 0 ≤ i) (h1 : i < 3) (h : ∀ wc, wc = 32 ∨ wc = 9 ∨ wc = 10 → Q (.str ⟨#[wc]⟩ s.toks) { s with toks := s.toks + 1 })
    (hs : subscripted slice false (.str (Str.ofString " \t\n") t) (.int i u) = operate [.str (Str.ofString " \t\n") t, .int i u] (getItem (.str (Str.ofString " \t\n") t) (.int i u)) := by with_unfolding_all rfl)
    (ht : ∀ r, letTemporaryGo value (.str (Str.ofString " \t\n") t) r = pure () := by intro _; with_unfolding_all rfl) :
    wpAny (model prog w) A (subscriptTail value slice (.str (Str.ofString " \t\n") t) (.int i u)) Q E s := by
  refine KXi.item (n := 3) (by decide) (by omega) (by omega) (by decide) (fun _ => ?_) hs ht
  rw [white_eq, item_strL h0 (by simpa using h1)]
  refine h _ ?_
  have : i = 0 ∨ i = 1 ∨ i = 2 := by omega
  rcases this with rfl | rfl | rfl <;> simp
theorem m_alpha (h0 : 0 ≤ i) (h1 : i < 16) (h : Q (.str (strL [65 + i.toNat]) s.toks) { s with toks := s.toks + 1 })
    (hs : subscripted slice false (.str (Str.ofString "ABCDEFGHIJKLMNOP") t) (.int i u) = operate [.str (Str.ofString "ABCDEFGHIJKLMNOP") t, .int i u] (getItem (.str (Str.ofString "ABCDEFGHIJKLMNOP") t) (.int i u)) := by with_unfolding_all rfl)
    (ht : ∀ r, letTemporaryGo value (.str (Str.ofString "ABCDEFGHIJKLMNOP") t) r = pure () := by intro _; with_unfolding_all rfl) :
    wpAny (model prog w) A (subscriptTail value slice (.str (Str.ofString "ABCDEFGHIJKLMNOP") t) (.int i u)) Q E s := by
  refine KXi.item (n := 16) (by decide) (by omega) (by omega) (by decide) (fun _ => ?_) hs ht
  rw [alpha_eq, item_strL h0 (by simpa using h1)]
  have e : [65, 66, 67, 68, 69, 70, 71, 72, 73, 74, 75, 76, 77, 78, 79, 80].getD i.toNat 0 = 65 + i.toNat := by
    have key : ∀ k : Fin 16, [65, 66, 67, 68, 69, 70, 71, 72, 73, 74, 75, 76, 77, 78, 79, 80].getD k.val 0 = 65 + k.val := by decide
    exact key ⟨i.toNat, by omega⟩
  rw [e]
  exact h
theorem s_replace {l : List Nat} {y : Str} {wc : Nat} {v : Tok} (hy : y = ⟨#[65]⟩) (hv : @Ne Nat v 0) (huv : @LT.lt Nat _ v u) (hw : wc = 32 ∨ wc = 9 ∨ wc = 10) (hl : l.length ≤ 1000) (h : ∀ t' k, s.toks ≤ k → Q (.str (strL (toW wc l)) t') { s with toks := k }) :
    wpAny (model prog w) A (call (.builtin "str.replace") [.str (strL l) t, .str y u, .str ⟨#[wc]⟩ v]) Q E s := by
  subst hy
  exact wpAny_toks (m_replace (Nat.ne_of_gt (Nat.zero_lt_of_lt huv)) hv (Nat.ne_of_gt huv) (by omega) hl (fun t' k hk => h t' k hk))
theorem s_add {x y : Str} (hx : x.length + y.length ≤ 1000) (h : ∀ t' k, s.toks ≤ k → Q (.str (x ++ y) t') { s with toks := k }) : wpAny (model prog w) A (binaryOp .Add (.str x t) (.str y u)) Q E s :=
  wpAny_toks (m_add hx (fun t' k hk => h t' k hk))
theorem gen_toks {α : Type} {M : Model} {A : Around} {c : Sem α} {Q : α → Shared → Prop} {E : Value → Shared → Prop} {s : Shared} (h : ∀ tk : Nat, s.toks ≤ tk → wpAny M A c Q E { s with toks := tk }) : wpAny M A c Q E s :=
  h s.toks (Nat.le_refl _)
theorem m_eqHash {l : List Nat} (h1 : l = [35] → Q (.bool true) s) (h2 : l ≠ [35] → Q (.bool false) s) : wpAny (model prog w) A (compareOp .Eq (.str (strL l) t) (.str (Str.ofString "#") u)) Q E s := by
  have e : (Str.ofString "#").cps.toList = [35] := by decide
  refine P.eq_str ?_
  rw [e, strL_list]
  by_cases h : l = [35]
  · subst h; exact h1 rfl
  · have : (l == [35]) = false := beq_eq_false_iff_ne.mpr h
    rw [this]; exact h2 h
theorem m_neSame {x y : Str} (he : x = y) (h : Q (.bool false) s) : wpAny (model prog w) A (compareOp .NotEq (.str x t) (.str y u)) Q E s := by
  subst he
  refine P.ne_str ?_
  simpa using h
end
theorem News.drop_own {h₀ h : Heap} {L : Addr} {a b : Addr × Obj} {news own : List (Addr × Obj)} (N : News h₀ L h (a :: b :: (news ++ own))) : News h₀ L h (a :: b :: news) :=
  cb_drop N (fun p hp => by
    rcases List.mem_cons.mp hp with rfl | hp
    · exact .head _
    · rcases List.mem_cons.mp hp with rfl | hp
      · exact .tail _ (.head _)
      · exact .tail _ (.tail _ (List.mem_append.mpr (.inl hp))))
theorem end_range {n m p : Nat} {r o q : Int} (hP : UPre n m p r o q) {now : Int} {found : Str} {met : List Int} (hU : U n m p (rangeKs 0 (q - 0).toNat).length now found met) :
    strL (List.replicate (q - (found.length : Int)).toNat 65) ++ found = strL (foundE n m p) ∧ met = metE n m p :=
  end_full hP hU (.inr (by rw [rangeKs_length]; have := hP.2.2.1; omega))
/-- what a call of _law_undone gives back -/
abbrev ClU (k : Nat) (w : World) (mean : ExcName → Option Value) (mg mb : Str → Option Value) (news : List (Addr × Obj)) (pre : Prop) (vs : List Value) (fnd : List Nat) (met : List Int) : Prop :=
  ∀ (dp un : Nat) (gd : Option (List Code)) (cn : Str) (cs : Scope) (a : Addr) (ccd : Value) (cl : List (Str × Addr)) (outer : List Env) (A₀ : Around) (base h₀ : Heap) (L : Addr) (m : Str → Option Value) (s : Shared) (Q E : Value → Shared → Prop),
    Below A₀ base outer h₀ → Fr h₀ L s.heap m → (hd.heap_39 w.params).In h₀ → News h₀ L s.heap news → Top hd.view_39 (looseW hd.view_39 []) mean mg mb h₀ → cs.kind = .function →
    pre → dp + k < recursionLimit → un + 8 * k < cLine →
    (∀ (fs : Str) (met' : List Int) (T D : Addr) (ts : Tok) (ws : List Value) (c : Nat) (h' : Heap) (tk' : Nat), fs = strL fnd → met' = met → Fr h₀ L h' m →
      News h₀ L h' ((T, { cls := Value.type "tuple", data := Data.seq #[Value.str fs ts, Value.ref D] }) :: (D, W.listOf ws.toArray c) :: news) → IntsAre ws met' → Q (.ref T) { s with heap := h', toks := tk' }) →
      wpAny (model PySem.Challenge.rw_wr0011_01.row.prog w) (ktrTop dp un gd cn cs L a ccd cl outer) (call (.ref 110) vs) Q E s
section
local macro_rules | `(tactic| walk_at "MINE use") => `(tactic| ((case k1 => k_asm); (case k2 => k_asm); (case k3 => k_asm); (case k4 => k_asm); (case k5 => k_asm); (case kK => first | exact rfl | assumption); (case kp => first | trivial | assumption | omega | exact ⟨by omega, by omega⟩ | (simp only [toW_length]; omega)); (case kd => ktr_room); (case ku => ktr_units)))
local macro_rules | `(tactic| walk_at "call ref") => `(tactic| (k_here; (first
  | ((with_reducible show wpAny _ _ (call (Value.ref 49) _) _ _ _); k_dflt (refine' Cl.useI (c_iadd _ _ _ _ _ _ _ _ _) ?k1 ?k2 ?k3 ?k4 ?k5 ?kK ?kp ?kd ?ku ?_))
  | ((with_reducible show wpAny _ _ (call (Value.ref 70) _) _ _ _); k_dflt (refine' Cl.useI (c_imod _ _ _ _ _ _ _ _ _) ?k1 ?k2 ?k3 ?k4 ?k5 ?kK ?kp ?kd ?ku ?_))
  | ((with_reducible show wpAny _ _ (call (Value.ref 77) _) _ _ _); k_dflt (refine' Cl.useI (c_imul _ _ _ _ _ _ _ _ _) ?k1 ?k2 ?k3 ?k4 ?k5 ?kK ?kp ?kd ?ku ?_))
  | ((with_reducible show wpAny _ _ (call (Value.ref 84) _) _ _ _); k_dflt (refine' Cl.useI (c_ipow _ _ _ _ _ _ _ _) ?k1 ?k2 ?k3 ?k4 ?k5 ?kK ?kp ?kd ?ku ?_))
  | ((with_reducible show wpAny _ _ (call (Value.ref 91) _) _ _ _); k_dflt (refine' Cl.useI (c_irshift _ _ _ _ _ _ _ _ _) ?k1 ?k2 ?k3 ?k4 ?k5 ?kK ?kp ?kd ?ku ?_))
  | ((with_reducible show wpAny _ _ (call (Value.ref 42) _) _ _ _); k_dflt (refine' Cl.useI (c_neg _ _ _ _ _ _ _) ?k1 ?k2 ?k3 ?k4 ?k5 ?kK ?kp ?kd ?ku ?_))); walk_at "MINE use"; intro y9 t9 h9 tk9 hy9 hT9 F9 N9; (try dsimp only at hT9); (try (have hb9 := mul_bd hy9 (by omega) (by omega) (by omega) (by omega))); (try (have hb9 := shr_bd hy9 (by omega))); (try dsimp only); (try k_fold)))
local macro_rules | `(tactic| walk_at "call ref") => `(tactic| (k_here; (with_reducible show wpAny _ _ (call (Value.ref 103) _) _ _ _); k_dflt (refine' Cl.useS (c_word _ _ _ _ _ _ _ _ _) ?k1 ?k2 ?k3 ?k4 ?k5 ?kK ?kp ?kd ?ku ?_); walk_at "MINE use"; intro y9 t9 h9 tk9 hy9 hT9 F9 N9; (try dsimp only at hT9); (have hb9 := wordL_le hy9 (by omega) (by omega)); (try (have hw7 := word_len7 (by omega) (by omega) hy9)); (try dsimp only); (try k_fold)))
local macro_rules | `(tactic| walk_at "call ref") => `(tactic| (k_here; (with_reducible show wpAny _ _ (call (Value.ref 21) _) _ _ _); k_dflt (refine' Cl.useS (c_comment _ _ _ _ _ _ _) ?k1 ?k2 ?k3 ?k4 ?k5 ?kK ?kp ?kd ?ku ?_); walk_at "MINE use"; intro y9 t9 h9 tk9 hy9 hT9 F9 N9; (try dsimp only at hT9); (have hb9 := cmtL_le hy9); (try simp only [toW_length] at hb9); (try dsimp only); (try k_fold)))
local macro_rules | `(tactic| walk_at "subscriptTail Constant str") => `(tactic| (k_here; first
  | (refine m_white (fmod_lo _ (by decide)) (fmod_hi _ (by decide)) ?_; intro wc9 hwc9)
  | (refine m_alpha (by omega) (by omega) ?_)))
local macro_rules | `(tactic| walk_at "compareOp Eq str str") => `(tactic| (k_here; refine m_eqHash ?_ ?_ <;> (intro hne9; (try (have h39 := cmt_ge3 (by assumption) hne9)))))
local macro_rules | `(tactic| walk_at "compareOp NotEq str str") => `(tactic| (k_here; refine' m_neSame (word_back ?a1 ?a2 ?a3 ?a4 ?a5 ?a6 ?a7 ?a8) ?_; (case a5 => assumption); (case a4 => assumption); (case a8 => assumption); (case a7 => assumption); (case a6 => assumption); (case a3 => assumption); (case a1 => omega); (case a2 => omega)))
local macro_rules | `(tactic| walk_at "binaryOp Mult str int") => `(tactic| (k_here; (refine m_mulA (by omega) (by omega) ?_); intro _ _))
local macro_rules | `(tactic| walk_at "binaryOp Add str str") => `(tactic| (k_here; (refine s_add (by first | omega | (simp only [strL_length, List.length_replicate, toW_length, Str.length_append, List.length_cons, List.length_nil, cmt_len2]; omega)) ?_); intro _ _ hk9; (try dsimp only at hk9)))
local macro_rules | `(tactic| walk_at "execs cons") => `(tactic| (k_here; (with_reducible show wpAny _ _ _ _ _ (Shared.mk _ _ _ (_ + 1) _)); (refine gen_toks (s := ⟨_, _, _, _, _⟩) ?_); intro tk htk9; (try dsimp only at htk9); (try dsimp only)))
local macro_rules | `(tactic| walk_at "execs nil") => `(tactic| (k_here; (with_reducible show wpAny _ _ _ _ _ (Shared.mk _ _ _ (_ + 1) _)); (refine gen_toks (s := ⟨_, _, _, _, _⟩) ?_); intro tk htk9; (try dsimp only at htk9); (try dsimp only)))
local macro_rules | `(tactic| walk_at "call builtin:len cons nil") => `(tactic| (k_here; (with_reducible refine m_len (by first | omega | (simp only [strL_length]; omega)) ?_); (try simp only [strL_length])))
local macro_rules | `(tactic| walk_at "call builtin:str.replace cons nil") => `(tactic| (k_here; (refine s_replace (by decide) (by omega) (by omega) (by assumption) (by omega) ?_); intro _ _ hk9; (try dsimp only at hk9)))
local macro_rules | `(tactic| walk_at "pyIter ref") => `(tactic| k_extra "pyIter ref")
set_option maxHeartbeats 8000000 in
theorem c_undone (w : World) (mean : ExcName → Option Value) (mg mb : Str → Option Value) (news : List (Addr × Obj)) (n m p : Nat) (r o q : Int) (tr to tp : Tok) :
    ClU 3 w mean mg mb news (UPre n m p r o q) [.int r tr, .int o to, .int q tp] (foundE n m p) (metE n m p) := by
  dsimp only [ClU]
  w_top off
  k_fill
  intro dp un gd cn cs ad ccd cl outer A₀ base h₀ L m' s Q E B F X N T hk hpre hd hu hret
  obtain ⟨hm1, hm2, hp1, hp12⟩ := hpre.facts
  have hNil : IntsAre ([] : List Value) ([] : List Int) := .nil
  refine wpAny_call ?_
  k_with "pyIter ref" => k_state (fun pre now found met => 0 ≤ now ∧ now < 4194304 ∧ (found.length : Int) ≤ q ∧ met.length ≤ 8 ∧ U n m p pre.length now found met) "now" "found" "met"
  k_with "state" => first
    | exact U_start hpre
    | (refine' stage hpre ?b1 ?b2 ?b3 ?b4 ?b5 ?b6 ?b7 ?b8 ?b9 ?b10 ?b11 ?b12 ?b13 ?b14 ?b15; (case b15 => assumption); (case b11 => assumption); (case b10 => assumption); (case b6 => assumption); (case b5 => assumption); (case b4 => assumption); (case b3 => assumption); (case b8 => assumption); (case b7 => assumption); (case b1 => assumption); (case b2 => assumption); (case b9 => assumption); (case b12 => assumption); (case b13 => omega); (case b14 => omega))
  k_dflt cell_enter
  k_steps
  all_goals (refine' hret _ _ _ _ _ _ _ _ _ ?f1 ?f2 ?f3 ?f4 ?f5
             (case f4 => first | exact News.drop_own (by k_asm) | k_asm)
             (case f3 => k_asm)
             (case f5 => assumption)
             (case f1 => first
               | exact (end_full hpre (by assumption) (.inl (by assumption))).1
               | exact (end_range hpre (by assumption)).1
               | (refine' (end_zero hpre ?b1 ?b2 ?b3 ?b4 ?b5 ?b6 ?b7 ?b8 ?b9 ?b10 ?b11 ?b12 ?b13 ?b14).1; (case b11 => assumption); (case b12 => assumption); (case b10 => assumption); (case b8 => assumption); (case b7 => assumption); (case b6 => assumption); (case b5 => assumption); (case b4 => assumption); (case b3 => assumption); (case b1 => assumption); (case b2 => assumption); (case b9 => assumption); (case b13 => omega); (case b14 => omega)))
             (case f2 => first
               | exact (end_full hpre (by assumption) (.inl (by assumption))).2
               | exact (end_range hpre (by assumption)).2
               | (refine' (end_zero hpre ?b1 ?b2 ?b3 ?b4 ?b5 ?b6 ?b7 ?b8 ?b9 ?b10 ?b11 ?b12 ?b13 ?b14).2; (case b11 => assumption); (case b12 => assumption); (case b10 => assumption); (case b8 => assumption); (case b7 => assumption); (case b6 => assumption); (case b5 => assumption); (case b4 => assumption); (case b3 => assumption); (case b1 => assumption); (case b2 => assumption); (case b9 => assumption); (case b13 => omega); (case b14 => omega))))
end
end Mine
/-! part L0 -/
namespace Mine
open PySem PySem.W PyProof.Rows
open PySem.Spec PySem.Calls
set_option maxRecDepth 100000
/-! what stands behind the dot -/
def TailOk (tl : List Nat) : Prop := tl = [] ∨ tl = [58, 120, 46, 121] ∨ tl = [10, 46, 122] ∨ tl = [58, 10, 46, 122]
def AB (a b tl : List Nat) : Prop := a.length ≤ 40 ∧ b.length ≤ 40 ∧ (∀ c ∈ a ++ b, 65 ≤ c ∧ c ≤ 80) ∧ (tl = [] ∨ tl = [58, 120, 46, 121] ∨ tl = [10, 46, 122] ∨ tl = [58, 10, 46, 122])
theorem ab_head {a b tl : List Nat} {i x : Nat} (hi : i < a.length + 1 + b.length) (hx : (a ++ 46 :: (b ++ tl))[i]? = some x) : (i = a.length ∧ x = 46) ∨ (i ≠ a.length ∧ x ∈ a ++ b) := by
  by_cases h1 : i < a.length
  · rw [List.getElem?_append_left h1] at hx
    exact .inr ⟨by omega, List.mem_append.mpr (.inl (List.mem_of_getElem? hx))⟩
  · rw [List.getElem?_append_right (by omega)] at hx
    obtain ⟨k, hk⟩ : ∃ k, i - a.length = k := ⟨_, rfl⟩
    rw [hk] at hx
    cases k with
    | zero =>
      left
      refine ⟨by omega, ?_⟩
      simpa using hx.symm
    | succ k =>
      right
      rw [List.getElem?_cons_succ, List.getElem?_append_left (by omega)] at hx
      exact ⟨by omega, List.mem_append.mpr (.inr (List.mem_of_getElem? hx))⟩
theorem ab_dot (a b tl : List Nat) : (a ++ 46 :: (b ++ tl))[a.length]? = some 46 := by
  rw [List.getElem?_append_right (Nat.le_refl _), Nat.sub_self]; rfl
theorem ab_tail (a b tl : List Nat) (k : Nat) : (a ++ 46 :: (b ++ tl))[a.length + 1 + b.length + k]? = tl[k]? := by
  rw [List.getElem?_append_right (by omega)]
  have : a.length + 1 + b.length + k - a.length = (b.length + k) + 1 := by omega
  rw [this, List.getElem?_cons_succ, List.getElem?_append_right (by omega)]
  congr 1
  omega
theorem strip_at {a b tl : List Nat} (h : AB a b tl) : ∃ r1 r2 n1, StripAt (a ++ 46 :: (b ++ tl)) r1 r2 n1 (a.length + 1 + b.length) a.length := by
  obtain ⟨h1, h2, h3, h4⟩ := h
  obtain ⟨l, hl⟩ : ∃ l, l = a ++ 46 :: (b ++ tl) := ⟨_, rfl⟩
  have hlen : l.length = a.length + 1 + b.length + tl.length := by rw [hl]; simp; omega
  have hhead : ∀ i, i < a.length + 1 + b.length → ∀ c, c ≠ 46 → (c < 65 ∨ 80 < c) → l[i]? ≠ some c := by
    intro i hi c hc hc2 hx
    rw [hl] at hx
    rcases ab_head hi hx with ⟨_, h⟩ | ⟨_, h⟩
    · exact hc h
    · have := h3 c h; omega
  have hlast : lastIn1 l 46 (a.length + 1 + b.length) = ((a.length : Nat) : Int) := by
    refine lastIn1_at (by omega) (by omega) (by rw [hl]; exact ab_dot a b tl) fun i hi1 hi2 hx => ?_
    rw [hl] at hx
    rcases ab_head hi2 hx with ⟨h, _⟩ | ⟨_, h⟩
    · omega
    · have := h3 46 h; omega
  have htail : ∀ k, l[a.length + 1 + b.length + k]? = tl[k]? := fun k => by rw [hl]; exact ab_tail a b tl k
  rw [← hl]
  have hl100 : l.length ≤ 100 := by rcases h4 with q | q | q | q <;> rw [q] at hlen <;> simp at hlen <;> omega
  rcases h4 with rfl | rfl | rfl | rfl
  · have hn : l.length = a.length + 1 + b.length := by simpa using hlen
    exact ⟨-1, -1, l.length,
      { len := hl100, f1 := findIn1_none (Nat.le_refl _) (fun i hi => hhead i (by omega) 10 (by decide) (by decide)), e1 := by omega, e1' := fun _ => rfl, le1 := Nat.le_refl _,
        f2 := findIn1_none (Nat.le_refl _) (fun i hi => hhead i (by omega) 58 (by decide) (by decide)), e2 := by omega, e2' := fun _ => hn.symm, le2 := by omega, f3 := hlast, lt3 := by omega }⟩
  · have hn : l.length = a.length + 1 + b.length + 4 := by simpa using hlen
    have t10 : ∀ k, k < 4 → ([58, 120, 46, 121] : List Nat)[k]? ≠ some 10 := by decide
    refine ⟨-1, ((a.length + 1 + b.length : Nat) : Int), l.length,
      { len := hl100, f1 := findIn1_none (Nat.le_refl _) (fun i hi => ?_), e1 := by omega, e1' := fun _ => rfl, le1 := Nat.le_refl _,
        f2 := findIn1_at (Nat.le_refl _) (by omega) (htail 0) (fun i hi => hhead i hi 58 (by decide) (by decide)), e2 := fun _ => rfl, e2' := by omega, le2 := by omega, f3 := hlast, lt3 := by omega }⟩
    by_cases hi2 : i < a.length + 1 + b.length
    · exact hhead i hi2 10 (by decide) (by decide)
    · have := htail (i - (a.length + 1 + b.length))
      have e : a.length + 1 + b.length + (i - (a.length + 1 + b.length)) = i := by omega
      rw [e] at this
      rw [this]
      exact t10 _ (by omega)
  · have hn : l.length = a.length + 1 + b.length + 3 := by simpa using hlen
    exact ⟨((a.length + 1 + b.length : Nat) : Int), -1, a.length + 1 + b.length,
      { len := hl100, f1 := findIn1_at (Nat.le_refl _) (by omega) (htail 0) (fun i hi => hhead i hi 10 (by decide) (by decide)), e1 := fun _ => rfl, e1' := by omega, le1 := by omega,
        f2 := findIn1_none (by omega) (fun i hi => hhead i (by omega) 58 (by decide) (by decide)), e2 := by omega, e2' := fun _ => rfl, le2 := by omega, f3 := hlast, lt3 := by omega }⟩
  · have hn : l.length = a.length + 1 + b.length + 4 := by simpa using hlen
    refine ⟨((a.length + 1 + b.length + 1 : Nat) : Int), ((a.length + 1 + b.length : Nat) : Int), a.length + 1 + b.length + 1,
      { len := hl100, f1 := findIn1_at (Nat.le_refl _) (by omega) (htail 1) (fun i hi => ?_), e1 := fun _ => rfl, e1' := by omega, le1 := by omega,
        f2 := findIn1_at (by omega) (by omega) (htail 0) (fun i hi => hhead i hi 58 (by decide) (by decide)), e2 := fun _ => rfl, e2' := by omega, le2 := by omega, f3 := hlast, lt3 := by omega }⟩
    by_cases hi2 : i < a.length + 1 + b.length
    · exact hhead i hi2 10 (by decide) (by decide)
    · have e : i = a.length + 1 + b.length + 0 := by omega
      rw [e, htail 0]
      decide
theorem c_strip2 (w : World) (mean : ExcName → Option Value) (mg mb : Str → Option Value) (news : List (Addr × Obj)) (a b tl : List Nat) (t : Tok) :
    Cl 1 w mean mg mb 28 news (AB a b tl) [.str (strL a ++ Str.ofString "." ++ strL b ++ strL tl) t] (fun t => .str (strL b) t) := by
  intro dp un gd cn cs ad ccd cl outer A₀ base h₀ L m s Q E B F X N T hk hpre hd hu hret
  obtain ⟨r1, r2, n1, hS⟩ := strip_at hpre
  have C := c_strip w mean mg mb news (a ++ 46 :: (b ++ tl)) r1 r2 n1 (a.length + 1 + b.length) a.length t
  have e1 : Str.ofString "." = strL [46] := by decide
  have e2 : strL a ++ Str.ofString "." ++ strL b ++ strL tl = strL (a ++ 46 :: (b ++ tl)) := by
    rw [e1, strL_append, strL_append, strL_append]
    congr 1
    simp
  have e3 : ((a ++ 46 :: (b ++ tl)).drop (a.length + 1)).take (a.length + 1 + b.length - (a.length + 1)) = b := by
    have e4 : a ++ 46 :: (b ++ tl) = (a ++ [46]) ++ (b ++ tl) := by simp
    have e5 : a.length + 1 = (a ++ [46]).length := by simp
    rw [e4, e5, List.drop_left]
    have e6 : (a ++ [46]).length + b.length - (a ++ [46]).length = b.length := by omega
    rw [e6, List.take_left]
  rw [e3] at C
  rw [e2]
  exact C dp un gd cn cs ad ccd cl outer A₀ base h₀ L m s Q E B F X N T hk hS hd hu hret
end Mine
/-! part P4 -/
namespace Mine
open PySem PySem.W PyProof.Rows
theorem wordL_zero (a : Nat) : wordL a 0 = apN a := by
  unfold wordL
  simp
theorem wordL_succ (a d p : Nat) (hd : d < 16) : wordL (16 * a + d) (p + 1) = wordL a p ++ [65 + d] := by
  by_cases h : 0 < 16 * a + d
  · have e1 : (16 * a + d) / 16 = a := by omega
    have e2 : (16 * a + d) % 16 = d := by omega
    have e : apN (16 * a + d) = apN a ++ [65 + d] := by rw [apN_pos (by omega), e1, e2]
    unfold wordL
    rw [e, List.length_append, List.length_singleton, List.append_assoc]
    congr 2
    omega
  · have ha : a = 0 := by omega
    have hd0 : d = 0 := by omega
    subst ha; subst hd0
    show List.replicate (p + 1 - (apN 0).length) 65 ++ apN 0 = List.replicate (p - (apN 0).length) 65 ++ apN 0 ++ [65 + 0]
    rw [apN_zero]
    simp [List.replicate_succ']
theorem q_succ (n m p : Nat) : n * 16 ^ (p + 1) / m = 16 * (n * 16 ^ p / m) + 16 * rN n m p / m := by
  unfold rN
  rcases Nat.eq_zero_or_pos m with h | h
  · subst h; simp
  · have e := Nat.div_add_mod (n * 16 ^ p) m
    have : n * 16 ^ (p + 1) = 16 * (n * 16 ^ p % m) + m * (16 * (n * 16 ^ p / m)) := by
      rw [Nat.pow_succ, ← Nat.mul_assoc]
      conv => lhs; rw [← e]
      rw [Nat.add_mul, Nat.mul_comm _ 16, Nat.mul_comm _ 16, ← Nat.mul_assoc 16 m, Nat.mul_comm 16 m, Nat.mul_assoc m 16]
      omega
    rw [this, Nat.add_mul_div_left _ _ h]
    omega
theorem foundE_length (n m p : Nat) : (foundE n m p).length = p := by unfold foundE; simp
theorem foundE_succ (n m p : Nat) : foundE n m (p + 1) = foundE n m p ++ [dN n m p] := by
  unfold foundE
  rw [List.range'_concat, List.map_append]
  simp
theorem word_cut {n m : Nat} (hm : 0 < m) (p : Nat) : wordL (n * 16 ^ p / m) p = apN (n / m) ++ foundE n m p := by
  induction p with
  | zero => rw [wordL_zero]; simp [foundE]
  | succ p ih =>
    rw [q_succ, wordL_succ _ _ _ (digit_lt hm), ih, foundE_succ, List.append_assoc]
    rfl
theorem cut_take {n m : Nat} (hm : 0 < m) (p : Nat) {y : List Nat} (hy : y = wordL (n * 16 ^ p / m) p) : y.take (y.length - p) = apN (n / m) ∧ y.drop (y.length - p) = foundE n m p := by
  rw [word_cut hm] at hy
  subst hy
  have e : (apN (n / m) ++ foundE n m p).length - p = (apN (n / m)).length := by rw [List.length_append, foundE_length]; omega
  rw [e]
  exact ⟨List.take_left, List.drop_left⟩
/-- the rests, by place -/
theorem rests_map (n m p : Nat) : (rangeKs 0 p).map (fun k => ((n : Int) * 16 ^ k.toNat).fmod (m : Int)) = (List.range' 0 p).map fun j => ((rN n m j : Nat) : Int) := by
  unfold rangeKs
  rw [List.map_map, ← List.range_eq_range']
  refine List.map_congr_left fun j hj => ?_
  show ((n : Int) * 16 ^ ((0 : Int) + (j : Int)).toNat).fmod (m : Int) = _
  have e : ((0 : Int) + (j : Int)).toNat = j := by omega
  rw [e]
  have e2 : ((n : Int) * 16 ^ j) = ((n * 16 ^ j : Nat) : Int) := by push_cast; rfl
  rw [e2, Int.fmod_eq_emod_of_nonneg _ (Int.natCast_nonneg m)]
  rfl
theorem letter_code {m r : Nat} : 65 + ((16 * ((r : Nat) : Int)).fdiv (m : Int)).toNat = 65 + 16 * r / m := by
  have : (16 : Int) * (r : Int) = ((16 * r : Nat) : Int) := by push_cast; rfl
  rw [this, Int.fdiv_eq_ediv_of_nonneg _ (Int.natCast_nonneg m), ← Int.natCast_ediv]
  rfl
theorem due_eq {n m p : Nat} : (if rN n m 0 = 0 then [] else ((List.range' 0 p).reverse.filter fun j => decide (j = 0 ∨ rN n m j % 16 ≠ 0)).map fun j => ((rN n m j : Nat) : Int)) = metE n m p := by
  unfold metE metL
  rw [Nat.sub_self]
end Mine
/-! part P5 -/
namespace Mine
open PySem PySem.W PyProof.Rows
def dueG (n m : Nat) (l : List Int) (k : Int) : List Int := if rN n m 0 ≠ 0 ∧ (k = 0 ∨ rN n m k.toNat % 16 ≠ 0) then l ++ [((rN n m k.toNat : Nat) : Int)] else l
theorem dueG_grows (n m : Nat) : KPfGrows (dueG n m) := by
  intro l k
  unfold dueG
  split <;> simp
theorem due_foldl (n m : Nat) : ∀ (ks l : List Int), ks.foldl (dueG n m) l = l ++ (if rN n m 0 = 0 then [] else (ks.filter fun k => decide (k = 0 ∨ rN n m k.toNat % 16 ≠ 0)).map fun k => ((rN n m k.toNat : Nat) : Int)) := by
  intro ks
  induction ks with
  | nil => intro l; simp
  | cons k r ih =>
    intro l
    rw [List.foldl_cons, ih]
    unfold dueG
    by_cases h0 : rN n m 0 = 0
    · simp [h0]
    · by_cases h1 : k = 0 ∨ rN n m k.toNat % 16 ≠ 0
      · rw [if_pos ⟨h0, h1⟩, if_neg h0, if_neg h0, List.filter_cons_of_pos (by simpa using h1)]
        simp
      · rw [if_neg (fun q => h1 q.2), if_neg h0, if_neg h0, List.filter_cons_of_neg (by simpa using h1)]
theorem downKs_rev (p : Nat) : downKs ((p : Int) - 1) p = ((List.range' 0 p).reverse).map (fun j : Nat => (j : Int)) := by
  rw [← List.range_eq_range']
  refine List.ext_getElem (by simp [downKs]) fun i h1 h2 => ?_
  simp only [downKs, List.length_map, List.length_range] at h1
  simp [downKs]
  omega
theorem due_fold {n m p : Nat} : (downKs ((p : Int) - 1) p).foldl (dueG n m) [] = metE n m p := by
  rw [due_foldl, downKs_rev, ← due_eq, List.nil_append, List.filter_map, List.map_map]
  split
  · rfl
  · refine congrArg (fun g => List.map g _) rfl |>.trans ?_
    refine congrArg _ (List.filter_congr fun j _ => ?_)
    simp
theorem rest_at {a o k : Int} {N : Nat} (ha : 0 ≤ a) (ho : 0 < o) (h0 : 0 ≤ k) (h1 : k < N) : ((rangeKs 0 N).map fun k' => (a * 16 ^ k'.toNat).fmod o).getD k.toNat 0 = ((rN a.toNat o.toNat k.toNat : Nat) : Int) := by
  obtain ⟨n, rfl⟩ := Int.eq_ofNat_of_zero_le ha
  obtain ⟨m, rfl⟩ := Int.eq_ofNat_of_zero_le (Int.le_of_lt ho)
  rw [rests_map]
  have hk : k.toNat < N := by omega
  simp [List.getD_eq_getElem?_getD, hk]
end Mine
/-! part LD -/
namespace Mine
open PySem PySem.W PyProof.Rows
open PySem.Spec PySem.Calls
set_option maxRecDepth 100000
open LCg LCt
section
variable {prog : Program} {w : World} {A : Around} {E : Value → Shared → Prop} {s : Shared} {h₀ : Heap} {L : Addr} {m : Str → Option Value} {env : Env}
theorem down_walks {I : Addr} (hh : A.handled = none) (a : Int) (n : Nat) : Walks prog w A I [I] [I] n (fun i v => ∃ t, v = .int (a - (i : Int)) t) (fun i h => IsRangeIter h I (a + (i : Nat) * (-1)) ((n : Int) - (i : Nat)) (-1)) :=
  let W : Walks prog w A I [I] [I] n (fun i v => i < n ∧ ∃ t, v = .int (a + i * (-1)) t) (fun i h => IsRangeIter h I (a + (i : Nat) * (-1)) ((n : Int) - (i : Nat)) (-1)) := (Walks.range hh I a (-1) n).bound
  { sub := W.sub, frame := W.frame, done := W.done, self := W.self,
    item := fun i s Q E hi st hQ => W.item i s Q E hi st fun v h' tk hP => hQ v h' tk (by obtain ⟨_, t, rfl⟩ := hP; exact ⟨t, by rw [show a + (i : Int) * (-1) = a - (i : Int) by omega]⟩) }
theorem down_st {I : Addr} {a : Int} {n : Nat} : ∀ i (h h' : Heap) (o : Obj) (nw : List (Addr × Obj)), IsRangeIter h I (a + (i : Nat) * (-1)) ((n : Int) - (i : Nat)) (-1) → h.get? I = some o → h'.get? I = some o → (∀ b o, h₀.get? b = some o → h'.get? b = some o) → News h₀ L h' nw → True → IsRangeIter h' I (a + (i : Nat) * (-1)) ((n : Int) - (i : Nat)) (-1) :=
  fun i h h' o nw st e e' _ _ _ => by
    have st' : h.get? I = some _ := st
    show h'.get? I = some _
    rw [e', ← e]; exact st'
def SrcD (prog : Program) (w : World) (A : Around) (h₀ : Heap) (L : Addr) (m : Str → Option Value) (env : Env) (ct elt : Expr) (x : Str) (scope : Scope) (cl : List (Str × Addr)) (Fin : Shared → List Value → List (Addr × Obj) → Prop) (xv : Value) (s₁ : Shared) : Prop :=
  ∃ r a b t u v n news, xv = .ref r ∧ A.handled = none ∧ Fr h₀ L s₁.heap m ∧ News h₀ L s₁.heap news ∧ IsRange s₁.heap r a b (-1) t u v ∧ Builtin.Range.small a b (-1) = true ∧ Builtin.Range.rangeSize a b (-1) = ((n : Nat) : Int) ∧ n ≤ sizeLine ∧
    ∀ s₂ : Shared, (∃ h, s₂ = { s₁ with heap := h }) → CompRestT prog w A h₀ L m env ct elt x scope cl s₂ (fun _ => True) (fun i v => ∃ t, v = .int (a - (i : Int)) t) (Fin s₂) n 0 [] news
theorem Assign_ListComp_D {ct elt iter : Expr} {x y : Str} {px py : Pos} {scope : Scope} {cl : List (Str × Addr)} {pos spos : Pos} {Q : Flow → Shared → Prop} (F₀ : Fr h₀ L s.heap m) (hLe : env.locals = L)
    (hsw : swapsWith (.ListComp elt [⟨.Name x px, iter, [ct], 0⟩] scope pos) (some (.Name y py)) spos.line env = pure true)
    (hclos : closureFor scope env = pure cl) (hcell : ∀ z ∈ scope.names, z.2 ≠ .cell) (hkind : scope.kind = .function)
    (hnames : ∀ z ∈ scope.names, z.2 = .local → scope.names.lookup z.1 = some .local) (hx : scope.names.lookup x = some .local)
    (hy : env.kindOf y = some .local) (hp : (env.scope.kind == .class || (env.scope.kind == .module && env.locals != env.globals)) = false)
    (h : wpAny (model prog w) A (eval iter env) (SrcD prog w A h₀ L m env ct elt x scope cl (fun s₂ => FinA h₀ L m s₂ y Q)) E s)
    (hs : ∀ x, foldedSetIterable iter env x = pure x := by intro _; rfl) :
    wpAny (model prog w) A (exec (.Assign [.Name y py] (.ListComp elt [⟨.Name x px, iter, [ct], 0⟩] scope pos) spos) env) Q E s := by
  subst hLe
  rw [exec_Assign_Name_used _ _ _ _ hsw]
  refine wpAny_bind (wpAny_standAt (wpAny_bind ?_))
  show wpAny _ A (do let _ ← comprehension (.ListComp elt [⟨.Name x px, iter, [ct], 0⟩] scope pos) scope env _ (newList []) false (eval iter env) (some (assign (.Name y py) env))) _ _ s
  refine wpAny_bind (wpAny_mono (wpAny_comprehension_free (use := some (assign (.Name y py) env)) (Q := fun _ s' => Q .next s') rfl hs hclos hkind hnames
    (wpAny_mono h (fun xv s₁ h₁ => ?_) fun _ _ e => e)) (fun _ s' hq => wpAny_pure (wpAny_pure hq)) fun _ _ e => e)
  obtain ⟨r, a, b, t, u, v, n, news, rfl, hh, F, N, hr, hsm, hn, hsz, R⟩ := h₁
  refine wpAny_pyIter_range hr hsm ?_
  refine block_T (down_walks hh a n) hsz (fun i h st => ⟨_, st⟩) down_st hcell hkind hx (by show IsRangeIter _ _ _ _ _; rw [hn]; simpa using Heap.get?_push_size _ rfl) (fun b hb => ?_)
    (F.keeps fun _ _ e => Heap.get?_push_of_some _ e) (N.grown fun _ _ e => Heap.get?_push_of_some _ e) (Nat.ne_of_lt F.ns.lt) (next_is_new F) (fun p hp => Nat.ne_of_lt (Heap.lt_size (N p hp).1)) trivial (R _ ⟨_, rfl⟩) ?_
  · rw [List.mem_singleton.mp hb]
    show s₁.heap.objs.size < (s₁.heap.push _).objs.size
    rw [Heap.size_push]; exact Nat.lt_succ_self _
  · intro D C h' tk m' ys news' F' N' o1 hn hC₀ hD₀ hCL hDL hCD offC fin
    show wpAny _ A (assign (.Name y py) env (.ref D)) _ _ _
    refine wpAny_assign_Name (wpAny_storeName_local hy F'.ns (fun h₂ hn₂ hs₂ => ?_) hp)
    have hL₀ : h₀.get? env.locals = none := Heap.get?_none_of_le F'.above
    have F₂ : Fr h₀ env.locals h₂ (fun z => if z = y then some (.ref D) else m z) := ⟨hn₂, fun b o e => hs₂.extBut b o (fun q => by rw [q, hL₀] at e; cases e) (F'.keep b o e), F'.above⟩
    refine ⟨m', hn.sameBut hs₂ hCL, fun h'' hs'' => fin D h'' _ (F₂.change hs'' hCL hC₀) (fun p hp => ?_) o1⟩
    have z : h₂.get? p.1 = some p.2 := hs₂.extBut _ _ (N' p hp).2.1 (N' p hp).1
    refine ⟨hs''.extBut _ _ ?_ z, (N' p hp).2⟩
    rcases List.mem_cons.mp hp with rfl | hp
    · exact Ne.symm hCD
    · exact offC p hp
theorem SrcD.of {ct elt : Expr} {x : Str} {scope : Scope} {cl : List (Str × Addr)} {Fin : Shared → List Value → List (Addr × Obj) → Prop} {r : Addr} {a b : Int} {t u v : Tok} {news : List (Addr × Obj)} {s₁ : Shared} (G : List Int → Int → List Int)
    (hh : A.handled = none) (F : Fr h₀ L s₁.heap m) (N : News h₀ L s₁.heap news) (hr : IsRange s₁.heap r a b (-1) t u v) (ha : -1000 ≤ a) (ha' : a ≤ 1000) (hb : -1000 ≤ b) (hb' : b ≤ 1000) (hg : KPfGrows G)
    (turn : ∀ k t I oI C oC D m₂ ys l h tk (E' : Value → Shared → Prop), b < k → k ≤ a → IntsAre ys l → LCg.NsObj oC m₂ → m₂ x = some (.int k t) → Fr h₀ L h m → News h₀ L h ((I, oI) :: (C, oC) :: (D, LCg.lst ys) :: news) → LCg.Off3 I C D news → ((@Ne Nat I C) ∧ (@Ne Nat I D) ∧ (@Ne Nat C D)) → KPfMark →
      wpAny (model prog w) A (isTrue ct (compEnvC scope cl C env) (eval ct (compEnvC scope cl C env))) (fun b s' => if b = true then wpAny (model prog w) A (eval elt (compEnvC scope cl C env)) (LCg.CompEnd h₀ L m { s₁ with heap := h, toks := tk } I oI C oC D (LCg.lst ys) (fun _ => True) (fun y news' => KCiEl news l (G l k) y news')) E' s'
        else LCg.CompEnd h₀ L m { s₁ with heap := h, toks := tk } I oI C oC D (LCg.lst ys) (fun _ => True) (fun _ news' => KCiNo news l (G l k) news') Value.none s') E' { s₁ with heap := h, toks := tk })
    (fin : ∀ g ys, IntsAre ys ((downKs a (a - b).toNat).foldl G []) → ys.length ≤ 2000 → Fin { s₁ with heap := g } ys news) :
    SrcD prog w A h₀ L m env ct elt x scope cl Fin (.ref r) s₁ := by
  refine ⟨r, a, b, t, u, v, (a - b).toNat, news, rfl, hh, F, N, hr, small_down (by omega) (by omega) (by omega) (by omega), rangeSize_downNat a b, by rw [sizeLine_eq]; omega, ?_⟩
  rintro s₂ ⟨g, rfl⟩
  refine kci_rest (ks := downKs a (a - b).toNat) G (downKs_length _ _) ?_ ?_ ?_ hg
  · rintro i v hi ⟨t, rfl⟩
    exact ⟨_, t, by simp [downKs, hi], rfl⟩
  · intro k t I oI C oC D m₂ ys l h tk E' hk hy hC hx F N off ne mk
    have h1 := mem_downKs hk
    exact turn k t I oI C oC D m₂ ys l h tk E' (by omega) h1.2 hy hC hx F N off ne mk
  · intro ys hy hl
    exact fin g ys hy (by omega)
end
end Mine
/-! part LP -/
namespace Mine
open PySem PySem.W PyProof.Rows
open PySem.Spec PySem.Calls
set_option maxRecDepth 100000
section
variable {prog : Program} {w : World} {A : Around} {E : Value → Shared → Prop} {s : Shared} {a x i : Int} {t u : Tok} {Q : Value → Shared → Prop}
theorem m_share (h : ∀ y : Int, 0 ≤ y → y < 2 ^ 80 → Q (.int y s.toks) { s with toks := s.toks + 1 }) : wpAny (model prog w) A (binaryOp .Mod (.int a t) (.int (16 ^ Int.toNat 20) u)) Q E s := by
  refine AutoIntOps.mod_1 (by decide) (h _ ?_ ?_)
  · exact fmod_lo _ (by decide)
  · exact Int.lt_of_lt_of_le (fmod_hi _ (by decide)) (by decide)
theorem m_odd (h : ∀ y : Int, 0 ≤ y → y < 1048576 → Q (.int y s.toks) { s with toks := s.toks + 1 }) : wpAny (model prog w) A (binaryOp .Mod (.int a t) (.int (16 ^ Int.toNat 5) u)) Q E s := by
  refine AutoIntOps.mod_1 (by decide) (h _ ?_ ?_)
  · exact fmod_lo _ (by decide)
  · exact Int.lt_of_lt_of_le (fmod_hi _ (by decide)) (by decide)
theorem m_places (h : ∀ y : Int, 0 ≤ y → y < 8 → Q (.int y s.toks) { s with toks := s.toks + 1 }) : wpAny (model prog w) A (binaryOp .Mod (.int a t) (.int 8 u)) Q E s :=
  AutoIntOps.mod_1 (by decide) (h _ (fmod_lo _ (by decide)) (fmod_hi _ (by decide)))
theorem m_tails {h₀ : Heap} {L : Addr} {news : List (Addr × Obj)} {value slice : PySem.Expr} {D : Addr} {t1 t2 t3 t4 : Tok} (N : News h₀ L s.heap news)
    (hm : (D, ({ cls := .type "tuple", data := .seq #[.str (Str.ofString "") t1, .str (Str.ofString ":x.y") t2, .str (Str.ofString "\n.z") t3, .str (Str.ofString ":\n.z") t4] } : Obj)) ∈ news)
    (h0 : 0 ≤ i) (h1 : i < 4) (h : ∀ tl t', TailOk tl → tl.length ≤ 4 → Q (.str (strL tl) t') s)
    (hs : subscripted slice false (.ref D) (.int i u) = operate [.ref D, .int i u] (getItem (.ref D) (.int i u)) := by with_unfolding_all rfl) :
    wpAny (model prog w) A (subscriptTail value slice (.ref D) (.int i u)) Q E s := by
  have hT : IsTup s.heap D ([.str (Str.ofString "") t1, .str (Str.ofString ":x.y") t2, .str (Str.ofString "\n.z") t3, .str (Str.ofString ":\n.z") t4] : List Value).toArray := News.isTup N hm
  have e1 : Str.ofString "" = strL [] := by decide
  have e2 : Str.ofString ":x.y" = strL [58, 120, 46, 121] := by decide
  have e3 : Str.ofString "\n.z" = strL [10, 46, 122] := by decide
  have e4 : Str.ofString ":\n.z" = strL [58, 10, 46, 122] := by decide
  rw [e1, e2, e3, e4] at hT
  have : i = 0 ∨ i = 1 ∨ i = 2 ∨ i = 3 := by omega
  rcases this with rfl | rfl | rfl | rfl
  · exact item_tupleT hT (by decide) (by decide) (j := 0) (by rfl) rfl (h _ _ (.inl rfl) (by decide)) hs
  · exact item_tupleT hT (by decide) (by decide) (j := 1) (by rfl) rfl (h _ _ (.inr (.inl rfl)) (by decide)) hs
  · exact item_tupleT hT (by decide) (by decide) (j := 2) (by rfl) rfl (h _ _ (.inr (.inr (.inl rfl))) (by decide)) hs
  · exact item_tupleT hT (by decide) (by decide) (j := 3) (by rfl) rfl (h _ _ (.inr (.inr (.inr rfl))) (by decide)) hs
end
theorem shl_bd {x y p : Int} (hy : y = x * 2 ^ (4 * p).toNat) (hx : 0 ≤ x) (hx2 : x < 2 ^ 80) (hp : 0 ≤ p) (hp8 : p ≤ 8) : 0 ≤ y ∧ y < 2 ^ 112 := by
  have h1 : (2 : Int) ^ (4 * p).toNat ≤ 2 ^ 32 := by
    have : (2 : Nat) ^ (4 * p).toNat ≤ 2 ^ 32 := Nat.pow_le_pow_right (by decide) (by omega)
    exact_mod_cast this
  have h2 : (0 : Int) < 2 ^ (4 * p).toNat := Int.pow_pos (by decide)
  have h3 : 0 ≤ x * 2 ^ (4 * p).toNat := Int.mul_nonneg hx (Int.le_of_lt h2)
  have h4 : x * 2 ^ (4 * p).toNat ≤ x * 2 ^ 32 := Int.mul_le_mul_of_nonneg_left h1 hx
  subst hy
  refine ⟨h3, Int.lt_of_le_of_lt h4 ?_⟩
  have e : (2 : Int) ^ 112 = 2 ^ 80 * 2 ^ 32 := by decide
  rw [e]
  exact Int.mul_lt_mul_of_pos_right hx2 (by decide)
theorem div_bd {x y o : Int} (hy : y = x / o) (hx : 0 ≤ x) (ho : 0 < o) : 0 ≤ y ∧ y ≤ x := by
  subst hy
  exact ⟨Int.ediv_nonneg hx (Int.le_of_lt ho), Int.ediv_le_self _ hx⟩
theorem mod_bd {x y o : Int} (hy : y = x % o) (ho : 0 < o) : 0 ≤ y ∧ y < o := by
  subst hy
  exact ⟨Int.emod_nonneg _ (by omega), Int.emod_lt_of_pos _ ho⟩
theorem wordL_ge {y : List Nat} {n p : Int} (hy : y = wordL n.toNat p.toNat) : p.toNat ≤ y.length := by
  subst hy
  unfold wordL
  rw [List.length_append, List.length_replicate]
  omega
theorem ab_word {y tl : List Nat} {n p : Int} {j : Int} (hy : y = wordL n.toNat p.toNat) (hl : y.length ≤ 38) (htl : TailOk tl) : AB (y.take j.toNat) (y.drop j.toNat) tl := by
  refine ⟨by rw [List.length_take]; omega, by rw [List.length_drop]; omega, ?_, htl⟩
  rw [List.take_append_drop, hy]
  intro c hc
  unfold wordL at hc
  rcases List.mem_append.mp hc with hc | hc
  · rw [List.eq_of_mem_replicate hc]; decide
  · exact apN_le c hc
theorem pow16_bd {k : Int} (_h0 : 0 ≤ k) (h : k ≤ 8) : ((16 : Int) ^ k.toNat).natAbs < 2 ^ 64 := by
  have h1 : (16 : Nat) ^ k.toNat ≤ 16 ^ 8 := Nat.pow_le_pow_right (by decide) (by omega)
  have h2 : ((16 : Int) ^ k.toNat).natAbs = 16 ^ k.toNat := by rw [Int.natAbs_pow]; rfl
  rw [h2]
  exact Nat.lt_of_le_of_lt h1 (by decide)
section
variable {prog : Program} {w : World} {A : Around} {E : Value → Shared → Prop} {s : Shared} {a b k : Int} {t u : Tok} {Q : Value → Shared → Prop}
theorem m_pow16 (h0 : 0 ≤ k) (h8 : k ≤ 8) (h : Q (.int (16 ^ k.toNat) s.toks) { s with toks := s.toks + 1 }) : wpAny (model prog w) A (binaryOp .Pow (.int 16 t) (.int k u)) Q E s :=
  pow_int h0 (by have : Builtin.Int.intBits 16 = 5 := by decide
                 rw [this]; omega) h
theorem pk_le {k y : Int} (h : k < 0 + ((y + 1 - 0).toNat : Int)) (h0 : 0 ≤ y) (h8 : y < 8) : k ≤ 8 := by omega
theorem m_mulR (h0 : 0 ≤ k) (h8 : k ≤ 8) (h : Q (.int (a * 16 ^ k.toNat) s.toks) { s with toks := s.toks + 1 }) : wpAny (model prog w) A (binaryOp .Mult (.int a t) (.int (16 ^ k.toNat) u)) Q E s :=
  AutoIntOps.mul_0 h (IntMulOk.of_right (bits_le (pow16_bd h0 h8)))
end
theorem dot_len : (Str.ofString ".").length = 1 := by decide
theorem al_bd {k m : Int} {f : Int → Int} {ks : List Int} (hk : k ∈ List.map (fun k' => (f k').fmod m) ks) (hm : 0 < m) : 0 ≤ (16 * k).fdiv m ∧ (16 * k).fdiv m < 16 := by
  obtain ⟨a, _, rfl⟩ := List.mem_map.1 hk
  have h1 := fmod_lo (f a) hm
  have h2 := fmod_hi (f a) hm
  generalize (f a).fmod m = r at h1 h2
  rw [Int.fdiv_eq_ediv_of_nonneg _ (Int.le_of_lt hm)]
  exact ⟨Int.ediv_nonneg (by omega) (by omega), Int.ediv_lt_of_lt_mul hm (by omega)⟩
theorem join_ones (l : List Int) (f : Int → Nat) : PySem.Txt.join (PySem.Str.ofString "") (l.map fun k => strL [f k]) = strL (l.map f) := by
  show Builtin.Str.glued (PySem.Str.ofString "") _ = _
  unfold Builtin.Str.glued
  have e0 : (PySem.Str.ofString "").cps = #[] := by decide
  rw [e0]
  have key : ∀ (l : List Int) (a : Array Nat), (l.map fun k => strL [f k]).foldl (fun acc p => acc ++ #[] ++ p.cps) a = a ++ (l.map f).toArray := by
    intro l
    induction l with
    | nil => intro a; simp
    | cons c r ih => intro a; rw [List.map_cons, List.map_cons, List.foldl_cons, ih]; simp [strL]
  cases l with
  | nil => simp [Str.empty, strL]
  | cons c r =>
    show (⟨(r.map fun k => strL [f k]).foldl _ (strL [f c]).cps⟩ : Str) = _
    rw [key r]
    simp [strL]
section
variable {prog : Program} {w : World} {A : Around} {E : Value → Shared → Prop} {s : Shared} {t : Tok} {D : Addr} {ys : List Value} {Q : Value → Shared → Prop}
theorem join_letters {l : List Int} {f : Int → Nat} (hc : CarriedAll ys (l.map fun k => PyData.str (strL [f k]))) (hl : s.heap.IsList D ys.toArray) (hn : l.length ≤ 1000)
    (h : ∀ t' k, Q (.str (strL (l.map f)) t') { s with toks := k }) :
    wpAny (model prog w) A (call (.builtin "str.join") [.str (PySem.Str.ofString "") t, .ref D]) Q E s := by
  refine KT.join_1 (g := fun k : Int => strL [f k]) hl hc (fun _ _ => rfl) (by omega) ?_
  intro t' k _
  rw [join_ones]
  exact h t' k
end
section
variable {prog : Program} {w : World} {A : Around} {E : Value → Shared → Prop} {s : Shared} {Q : Value → Shared → Prop} {h₀ : Heap} {L : Addr} {news : List (Addr × Obj)}
theorem m_rest {value slice : PySem.Expr} {D : Addr} {ys : List Value} {N : Nat} {a o k : Int} {u : Tok} (hi : IntsAre ys ((rangeKs 0 N).map fun k' => (a * 16 ^ k'.toNat).fmod o)) (hN : News h₀ L s.heap news) (hm : (D, LCg.lst ys) ∈ news)
    (ha : 0 ≤ a) (ho : 0 < o) (h0 : 0 ≤ k) (h1 : k < N) (h2 : k < 1000) (h : ∀ t, Q (.int ((rN a.toNat o.toNat k.toNat : Nat) : Int) t) s)
    (hs : subscripted slice false (.ref D) (.int k u) = operate [.ref D, .int k u] (getItem (.ref D) (.int k u)) := by with_unfolding_all rfl) :
    wpAny (model prog w) A (subscriptTail value slice (.ref D) (.int k u)) Q E s := by
  refine item_anyK (News.isList hN hm) hi h0 (by rw [List.length_map, rangeKs_length]; exact h1) (by omega) (fun t => ?_) hs
  rw [rest_at ha ho h0 h1]
  exact h t
theorem m_rest0 {value slice : PySem.Expr} {D : Addr} {ys : List Value} {N : Nat} {a o : Int} {u : Tok} (hi : IntsAre ys ((rangeKs 0 N).map fun k' => (a * 16 ^ k'.toNat).fmod o)) (hN : News h₀ L s.heap news) (hm : (D, LCg.lst ys) ∈ news)
    (ha : 0 ≤ a) (ho : 0 < o) (h1 : (0 : Int) < N) (h : ∀ t, Q (.int ((rN a.toNat o.toNat 0 : Nat) : Int) t) s)
    (hs : subscripted slice false (.ref D) (.int 0 u) = operate [.ref D, .int 0 u] (getItem (.ref D) (.int 0 u)) := by with_unfolding_all rfl) :
    wpAny (model prog w) A (subscriptTail value slice (.ref D) (.int 0 u)) Q E s := m_rest hi hN hm ha ho (by decide) h1 (by decide) h hs
end
section
variable {prog : Program} {w : World} {A : Around} {h₀ : Heap} {L : Addr} {m : Str → Option Value} {env : Env} {elt : PySem.Expr} {x : Str} {scope : Scope} {cl : List (Str × Addr)} {s : Shared} {S : List (Addr × Obj) → Prop} {Fin : List Value → List (Addr × Obj) → Prop} {news : List (Addr × Obj)}
theorem kct_letters {vs : List Value} {a o : Int} {N : Nat} (hi : IntsAre vs ((rangeKs 0 N).map fun k' => (a * 16 ^ k'.toNat).fmod o)) :
    type_of% (kct_list (prog := prog) (w := w) (A := A) (h₀ := h₀) (L := L) (m := m) (env := env) (elt := elt) (x := x) (scope := scope) (cl := cl) (s := s) (S := S) (Fin := Fin) (news := news) (fun k => strL [65 + ((16 * k).fdiv o).toNat]) hi) :=
  kct_list (fun k => strL [65 + ((16 * k).fdiv o).toNat]) hi
end
theorem letters_el {news news' : List (Addr × Obj)} {r : Str} {y : Value} {t : Tok} (hn : news' = news) (hy : y = .str r t) : KCtEl news r y news' := ⟨hn, t, hy⟩
def DueMark : Prop := True
theorem fm16 {a : Nat} : ((a : Nat) : Int).fmod 16 = ((a % 16 : Nat) : Int) := by
  rw [Int.fmod_eq_emod_of_nonneg _ (by decide)]; rfl
theorem due_el' {n m : Nat} {news news' : List (Addr × Obj)} {l : List Int} {k : Int} {y : Value} {t : Tok} (hn : news' = news) (hy : y = .int ((rN n m k.toNat : Nat) : Int) t) (h0 : ((rN n m 0 : Nat) : Int) ≠ 0) (h1 : k = 0 ∨ ((rN n m k.toNat : Nat) : Int).fmod 16 ≠ 0) : KCiEl news l (dueG n m l k) y news' :=
  kci_el (by unfold dueG; rw [fm16] at h1; rw [if_pos ⟨by omega, by omega⟩]) hn hy
theorem due_no' {n m : Nat} {news news' : List (Addr × Obj)} {l : List Int} {k : Int} (hn : news' = news) (h : ((rN n m 0 : Nat) : Int) = 0 ∨ (k ≠ 0 ∧ ((rN n m k.toNat : Nat) : Int).fmod 16 = 0)) : KCiNo news l (dueG n m l k) news' :=
  kci_no (by unfold dueG; rw [fm16] at h; rw [if_neg (by omega)]) hn
theorem due_el {n m : Nat} {news news' : List (Addr × Obj)} {l : List Int} {k : Int} {y : Value} {t : Tok} (hn : news' = news) (hy : y = .int ((rN n m k.toNat : Nat) : Int) t) (h0 : rN n m 0 ≠ 0) (h1 : k = 0 ∨ rN n m k.toNat % 16 ≠ 0) : KCiEl news l (dueG n m l k) y news' :=
  kci_el (by unfold dueG; rw [if_pos ⟨h0, h1⟩]) hn hy
theorem due_no {n m : Nat} {news news' : List (Addr × Obj)} {l : List Int} {k : Int} (hn : news' = news) (h : ¬ (rN n m 0 ≠ 0 ∧ (k = 0 ∨ rN n m k.toNat % 16 ≠ 0))) : KCiNo news l (dueG n m l k) news' :=
  kci_no (by unfold dueG; rw [if_neg h]) hn
end Mine
/-! part LQ -/
namespace Mine
open PySem PySem.W PyProof.Rows
open PySem.Spec PySem.Calls
set_option maxRecDepth 100000
section
variable {h₀ h' : Heap} {L I C D : Addr} {m : Str → Option Value} {s₁ : Shared} {oI oC oD : Obj} {news : List (Addr × Obj)} {tk : Nat} {t : Tok}
theorem ce_str {r : Str} {ax : Addr} {ys : List Value} (F : Fr h₀ L h' m) (N : News h₀ L h' ((I, oI) :: (C, oC) :: (D, oD) :: news)) (off : LCg.Off3 I C D news) (hm : (ax, LCg.lst ys) ∈ news) :
    LCg.CompEnd h₀ L m s₁ I oI C oC D oD (LCg.SrcAt h₀ ax ys.toArray) (fun y news' => KCtEl news r y news') (.str r t) { s₁ with heap := h', toks := tk } :=
  LCg.CompEnd.intro F N news (fun _ hp => hp) off (.inr ⟨_, hm, rfl, _, rfl⟩) ⟨rfl, t, rfl⟩
theorem ce_due {n q : Nat} {l : List Int} {k : Int} (F : Fr h₀ L h' m) (N : News h₀ L h' ((I, oI) :: (C, oC) :: (D, oD) :: news)) (off : LCg.Off3 I C D news)
    (e0 : ((rN n q 0 : Nat) : Int) ≠ 0) (e1 : k = 0 ∨ ((rN n q k.toNat : Nat) : Int).fmod 16 ≠ 0) :
    LCg.CompEnd h₀ L m s₁ I oI C oC D oD (fun _ => True) (fun y news' => KCiEl news l (dueG n q l k) y news') (.int ((rN n q k.toNat : Nat) : Int) t) { s₁ with heap := h', toks := tk } :=
  LCg.CompEnd.intro F N news (fun _ hp => hp) off trivial (due_el' rfl rfl e0 e1)
theorem ce_no {n q : Nat} {l : List Int} {k : Int} (F : Fr h₀ L h' m) (N : News h₀ L h' ((I, oI) :: (C, oC) :: (D, oD) :: news)) (off : LCg.Off3 I C D news)
    (e : ((rN n q 0 : Nat) : Int) = 0 ∨ (k ≠ 0 ∧ ((rN n q k.toNat : Nat) : Int).fmod 16 = 0)) :
    LCg.CompEnd h₀ L m s₁ I oI C oC D oD (fun _ => True) (fun _ news' => KCiNo news l (dueG n q l k) news') Value.none { s₁ with heap := h', toks := tk } :=
  LCg.CompEnd.intro F N news (fun _ hp => hp) off trivial (due_no' rfl e)
end
section
variable {prog : Program} {w : World} {A : Around} {h₀ : Heap} {L : Addr} {m : Str → Option Value} {env : Env} {ct elt : PySem.Expr} {x : Str} {scope : Scope} {cl : List (Str × Addr)} {s₁ : Shared} {Fin : Shared → List Value → List (Addr × Obj) → Prop} {r : Addr} {a b : Int} {t u v : Tok} {news : List (Addr × Obj)}
theorem SrcD.ofDue {vs : List Value} {n o : Int} {N : Nat} (_hi : IntsAre vs ((rangeKs 0 N).map fun k' => (n * 16 ^ k'.toNat).fmod o))
    (hh : A.handled = none) (F : Fr h₀ L s₁.heap m) (N : News h₀ L s₁.heap news) (hr : IsRange s₁.heap r a b (-1) t u v) (ha : -1000 ≤ a) (ha' : a ≤ 1000) (hb : -1000 ≤ b) (hb' : b ≤ 1000)
    (turn : ∀ k t I oI C oC D m₂ ys l h tk (E' : Value → Shared → Prop), b < k → k ≤ a → IntsAre ys l → LCg.NsObj oC m₂ → m₂ x = some (.int k t) → Fr h₀ L h m → News h₀ L h ((I, oI) :: (C, oC) :: (D, LCg.lst ys) :: news) → LCg.Off3 I C D news → ((@Ne Nat I C) ∧ (@Ne Nat I D) ∧ (@Ne Nat C D)) → KPfMark →
      wpAny (model prog w) A (isTrue ct (compEnvC scope cl C env) (eval ct (compEnvC scope cl C env))) (fun b s' => if b = true then wpAny (model prog w) A (eval elt (compEnvC scope cl C env)) (LCg.CompEnd h₀ L m { s₁ with heap := h, toks := tk } I oI C oC D (LCg.lst ys) (fun _ => True) (fun y news' => KCiEl news l (dueG n.toNat o.toNat l k) y news')) E' s'
        else LCg.CompEnd h₀ L m { s₁ with heap := h, toks := tk } I oI C oC D (LCg.lst ys) (fun _ => True) (fun _ news' => KCiNo news l (dueG n.toNat o.toNat l k) news') Value.none s') E' { s₁ with heap := h, toks := tk })
    (fin : ∀ g ys, IntsAre ys ((downKs a (a - b).toNat).foldl (dueG n.toNat o.toNat) []) → ys.length ≤ 2000 → Fin { s₁ with heap := g } ys news) :
    SrcD prog w A h₀ L m env ct elt x scope cl Fin (.ref r) s₁ :=
  SrcD.of (dueG n.toNat o.toNat) hh F N hr ha ha' hb hb' (dueG_grows _ _) turn fin
end
end Mine
/-! part LR -/
namespace Mine
open PySem PySem.W PyProof.Rows
open PySem.Spec PySem.Calls
set_option maxRecDepth 100000
theorem pow16q {q : Int} (hq : 0 ≤ q) : (2 : Int) ^ (4 * q).toNat = ((16 ^ q.toNat : Nat) : Int) := by
  have e : (4 * q).toNat = 4 * q.toNat := by omega
  rw [e, pow4]
theorem UPre.of {x o q y r : Int} (hy : y = x * 2 ^ (4 * q).toNat) (hr : r = y % o) (hx : 0 ≤ x) (ho : 3 ≤ o) (ho2 : o < 4194304) (hodd : o % 2 = 1) (hq : 1 ≤ q) (hq8 : q ≤ 8) : UPre x.toNat o.toNat q.toNat r o q := by
  obtain ⟨n, rfl⟩ := Int.eq_ofNat_of_zero_le hx
  obtain ⟨m, rfl⟩ := Int.eq_ofNat_of_zero_le (show 0 ≤ o by omega)
  refine ⟨?_, by omega, by omega, by omega, by omega, by omega, by omega, by omega⟩
  rw [hr, hy, pow16q (by omega)]
  unfold rN
  simp only [Int.toNat_natCast, Int.natCast_emod, Int.natCast_mul]
theorem ClU.use {k : Nat} {w : World} {mean : ExcName → Option Value} {mg mb : Str → Option Value} {news : List (Addr × Obj)} {pre : Prop} {vs : List Value} {fnd : List Nat} {met : List Int}
    {dp un : Nat} {gd : Option (List Code)} {cn : Str} {cs : Scope} {a : Addr} {ccd : Value} {cl : List (Str × Addr)} {outer : List Env} {A₀ : Around} {base h₀ : Heap} {L : Addr} {m : Str → Option Value} {s : Shared} {Q E : Value → Shared → Prop}
    (C : ClU k w mean mg mb news pre vs fnd met) (B : Below A₀ base outer h₀) (F : Fr h₀ L s.heap m) (X : (hd.heap_39 w.params).In h₀) (N : News h₀ L s.heap news) (T : Top hd.view_39 (looseW hd.view_39 []) mean mg mb h₀) (hk : cs.kind = .function)
    (hp : pre) (hd' : dp + k < recursionLimit) (hu : un + 8 * k < cLine)
    (ret : ∀ (fs : Str) (met' : List Int) (T D : Addr) (ts : Tok) (ws : List Value) (c : Nat) (h' : Heap) (tk' : Nat), fs = strL fnd → met' = met → Fr h₀ L h' m →
      News h₀ L h' ((T, { cls := Value.type "tuple", data := Data.seq #[Value.str fs ts, Value.ref D] }) :: (D, W.listOf ws.toArray c) :: news) → IntsAre ws met' → Q (.ref T) { s with heap := h', toks := tk' }) :
    wpAny (model PySem.Challenge.rw_wr0011_01.row.prog w) (ktrTop dp un gd cn cs L a ccd cl outer) (call (.ref 110) vs) Q E s :=
  C dp un gd cn cs a ccd cl outer A₀ base h₀ L m s Q E B F X N T hk hp hd' hu ret
/-! the end of the law -/
theorem div_cut {x o q y z : Int} (hy : y = x * 2 ^ (4 * q).toNat) (hz : z = y / o) (hx : 0 ≤ x) (ho : 0 < o) (hq : 0 ≤ q) : z.toNat = x.toNat * 16 ^ q.toNat / o.toNat := by
  obtain ⟨n, rfl⟩ := Int.eq_ofNat_of_zero_le hx
  obtain ⟨m, rfl⟩ := Int.eq_ofNat_of_zero_le (Int.le_of_lt ho)
  rw [hz, hy, pow16q hq]
  simp only [Int.toNat_natCast]
  rw [← Int.natCast_mul, ← Int.natCast_ediv]
  rfl
theorem behind_eq {x o q y z : Int} {l : List Nat} (hy : y = x * 2 ^ (4 * q).toNat) (hz : z = y / o) (hl : l = wordL z.toNat q.toNat) (hx : 0 ≤ x) (ho : 0 < o) (hq : 0 ≤ q) :
    l.drop ((l.length : Int) - q).toNat = foundE x.toNat o.toNat q.toNat := by
  rw [div_cut hy hz hx ho hq] at hl
  have e : ((l.length : Int) - q).toNat = l.length - q.toNat := by omega
  rw [e]
  exact (cut_take (by omega) _ hl).2
theorem ahead_eq {x o q y z : Int} {l : List Nat} (hy : y = x * 2 ^ (4 * q).toNat) (hz : z = y / o) (hl : l = wordL z.toNat q.toNat) (hx : 0 ≤ x) (ho : 0 < o) (hq : 0 ≤ q) :
    l.take ((l.length : Int) - q).toNat = apN (x.toNat / o.toNat) := by
  rw [div_cut hy hz hx ho hq] at hl
  have e : ((l.length : Int) - q).toNat = l.length - q.toNat := by omega
  rw [e]
  exact (cut_take (by omega) _ hl).1
theorem letters_eq {x o q : Int} (hx : 0 ≤ x) (ho : 0 < o) (_hq : 0 ≤ q) :
    List.map (fun k => 65 + ((16 * k).fdiv o).toNat) (List.map (fun k' => (x * 16 ^ k'.toNat).fmod o) (rangeKs 0 (q - 0).toNat)) = foundE x.toNat o.toNat q.toNat := by
  obtain ⟨n, rfl⟩ := Int.eq_ofNat_of_zero_le hx
  obtain ⟨m, rfl⟩ := Int.eq_ofNat_of_zero_le (Int.le_of_lt ho)
  have e : (q - 0).toNat = q.toNat := by omega
  rw [e, rests_map, List.map_map]
  unfold foundE
  refine List.map_congr_left fun j _ => ?_
  show 65 + ((16 * ((rN n m j : Nat) : Int)).fdiv (m : Int)).toNat = _
  rw [letter_code]
  rfl
theorem due_is {n m : Nat} {q : Int} (hq : 1 ≤ q) : List.foldl (dueG n m) [] (downKs (q - 1) (q - 1 - -1).toNat) = metE n m q.toNat := by
  have e1 : (q - 1 - -1).toNat = q.toNat := by omega
  have e2 : q - 1 = ((q.toNat : Nat) : Int) - 1 := by omega
  rw [e1, e2]
  have := due_fold (n := n) (m := m) (p := q.toNat)
  exact this
theorem share_eq {x o z : Int} (hz : z = x / o) (hx : 0 ≤ x) (ho : 0 < o) : z.toNat = x.toNat / o.toNat := by
  obtain ⟨n, rfl⟩ := Int.eq_ofNat_of_zero_le hx
  obtain ⟨m, rfl⟩ := Int.eq_ofNat_of_zero_le (Int.le_of_lt ho)
  rw [hz, ← Int.natCast_ediv]
  rfl
section
variable {prog : Program} {w : World} {A : Around} {E : Value → Shared → Prop} {s : Shared} {t u : Tok} {Q : Value → Shared → Prop} {h₀ : Heap} {L : Addr} {news : List (Addr × Obj)}
theorem m_eqDue {D1 D2 : Addr} {ws ys : List Value} {c : Nat} {a b : List Int} (N : News h₀ L s.heap news) (m1 : (D1, W.listOf ws.toArray c) ∈ news) (m2 : (D2, LCg.lst ys) ∈ news) (i1 : IntsAre ws a) (i2 : IntsAre ys b) (e : a = b) (hu : A.units + 64 < cLine)
    (h : Q (.bool true) s) : wpAny (model prog w) A (compareOp .Eq (.ref D1) (.ref D2)) Q E s :=
  eq_intsK (News.isList N m1) i1 (News.isList N m2) i2 hu (by rw [decide_eq_true e]; exact h)
theorem m_eqSame {x y : Str} (he : x = y) (h : Q (.bool true) s) : wpAny (model prog w) A (compareOp .Eq (.str x t) (.str y u)) Q E s := by
  subst he
  refine P.eq_str ?_
  simpa using h
end
end Mine
/-! the walk of the law -/
namespace Mine
open PySem PySem.W PyProof.Rows
open PySem.Spec PySem.Calls
set_option maxRecDepth 100000
section
local macro_rules | `(tactic| walk_at "binaryOp Mod int int") => `(tactic| (k_here; first
  | ((with_reducible refine m_share ?_); intro y9 hy9a hy9b)
  | ((with_reducible refine m_odd ?_); intro y9 hy9a hy9b)
  | ((with_reducible refine m_places ?_); intro y9 hy9a hy9b)))
local macro_rules | `(tactic| walk_at "subscriptTail Tuple") => `(tactic| (k_here; refine m_tails (by k_asm) (by k_mem) (fmod_lo _ (by decide)) (fmod_hi _ (by decide)) ?_; intro tl9 ttl9 htl9 htl9b))
local macro_rules | `(tactic| walk_at "subscriptTail Name Slice ref ref") => `(tactic| (k_here; (with_reducible show wpAny _ _ (subscriptTail _ (PySem.Expr.Slice (some _) none none _) (Value.ref _) (Value.ref _)) _ _ _); k_dflt (refine' kmk_slice_ints ?mmF ?mmN ?mml ?mmp ?mmq ?mmi ?mmm ?mmc ?_ ?mms ?mmt ?mmz; (case mmF => k_asm); (case mmN => k_asm); (case mml => kmk_list); (case mmp => kmk_part); (case mmq => kmk_part); (case mmi => exact .cons _ _ (.cons _ _ (.cons _ _ .nil))); (case mmm => exact kmk_from (.cons _ _ (.cons _ _ (.cons _ _ .nil))) (Int.natCast_nonneg _)); (case mmc => exact rfl); (case mms => with_unfolding_all rfl); (case mmt => kmk_pure); (case mmz => exact Nat.le_of_ble_eq_true rfl)); intro D' ws' h' F' N' l1 hI' hC' hL'; (try k_lt l1); (try k_sweep)))
local macro_rules | `(tactic| walk_at "subscriptTail List cons Slice ref ref") => `(tactic| (k_here; k_dflt (refine kba_turn (value' := PySem.Expr.Name (PySem.Str.ofString "_") ⟨0, 0, 0, 0⟩) (fun _ => rfl) ?_)))
local macro_rules | `(tactic| walk_at "MINE use") => `(tactic| ((case k1 => k_asm); (case k2 => k_asm); (case k3 => k_asm); (case k4 => k_asm); (case k5 => k_asm); (case kK => first | exact rfl | assumption); (case kp => first | trivial | assumption | omega | exact ⟨by omega, by omega⟩ | exact ab_word (by assumption) (by assumption) (by assumption)); (case kd => ktr_room); (case ku => ktr_units)))
local macro_rules | `(tactic| walk_at "call ref") => `(tactic| (k_here; (first
  | ((with_reducible show wpAny _ _ (call (Value.ref 63) _) _ _ _); k_dflt (refine' Cl.useI (c_ilshift _ _ _ _ _ _ _ _ _) ?k1 ?k2 ?k3 ?k4 ?k5 ?kK ?kp ?kd ?ku ?_))
  | ((with_reducible show wpAny _ _ (call (Value.ref 70) _) _ _ _); k_dflt (refine' Cl.useI (c_imod _ _ _ _ _ _ _ _ _) ?k1 ?k2 ?k3 ?k4 ?k5 ?kK ?kp ?kd ?ku ?_))
  | ((with_reducible show wpAny _ _ (call (Value.ref 56) _) _ _ _); k_dflt (refine' Cl.useI (c_ifloordiv _ _ _ _ _ _ _ _ _) ?k1 ?k2 ?k3 ?k4 ?k5 ?kK ?kp ?kd ?ku ?_))); walk_at "MINE use"; intro y9 t9 h9 tk9 hy9 hT9 F9 N9; (try dsimp only at hT9); (try (have hb9 := shl_bd hy9 (by omega) (by omega) (by omega) (by omega))); (try (have hb9 := div_bd hy9 (by omega) (by omega))); (try (have hb9 := mod_bd hy9 (by omega))); (try dsimp only); (try k_fold)))
local macro_rules | `(tactic| walk_at "call ref") => `(tactic| (k_here; (with_reducible show wpAny _ _ (call (Value.ref 103) _) _ _ _); k_dflt (refine' Cl.useS (c_word _ _ _ _ _ _ _ _ _) ?k1 ?k2 ?k3 ?k4 ?k5 ?kK ?kp ?kd ?ku ?_); walk_at "MINE use"; intro y9 t9 h9 tk9 hy9 hT9 F9 N9; (try dsimp only at hT9); (have hb9 := wordL_le hy9 (by omega) (by omega)); (have hg9 := wordL_ge hy9); (try dsimp only); (try k_fold)))
local macro_rules | `(tactic| walk_at "call ref") => `(tactic| (k_here; (with_reducible show wpAny _ _ (call (Value.ref 28) _) _ _ _); k_dflt (refine' Cl.use (c_strip2 _ _ _ _ _ _ _ _ _) ?k1 ?k2 ?k3 ?k4 ?k5 ?kK ?kp ?kd ?ku ?_); walk_at "MINE use"; intro t9 h9 tk9 hT9 F9 N9; (try dsimp only at hT9); (try dsimp only); (try k_fold)))
local macro_rules | `(tactic| walk_at "call builtin:len cons nil") => `(tactic| (k_here; (with_reducible refine m_len (by first | omega | (simp only [strL_length]; omega)) ?_); (try simp only [strL_length])))
local macro_rules | `(tactic| walk_at "subscriptTail Name Slice str ref") => `(tactic| (k_here; (with_reducible rename Fr _ _ _ _ => F'); (with_reducible rename News _ _ _ _ => N'); first
  | (refine m_slice_to (s := ⟨_, _, _, _, _⟩) F' N' (by omega) (by omega) (by omega) ?_; intro _ _ _ _ _)
  | (refine m_slice_from (s := ⟨_, _, _, _, _⟩) F' N' (by omega) (by omega) (by omega) ?_; intro _ _ _ _ _)))
local macro_rules | `(tactic| walk_at "binaryOp Add str str") => `(tactic| (k_here; (refine s_add (by first | omega | (simp only [strL_length, List.length_take, List.length_drop, Str.length_append, dot_len]; omega)) ?_); intro _ _ hk9; (try dsimp only at hk9)))
local macro_rules | `(tactic| walk_at "binaryOp Pow int int") => `(tactic| (k_here; refine m_pow16 (by assumption) (pk_le (by assumption) (by assumption) (by assumption)) ?_))
local macro_rules | `(tactic| walk_at "binaryOp Mult int int") => `(tactic| (k_here; (with_reducible refine m_mulR (by assumption) (pk_le (by assumption) (by assumption) (by assumption)) ?_)))
local macro_rules | `(tactic| walk_at "execs cons") => `(tactic| (k_here; (with_reducible refine wpAny_execs_cons ?_); (try dsimp only)))
local macro_rules | `(tactic| walk_at "execs cons") => `(tactic| (k_here; (with_reducible show wpAny _ _ _ _ _ (Shared.mk _ _ _ (_ + 1) _)); (refine gen_toks (s := ⟨_, _, _, _, _⟩) ?_); intro tk htk9; (try dsimp only at htk9); (try dsimp only)))
local macro_rules | `(tactic| walk_at "CompSrc Subscript cons ref") => `(tactic| (k_here; k_dflt (refine LCg.CompSrc.ledger (by rfl) (by k_asm) (by k_asm) (by k_mem) (by kcf_size) ?_; intro g'; (refine' kct_letters (by assumption) (fun k' t' I' oI' C' oC' D' m' ys' h' tk' E' hk' hC' hx' F' N' off' ne' hMark' => ?_) ?_); (all_goals (try (have off9 := off'; simp only [LCg.Off3, and_true] at off'))); (all_goals (try dsimp only)))))
local macro_rules | `(tactic| walk_at "subscriptTail Constant str") => `(tactic| (k_here; (with_reducible refine m_alpha (al_bd (by assumption) (by omega)).1 (al_bd (by assumption) (by omega)).2 ?_)))
local macro_rules | `(tactic| walk_at "call builtin:str.join cons nil") => `(tactic| (k_here; refine join_letters (by assumption) (News.isList (by k_asm) (by k_mem)) (by simp only [List.length_map, rangeKs_length]; omega) ?_; intro _ _))
local macro_rules | `(tactic| walk_at "exec Assign cons ListComp") => `(tactic| (k_here; lct_look; k_dflt (refine Assign_ListComp_D (F₀ := by k_asm) (by rfl) (by with_unfolding_all rfl) (by with_unfolding_all rfl) (by decide) (by rfl) (by decide) (by rfl) (by rfl) (by rfl) ?_)))
local macro_rules | `(tactic| walk_at "SrcD") => `(tactic| (k_here; k_dflt (refine' SrcD.ofDue (by assumption) (by rfl) (by k_asm) (by k_asm) (by assumption) (by omega) (by omega) (by omega) (by omega) (fun k' t' I' oI' C' oC' D' m' ys' l' h' tk' E' hlo' hhi' hI' hC' hx' F' N' off' ne' hMark' => ?kturn) (fun g' ys' hI' hL' => ?kfin)); (case' kturn => ((have hDue' : DueMark := True.intro); (have off9 := off'); (try simp only [LCg.Off3, and_true] at off')))))
local macro_rules | `(tactic| walk_at "subscriptTail Name Constant ref int") => `(tactic| ((with_reducible rename DueMark => hDue9); k_here; k_dflt (refine m_rest0 (by assumption) (by k_asm) (by k_mem) (by omega) (by omega) (by omega) ?_; intro t9)))
local macro_rules | `(tactic| walk_at "subscriptTail Name Name ref int") => `(tactic| ((with_reducible rename DueMark => hDue9); k_here; k_dflt (refine m_rest (by assumption) (by k_asm) (by k_mem) (by omega) (by omega) (by omega) (by omega) (by omega) ?_; intro t9)))
local macro_rules | `(tactic| walk_at "CompEnd str") => `(tactic| ((with_reducible rename Fr _ _ _ _ => F9); (with_reducible rename News _ _ _ _ => N9); (with_reducible rename LCg.Off3 _ _ _ _ => off9); exact ce_str F9 N9 off9 (by k_mem)))
local macro_rules | `(tactic| walk_at "CompEnd int") => `(tactic| ((with_reducible rename Fr _ _ _ _ => F9); (with_reducible rename News _ _ _ _ => N9); (with_reducible rename LCg.Off3 _ _ _ _ => off9); exact ce_due F9 N9 off9 (by assumption) (by first | exact .inl (by assumption) | exact .inr (by assumption))))
local macro_rules | `(tactic| walk_at "CompEnd none") => `(tactic| ((with_reducible rename Fr _ _ _ _ => F9); (with_reducible rename News _ _ _ _ => N9); (with_reducible rename LCg.Off3 _ _ _ _ => off9); exact ce_no F9 N9 off9 (by first | exact .inl (by assumption) | exact .inr ⟨by assumption, by assumption⟩)))
local macro_rules | `(tactic| walk_at "FinA") => `(tactic| ((unfold LCg.FinA); intro D' h' tk' F' N' o1'; (dsimp only at F'); (try simp only [LCg.Off1, and_true] at o1'); (try dsimp only); (try k_sweep)))
local macro_rules | `(tactic| walk_at "MINE use2") => `(tactic| ((case k1 => k_asm); (case k2 => k_asm); (case k3 => k_asm); (case k4 => k_asm); (case k5 => k_asm); (case kK => first | exact rfl | assumption); (case kd => ktr_room); (case ku => ktr_units)))
local macro_rules | `(tactic| walk_at "call ref") => `(tactic| (k_here; (with_reducible show wpAny _ _ (call (Value.ref 110) _) _ _ _); k_dflt (refine' ClU.use (c_undone _ _ _ _ _ _ _ _ _ _ _ _ _ _) ?k1 ?k2 ?k3 ?k4 ?k5 ?kK ?kp ?kd ?ku ?_); (case kp => exact UPre.of (by assumption) (by assumption) (by assumption) (by omega) (by omega) (by omega) (by omega) (by omega)); walk_at "MINE use2"; intro fs9 met9 T9 D9 ts9 ws9 c9 h9 tk9 hfs9 hmet9 F9 N9 hI9; (try dsimp only); (try k_fold)))
local macro_rules | `(tactic| walk_at "call ref") => `(tactic| (k_here; (with_reducible show wpAny _ _ (call (Value.ref 35) _) _ _ _); k_dflt (refine' Cl.use (c_Int2AP _ _ _ _ _ _ _) ?k1 ?k2 ?k3 ?k4 ?k5 ?kK ?kp ?kd ?ku ?_); (case kp => exact ⟨by omega, by omega⟩); walk_at "MINE use2"; intro t9 h9 tk9 hT9 F9 N9; (try dsimp only at hT9); (try dsimp only); (try k_fold)))
local macro_rules | `(tactic| walk_at "call ref") => `(tactic| (k_here; (with_reducible show wpAny _ _ (call (Value.ref 96) _) _ _ _); k_dflt (refine' Cl.use (c_textAP _ _ _ _ _ _ _) ?k1 ?k2 ?k3 ?k4 ?k5 ?kK ?kp ?kd ?ku ?_); (case kp => omega); walk_at "MINE use2"; intro t9 h9 tk9 hT9 F9 N9; (try dsimp only at hT9); (try dsimp only); (try k_fold)))
local macro_rules | `(tactic| walk_at "compareOp NotEq str str") => `(tactic| (k_here; first
  | (refine' m_neSame ?e1 ?_; (case e1 => exact (congrArg strL ((behind_eq (by assumption) (by assumption) (by assumption) (by assumption) (by omega) (by omega)).trans (letters_eq (by assumption) (by omega) (by omega)).symm))))
  | (refine' m_neSame ?e1 ?_; (case e1 => exact (Eq.trans (by assumption) (congrArg strL (letters_eq (by assumption) (by omega) (by omega)).symm))))))
local macro_rules | `(tactic| walk_at "compareOp Eq ref ref") => `(tactic| (k_here; k_dflt (refine' m_eqDue ?e1 ?e2 ?e3 ?e4 ?e5 ?e6 ?e7 ?_; (case e1 => k_asm); (case e2 => k_mem); (case e3 => k_mem); (case e4 => assumption); (case e5 => assumption); (case e6 => exact Eq.trans (by assumption) (due_is (by omega)).symm); (case e7 => units_room))))
local macro_rules | `(tactic| walk_at "compareOp Eq str str") => `(tactic| (k_here; refine' m_eqSame ?e1 ?_; (case e1 => exact (congrArg strL ((ahead_eq (by assumption) (by assumption) (by assumption) (by assumption) (by omega) (by omega)).trans (congrArg apN (share_eq (by assumption) (by assumption) (by omega)).symm))))))
set_option maxHeartbeats 8000000 in
theorem law_walks : PySem.Challenge.rw_wr0011_01.Holds := hd (by
  w_top off
  w_strict (
    k_go0
    (all_goals try k_fold)
    k_steps
    all_goals w_report))
end
end Mine
theorem PySem.Challenge.cw_wr0011_01_holds : PySem.Challenge.rw_wr0011_01.Holds := by
  exact Mine.law_walks
