import PyProof.Rows.All
import Wide.All
import OpenK.AllK
import Wide.FinOn
import PySem.Challenge.RW_mj0070_01
set_option Elab.async false
section
open PySem PySem.W PyProof.Rows
set_option maxRecDepth 100000
set_option maxHeartbeats 8000000
namespace Mine
open_top hd for PySem.Challenge.rw_mj0070_01
end Mine
end
section
open PySem PySem.W PyProof.Rows
set_option maxRecDepth 100000
set_option maxHeartbeats 8000000
namespace Mine
/-- what a call of the def at f keeps to, from whatever frame with room for k more: args in, R back, the ledger as it was -/
abbrev Cl (k : Nat) (w : World) (mean : ExcName → Option Value) (mg mb : Str → Option Value) (f : Addr) (news : List (Addr × Obj)) (args : List Value) (R : Tok → Value) : Prop :=
  ∀ (dp un : Nat) (gd : Option (List Code)) (cn : Str) (cs : Scope) (a : Addr) (ccd : Value) (cl : List (Str × Addr)) (outer : List Env) (A₀ : Around) (base h₀ : Heap) (L : Addr) (m : Str → Option Value) (s : Shared) (Q E : Value → Shared → Prop),
    Below A₀ base outer h₀ → Fr h₀ L s.heap m → (hd.heap_39 w.params).In h₀ → News h₀ L s.heap news → Top hd.view_39 (looseW hd.view_39 []) mean mg mb h₀ → cs.kind = .function →
    dp + k < recursionLimit → un + 8 * k < cLine → (∀ (t : Tok) (h' : Heap) (tk' : Nat), Fr h₀ L h' m → News h₀ L h' news → Q (R t) { s with heap := h', toks := tk' }) →
      wpAny (model Challenge.rw_mj0070_01.row.prog w) (ktrTop dp un gd cn cs L a ccd cl outer) (call (.ref f) args) Q E s
theorem cl_use {k : Nat} {w : World} {mean : ExcName → Option Value} {mg mb : Str → Option Value} {f : Addr} {news : List (Addr × Obj)} {args : List Value} {R : Tok → Value}
    {dp un : Nat} {gd : Option (List Code)} {cn : Str} {cs : Scope} {a : Addr} {ccd : Value} {cl : List (Str × Addr)} {outer : List Env} {A₀ : Around} {base h₀ : Heap} {L : Addr} {m : Str → Option Value} {s : Shared} {Q E : Value → Shared → Prop}
    (C : Cl k w mean mg mb f news args R)
    (B : Below A₀ base outer h₀) (F : Fr h₀ L s.heap m) (X : (hd.heap_39 w.params).In h₀) (N : News h₀ L s.heap news) (T : Top hd.view_39 (looseW hd.view_39 []) mean mg mb h₀) (hk : cs.kind = .function)
    (hd : dp + k < recursionLimit) (hu : un + 8 * k < cLine)
    (ret : ∀ (t : Tok) (h' : Heap) (tk' : Nat), Fr h₀ L h' m → News h₀ L h' news → Q (R t) { s with heap := h', toks := tk' }) :
    wpAny (model Challenge.rw_mj0070_01.row.prog w) (ktrTop dp un gd cn cs L a ccd cl outer) (call (.ref f) args) Q E s :=
  C dp un gd cn cs a ccd cl outer A₀ base h₀ L m s Q E B F X N T hk hd hu ret
/-- as cl_use, the premises in one -/
theorem cl_use2 {k : Nat} {w : World} {mean : ExcName → Option Value} {mg mb : Str → Option Value} {f : Addr} {news : List (Addr × Obj)} {args : List Value} {R : Tok → Value}
    {dp un : Nat} {gd : Option (List Code)} {cn : Str} {cs : Scope} {a : Addr} {ccd : Value} {cl : List (Str × Addr)} {outer : List Env} {A₀ : Around} {base h₀ : Heap} {L : Addr} {m : Str → Option Value} {s : Shared} {Q E : Value → Shared → Prop}
    (C : Cl k w mean mg mb f news args R)
    (H : Below A₀ base outer h₀ ∧ Fr h₀ L s.heap m ∧ (hd.heap_39 w.params).In h₀ ∧ News h₀ L s.heap news ∧ Top hd.view_39 (looseW hd.view_39 []) mean mg mb h₀ ∧ cs.kind = .function ∧ dp + k < recursionLimit ∧ un + 8 * k < cLine)
    (ret : ∀ (t : Tok) (h' : Heap) (tk' : Nat), Fr h₀ L h' m → News h₀ L h' news → Q (R t) { s with heap := h', toks := tk' }) :
    wpAny (model Challenge.rw_mj0070_01.row.prog w) (ktrTop dp un gd cn cs L a ccd cl outer) (call (.ref f) args) Q E s :=
  C dp un gd cn cs a ccd cl outer A₀ base h₀ L m s Q E H.1 H.2.1 H.2.2.1 H.2.2.2.1 H.2.2.2.2.1 H.2.2.2.2.2.1 H.2.2.2.2.2.2.1 H.2.2.2.2.2.2.2 ret
end Mine
end
section
open PySem PySem.W PyProof.Rows
set_option maxRecDepth 100000
set_option maxHeartbeats 8000000
namespace Mine
local macro_rules | `(tactic| walk_at "mine prem") => `(tactic| (refine ⟨?_, ?_, ?_, ?_, ?_, ?_, ?_, ?_⟩; (· k_asm); (· k_asm); (· k_asm); (· k_asm); (· k_asm); (· first | exact rfl | assumption); (· ktr_room); (· ktr_units)))
local macro_rules | `(tactic| walk_at "mine pos") => `(tactic| first | assumption | omega | ((simp only [Int.toNat_zero, List.getD_cons_zero]); omega))
theorem ctoi_c (w : World) (mean mg mb) (news) (n : Nat) (t : Tok) (h1 : n < 55296) :
    Cl 1 w mean mg mb 35 news [.str ⟨#[n]⟩ t] (fun t => .int n t) := by
  w_top off; dsimp only [Cl]; k_fill; intros; rename_i hret; refine wpAny_call ?_; k_dflt cell_enter
  k_steps
  all_goals exact cb_retI hret rfl (by k_asm) (by k_asm)
theorem ctoi_i (w : World) (mean mg mb) (news) (n : Int) (t : Tok) :
    Cl 1 w mean mg mb 35 news [.int n t] (fun t => .int n t) := by
  w_top off; dsimp only [Cl]; k_fill; intros; rename_i hret; refine wpAny_call ?_; k_dflt cell_enter
  k_steps
  all_goals exact cb_retI hret rfl (by k_asm) (by k_asm)
local macro_rules | `(tactic| walk_at "call ref") => `(tactic| (k_here; (with_reducible show wpAny _ _ (call (Value.ref 35) _) _ _ _); k_dflt (first | (refine' cl_use2 (ctoi_c _ _ _ _ _ _ _ ?kp0) ?kH ?_; (case kp0 => walk_at "mine pos")) | (refine' cl_use2 (ctoi_i _ _ _ _ _ _ _) ?kH ?_)); (case kH => walk_at "mine prem"); intro t9 h9 tk9 F9 N9; (try dsimp only); (try k_fold)))
theorem isdigit_c (w : World) (mean mg mb) (news) (n : Nat) (t : Tok) (h1 : n < 55296) :
    Cl 2 w mean mg mb 49 news [.str ⟨#[n]⟩ t] (fun _ => .bool (decide (48 ≤ n ∧ n ≤ 57))) := by
  w_top off; dsimp only [Cl]; k_fill; intros; rename_i hret; refine wpAny_call ?_; k_dflt cell_enter
  k_steps
  all_goals exact cb_retB hret (by simp only [decide_eq_decide]; omega) (by k_asm) (by k_asm)
theorem islower_c (w : World) (mean mg mb) (news) (n : Nat) (t : Tok) (h1 : n < 55296) :
    Cl 2 w mean mg mb 56 news [.str ⟨#[n]⟩ t] (fun _ => .bool (decide (97 ≤ n ∧ n ≤ 122))) := by
  w_top off; dsimp only [Cl]; k_fill; intros; rename_i hret; refine wpAny_call ?_; k_dflt cell_enter
  k_steps
  all_goals exact cb_retB hret (by simp only [decide_eq_decide]; omega) (by k_asm) (by k_asm)
theorem isupper_c (w : World) (mean mg mb) (news) (n : Nat) (t : Tok) (h1 : n < 55296) :
    Cl 2 w mean mg mb 70 news [.str ⟨#[n]⟩ t] (fun _ => .bool (decide (65 ≤ n ∧ n ≤ 90))) := by
  w_top off; dsimp only [Cl]; k_fill; intros; rename_i hret; refine wpAny_call ?_; k_dflt cell_enter
  k_steps
  all_goals exact cb_retB hret (by simp only [decide_eq_decide]; omega) (by k_asm) (by k_asm)
theorem isprint_i (w : World) (mean mg mb) (news) (n : Int) (t : Tok) :
    Cl 2 w mean mg mb 63 news [.int n t] (fun _ => .bool (decide (32 ≤ n ∧ n ≤ 126))) := by
  w_top off; dsimp only [Cl]; k_fill; intros; rename_i hret; refine wpAny_call ?_; k_dflt cell_enter
  k_steps
  all_goals exact cb_retB hret (by simp only [decide_eq_decide]; omega) (by k_asm) (by k_asm)
local macro_rules | `(tactic| walk_at "call ref") => `(tactic| (k_here; (with_reducible show wpAny _ _ (call (Value.ref 56) _) _ _ _); k_dflt (first | (refine' cl_use2 (islower_c _ _ _ _ _ _ _ ?kp0) ?kH ?_; (case kp0 => walk_at "mine pos"))); (case kH => walk_at "mine prem"); intro t9 h9 tk9 F9 N9; (try dsimp only); (try k_fold)))
local macro_rules | `(tactic| walk_at "call ref") => `(tactic| (k_here; (with_reducible show wpAny _ _ (call (Value.ref 70) _) _ _ _); k_dflt (first | (refine' cl_use2 (isupper_c _ _ _ _ _ _ _ ?kp0) ?kH ?_; (case kp0 => walk_at "mine pos"))); (case kH => walk_at "mine prem"); intro t9 h9 tk9 F9 N9; (try dsimp only); (try k_fold)))
local macro_rules | `(tactic| walk_at "call ref") => `(tactic| (k_here; (with_reducible show wpAny _ _ (call (Value.ref 63) _) _ _ _); k_dflt (first | (refine' cl_use2 (isprint_i _ _ _ _ _ _ _) ?kH ?_)); (case kH => walk_at "mine prem"); intro t9 h9 tk9 F9 N9; (try dsimp only); (try k_fold)))
theorem isalpha_c (w : World) (mean mg mb) (news) (n : Nat) (t : Tok) (h1 : n < 55296) :
    Cl 3 w mean mg mb 42 news [.str ⟨#[n]⟩ t] (fun _ => .bool (decide (65 ≤ n ∧ n ≤ 90 ∨ 97 ≤ n ∧ n ≤ 122))) := by
  w_top off; dsimp only [Cl]; k_fill; intros; rename_i hret; refine wpAny_call ?_; k_dflt cell_enter
  k_steps
  all_goals exact cb_retB hret (by simp only [decide_eq_decide]; omega) (by k_asm) (by k_asm)

/-- what unctrl shows of a sign, in codes -/
def shown (c : Nat) : List Nat :=
  (if 127 < c % 256 then [33] else []) ++ (if c % 128 < 32 then [94, c % 128 + 64] else if c % 128 < 127 then [c % 128] else if c = 127 then [94, 63] else [94, 159])
def shownS (c : Nat) : Str := ⟨(shown c).toArray⟩

section
variable {prog : Program} {w : World} {A : Around} {E : Value → Shared → Prop} {s : Shared} {a : Int} {t u : Tok} {Q : Value → Shared → Prop}
theorem and31 (h : Q (.int (a % 32) s.toks) { s with toks := s.toks + 1 }) : wpAny (model prog w) A (binaryOp .BitAnd (.int a t) (.int 31 u)) Q E s :=
  and_int (by rw [bitAnd_m5]; exact h)
theorem and127 (h : Q (.int (a % 128) s.toks) { s with toks := s.toks + 1 }) : wpAny (model prog w) A (binaryOp .BitAnd (.int a t) (.int 127 u)) Q E s :=
  and_int (by rw [bitAnd_m7]; exact h)
theorem and128 (h : Q (.int (a / 128 % 2 * 128) s.toks) { s with toks := s.toks + 1 }) : wpAny (model prog w) A (binaryOp .BitAnd (.int a t) (.int 128 u)) Q E s :=
  and_int (by rw [show Builtin.bitAnd a 128 = a / 128 % 2 * 128 from kbt_bit a 7]; exact h)
theorem or32_fact : ∀ k : Fin 128, (k.val < 32 ∨ k.val = 127) → Builtin.bitOr (k.val : Int) 32 = if k.val < 32 then (k.val : Int) + 32 else (k.val : Int) := by decide +kernel
theorem or32 (h0 : 0 ≤ a) (h1 : a < 32 ∨ a = 127) (h : Q (.int (if a < 32 then a + 32 else a) s.toks) { s with toks := s.toks + 1 }) : wpAny (model prog w) A (binaryOp .BitOr (.int a t) (.int 32 u)) Q E s := by
  refine or_int ?_
  have e := or32_fact ⟨a.toNat, by omega⟩ (by show a.toNat < 32 ∨ a.toNat = 127; omega)
  have ha : ((a.toNat : Nat) : Int) = a := by omega
  dsimp only at e
  rw [ha] at e
  rw [e]
  have hc : (if a.toNat < 32 then a + 32 else a) = (if a < 32 then a + 32 else a) := by split <;> split <;> omega
  rw [hc]
  exact h
end
local macro_rules | `(tactic| walk_at "binaryOp BitAnd int int") => `(tactic| (k_here; first | with_reducible refine and31 ?_ | with_reducible refine and127 ?_ | with_reducible refine and128 ?_))
local macro_rules | `(tactic| walk_at "binaryOp BitOr int int") => `(tactic| (k_here; with_reducible refine or32 (by omega) (by omega) ?_))
theorem s33 : Str.ofString "!" = ⟨#[33]⟩ := by decide +kernel
theorem s94 : Str.ofString "^" = ⟨#[94]⟩ := by decide +kernel
theorem s63 : Str.ofString "?" = ⟨#[63]⟩ := by decide +kernel
theorem s9463 : Str.ofString "^?" = ⟨#[94, 63]⟩ := by decide +kernel
theorem s0 : Str.ofString "" = ⟨#[]⟩ := by decide +kernel
theorem ctl_fact : ∀ k : Fin 32, Txt.item (Str.ofString "@ABCDEFGHIJKLMNOPQRSTUVWXYZ[\\]^_") (k.val : Int) = ⟨#[k.val + 64]⟩ := by decide +kernel
theorem ctl_item {n : Int} (h0 : 0 ≤ n) (h1 : n < 32) : Txt.item (Str.ofString "@ABCDEFGHIJKLMNOPQRSTUVWXYZ[\\]^_") n = ⟨#[n.toNat + 64]⟩ := by
  have h := ctl_fact ⟨n.toNat, by omega⟩
  dsimp only at h
  rw [show ((n.toNat : Nat) : Int) = n by omega] at h
  exact h
theorem dig_fact : ∀ k : Fin 10, Txt.item (Str.ofString "0123456789") (k.val : Int) = ⟨#[k.val + 48]⟩ := by decide +kernel
theorem dig_item {n : Int} (h0 : 0 ≤ n) (h1 : n < 10) : Txt.item (Str.ofString "0123456789") n = ⟨#[n.toNat + 48]⟩ := by
  have h := dig_fact ⟨n.toNat, by omega⟩
  dsimp only at h
  rw [show ((n.toNat : Nat) : Int) = n by omega] at h
  exact h
theorem ctrl_c (w : World) (mean mg mb) (news) (n : Nat) (t : Tok) (h1 : n < 55296) :
    Cl 2 w mean mg mb 77 news [.str ⟨#[n]⟩ t] (fun t => .str ⟨#[n % 32]⟩ t) := by
  w_top off; dsimp only [Cl]; k_fill; intros; rename_i hret; refine wpAny_call ?_; k_dflt cell_enter
  k_steps
  all_goals exact cb_retS hret (by rw [show ((n : Int) % 32).toNat = n % 32 by omega]) (by k_asm) (by k_asm)
theorem t128 {n : Int} (h : 0 ≤ n) : (n.fmod 128).toNat = n.toNat % 128 := by rw [Int.fmod_eq_emod_of_nonneg n (by decide)]; omega
theorem m128 {n : Int} (h : 0 ≤ n) : ((n.toNat % 128 : Nat) : Int) = n.fmod 128 := by rw [Int.fmod_eq_emod_of_nonneg n (by decide)]; omega
theorem m256 {n : Int} (h : 0 ≤ n) : ((n.toNat % 256 : Nat) : Int) = n.fmod 256 := by rw [Int.fmod_eq_emod_of_nonneg n (by decide)]; omega
theorem hi_p {n : Nat} (b : (n : Int) / 128 % 2 * 128 ≠ 0) : 127 < n % 256 := by omega
theorem hi_n {n : Nat} (b : (n : Int) / 128 % 2 * 128 = 0) : ¬ 127 < n % 256 := by omega
theorem hj_p {n : Int} (h0 : 0 ≤ n) (b : 127 < n.fmod 256) : 127 < n.toNat % 256 := by have := m256 h0; omega
theorem hj_n {n : Int} (h0 : 0 ≤ n) (b : ¬ 127 < n.fmod 256) : ¬ 127 < n.toNat % 256 := by have := m256 h0; omega
theorem sw_p {c : Nat} (h : 127 < c % 256) : shown c = [33] ++ (if c % 128 < 32 then [94, c % 128 + 64] else if c % 128 < 127 then [c % 128] else if c = 127 then [94, 63] else [94, 159]) := by unfold shown; rw [if_pos h]
theorem sw_n {c : Nat} (h : ¬ 127 < c % 256) : shown c = [] ++ (if c % 128 < 32 then [94, c % 128 + 64] else if c % 128 < 127 then [c % 128] else if c = 127 then [94, 63] else [94, 159]) := by unfold shown; rw [if_neg h]
theorem lo_a {c : Nat} (h : c % 128 < 32) : (if c % 128 < 32 then [94, c % 128 + 64] else if c % 128 < 127 then [c % 128] else if c = 127 then [94, 63] else [94, 159]) = [94, c % 128 + 64] := if_pos h
theorem lo_b {c : Nat} (h : ¬ c % 128 < 32) (k : c % 128 < 127) : (if c % 128 < 32 then [94, c % 128 + 64] else if c % 128 < 127 then [c % 128] else if c = 127 then [94, 63] else [94, 159]) = [c % 128] := by rw [if_neg h, if_pos k]
theorem lo_c : (if 127 % 128 < 32 then [94, 127 % 128 + 64] else if 127 % 128 < 127 then [127 % 128] else if 127 = 127 then [94, 63] else [94, 159]) = [94, 63] := rfl
theorem lo_d {c : Nat} (h : ¬ c % 128 < 127) (k : ¬ c = 127) : (if c % 128 < 32 then [94, c % 128 + 64] else if c % 128 < 127 then [c % 128] else if c = 127 then [94, 63] else [94, 159]) = [94, 159] := by rw [if_neg (by omega), if_neg h, if_neg k]
section
variable {n : Nat}
theorem su_1 (a : (n : Int) = 127) (b : (n : Int) / 128 % 2 * 128 ≠ 0) : Str.ofString "!" ++ Str.ofString "^?" = shownS n := by omega
theorem su_2 (a : (n : Int) = 127) (b : (n : Int) / 128 % 2 * 128 = 0) : Str.ofString "^?" = shownS n := by
  have e : n = 127 := by omega
  subst e; rw [s9463]; rfl
theorem su_3 (a : 32 ≤ (n : Int) % 128 ∧ (n : Int) % 128 ≤ 126) (b : (n : Int) / 128 % 2 * 128 ≠ 0) : Str.ofString "!" ++ { cps := #[((n : Int) % 128).toNat] } = shownS n := by
  unfold shownS
  rw [s33, sw_p (hi_p b), lo_b (by omega) (by omega), show ((n : Int) % 128).toNat = n % 128 by omega]; rfl
theorem su_4 (a : 32 ≤ (n : Int) % 128 ∧ (n : Int) % 128 ≤ 126) (b : (n : Int) / 128 % 2 * 128 = 0) : { cps := #[((n : Int) % 128).toNat] } = shownS n := by
  unfold shownS
  rw [sw_n (hi_n b), lo_b (by omega) (by omega), show ((n : Int) % 128).toNat = n % 128 by omega]; rfl
theorem su_t (a : ¬ (32 ≤ (n : Int) % 128 ∧ (n : Int) % 128 ≤ 126)) (c : ¬ (n : Int) = 127) : [94, ((if (n : Int) % 128 < 32 then (n : Int) % 128 + 32 else (n : Int) % 128) + 32).toNat] = (if n % 128 < 32 then [94, n % 128 + 64] else if n % 128 < 127 then [n % 128] else if n = 127 then [94, 63] else [94, 159]) := by
  by_cases h : n % 128 < 32
  · rw [lo_a h, if_pos (by omega), show ((n : Int) % 128 + 32 + 32).toNat = n % 128 + 64 by omega]
  · rw [lo_d (by omega) (by omega), if_neg (by omega), show ((n : Int) % 128 + 32).toNat = 159 by omega]
theorem su_5 (a : ¬ (32 ≤ (n : Int) % 128 ∧ (n : Int) % 128 ≤ 126)) (c : ¬ (n : Int) = 127) (b : (n : Int) / 128 % 2 * 128 ≠ 0) : Str.ofString "!" ++ (Str.ofString "^" ++ { cps := #[((if (n : Int) % 128 < 32 then (n : Int) % 128 + 32 else (n : Int) % 128) + 32).toNat] }) = shownS n := by
  unfold shownS
  rw [sw_p (hi_p b), ← su_t a c, s33, s94]; rfl
theorem su_6 (a : ¬ (32 ≤ (n : Int) % 128 ∧ (n : Int) % 128 ≤ 126)) (c : ¬ (n : Int) = 127) (b : (n : Int) / 128 % 2 * 128 = 0) : Str.ofString "^" ++ { cps := #[((if (n : Int) % 128 < 32 then (n : Int) % 128 + 32 else (n : Int) % 128) + 32).toNat] } = shownS n := by
  unfold shownS
  rw [sw_n (hi_n b), ← su_t a c, s94]; rfl
end
section
variable {n : Int} (h0 : 0 ≤ n)
include h0
theorem f_nn : 0 ≤ n.fmod 128 := by have := m128 h0; omega
theorem sv_1 (a : 127 < n.fmod 256) (b : n.fmod 128 < 32) : Str.ofString "!" ++ Str.ofString "^" ++ Txt.item (Str.ofString "@ABCDEFGHIJKLMNOPQRSTUVWXYZ[\\]^_") (n.fmod 128) = shownS n.toNat := by
  unfold shownS
  rw [sw_p (hj_p h0 a), lo_a (by have := m128 h0; omega), ctl_item (f_nn h0) b, t128 h0, s33, s94]; rfl
theorem sv_2 (a : ¬ 127 < n.fmod 256) (b : n.fmod 128 < 32) : Str.ofString "" ++ Str.ofString "^" ++ Txt.item (Str.ofString "@ABCDEFGHIJKLMNOPQRSTUVWXYZ[\\]^_") (n.fmod 128) = shownS n.toNat := by
  unfold shownS
  rw [sw_n (hj_n h0 a), lo_a (by have := m128 h0; omega), ctl_item (f_nn h0) b, t128 h0, s0, s94]; rfl
theorem sv_3 (a : 127 < n.fmod 256) (b : ¬ n.fmod 128 < 32) (c : n.fmod 128 < 127) : Str.ofString "!" ++ { cps := #[(n.fmod 128).toNat] } = shownS n.toNat := by
  unfold shownS
  rw [sw_p (hj_p h0 a), lo_b (by have := m128 h0; omega) (by have := m128 h0; omega), t128 h0, s33]; rfl
theorem sv_4 (a : ¬ 127 < n.fmod 256) (b : ¬ n.fmod 128 < 32) (c : n.fmod 128 < 127) : Str.ofString "" ++ { cps := #[(n.fmod 128).toNat] } = shownS n.toNat := by
  unfold shownS
  rw [sw_n (hj_n h0 a), lo_b (by have := m128 h0; omega) (by have := m128 h0; omega), t128 h0, s0]; rfl
theorem sv_5 (a : 127 < n.fmod 256) (c : n = 127) : Str.ofString "!" ++ Str.ofString "^" ++ Str.ofString "?" = shownS n.toNat := by
  subst c; exact absurd a (by decide)
theorem sv_6 (a : ¬ 127 < n.fmod 256) (c : n = 127) : Str.ofString "" ++ Str.ofString "^" ++ Str.ofString "?" = shownS n.toNat := by
  subst c; rw [s0, s94, s63]; rfl
theorem sv_7 (a : 127 < n.fmod 256) (b : ¬ n.fmod 128 < 127) (c : ¬ n = 127) : Str.ofString "!" ++ Str.ofString "^" ++ { cps := #[Int.toNat 159] } = shownS n.toNat := by
  unfold shownS
  rw [sw_p (hj_p h0 a), lo_d (by have := m128 h0; omega) (by omega), s33, s94]; rfl
theorem sv_8 (a : ¬ 127 < n.fmod 256) (b : ¬ n.fmod 128 < 127) (c : ¬ n = 127) : Str.ofString "" ++ Str.ofString "^" ++ { cps := #[Int.toNat 159] } = shownS n.toNat := by
  unfold shownS
  rw [sw_n (hj_n h0 a), lo_d (by have := m128 h0; omega) (by omega), s0, s94]; rfl
end
theorem unctrl_c (w : World) (mean mg mb) (news) (n : Nat) (t : Tok) (h1 : n < 55296) :
    Cl 3 w mean mg mb 84 news [.str ⟨#[n]⟩ t] (fun t => .str (shownS n) t) := by
  w_top off; dsimp only [Cl]; k_fill; intros; rename_i hret; refine wpAny_call ?_; k_dflt cell_enter
  k_steps
  all_goals refine cb_retS hret ?_ (by k_asm) (by k_asm)
  all_goals with_reducible first | exact su_1 (by assumption) (by assumption) | exact su_2 (by assumption) (by assumption) | exact su_3 (by assumption) (by assumption) | exact su_4 (by assumption) (by assumption) | exact su_5 (by assumption) (by assumption) (by assumption) | exact su_6 (by assumption) (by assumption) (by assumption)
theorem shown_c (w : World) (mean mg mb) (news) (n : Int) (t : Tok) (h0 : 0 ≤ n) (h1 : n < 55296) :
    Cl 1 w mean mg mb 91 news [.int n t] (fun t => .str (shownS n.toNat) t) := by
  w_top off; dsimp only [Cl]; k_fill; intros; rename_i hret; refine wpAny_call ?_; k_dflt cell_enter
  k_steps
  all_goals refine cb_retS hret ?_ (by k_asm) (by k_asm)
  all_goals with_reducible first | exact sv_1 (by assumption) (by assumption) (by assumption) | exact sv_2 (by assumption) (by assumption) (by assumption) | exact sv_3 (by assumption) (by assumption) (by assumption) (by assumption) | exact sv_4 (by assumption) (by assumption) (by assumption) (by assumption) | exact sv_5 (by assumption) (by assumption) (by assumption) | exact sv_6 (by assumption) (by assumption) (by assumption) | exact sv_7 (by assumption) (by assumption) (by assumption) (by assumption) | exact sv_8 (by assumption) (by assumption) (by assumption) (by assumption)
/-- three figures -/
def figs (n : Nat) : List Nat := [n / 100 + 48, n / 10 % 10 + 48, n % 10 + 48]
theorem fig_e {n : Int} (h0 : 0 ≤ n) (h1 : n < 512) : Txt.item (Str.ofString "0123456789") (n.fdiv 100) ++ Txt.item (Str.ofString "0123456789") ((n.fdiv 10).fmod 10) ++ Txt.item (Str.ofString "0123456789") (n.fmod 10) = ⟨(figs n.toNat).toArray⟩ := by
  simp only [Int.fmod_eq_emod_of_nonneg _ (show (0 : Int) ≤ 10 by decide), Int.fdiv_eq_ediv_of_nonneg _ (show (0 : Int) ≤ 10 by decide), Int.fdiv_eq_ediv_of_nonneg _ (show (0 : Int) ≤ 100 by decide)]
  rw [dig_item (n := n / 100) (by omega) (by omega), dig_item (n := n / 10 % 10) (by omega) (by omega), dig_item (n := n % 10) (by omega) (by omega), show (n / 100).toNat = n.toNat / 100 by omega, show (n / 10 % 10).toNat = n.toNat / 10 % 10 by omega, show (n % 10).toNat = n.toNat % 10 by omega]
  rfl
theorem figures_c (w : World) (mean mg mb) (news) (n : Int) (t : Tok) (h0 : 0 ≤ n) (h1 : n < 512) :
    Cl 1 w mean mg mb 98 news [.int n t] (fun t => .str ⟨(figs n.toNat).toArray⟩ t) := by
  w_top off; dsimp only [Cl]; k_fill; intros; rename_i hret; refine wpAny_call ?_; k_dflt cell_enter
  k_steps
  all_goals refine cb_retS hret ?_ (by k_asm) (by k_asm)
  all_goals with_reducible exact fig_e (by assumption) (by assumption)
end Mine
end
section
open PySem PySem.W PyProof.Rows
set_option maxRecDepth 100000
set_option maxHeartbeats 8000000
namespace Mine
local macro_rules | `(tactic| walk_at "mine prem") => `(tactic| (refine ⟨?_, ?_, ?_, ?_, ?_, ?_, ?_, ?_⟩; (· k_asm); (· k_asm); (· k_asm); (· k_asm); (· k_asm); (· first | exact rfl | assumption); (· ktr_room); (· ktr_units)))
local macro_rules | `(tactic| walk_at "mine pos") => `(tactic| first | assumption | omega | ((simp only [Int.toNat_zero, List.getD_cons_zero]); omega))
local macro_rules | `(tactic| walk_at "call ref") => `(tactic| (k_here; (with_reducible show wpAny _ _ (call (Value.ref 98) _) _ _ _); k_dflt (first | (refine' cl_use2 (figures_c _ _ _ _ _ _ _ ?kp0 ?kp1) ?kH ?_; (case kp0 => walk_at "mine pos"); (case kp1 => walk_at "mine pos"))); (case kH => walk_at "mine prem"); intro t9 h9 tk9 F9 N9; (try dsimp only); (try k_fold)))
theorem comp_end {h₀ : Heap} {L I C D : Addr} {m : Str → Option Value} {s₁ : Shared} {oI oC oD : Obj} {S : List (Addr × Obj) → Prop} {rest : Value → List (Addr × Obj) → Prop} {y : Value} {h' : Heap} {tk : Nat} {news' : List (Addr × Obj)}
    (F : Fr h₀ L h' m) (N : News h₀ L h' ((I, oI) :: (C, oC) :: (D, oD) :: news')) (off : LCg.Off3 I C D news') (hS : S news') (r : rest y news') :
    LCg.CompEnd h₀ L m s₁ I oI C oC D oD S rest y { s₁ with heap := h', toks := tk } := LCg.CompEnd.intro F N news' (fun p hp => hp) off hS r
local macro_rules | `(tactic| walk_at "mine none") => `(tactic| fail)
local macro_rules | `(tactic| walk_at "CompEnd") => `(tactic| (k_here; k_dflt (refine comp_end (by assumption) (by assumption) (by assumption) (by lcg_src) ?_)))
local macro_rules | `(tactic| walk_at "call builtin:str.join") => `(tactic| (k_here; (with_reducible show wpAny _ _ (call (Value.builtin _) [Value.str _ _, Value.ref _]) _ _ _); k_dflt (refine join_listW (by is_list) (by kct_strs) (by decide +kernel) (by exact Nat.le_of_ble_eq_true rfl) ?_); intro _ _))
/-- the rows with ; between -/
noncomputable def semi : List (List Nat) → List Nat
  | [] => []
  | [x] => x
  | x :: y :: r => x ++ 59 :: semi (y :: r)
def marks : List Nat := [47, 58, 64, 96, 123, 126]
def letters : List Nat := [65, 66, 67, 68, 69, 70, 71, 72, 73, 74, 75, 76, 77, 78, 79, 80, 81, 82, 83, 84, 85, 86, 87, 88, 89, 90, 97, 98, 99, 100, 101, 102, 103, 104, 105, 106, 107, 108, 110, 111, 112, 113, 114, 115, 116, 117, 118, 119, 120, 121, 122]
def seqRows (kind r g b : Nat) : List (List Nat) := match kind with
  | 2 => [figs r, figs g]
  | 3 => [figs r, figs g, figs b, [48, 48, 48]]
  | 4 => [figs (r + 256), figs g, figs b]
  | _ => [figs r, figs g, figs b]
def seqMark (kind more : Nat) : List Nat := match kind with
  | 1 => [marks.getD (more % 6) 0]
  | _ => []
def seqLast (kind more : Nat) : Nat := match kind with
  | 5 => letters.getD (more % 51) 0
  | _ => 109
noncomputable def seqCodes (kind r g b more : Nat) : List Nat := 27 :: 91 :: (seqMark kind more ++ semi (seqRows kind r g b) ++ [seqLast kind more])
theorem s91 : Str.ofString "[" = ⟨#[91]⟩ := by decide +kernel
theorem s59 : Str.ofString ";" = ⟨#[59]⟩ := by decide +kernel
theorem s109 : Str.ofString "m" = ⟨#[109]⟩ := by decide +kernel
theorem s000 : Str.ofString "000" = ⟨#[48, 48, 48]⟩ := by decide +kernel
theorem mark_fact : ∀ k : Fin 6, Txt.item (Str.ofString "/:@`{~") (k.val : Int) = ⟨#[marks.getD k.val 0]⟩ := by decide +kernel
theorem mark_item {n : Int} (h0 : 0 ≤ n) : Txt.item (Str.ofString "/:@`{~") (n.fmod 6) = ⟨#[marks.getD (n.toNat % 6) 0]⟩ := by
  have h := mark_fact ⟨n.toNat % 6, by omega⟩
  dsimp only at h
  rw [Int.fmod_eq_emod_of_nonneg n (show (0 : Int) ≤ 6 by decide), ← h]
  congr 1
  omega
theorem letter_fact : ∀ k : Fin 51, Txt.item (Str.ofString "ABCDEFGHIJKLMNOPQRSTUVWXYZabcdefghijklnopqrstuvwxyz") (k.val : Int) = ⟨#[letters.getD k.val 0]⟩ := by decide +kernel
theorem letter_item {n : Int} (h0 : 0 ≤ n) : Txt.item (Str.ofString "ABCDEFGHIJKLMNOPQRSTUVWXYZabcdefghijklnopqrstuvwxyz") (n.fmod 51) = ⟨#[letters.getD (n.toNat % 51) 0]⟩ := by
  have h := letter_fact ⟨n.toNat % 51, by omega⟩
  dsimp only at h
  rw [Int.fmod_eq_emod_of_nonneg n (show (0 : Int) ≤ 51 by decide), ← h]
  congr 1
  omega
section
variable (r g b more : Int)
theorem seq_e0 (kind : Nat) (hk : kind = 0) : (⟨#[Int.toNat 27]⟩ ++ Str.ofString "[" ++ Str.ofString "" ++ Txt.join (Str.ofString ";") [⟨(figs r.toNat).toArray⟩, ⟨(figs g.toNat).toArray⟩, ⟨(figs b.toNat).toArray⟩] ++ Str.ofString "m" : Str) = ⟨(seqCodes kind r.toNat g.toNat b.toNat more.toNat).toArray⟩ := by
  subst hk
  simp only [s0, s91, s59, s109]
  kernel_rfl
theorem seq_e1 (kind : Nat) (hk : kind = 1) (hm : 0 ≤ more) : (⟨#[Int.toNat 27]⟩ ++ Str.ofString "[" ++ Txt.item (Str.ofString "/:@`{~") (more.fmod 6) ++ Txt.join (Str.ofString ";") [⟨(figs r.toNat).toArray⟩, ⟨(figs g.toNat).toArray⟩, ⟨(figs b.toNat).toArray⟩] ++ Str.ofString "m" : Str) = ⟨(seqCodes kind r.toNat g.toNat b.toNat more.toNat).toArray⟩ := by
  subst hk
  rw [mark_item hm]
  simp only [s91, s59, s109]
  kernel_rfl
theorem seq_e2 (kind : Nat) (hk : kind = 2) : (⟨#[Int.toNat 27]⟩ ++ Str.ofString "[" ++ Str.ofString "" ++ Txt.join (Str.ofString ";") [⟨(figs r.toNat).toArray⟩, ⟨(figs g.toNat).toArray⟩] ++ Str.ofString "m" : Str) = ⟨(seqCodes kind r.toNat g.toNat b.toNat more.toNat).toArray⟩ := by
  subst hk
  simp only [s0, s91, s59, s109]
  kernel_rfl
theorem seq_e3 (kind : Nat) (hk : kind = 3) : (⟨#[Int.toNat 27]⟩ ++ Str.ofString "[" ++ Str.ofString "" ++ Txt.join (Str.ofString ";") [⟨(figs r.toNat).toArray⟩, ⟨(figs g.toNat).toArray⟩, ⟨(figs b.toNat).toArray⟩, Str.ofString "000"] ++ Str.ofString "m" : Str) = ⟨(seqCodes kind r.toNat g.toNat b.toNat more.toNat).toArray⟩ := by
  subst hk
  simp only [s0, s91, s59, s109, s000]
  kernel_rfl
theorem seq_e4 (kind : Nat) (hk : kind = 4) (hr : 0 ≤ r) : (⟨#[Int.toNat 27]⟩ ++ Str.ofString "[" ++ Str.ofString "" ++ Txt.join (Str.ofString ";") [⟨(figs ([r, g, b].getD (Int.toNat 0) 0 + 256).toNat).toArray⟩, ⟨(figs g.toNat).toArray⟩, ⟨(figs b.toNat).toArray⟩] ++ Str.ofString "m" : Str) = ⟨(seqCodes kind r.toNat g.toNat b.toNat more.toNat).toArray⟩ := by
  subst hk
  rw [show ([r, g, b].getD (Int.toNat 0) 0 + 256).toNat = r.toNat + 256 by (simp only [Int.toNat_zero, List.getD_cons_zero]; omega)]
  simp only [s0, s91, s59, s109]
  kernel_rfl
theorem seq_e5 (kind : Nat) (hk : kind = 5) (hm : 0 ≤ more) : (⟨#[Int.toNat 27]⟩ ++ Str.ofString "[" ++ Str.ofString "" ++ Txt.join (Str.ofString ";") [⟨(figs r.toNat).toArray⟩, ⟨(figs g.toNat).toArray⟩, ⟨(figs b.toNat).toArray⟩] ++ Txt.item (Str.ofString "ABCDEFGHIJKLMNOPQRSTUVWXYZabcdefghijklnopqrstuvwxyz") (more.fmod 51) : Str) = ⟨(seqCodes kind r.toNat g.toNat b.toNat more.toNat).toArray⟩ := by
  subst hk
  rw [letter_item hm]
  simp only [s0, s91, s59]
  kernel_rfl
end
section
variable {prog : Program} {w : World} {A : Around} {E : Value → Shared → Prop} {s : Shared} {t u : Tok} {Q : Value → Shared → Prop}
theorem eq_yes {n k : Int} (h0 : n = k) (h : Q (.bool true) s) : wpAny (model prog w) A (compareOp .Eq (.int n t) (.int k u)) Q E s :=
  PyProof.Rows.eq_int (by rw [h0]; simpa using h)
theorem eq_no {n k : Int} (h0 : n ≠ k) (h : Q (.bool false) s) : wpAny (model prog w) A (compareOp .Eq (.int n t) (.int k u)) Q E s :=
  PyProof.Rows.eq_int (by rw [show (n == k) = false by simpa using h0]; exact h)
end
local macro_rules | `(tactic| walk_at "compareOp Eq int int") => `(tactic| (k_here; first | (refine' eq_yes ?k1 ?_; (case k1 => omega); (try dsimp only)) | (refine' eq_no ?k1 ?_; (case k1 => omega); (try dsimp only))))
section
variable {prog : Program} {w : World} {A : Around} {E : Value → Shared → Prop} {s : Shared} {x y : Str} {t u : Tok} {Q : Value → Shared → Prop} {K L : Nat}
theorem add_b (hx : x.length ≤ K) (hy : y.length ≤ L) (hs : K + L ≤ 16777216) (h : ∀ t' k, Q (.str (x ++ y) t') { s with toks := k }) : wpAny (model prog w) A (binaryOp .Add (.str x t) (.str y u)) Q E s :=
  KXadd.add hx hy hs fun t' k _ => h t' k
theorem len_app (hx : x.length ≤ K) (hy : y.length ≤ L) : (x ++ y).length ≤ K + L := by rw [Str.length_append]; omega
end
theorem len_one {n : Nat} : ({ cps := #[n] } : Str).length ≤ 1 := Nat.le_refl _
theorem len_b : (Str.ofString "[").length ≤ 1 := by decide +kernel
theorem len_0 : (Str.ofString "").length ≤ 1 := by decide +kernel
theorem len_m : (Str.ofString "m").length ≤ 1 := by decide +kernel
theorem len_k {n : Int} (h : 0 ≤ n) : (Txt.item (Str.ofString "/:@`{~") (n.fmod 6)).length ≤ 1 := by rw [mark_item h]; exact Nat.le_refl _
theorem len_l {n : Int} (h : 0 ≤ n) : (Txt.item (Str.ofString "ABCDEFGHIJKLMNOPQRSTUVWXYZabcdefghijklnopqrstuvwxyz") (n.fmod 51)).length ≤ 1 := by rw [letter_item h]; exact Nat.le_refl _
theorem len_j2 {a b : Nat} : (Txt.join (Str.ofString ";") [⟨(figs a).toArray⟩, ⟨(figs b).toArray⟩]).length ≤ 15 := by rw [s59]; exact Nat.le_of_ble_eq_true (by kernel_rfl)
theorem len_j3 {a b c : Nat} : (Txt.join (Str.ofString ";") [⟨(figs a).toArray⟩, ⟨(figs b).toArray⟩, ⟨(figs c).toArray⟩]).length ≤ 15 := by rw [s59]; exact Nat.le_of_ble_eq_true (by kernel_rfl)
theorem len_j4 {a b c : Nat} : (Txt.join (Str.ofString ";") [⟨(figs a).toArray⟩, ⟨(figs b).toArray⟩, ⟨(figs c).toArray⟩, Str.ofString "000"]).length ≤ 15 := by rw [s59, s000]; exact Nat.le_of_ble_eq_true (by kernel_rfl)
local macro_rules | `(tactic| walk_at "mine len") => `(tactic| first | (with_reducible refine' len_app ?mla ?mlb; (case mla => walk_at "mine len"); (case mlb => walk_at "mine len")) | with_reducible exact len_one | with_reducible exact len_b | with_reducible exact len_0 | with_reducible exact len_m | with_reducible exact len_j3 | with_reducible exact len_j2 | with_reducible exact len_j4 | with_reducible exact len_k (by assumption) | with_reducible exact len_l (by assumption))
local macro_rules | `(tactic| walk_at "binaryOp Add str str") => `(tactic| (k_here; (with_reducible show wpAny _ _ (binaryOp Operator.Add (Value.str _ _) (Value.str _ _)) _ _ _); (refine' add_b ?ka ?kb ?kc ?_; (case ka => walk_at "mine len"); (case kb => walk_at "mine len"); (case kc => exact Nat.le_of_ble_eq_true rfl)); intro _ _))
theorem seq_c (w : World) (mean mg mb) (news) (l : Addr) (q : Nat) (r g b kind more : Int) (tr tg tb tk tm : Tok) (hr : 0 ≤ r ∧ r < 256) (hg : 0 ≤ g ∧ g < 256) (hb : 0 ≤ b ∧ b < 256) (hk : 0 ≤ kind ∧ kind < 6) (hm : 0 ≤ more) :
    Cl 2 w mean mg mb 103 ((l, W.listOf #[.int r tr, .int g tg, .int b tb] q) :: news) [.ref l, .int kind tk, .int more tm] (fun t => .str ⟨(seqCodes kind.toNat r.toNat g.toNat b.toNat more.toNat).toArray⟩ t) := by
  w_top off; dsimp only [Cl]; k_fill; intros; rename_i hret; refine wpAny_call ?_; k_dflt cell_enter
  k_steps
  all_goals refine cb_retS hret ?_ (by k_asm) (cb_drop (by assumption) (by (intro p hp; repeat (first | with_reducible exact hp | with_reducible refine List.mem_cons_of_mem _ ?_))))
  all_goals first | with_reducible exact seq_e0 r g b more _ (by omega) | with_reducible exact seq_e1 r g b more _ (by omega) hm | with_reducible exact seq_e2 r g b more _ (by omega) | with_reducible exact seq_e3 r g b more _ (by omega) | with_reducible exact seq_e4 r g b more _ (by omega) hr.1 | with_reducible exact seq_e5 r g b more _ (by omega) hm
end Mine
end
section
open PySem PySem.W PyProof.Rows
set_option maxRecDepth 100000
namespace Mine
def cutAt (h : Heap) (n : Nat) : Heap := { objs := h.objs.extract 0 n, life := h.life }
theorem cutAt_get {h : Heap} {n b : Nat} (hb : b < n) : (cutAt h n).get? b = h.get? b := by
  have e : (h.objs.extract 0 n)[b]? = h.objs[b]? := by
    rw [Array.getElem?_extract]
    by_cases hs : b < h.objs.size
    · rw [if_pos (by omega)]; simp
    · rw [if_neg (by omega)]; exact (Array.getElem?_eq_none (by omega)).symm
  have e2 : (cutAt h n).objs[b]? = h.objs[b]? := e
  unfold Heap.get?
  rw [e2]
theorem cutAt_size {h : Heap} {n : Nat} (hn : n ≤ h.objs.size) : (cutAt h n).objs.size = n := by
  show (h.objs.extract 0 n).size = n
  simp; omega
theorem cutAt_none {h : Heap} {n b : Nat} (hb : n ≤ b) : (cutAt h n).get? b = none := by
  cases q : (cutAt h n).get? b with
  | none => rfl
  | some o =>
    have := Heap.lt_size q
    have h2 : (cutAt h n).objs.size ≤ n := by show (h.objs.extract 0 n).size ≤ n; simp; omega
    exact absurd (Nat.lt_of_lt_of_le this h2) (by omega)
/-- the base of a frame, grown by all that stood below the frame but for what is small -/
def frzB (h : Heap) (L : Addr) (small : List (Addr × Obj)) : Heap := hideAll (cutAt h L) (small.map (·.1))
section
variable {g h : Heap} {L : Addr} {m : Str → Option Value} {own small rest : List (Addr × Obj)}
theorem frzB_size (F : Fr g L h m) : (frzB h L small).objs.size = L := by
  unfold frzB
  rw [hideAll_size, cutAt_size (Nat.le_of_lt F.ns.lt)]
theorem frz_stays (F : Fr g L h m) (N : News g L h (own ++ (small ++ rest))) : g.StaysIn (frzB h L small) := by
  intro b o e
  have hb : b < L := Nat.lt_of_lt_of_le (Heap.lt_size e) F.above
  refine hideAll_get _ ((cutAt_get hb).trans (F.keep b o e)) fun q => ?_
  obtain ⟨p, hp, rfl⟩ := List.mem_map.mp q
  rw [(N p (List.mem_append.mpr (.inr (List.mem_append.mpr (.inl hp))))).2.2] at e
  cases e
theorem frz_fr (F : Fr g L h m) : Fr (frzB h L small) L h m := by
  refine ⟨F.ns, fun b o e => ?_, Nat.le_of_eq (frzB_size F)⟩
  have e' := of_hideAll _ e
  by_cases hb : b < L
  · rwa [cutAt_get hb] at e'
  · rw [cutAt_none (Nat.le_of_not_lt hb)] at e'; cases e'
theorem frz_news (N : News g L h (own ++ (small ++ rest))) (ho : ∀ p ∈ own, L ≤ p.1) : News (frzB h L small) L h (own ++ small) := by
  intro p hp
  rcases List.mem_append.mp hp with hp | hp
  · have k := N p (List.mem_append.mpr (.inl hp))
    refine ⟨k.1, k.2.1, ?_⟩
    cases q : (frzB h L small).get? p.1 with
    | none => rfl
    | some o =>
      have e' := of_hideAll _ q
      rw [cutAt_none (ho p hp)] at e'
      cases e'
  · have k := N p (List.mem_append.mpr (.inr (List.mem_append.mpr (.inl hp))))
    exact ⟨k.1, k.2.1, hideAll_none _ (List.mem_map_of_mem hp)⟩
theorem frz_rest (N : News g L h (own ++ (small ++ rest))) (hl : ∀ p ∈ rest, p.1 < L) (hd : ∀ p ∈ rest, ∀ q ∈ small, p.1 ≠ q.1) : ∀ p ∈ rest, (frzB h L small).get? p.1 = some p.2 := by
  intro p hp
  refine hideAll_get _ ((cutAt_get (hl p hp)).trans (N p (List.mem_append.mpr (.inr (List.mem_append.mpr (.inr hp))))).1) fun q => ?_
  obtain ⟨r, hr, e⟩ := List.mem_map.mp q
  exact hd p hp r hr e.symm
theorem frz_leave {h₀ : Heap} {L₀ : Addr} {m₀ : Str → Option Value} {R : Result → Shared → Prop} {v : Value} {s' : Shared} (F : Fr g L h m) (N : News g L h (own ++ (small ++ rest))) (hl : ∀ p ∈ rest, p.1 < L) (hd : ∀ p ∈ rest, ∀ q ∈ small, p.1 ≠ q.1)
    (k : LeaveK h₀ L₀ m₀ (frzB h L small) (fun r s' => News h₀ L₀ s'.heap rest → R r s') v s') : LeaveK h₀ L₀ m₀ g R v s' := by
  obtain ⟨L', m', news', F', N', k⟩ := k
  have st := frz_stays F N
  have rs := frz_rest N hl hd
  have hsz : L ≤ L' := frzB_size (small := small) F ▸ F'.above
  refine ⟨L', m', news' ++ rest, ⟨F'.ns, fun b o e => F'.keep b o (st b o e), Nat.le_trans F.above hsz⟩, ?_, ?_⟩
  · intro p hp
    rcases List.mem_append.mp hp with hp | hp
    · refine ⟨(N' p hp).1, (N' p hp).2.1, ?_⟩
      cases q : g.get? p.1 with
      | none => rfl
      | some o => have := st _ _ q; rw [(N' p hp).2.2] at this; cases this
    · exact ⟨F'.keep _ _ (rs p hp), Nat.ne_of_lt (Nat.lt_of_lt_of_le (hl p hp) hsz), (N p (List.mem_append.mpr (.inr (List.mem_append.mpr (.inr hp))))).2.2⟩
  · intro FF NN
    exact k FF (fun p hp => NN p (List.mem_append.mpr (.inl hp))) fun p hp => NN p (List.mem_append.mpr (.inr hp))
theorem frz_below {A : Around} {base : Heap} {outer : List Env} (F : Fr g L h m) (N : News g L h (own ++ (small ++ rest))) (B : Below A base outer g) : Below A base outer (frzB h L small) :=
  ⟨B.stack, fun b o e => frz_stays F N b o (B.stays b o e), B.frames.of_keeps fun b o e _ => ⟨o, frz_stays F N b o e, rfl⟩⟩
end
theorem cellsFrom_ge : ∀ (names : List (Str × NameKind)) (n k : Nat) (acc : List (Str × Addr)), k ≤ n → (∀ p ∈ acc, k ≤ p.2) → ∀ p ∈ cellsFrom n names acc, k ≤ p.2
  | [], _, _, _, _, h => h
  | (y, k') :: r, n, k, acc, hk, h => by
    unfold cellsFrom
    by_cases hc : (k' == .cell) = true
    · rw [if_pos hc]
      refine cellsFrom_ge r (n + 1) k _ (by omega) ?_
      intro p hp
      rcases List.mem_cons.mp hp with rfl | hp
      · exact hk
      · exact h p hp
    · rw [if_neg hc]
      exact cellsFrom_ge r n k acc hk h
theorem cells_ge {cm : Str → Option Value} {k : Nat} : ∀ {cs : List (Str × Addr)} {cells : List (Addr × Obj)}, CellsAre cm cs cells → (∀ p ∈ cs, k ≤ p.2) → ∀ p ∈ cells, k ≤ p.1
  | [], _, x, _, p, hp => by cases x; cases hp
  | (n, c) :: cs, _, x, h, p, hp => by
    cases x with
    | cons _ r =>
      rcases List.mem_cons.mp hp with rfl | hp
      · exact h _ (.head _)
      · exact cells_ge r (fun q hq => h q (.tail _ hq)) p hp
section
variable {prog : Program} {w : World} {A A₀ : Around} {s : Shared} {K : Frag} {L : Addr} {h₀ base : Heap} {m mg mb : Str → Option Value} {small rest : List (Addr × Obj)} {p : Program} {loose : List Str} {mean : ExcName → Option Value}
  {env : Env} {outer : List Env} {R : Result → Shared → Prop} {name qual : Str} {params : Arguments} {body : List Stmt} {scope : Scope} {dV kV doc pm cdv ct oc : Value} {an od : Option Addr} {osl : Array (Option Value)} {f : Addr} {args : Args} {binds : List (Str × Value)}
/-- a def with cells is entered; of the ledger only what is small goes along, the rest is handed on at the end -/
theorem code_frzC (B : Below A₀ base outer h₀) (F : Fr h₀ L s.heap m) (X₀ : K.In h₀) (N : News h₀ L s.heap (small ++ rest)) (hd : ∀ p ∈ rest, ∀ q ∈ small, p.1 ≠ q.1) (T : Top p loose mean mg mb h₀) (hA : A.frames = some (env :: outer)) (hf : env.frame = some L) (hke : env.scope.kind = .function)
    (ho : K.lookup f = some ⟨oc, od, .func (fnOf name qual params body scope dV kV doc pm an cdv ct), osl⟩) (hcd : codeIn K cdv qual = true) (hroom : A.depth < recursionLimit)
    (hbind : BindsTo s (fnOf name qual params body scope dV kV doc pm an cdv ct) args binds) (hkind : (binds.all fun y => scope.names.lookup y.1 == some .local || scope.names.lookup y.1 == some .cell) = true)
    (hnd : ((cellsFrom 0 scope.names []).map (·.1)).Nodup)
    (h : ∀ g L' h₁ tk cells, Fr g L' h₁ (bindL (envOfC qual scope L' f cdv).kindOf binds fun _ => none) → News g L' h₁ (cells ++ small) →
      CellsAre (bindC (envOfC qual scope L' f cdv).kindOf binds fun _ => none) (cellsFrom (L' + 1) scope.names []) cells → Below A base (env :: outer) g → K.In g → Top p loose mean mg mb g → (∀ p ∈ small, p.1 < L') →
      wpAny (model prog w) (A.deeper (envOfC qual scope L' f cdv)) (execs body (envOfC qual scope L' f cdv))
        (fun fl s' => LeaveK h₀ L m g (fun r s' => News h₀ L s'.heap rest → R r s') (match fl with | .ret v => v | _ => .none) s')
        (fun e s' => wpAny (model prog w) (A.deeper (envOfC qual scope L' f cdv)) (leaving (envOfC qual scope L' f cdv) e) (fun _ s'' => R (.error e) s'') (fun e' s'' => R (.error e') s'') s')
        { s with heap := h₁, toks := tk })
    (hco : scope.isCoroutine = false) (hgen : scope.isGenerator = false) (hk : scope.kind = .function) : codeAny (model prog w) A (.call (.ref f) args) R s := by
  refine code_defC B F X₀ N T hA hf hke ho hcd hroom hbind hkind hnd ?_ hco hgen hk
  intro g L' h₁ tk cells FG F' N' Y B' X' T' l
  have st := frz_stays F' N'
  refine wpAny_mono (h (frzB h₁ L' small) L' h₁ tk cells (frz_fr F') (frz_news N' (fun p hp => Nat.le_of_succ_le (cells_ge Y (cellsFrom_ge _ _ _ _ (Nat.le_refl _) (fun _ hp => nomatch hp)) p hp))) Y (frz_below F' N' B') (X'.keeps st) (T'.keeps st) fun p hp => l p (List.mem_append.mpr (.inl hp))) (fun fl s' k => ?_) fun _ _ e => e
  exact frz_leave F' N' (fun p hp => l p (List.mem_append.mpr (.inr hp))) hd k
/-- the same of a def without cells -/
theorem code_frz (B : Below A₀ base outer h₀) (F : Fr h₀ L s.heap m) (X₀ : K.In h₀) (N : News h₀ L s.heap (small ++ rest)) (hd : ∀ p ∈ rest, ∀ q ∈ small, p.1 ≠ q.1) (T : Top p loose mean mg mb h₀) (hA : A.frames = some (env :: outer)) (hf : env.frame = some L) (hke : env.scope.kind = .function)
    (ho : K.lookup f = some ⟨oc, od, .func (fnOf name qual params body scope dV kV doc pm an cdv ct), osl⟩) (hcd : codeIn K cdv qual = true) (hroom : A.depth < recursionLimit)
    (hbind : BindsTo s (fnOf name qual params body scope dV kV doc pm an cdv ct) args binds) (hloc : ∀ y ∈ binds, scope.names.lookup y.1 = some .local)
    (h : ∀ g L' h₁, Fr g L' h₁ (fun y => binds.reverse.lookup y) → News g L' h₁ small → Below A base (env :: outer) g → K.In g → Top p loose mean mg mb g → (∀ p ∈ small, p.1 < L') →
      wpAny (model prog w) (A.deeper (envOf qual scope L' f cdv)) (execs body (envOf qual scope L' f cdv))
        (fun fl s' => LeaveK h₀ L m g (fun r s' => News h₀ L s'.heap rest → R r s') (match fl with | .ret v => v | _ => .none) s')
        (fun e s' => wpAny (model prog w) (A.deeper (envOf qual scope L' f cdv)) (leaving (envOf qual scope L' f cdv) e) (fun _ s'' => R (.error e) s'') (fun e' s'' => R (.error e') s'') s')
        { s with heap := h₁, toks := s.toks + binds.length })
    (hco : scope.isCoroutine = false) (hgen : scope.isGenerator = false) (hk : scope.kind = .function)
    (hcell : ∀ x ∈ scope.names, x.2 ≠ .cell) : codeAny (model prog w) A (.call (.ref f) args) R s := by
  refine callX_plain (cl := []) B F N T.nolimit hA hf hke ((X₀.keeps F.keep) _ _ ho) rfl (codeRec_of (X₀.keeps F.keep) hcd) hroom hbind hloc ?_ hcell hco hgen hk
  intro g L' h₁ FG F' N' B' st0 l
  have N₂ : News g L' h₁ ([] ++ (small ++ rest)) := N'
  have st := frz_stays F' N₂
  refine wpAny_mono (h (frzB h₁ L' small) L' h₁ (frz_fr F') (fun p hp => frz_news N₂ (fun _ hp => nomatch hp) p hp) (frz_below F' N₂ B') ((X₀.keeps st0).keeps st) ((T.keeps st0).keeps st) fun p hp => l p (List.mem_append.mpr (.inl hp))) (fun fl s' k => ?_) fun _ _ e => e
  exact frz_leave F' N₂ (fun p hp => l p (List.mem_append.mpr (.inr hp))) hd k
end
end Mine
end
section
open PySem PySem.W PyProof.Rows
set_option maxRecDepth 100000
namespace Mine
/-- a comprehension over a tuple of the ledger -/
def TupAt (ax : Addr) (its : Array Value) (k : Nat) (nw : List (Addr × Obj)) : Prop := (ax, ({ cls := .type "tuple", data := .seq its k } : Obj)) ∈ nw
theorem TupAt.mk {ax : Addr} {its : Array Value} {k : Nat} {nw : List (Addr × Obj)} (h : (ax, ({ cls := .type "tuple", data := .seq its k } : Obj)) ∈ nw) : TupAt ax its k nw := h
theorem tup_st {h₀ : Heap} {L : Addr} {ax I : Addr} {its : Array Value} {k : Nat} : ∀ i (h h' : Heap) (o : Obj) (nw : List (Addr × Obj)), (h.IsTupleIter I ax i ∧ h.IsTuple ax its) → h.get? I = some o → h'.get? I = some o → (∀ b o, h₀.get? b = some o → h'.get? b = some o) → News h₀ L h' nw → TupAt ax its k nw → (h'.IsTupleIter I ax i ∧ h'.IsTuple ax its) :=
  fun i h h' o nw st e e' _ N S => ⟨by obtain ⟨o', q, r⟩ := st.1; rw [e] at q; cases q; exact ⟨o, e', r⟩, ⟨_, (N _ S).1, rfl, k, rfl⟩⟩
section
variable {prog : Program} {w : World} {A : Around} {E : Value → Shared → Prop} {s : Shared} {h₀ : Heap} {L : Addr} {m : Str → Option Value} {env : Env}
def TupSrc (prog : Program) (w : World) (A : Around) (h₀ : Heap) (L : Addr) (m : Str → Option Value) (env : Env) (elt : PySem.Expr) (x : Str) (scope : Scope) (cl : List (Str × Addr)) (Fin : Shared → List Value → List (Addr × Obj) → Prop) (xv : Value) (s₁ : Shared) : Prop :=
  ∃ ax its k news, xv = .ref ax ∧ A.handled = none ∧ Fr h₀ L s₁.heap m ∧ News h₀ L s₁.heap news ∧ TupAt ax its k news ∧ its.size ≤ sizeLine ∧
    ∀ g : Heap, LCg.CompRest prog w A h₀ L m env elt x scope cl { s₁ with heap := g } (TupAt ax its k) (fun i v => its[i]? = some v) (Fin { s₁ with heap := g }) its.size 0 [] news
theorem tupSrc {elt : PySem.Expr} {x : Str} {scope : Scope} {cl : List (Str × Addr)} {Fin : Shared → List Value → List (Addr × Obj) → Prop} {ax : Addr} {its : Array Value} {k : Nat} {news : List (Addr × Obj)} {s₁ : Shared}
    (hh : A.handled = none) (F : Fr h₀ L s₁.heap m) (N : News h₀ L s₁.heap news) (hm : (ax, ({ cls := .type "tuple", data := .seq its k } : Obj)) ∈ news) (hsz : its.size ≤ sizeLine)
    (h : ∀ g, LCg.CompRest prog w A h₀ L m env elt x scope cl { s₁ with heap := g } (TupAt ax its k) (fun i v => its[i]? = some v) (Fin { s₁ with heap := g }) its.size 0 [] news) :
    TupSrc prog w A h₀ L m env elt x scope cl Fin (.ref ax) s₁ := ⟨ax, its, k, news, rfl, hh, F, N, hm, hsz, h⟩
theorem comp_tuple {elt iter : PySem.Expr} {x : Str} {px : Pos} {scope : Scope} {cl : List (Str × Addr)} {pos : Pos} {Q : Value → Shared → Prop} (F₀ : Fr h₀ L s.heap m)
    (hclos : closureFor scope env = pure cl) (hcell : ∀ y ∈ scope.names, y.2 ≠ .cell) (hkind : scope.kind = .function)
    (hnames : ∀ y ∈ scope.names, y.2 = .local → scope.names.lookup y.1 = some .local) (hx : scope.names.lookup x = some .local)
    (h : wpAny (model prog w) A (eval iter env) (TupSrc prog w A h₀ L m env elt x scope cl (fun s₂ => LCg.FinE h₀ L m s₂ Q)) E s)
    (hs : ∀ x, foldedSetIterable iter env x = pure x := by intro _; rfl) :
    wpAny (model prog w) A (eval (.ListComp elt [⟨.Name x px, iter, [], 0⟩] scope pos) env) Q E s := by
  rw [eval_ListComp]
  refine wpAny_comprehension_free (use := none) rfl hs hclos hkind hnames (wpAny_mono h (fun xv s₁ h₁ => ?_) fun _ _ e => e)
  obtain ⟨ax, its, k, news, rfl, hh, F, N, S, hsz, R⟩ := h₁
  have ht : s₁.heap.IsTuple ax its := ⟨_, (N _ S).1, rfl, k, rfl⟩
  have hlt : ax < s₁.heap.objs.size := Heap.lt_size (N _ S).1
  refine wpAny_pyIter_tuple ht ?_
  have up : ∀ b o, s₁.heap.get? b = some o → (s₁.heap.push { cls := .type "tuple_iterator", data := .fields #[.ref ax, .int 0 0] }).get? b = some o := fun b o e => Heap.get?_push_of_some _ e
  refine LCg.block_U (Walks.tuple hh s₁.heap.objs.size ax (Nat.ne_of_lt hlt) its) hsz (fun i h st => by obtain ⟨o, e, _⟩ := st.1; exact ⟨o, e⟩) tup_st hcell hkind hx ⟨⟨_, Heap.get?_push_size _ rfl, rfl, rfl⟩, ht.push _⟩ (fun b hb => ?_)
    (F.keeps up) (N.grown up) (Nat.ne_of_lt F.ns.lt) (next_is_new F) (fun p hp => Nat.ne_of_lt (Heap.lt_size (N p hp).1)) S (R _) ?_
  · show b < (s₁.heap.push _).objs.size
    rw [Heap.size_push]
    rcases List.mem_cons.mp hb with rfl | hb
    · exact Nat.lt_succ_self _
    · rw [List.mem_singleton.mp hb]; exact Nat.lt_succ_of_lt hlt
  · intro D C h tk m' ys news' F' N' o1 hn hC₀ hD₀ hCL hDL hCD offC fin
    refine ⟨m', hn, fun h'' hs'' => fin D h'' tk (F'.change hs'' hCL hC₀) (fun p hp => ?_) o1⟩
    refine ⟨hs''.extBut _ _ ?_ (N' p hp).1, (N' p hp).2⟩
    rcases List.mem_cons.mp hp with rfl | hp
    · exact Ne.symm hCD
    · exact offC p hp
end
end Mine
end
section
open PySem PySem.W PyProof.Rows
set_option maxRecDepth 100000
set_option maxHeartbeats 8000000
namespace Mine
/-- as Cl, of a def that makes one tuple of three floats -/
abbrev ClT (k : Nat) (w : World) (mean : ExcName → Option Value) (mg mb : Str → Option Value) (f : Addr) (news : List (Addr × Obj)) (args : List Value) (x y z : UInt64) : Prop :=
  ∀ (dp un : Nat) (gd : Option (List Code)) (cn : Str) (cs : Scope) (a : Addr) (ccd : Value) (cl : List (Str × Addr)) (outer : List Env) (A₀ : Around) (base h₀ : Heap) (L : Addr) (m : Str → Option Value) (s : Shared) (Q E : Value → Shared → Prop),
    Below A₀ base outer h₀ → Fr h₀ L s.heap m → (hd.heap_39 w.params).In h₀ → News h₀ L s.heap news → Top hd.view_39 (looseW hd.view_39 []) mean mg mb h₀ → cs.kind = .function →
    dp + k < recursionLimit → un + 8 * k < cLine → (∀ (D : Addr) (t₁ t₂ t₃ : Tok) (h' : Heap) (tk' : Nat), Fr h₀ L h' m → News h₀ L h' ((D, { cls := .type "tuple", data := .seq #[.float x t₁, .float y t₂, .float z t₃] }) :: news) → (∀ p ∈ news, p.1 < D) → Q (.ref D) { s with heap := h', toks := tk' }) →
      wpAny (model Challenge.rw_mj0070_01.row.prog w) (ktrTop dp un gd cn cs L a ccd cl outer) (call (.ref f) args) Q E s
theorem clT_use {k : Nat} {w : World} {mean : ExcName → Option Value} {mg mb : Str → Option Value} {f : Addr} {news : List (Addr × Obj)} {args : List Value} {x y z : UInt64}
    {dp un : Nat} {gd : Option (List Code)} {cn : Str} {cs : Scope} {a : Addr} {ccd : Value} {cl : List (Str × Addr)} {outer : List Env} {A₀ : Around} {base h₀ : Heap} {L : Addr} {m : Str → Option Value} {s : Shared} {Q E : Value → Shared → Prop}
    (C : ClT k w mean mg mb f news args x y z)
    (B : Below A₀ base outer h₀) (F : Fr h₀ L s.heap m) (X : (hd.heap_39 w.params).In h₀) (N : News h₀ L s.heap news) (T : Top hd.view_39 (looseW hd.view_39 []) mean mg mb h₀) (hk : cs.kind = .function)
    (hd : dp + k < recursionLimit) (hu : un + 8 * k < cLine)
    (ret : ∀ (D : Addr) (t₁ t₂ t₃ : Tok) (h' : Heap) (tk' : Nat), Fr h₀ L h' m → News h₀ L h' ((D, { cls := .type "tuple", data := .seq #[.float x t₁, .float y t₂, .float z t₃] }) :: news) → (∀ p ∈ news, p.1 < D) → Q (.ref D) { s with heap := h', toks := tk' }) :
    wpAny (model Challenge.rw_mj0070_01.row.prog w) (ktrTop dp un gd cn cs L a ccd cl outer) (call (.ref f) args) Q E s :=
  C dp un gd cn cs a ccd cl outer A₀ base h₀ L m s Q E B F X N T hk hd hu ret
/-- what rgb_to_yiq reckons -/
def fY (r g b : UInt64) : UInt64 := Float64.add (Float64.add (Float64.mul 4599075939470750515 r) (Float64.mul 4603489467105573601 g)) (Float64.mul 4592590756007337001 b)
def fI (r g b : UInt64) : UInt64 := Float64.sub (Float64.mul 4604840546993784750 (Float64.sub r (fY r g b))) (Float64.mul 4598535507515466056 (Float64.sub b (fY r g b)))
def fQ (r g b : UInt64) : UInt64 := Float64.add (Float64.mul 4602318531202457272 (Float64.sub r (fY r g b))) (Float64.mul 4601057523306793533 (Float64.sub b (fY r g b)))
theorem yiq_c (w : World) (mean mg mb) (news) (r g b : UInt64) (t u v : Tok)  :
    ClT 1 w mean mg mb 21 news [.float r t, .float g u, .float b v] (fY r g b) (fI r g b) (fQ r g b) := by
  w_top off; dsimp only [ClT]; k_fill; intros; rename_i hret; refine wpAny_call ?_; k_dflt cell_enter
  k_steps
  all_goals exact hret _ _ _ _ _ _ (by k_asm) (by k_asm) (by assumption)
/-- what yiq_to_rgb reckons -/
def cut (x : UInt64) : UInt64 := if (Float64.cmp (if (Float64.cmp x 0 == some .lt) = true then 0 else x) 4607182418800017408 == some .gt) = true then 4607182418800017408 else (if (Float64.cmp x 0 == some .lt) = true then 0 else x)
def fR (y i q : UInt64) : UInt64 := Float64.add (Float64.add y (Float64.mul 4606703976345377586 i)) (Float64.mul 4603791717925830846 q)
def fG (y i q : UInt64) : UInt64 := Float64.sub (Float64.sub y (Float64.mul 4598621754083818298 i)) (Float64.mul 4603901015759978483 q)
def fB (y i q : UInt64) : UInt64 := Float64.add (Float64.sub y (Float64.mul 4607671262177584182 i)) (Float64.mul 4610375502138591871 q)
theorem clT_end {h₀ h : Heap} {L D : Addr} {m : Str → Option Value} {news : List (Addr × Obj)} {s : Shared} {tk : Nat} {Q : Value → Shared → Prop} {x y z x' y' z' : UInt64} {t₁ t₂ t₃ : Tok}
    (hret : ∀ (D : Addr) (t₁ t₂ t₃ : Tok) (h' : Heap) (tk' : Nat), Fr h₀ L h' m → News h₀ L h' ((D, { cls := .type "tuple", data := .seq #[.float x t₁, .float y t₂, .float z t₃] }) :: news) → (∀ p ∈ news, p.1 < D) → Q (.ref D) { s with heap := h', toks := tk' })
    (F : Fr h₀ L h m) (N : News h₀ L h ((D, { cls := .type "tuple", data := .seq #[.float x' t₁, .float y' t₂, .float z' t₃] }) :: news)) (l : ∀ p ∈ news, p.1 < D) (ex : x = x') (ey : y = y') (ez : z = z') : Q (.ref D) { s with heap := h, toks := tk } := by
  subst ex ey ez
  exact hret D t₁ t₂ t₃ h tk F N l
section
variable {prog : Program} {w : World} {A : Around} {E : Value → Shared → Prop} {s : Shared} {cn : Str} {cs : Scope} {L a : Addr} {cd : Value} {cl : List (Str × Addr)} {h₀ : Heap} {m : Str → Option Value} {news : List (Addr × Obj)} {x : Str} {v k : UInt64} {t : Tok} {Q : Flow → Shared → Prop}
/-- a float's cut by an if: one way behind it -/
theorem if_lt {p1 p2 p3 p4 p5 p6 p7 : Pos} {c1 c2} (F : Fr h₀ L s.heap m) (N : News h₀ L s.heap news) (hm : m x = some (.float v t))
    (hk : cs.kind = .function) (hx : (envX cn cs L a cd cl).kindOf x = some .local) (hd : (x == ("__debug__" : Str)) = false)
    (h : ∀ h' tk' t', Fr h₀ L h' (fun y => if y = x then some (.float (if (Float64.cmp v k == some .lt) = true then k else v) t') else m y) → News h₀ L h' news → Q .next { s with heap := h', toks := tk' }) :
    wpAny (model prog w) A (exec (.If (.Compare (.Name x p1) [.Lt] [.Constant (.float k) c1 p2] p3) [.Assign [.Name x p4] (.Constant (.float k) c2 p5) p6] [] p7) (envX cn cs L a cd cl)) Q E s := by
  refine wpAny_If (wpAny_isTrue_Compare1 (nameX_L F hm ?_ hk hx hd))
  refine wpAny_Constant_float (AutoFloatOps.lt_0 (wpAny_truthy_bool ?_))
  cases hb : (Float64.cmp v k == some .lt)
  · rw [hb] at h
    have e : (fun y => if y = x then some (Value.float (if false = true then k else v) t) else m y) = m := by
      funext y
      by_cases hy : y = x
      · rw [if_pos hy, hy, hm]; rfl
      · rw [if_neg hy]
    exact wpAny_execs_nil (h s.heap _ t (by rw [e]; exact F) N)
  · rw [hb] at h
    refine wpAny_execs_cons (wpAny_Assign_Name (wpAny_Constant_float (storeX_L F N (fun h' F' N' => ?_) hk hx)))
    exact wpAny_execs_nil (h h' _ _ F' N')
theorem if_gt {p1 p2 p3 p4 p5 p6 p7 : Pos} {c1 c2} (F : Fr h₀ L s.heap m) (N : News h₀ L s.heap news) (hm : m x = some (.float v t))
    (hk : cs.kind = .function) (hx : (envX cn cs L a cd cl).kindOf x = some .local) (hd : (x == ("__debug__" : Str)) = false)
    (h : ∀ h' tk' t', Fr h₀ L h' (fun y => if y = x then some (.float (if (Float64.cmp v k == some .gt) = true then k else v) t') else m y) → News h₀ L h' news → Q .next { s with heap := h', toks := tk' }) :
    wpAny (model prog w) A (exec (.If (.Compare (.Name x p1) [.Gt] [.Constant (.float k) c1 p2] p3) [.Assign [.Name x p4] (.Constant (.float k) c2 p5) p6] [] p7) (envX cn cs L a cd cl)) Q E s := by
  refine wpAny_If (wpAny_isTrue_Compare1 (nameX_L F hm ?_ hk hx hd))
  refine wpAny_Constant_float (AutoFloatOps.gt_0 (wpAny_truthy_bool ?_))
  cases hb : (Float64.cmp v k == some .gt)
  · rw [hb] at h
    have e : (fun y => if y = x then some (Value.float (if false = true then k else v) t) else m y) = m := by
      funext y
      by_cases hy : y = x
      · rw [if_pos hy, hy, hm]; rfl
      · rw [if_neg hy]
    exact wpAny_execs_nil (h s.heap _ t (by rw [e]; exact F) N)
  · rw [hb] at h
    refine wpAny_execs_cons (wpAny_Assign_Name (wpAny_Constant_float (storeX_L F N (fun h' F' N' => ?_) hk hx)))
    exact wpAny_execs_nil (h h' _ _ F' N')
end
theorem cut_is {x : UInt64} : cut x = (if (Float64.cmp (if (Float64.cmp x 0 == some .lt) = true then 0 else x) 4607182418800017408 == some .gt) = true then 4607182418800017408 else (if (Float64.cmp x 0 == some .lt) = true then 0 else x)) := rfl
local macro_rules | `(tactic| walk_at "exec If") => `(tactic| (k_here; (with_reducible show wpAny _ _ (exec (Stmt.If (Expr.Compare _ [CmpOp.Lt] _ _) _ _ _) _) _ _ _); (rename Fr _ _ _ _ => lF'); (rename News _ _ _ _ => lN'); k_dflt (refine' if_lt lF' lN' ?k1 ?k2 ?k3 ?k4 ?_; (case k1 => exact rfl); (case k2 => first | exact rfl | assumption); (case k3 => exact rfl); (case k4 => decide)); clear lF' lN'; intro h9 tk9 t9 F9 N9; (try dsimp only)))
local macro_rules | `(tactic| walk_at "exec If") => `(tactic| (k_here; (with_reducible show wpAny _ _ (exec (Stmt.If (Expr.Compare _ [CmpOp.Gt] _ _) _ _ _) _) _ _ _); (rename Fr _ _ _ _ => lF'); (rename News _ _ _ _ => lN'); k_dflt (refine' if_gt lF' lN' ?k1 ?k2 ?k3 ?k4 ?_; (case k1 => exact rfl); (case k2 => first | exact rfl | assumption); (case k3 => exact rfl); (case k4 => decide)); clear lF' lN'; intro h9 tk9 t9 F9 N9; (try dsimp only)))
theorem rgb_c (w : World) (mean mg mb) (news) (y i q : UInt64) (t u v : Tok)  :
    ClT 1 w mean mg mb 28 news [.float y t, .float i u, .float q v] (cut (fR y i q)) (cut (fG y i q)) (cut (fB y i q)) := by
  w_top off; dsimp only [ClT]; k_fill; intros; rename_i hret; refine wpAny_call ?_; k_dflt cell_enter
  k_steps
  all_goals refine clT_end hret (by k_asm) (by k_asm) (by assumption) ?_ ?_ ?_
  all_goals ((first | unfold fR | unfold fG | unfold fB); with_reducible exact cut_is)
end Mine
end
section
open PySem PySem.W PyProof.Rows
set_option maxRecDepth 100000
namespace Mine
/-- int() of the float x is n -/
def IntIs (x : UInt64) (n : Int) : Prop := ∃ s m e, Float64.decode x = .fin s m e ∧ Float64.truncOf s m e = n
/-- n / 255 -/
structure Q255 (n : Int) (x : UInt64) : Prop where
  eq : x = Float64.ofFrac (decide (n < 0) != decide ((255 : Int) < 0)) n.natAbs (255 : Int).natAbs
abbrev lumaOf (r g b : Int) : Int := 30 * r + 59 * g + 11 * b
/-- one component back: from 0 to 1, and its worth -/
structure PF (x : UInt64) (n : Int) : Prop where
  int : IntIs (Float64.add (Float64.mul x (Float64.ofInt 26112000)) 4602678819172646912) (1024 * min (max n 0) 25500)
  lo : (Float64.cmp 0 x == some .lt || Float64.cmp 0 x == some .eq) = true
  hi : (Float64.cmp x 4607182418800017408 == some .lt || Float64.cmp x 4607182418800017408 == some .eq) = true
structure RF (r g b knob : Int) (y i q : UInt64) : Prop where
  pr : PF (cut (fR y i q)) (30 * r + 59 * g + 11 * b + knob * (100 * r - (30 * r + 59 * g + 11 * b)))
  pg : PF (cut (fG y i q)) (30 * r + 59 * g + 11 * b + knob * (100 * g - (30 * r + 59 * g + 11 * b)))
  pb : PF (cut (fB y i q)) (30 * r + 59 * g + 11 * b + knob * (100 * b - (30 * r + 59 * g + 11 * b)))
structure YF (r g b knob : Int) (y i q : UInt64) : Prop where
  py : IntIs (Float64.add (Float64.mul y (Float64.ofInt 26112000)) 4602678819172646912) (1024 * (30 * r + 59 * g + 11 * b))
  pi : IntIs (Float64.add (Float64.mul i (Float64.ofInt 2611200000)) 4751297606876397568) (1024 * (74 * (100 * r - (30 * r + 59 * g + 11 * b)) - 27 * (100 * b - (30 * r + 59 * g + 11 * b))) + 4294967296)
  pq : IntIs (Float64.add (Float64.mul q (Float64.ofInt 2611200000)) 4751297606876397568) (1024 * (48 * (100 * r - (30 * r + 59 * g + 11 * b)) + 41 * (100 * b - (30 * r + 59 * g + 11 * b))) + 4294967296)
  back : RF r g b knob y (Float64.mul (Float64.ofInt knob) i) (Float64.mul (Float64.ofInt knob) q)
end Mine
end
section
open PySem PySem.W PyProof.Rows
set_option maxRecDepth 100000
namespace Mine
open PySem.Float64
theorem rep (q : Nat) : ∀ k : Nat, q ≤ 2 ^ 53 → ∃ t, V t = q * 2 ^ k := by
  intro k
  induction k generalizing q with
  | zero => intro h; exact ⟨0 * 2 ^ 52 + q, V_at h (.inr rfl)⟩
  | succ k ih =>
    intro h
    by_cases h2 : 2 ^ 52 ≤ q
    · exact ⟨(k + 1) * 2 ^ 52 + q, V_at h (.inl h2)⟩
    · obtain ⟨t, ht⟩ := ih (2 * q) (by omega)
      exact ⟨t, by rw [ht, Nat.pow_succ]; ac_rfl⟩
def Fnt (x : UInt64) : Prop := ∃ s m e, decode x = .fin s m e
theorem dist_le {a b c : Nat} (h1 : a ≤ b + c) (h2 : b ≤ a + c) : dist a b ≤ c ∨ dist a b ≤ c := by unfold dist; omega
theorem right_close {r : UInt64} {neg : Bool} {W D k : Nat} (hD : 0 < D) (hR : Right r neg W D) (hW : W ≤ D * 2 ^ (k + 53)) (hk : k ≤ 1900) :
    Fnt r ∧ -((D : Int) * 2 ^ k) ≤ D * val r - sgn neg W ∧ (D : Int) * val r - sgn neg W ≤ D * 2 ^ k := by
  obtain ⟨t, rfl, _, hov, hn⟩ := hR
  have hlt : t < infMag := by
    by_cases he : t = infMag
    · have h1 := hov.mp he
      have h2 : D * 2 ^ (k + 53) * 2 < D * ((2 ^ 54 - 1) * 2 ^ 2045) := by
        rw [Nat.mul_assoc]
        refine Nat.mul_lt_mul_of_pos_left ?_ hD
        calc 2 ^ (k + 53) * 2 = 2 ^ (k + 54) := by rw [← Nat.pow_succ]
          _ ≤ 2 ^ 2045 := Nat.pow_le_pow_right (by decide) (by omega)
          _ < (2 ^ 54 - 1) * 2 ^ 2045 := by
            have : 1 * 2 ^ 2045 < (2 ^ 54 - 1) * 2 ^ 2045 := Nat.mul_lt_mul_of_pos_right (by decide) (Nat.two_pow_pos _)
            omega
      omega
    · omega
  have hfin : Fnt (pack neg t) := by
    obtain ⟨m, e, hd, _⟩ := decode_pack neg hlt
    exact ⟨_, _, _, hd⟩
  have hP : 0 < D * 2 ^ k := Nat.mul_pos hD (Nat.two_pow_pos _)
  have hq : W / (D * 2 ^ k) ≤ 2 ^ 53 := by
    refine Nat.div_le_of_le_mul ?_
    rw [Nat.mul_assoc, ← Nat.pow_add]; exact hW
  obtain ⟨t', ht'⟩ := rep _ k hq
  have h3 := (hn hlt t').1
  rw [ht'] at h3
  have e1 : D * (W / (D * 2 ^ k) * 2 ^ k) = (D * 2 ^ k) * (W / (D * 2 ^ k)) := by
    generalize W / (D * 2 ^ k) = q
    ac_rfl
  rw [e1] at h3
  have h4 := Nat.div_add_mod W (D * 2 ^ k)
  have h5 := Nat.mod_lt W hP
  have h6 : dist W (D * V t) ≤ D * 2 ^ k := by
    refine Nat.le_trans h3 ?_
    unfold dist
    omega
  refine ⟨hfin, ?_⟩
  rw [val_pack neg hlt]
  have e2 : (D : Int) * sgn neg (V t) = sgn neg (D * V t) := by
    unfold sgn
    cases neg
    · simp
    · simp [Int.mul_neg]
  have e3 : ((D : Int) * 2 ^ k) = ((D * 2 ^ k : Nat) : Int) := by simp
  rw [e2, e3]
  unfold dist at h6
  generalize D * V t = a at *
  generalize D * 2 ^ k = c at *
  unfold sgn
  cases neg <;> simp only [if_true, if_false, Bool.false_eq_true] <;> omega
theorem val_zero (s : Bool) : Fnt (Float64.zero s) ∧ val (Float64.zero s) = 0 := by
  have h0 : (0 : Nat) < infMag := by decide
  obtain ⟨m, e, hd, _⟩ := decode_pack s h0
  refine ⟨⟨_, _, _, hd⟩, ?_⟩
  have := val_pack s h0
  rw [V_zero] at this
  show val (pack s 0) = 0
  rw [this]
  cases s <;> rfl
theorem sgn_abs (z : Int) : sgn (decide (z < 0)) z.natAbs = z := by
  unfold sgn
  by_cases h : z < 0
  · rw [decide_eq_true h, if_pos rfl]; omega
  · rw [decide_eq_false h, if_neg (by decide)]; omega
theorem natAbs_le_pow {z : Int} {k : Nat} (h1 : -(2 ^ k : Int) ≤ z) (h2 : z ≤ 2 ^ k) : z.natAbs ≤ 2 ^ k := by
  have e : ((2 ^ k : Nat) : Int) = 2 ^ k := by simp
  rw [← e] at h1 h2
  omega
theorem add_close {x y : UInt64} {k : Nat} (hx : Fnt x) (hy : Fnt y) (h1 : -(2 ^ (k + 53) : Int) ≤ val x + val y) (h2 : val x + val y ≤ 2 ^ (k + 53)) (hk : k ≤ 1900) :
    Fnt (add x y) ∧ -(2 ^ k : Int) ≤ val (add x y) - (val x + val y) ∧ val (add x y) - (val x + val y) ≤ 2 ^ k := by
  obtain ⟨a, m, e, hx⟩ := hx
  obtain ⟨b, n, f, hy⟩ := hy
  have hr := add_right hx hy
  have hp : (0 : Int) ≤ 2 ^ k := Int.le_of_lt (Int.pow_pos (by decide))
  by_cases h0 : val x + val y = 0
  · rw [hr.1 h0, h0]
    have hz := val_zero (a && b)
    exact ⟨hz.1, by rw [hz.2]; omega, by rw [hz.2]; omega⟩
  · have hc := right_close (k := k) (by decide) (hr.2 h0) (by rw [Nat.one_mul]; exact natAbs_le_pow h1 h2) hk
    rw [sgn_abs] at hc
    refine ⟨hc.1, ?_, ?_⟩
    · simpa using hc.2.1
    · simpa using hc.2.2
theorem neg_fin {y : UInt64} (hy : Fnt y) : Fnt (neg y) ∧ val (neg y) = -val y := by
  obtain ⟨b, n, f, hy⟩ := hy
  exact ⟨⟨_, _, _, neg_decode hy⟩, neg_val hy⟩
theorem sub_close {x y : UInt64} {k : Nat} (hx : Fnt x) (hy : Fnt y) (h1 : -(2 ^ (k + 53) : Int) ≤ val x - val y) (h2 : val x - val y ≤ 2 ^ (k + 53)) (hk : k ≤ 1900) :
    Fnt (sub x y) ∧ -(2 ^ k : Int) ≤ val (sub x y) - (val x - val y) ∧ val (sub x y) - (val x - val y) ≤ 2 ^ k := by
  have hn := neg_fin hy
  have h := add_close (k := k) hx hn.1 (by rw [hn.2]; omega) (by rw [hn.2]; omega) hk
  rw [hn.2] at h
  have hs : Float64.sub x y = add x (neg y) := by unfold Float64.sub; rfl
  rw [hs]
  exact ⟨h.1, by omega, by omega⟩
theorem sgn_mul_sgn (a b : Bool) (m n : Nat) : sgn (a != b) (m * n) = sgn a m * sgn b n := by
  unfold sgn
  cases a <;> cases b <;> simp [Int.neg_mul, Int.mul_neg]
theorem mul_close {x y : UInt64} {k : Nat} (hx : Fnt x) (hy : Fnt y) (h : (val x * val y).natAbs ≤ 2 ^ 1074 * 2 ^ (k + 53)) (hk : k ≤ 1900) :
    Fnt (mul x y) ∧ -((2 : Int) ^ 1074 * 2 ^ k) ≤ 2 ^ 1074 * val (mul x y) - val x * val y ∧ (2 : Int) ^ 1074 * val (mul x y) - val x * val y ≤ 2 ^ 1074 * 2 ^ k := by
  obtain ⟨a, m, e, hx⟩ := hx
  obtain ⟨b, n, f, hy⟩ := hy
  have hr := mul_right hx hy
  have hc := right_close (k := k) (Nat.two_pow_pos _) hr (by rw [← Int.natAbs_mul]; exact h) hk
  have e1 : sgn (a != b) ((val x).natAbs * (val y).natAbs) = val x * val y := by
    rw [sgn_mul_sgn, val_natAbs hx, val_natAbs hy, ← val_eq hx, ← val_eq hy]
  rw [e1] at hc
  refine ⟨hc.1, ?_, ?_⟩
  · have := hc.2.1; simpa using this
  · have := hc.2.2; simpa using this
/-- the unit in which the floats' worths are reckoned: 2 ^ -80 -/
def U : Int := 2 ^ 994
theorem U_pos : 0 < U := Int.pow_pos (by decide)
theorem two_U (e : Nat) : (2 : Int) ^ (994 + e) = 2 ^ e * U := by unfold U; rw [Int.pow_add, Int.mul_comm]
theorem K_U : (2 : Int) ^ 1074 = 2 ^ 80 * U := two_U 80
theorem addU (t : Nat) {x y : UInt64} (hx : Fnt x) (hy : Fnt y) (ht : t ≤ 900) (h1 : -(2 ^ (t + 53) * U) ≤ val x + val y) (h2 : val x + val y ≤ 2 ^ (t + 53) * U) :
    Fnt (add x y) ∧ -(2 ^ t * U) ≤ val (add x y) - (val x + val y) ∧ val (add x y) - (val x + val y) ≤ 2 ^ t * U := by
  have e : 994 + t + 53 = 994 + (t + 53) := by omega
  have h := add_close (k := 994 + t) hx hy (by rw [e, two_U]; exact h1) (by rw [e, two_U]; exact h2) (by omega)
  rw [two_U] at h
  exact h
theorem subU (t : Nat) {x y : UInt64} (hx : Fnt x) (hy : Fnt y) (ht : t ≤ 900) (h1 : -(2 ^ (t + 53) * U) ≤ val x - val y) (h2 : val x - val y ≤ 2 ^ (t + 53) * U) :
    Fnt (sub x y) ∧ -(2 ^ t * U) ≤ val (sub x y) - (val x - val y) ∧ val (sub x y) - (val x - val y) ≤ 2 ^ t * U := by
  have e : 994 + t + 53 = 994 + (t + 53) := by omega
  have h := sub_close (k := 994 + t) hx hy (by rw [e, two_U]; exact h1) (by rw [e, two_U]; exact h2) (by omega)
  rw [two_U] at h
  exact h
theorem cross {K S c v cm : Int} (hc : c * S = cm * K) : c * v * S = K * (cm * v) := by
  rw [show c * v * S = c * S * v by ac_rfl, hc]; ac_rfl
theorem prod_in {K S B c v cm : Int} (hK : 0 < K) (hS : 0 < S) (hc : c * S = cm * K) (h1 : -(S * B) ≤ cm * v) (h2 : cm * v ≤ S * B) : -(K * B) ≤ c * v ∧ c * v ≤ K * B := by
  have e1 := cross (v := v) hc
  constructor
  · refine Int.le_of_mul_le_mul_right ?_ hS
    rw [e1]
    calc -(K * B) * S = K * -(S * B) := by rw [Int.neg_mul, Int.mul_neg]; congr 1; ac_rfl
      _ ≤ K * (cm * v) := Int.mul_le_mul_of_nonneg_left h1 (Int.le_of_lt hK)
  · refine Int.le_of_mul_le_mul_right ?_ hS
    rw [e1]
    calc K * (cm * v) ≤ K * (S * B) := Int.mul_le_mul_of_nonneg_left h2 (Int.le_of_lt hK)
      _ = K * B * S := by ac_rfl
theorem prod_out {K S e c v cm r : Int} (hK : 0 < K) (hS : 0 < S) (hc : c * S = cm * K) (h1 : -(K * e) ≤ K * r - c * v) (h2 : K * r - c * v ≤ K * e) : -(S * e) ≤ S * r - cm * v ∧ S * r - cm * v ≤ S * e := by
  have e1 := cross (v := v) hc
  have e2 : (K * r - c * v) * S = K * (S * r - cm * v) := by rw [Int.sub_mul, Int.mul_sub, e1]; congr 1; ac_rfl
  constructor
  · refine Int.le_of_mul_le_mul_left ?_ hK
    rw [← e2]
    calc K * -(S * e) = -(K * e) * S := by rw [Int.neg_mul, Int.mul_neg]; congr 1; ac_rfl
      _ ≤ (K * r - c * v) * S := Int.mul_le_mul_of_nonneg_right h1 (Int.le_of_lt hS)
  · refine Int.le_of_mul_le_mul_left ?_ hK
    rw [← e2]
    calc (K * r - c * v) * S ≤ K * e * S := Int.mul_le_mul_of_nonneg_right h2 (Int.le_of_lt hS)
      _ = K * (S * e) := by ac_rfl
theorem natAbs_le_of {z : Int} {n : Nat} (h1 : -(n : Int) ≤ z) (h2 : z ≤ n) : z.natAbs ≤ n := by omega
/-- a product with a written factor cm / 2 ^ s -/
theorem mulV (t s : Nat) (cm : Int) {x y : UInt64} (hx : Fnt x) (hy : Fnt y) (ht : t ≤ 900) (c v : Int) (hcv : val x * val y = c * v)
    (hc : c * 2 ^ s = cm * 2 ^ 1074) (h1 : -(2 ^ s * (2 ^ (t + 53) * U)) ≤ cm * v) (h2 : cm * v ≤ 2 ^ s * (2 ^ (t + 53) * U)) :
    Fnt (mul x y) ∧ -(2 ^ s * (2 ^ t * U)) ≤ 2 ^ s * val (mul x y) - cm * v ∧ 2 ^ s * val (mul x y) - cm * v ≤ 2 ^ s * (2 ^ t * U) := by
  have hS : (0 : Int) < 2 ^ s := Int.pow_pos (by decide)
  have hK : (0 : Int) < 2 ^ 1074 := Int.pow_pos (by decide)
  have e : 994 + t + 53 = 994 + (t + 53) := by omega
  have hb := prod_in hK hS hc h1 h2
  rw [← two_U, ← e] at hb
  have e9 : ((2 ^ 1074 * 2 ^ (994 + t + 53) : Nat) : Int) = 2 ^ 1074 * 2 ^ (994 + t + 53) := by rw [Int.natCast_mul, Int.natCast_pow, Int.natCast_pow]; rfl
  rw [← e9, ← hcv] at hb
  have h := mul_close (k := 994 + t) hx hy (natAbs_le_of hb.1 hb.2) (by omega)
  rw [hcv, two_U] at h
  exact ⟨h.1, prod_out hK hS hc h.2.1 h.2.2⟩
theorem mulU (t s : Nat) (cm : Int) {c y : UInt64} (hc : Fnt c) (hv : val c * 2 ^ s = cm * 2 ^ 1074) (hy : Fnt y) (ht : t ≤ 900) (h1 : -(2 ^ s * (2 ^ (t + 53) * U)) ≤ cm * val y) (h2 : cm * val y ≤ 2 ^ s * (2 ^ (t + 53) * U)) :
    Fnt (mul c y) ∧ -(2 ^ s * (2 ^ t * U)) ≤ 2 ^ s * val (mul c y) - cm * val y ∧ 2 ^ s * val (mul c y) - cm * val y ≤ 2 ^ s * (2 ^ t * U) :=
  mulV t s cm hc hy ht (val c) (val y) rfl hv h1 h2
theorem mulUr (t s : Nat) (cm : Int) {c y : UInt64} (hc : Fnt c) (hv : val c * 2 ^ s = cm * 2 ^ 1074) (hy : Fnt y) (ht : t ≤ 900) (h1 : -(2 ^ s * (2 ^ (t + 53) * U)) ≤ cm * val y) (h2 : cm * val y ≤ 2 ^ s * (2 ^ (t + 53) * U)) :
    Fnt (mul y c) ∧ -(2 ^ s * (2 ^ t * U)) ≤ 2 ^ s * val (mul y c) - cm * val y ∧ 2 ^ s * val (mul y c) - cm * val y ≤ 2 ^ s * (2 ^ t * U) :=
  mulV t s cm hy hc ht (val c) (val y) (Int.mul_comm _ _) hv h1 h2
theorem fin_of {x : UInt64} (h : isFinite x = true) : Fnt x := by
  unfold isFinite at h
  cases hd : decode x with
  | nan => rw [hd] at h; cases h
  | inf _ => rw [hd] at h; cases h
  | fin s m e => exact ⟨s, m, e, hd⟩
theorem intIs_of {z : UInt64} {n : Int} (hz : Fnt z) (hn : 0 ≤ n) (h1 : n * 2 ^ 1074 ≤ val z) (h2 : val z < (n + 1) * 2 ^ 1074) : IntIs z n := by
  obtain ⟨s, m, e, hd⟩ := hz
  refine ⟨s, m, e, hd, ?_⟩
  have he := decode_ge hd
  rw [val_eq hd] at h1 h2
  have hK : (0 : Int) < 2 ^ 1074 := Int.pow_pos (by decide)
  have hm : s = true → n = 0 ∧ m = 0 := by
    intro hs
    subst hs
    have hle : sgn true (m * 2 ^ (e + 1074).toNat) ≤ 0 := by unfold sgn; rw [if_pos rfl]; omega
    have hnK : 0 ≤ n * 2 ^ 1074 := Int.mul_nonneg hn (Int.le_of_lt hK)
    have h0 : n * 2 ^ 1074 = 0 := by omega
    have hn0 : n = 0 := by
      rcases Int.mul_eq_zero.mp h0 with h | h
      · exact h
      · omega
    refine ⟨hn0, ?_⟩
    have h3 : m * 2 ^ (e + 1074).toNat = 0 := by
      rw [h0] at h1
      unfold sgn at h1
      rw [if_pos rfl] at h1
      omega
    rcases Nat.mul_eq_zero.mp h3 with h | h
    · exact h
    · exact absurd h (Nat.ne_of_gt (Nat.two_pow_pos _))
  have fl : s = false → floorOf false m e = n := by
    intro hs
    subst hs
    have hv : sgn false (m * 2 ^ (e + 1074).toNat) = ((m * 2 ^ (e + 1074).toNat : Nat) : Int) := rfl
    rw [hv] at h1 h2
    unfold floorOf
    by_cases h0 : e ≥ 0
    · rw [if_pos h0]
      have e1 : (e + 1074).toNat = e.toNat + 1074 := by omega
      have e2 : ((m * 2 ^ (e + 1074).toNat : Nat) : Int) = sgn false m * 2 ^ e.toNat * 2 ^ 1074 := by
        rw [e1, Nat.pow_add]
        show _ = (m : Int) * 2 ^ e.toNat * 2 ^ 1074
        rw [Int.natCast_mul, Int.natCast_mul, ← Int.mul_assoc, Int.natCast_pow, Int.natCast_pow]
        rfl
      rw [e2] at h1 h2
      have a1 := Int.le_of_mul_le_mul_right h1 hK
      have a2 := Int.lt_of_mul_lt_mul_right h2 (Int.le_of_lt hK)
      omega
    · rw [if_neg h0]
      have e1 : (1074 : Nat) = (-e).toNat + (e + 1074).toNat := by omega
      have hP : (0 : Int) < 2 ^ (e + 1074).toNat := Int.pow_pos (by decide)
      have hQ : (0 : Int) < 2 ^ (-e).toNat := Int.pow_pos (by decide)
      have e3 : (2 : Int) ^ 1074 = 2 ^ (-e).toNat * 2 ^ (e + 1074).toNat := by rw [← Int.pow_add, ← e1]
      have e2 : ((m * 2 ^ (e + 1074).toNat : Nat) : Int) = (m : Int) * 2 ^ (e + 1074).toNat := by
        rw [Int.natCast_mul, Int.natCast_pow]; rfl
      rw [e2, e3, ← Int.mul_assoc] at h1 h2
      have a1 := Int.le_of_mul_le_mul_right h1 hP
      have a2 := Int.lt_of_mul_lt_mul_right h2 (Int.le_of_lt hP)
      show ((m : Int)).fdiv (2 ^ (-e).toNat) = n
      rw [Int.fdiv_eq_ediv_of_nonneg _ (Int.le_of_lt hQ)]
      refine Int.le_antisymm ?_ ?_
      · exact Int.le_of_lt_add_one (Int.ediv_lt_of_lt_mul hQ a2)
      · exact Int.le_ediv_of_mul_le hQ a1
  unfold truncOf
  cases hs : s with
  | true =>
    obtain ⟨a, b⟩ := hm hs
    subst a b
    simp only [if_true]
    unfold ceilOf floorOf
    by_cases h0 : e ≥ 0
    · rw [if_pos h0]; simp [sgn]
    · rw [if_neg h0]; simp [sgn]
  | false =>
    simp only [Bool.false_eq_true, if_false]
    exact fl hs
end Mine
end
section
open PySem PySem.W PyProof.Rows
set_option maxRecDepth 100000
set_option maxHeartbeats 4000000
namespace Mine
open PySem.Float64
theorem c_fin {x : UInt64} (h : isFinite x = true) : Fnt x := fin_of h
theorem q255' {n : Int} {x : UInt64} (h : Q255 n x) (hn : 0 ≤ n ∧ n < 256) : Fnt x ∧ -(255 * (2 ^ 27 * U)) ≤ 255 * val x - 2 ^ 80 * (n * U) ∧ 255 * val x - 2 ^ 80 * (n * U) ≤ 255 * (2 ^ 27 * U) := by
  have hx := h.eq
  have hs : (decide (n < 0) != decide ((255 : Int) < 0)) = false := by rw [decide_eq_false (by omega), decide_eq_false (by decide)]; rfl
  rw [hs] at hx
  subst hx
  have hR : Right (ofFrac false n.natAbs (255 : Int).natAbs) false (n.natAbs * 2 ^ 1074) 255 := ofFrac_right (by decide) (by rfl) (by decide)
  have hb : n.natAbs * 2 ^ 1074 ≤ 255 * 2 ^ (1021 + 53) := Nat.mul_le_mul_right _ (by omega)
  have hc := right_close (k := 1021) (by decide) hR hb (by decide)
  have e1 : sgn false (n.natAbs * 2 ^ 1074) = 2 ^ 80 * (n * U) := by
    show ((n.natAbs * 2 ^ 1074 : Nat) : Int) = _
    rw [Int.natCast_mul, Int.natCast_pow, show ((n.natAbs : Nat) : Int) = n by omega]
    show n * 2 ^ 1074 = _
    rw [K_U]
    ac_rfl
  have e2 : (2 : Int) ^ 1021 = 2 ^ 27 * U := two_U 27
  rw [e1, e2] at hc
  exact hc
theorem in255 {n : Int} (hn : 0 ≤ n ∧ n < 256) : 0 ≤ n * U ∧ n * U ≤ 255 * U :=
  ⟨Int.mul_nonneg hn.1 (Int.le_of_lt U_pos), Int.mul_le_mul_of_nonneg_right (by omega) (Int.le_of_lt U_pos)⟩
-- the written factors
theorem v_03 : val 4599075939470750515 * 2 ^ 54 = 5404319552844595 * 2 ^ 1074 := by decide +kernel
theorem v_059 : val 4603489467105573601 * 2 ^ 53 = 5314247560297185 * 2 ^ 1074 := by decide +kernel
theorem v_011 : val 4592590756007337001 * 2 ^ 56 = 7926335344172073 * 2 ^ 1074 := by decide +kernel
theorem v_074 : val 4604840546993784750 * 2 ^ 52 = 3332663724254167 * 2 ^ 1074 := by decide +kernel
theorem v_027 : val 4598535507515466056 * 2 ^ 51 = 607985949695017 * 2 ^ 1074 := by decide +kernel
theorem v_048 : val 4602318531202457272 * 2 ^ 51 = 1080863910568919 * 2 ^ 1074 := by decide +kernel
theorem v_041 : val 4601057523306793533 * 2 ^ 54 = 7385903388887613 * 2 ^ 1074 := by decide +kernel
theorem v_y1 : val 4606703976345377586 * 2 ^ 52 = 4264378400050585 * 2 ^ 1074 := by decide +kernel
theorem v_y2 : val 4603791717925830846 * 2 ^ 52 = 2808249190277215 * 2 ^ 1074 := by decide +kernel
theorem v_y3 : val 4598621754083818298 * 2 ^ 53 = 2475067082956189 * 2 ^ 1074 := by decide +kernel
theorem v_y4 : val 4603901015759978483 * 2 ^ 53 = 5725796214702067 * 2 ^ 1074 := by decide +kernel
theorem v_y5 : val 4607671262177584182 * 2 ^ 51 = 2496221502468635 * 2 ^ 1074 := by decide +kernel
theorem v_y6 : val 4610375502138591871 * 2 ^ 52 = 7696682965944959 * 2 ^ 1074 := by decide +kernel
theorem v_b : val (ofInt 26112000) * 2 ^ 0 = 26112000 * 2 ^ 1074 := by decide +kernel
theorem v_c : val (ofInt 2611200000) * 2 ^ 0 = 2611200000 * 2 ^ 1074 := by decide +kernel
theorem v_h : val 4602678819172646912 = 2 ^ 79 * U := by
  have h : val 4602678819172646912 = 2 ^ (994 + 79) := by decide +kernel
  rw [h, two_U]
theorem v_g : val 4751297606876397568 = 8589934593 * (2 ^ 79 * U) := by
  have h : val 4751297606876397568 = 8589934593 * 2 ^ (994 + 79) := by decide +kernel
  rw [h, two_U]
theorem v_1 : val 4607182418800017408 = 2 ^ 80 * U := by
  have h : val 4607182418800017408 = 2 ^ (994 + 80) := by decide +kernel
  rw [h, two_U]
theorem v_0 : val 0 = 0 := by decide +kernel
/-- a lies between -A and A -/
def Ab (a A : Int) : Prop := -A ≤ a ∧ a ≤ A
theorem Ab.add {a b A B : Int} (h : Ab a A) (k : Ab b B) : Ab (a + b) (A + B) := by unfold Ab at *; omega
theorem Ab.sub {a b A B : Int} (h : Ab a A) (k : Ab b B) : Ab (a - b) (A + B) := by unfold Ab at *; omega
theorem Ab.mono {a A B : Int} (h : Ab a A) (k : A ≤ B) : Ab a B := by unfold Ab at *; omega
theorem Ab.mulP {a A k : Int} (h : Ab a A) (hk : 0 ≤ k) : Ab (k * a) (k * A) :=
  ⟨by rw [← Int.mul_neg]; exact Int.mul_le_mul_of_nonneg_left h.1 hk, Int.mul_le_mul_of_nonneg_left h.2 hk⟩
theorem Ab.neg {a A : Int} (h : Ab a A) : Ab (-a) A := by unfold Ab at *; omega
theorem Ab.mul {a A : Int} (h : Ab a A) (k : Int) : Ab (k * a) (k.natAbs * A) := by
  rcases Int.le_total 0 k with hk | hk
  · rw [Int.natAbs_of_nonneg hk]; exact h.mulP hk
  · have e : ((k.natAbs : Nat) : Int) = -k := by omega
    rw [e, ← Int.neg_neg (k * a), ← Int.neg_mul]
    exact (h.mulP (by omega)).neg
theorem Ab.div {a A k : Int} (hk : 0 < k) (h : Ab (k * a) (k * A)) : Ab a A :=
  ⟨Int.le_of_mul_le_mul_left (by rw [Int.mul_neg]; exact h.1) hk, Int.le_of_mul_le_mul_left h.2 hk⟩
theorem Ab.scale {a k m : Int} (h : Ab a (k * U)) (hk : k ≤ m) : Ab a (m * U) := h.mono (Int.mul_le_mul_of_nonneg_right hk (Int.le_of_lt U_pos))
/-- x is the float near 2 ^ 80 X / D, up to e U / D -/
def Nr (D e : Int) (x : UInt64) (X : Int) : Prop := Fnt x ∧ Ab (D * val x - 2 ^ 80 * X) (e * U)
theorem Nr.up {D e D' e' : Int} {x : UInt64} {X X' : Int} (h : Nr D e x X) (k : Int) (hk : 0 ≤ k) (hD : k * D = D') (he : k * e = e') (hX : k * X = X') : Nr D' e' x X' := by
  refine ⟨h.1, ?_⟩
  have h2 := h.2.mulP hk
  have e1 : k * (D * val x - 2 ^ 80 * X) = D' * val x - 2 ^ 80 * X' := by subst hD he hX; grind
  rw [e1, ← Int.mul_assoc, he] at h2
  exact h2
theorem Nr.down {D e D' e' : Int} {x : UInt64} {X X' : Int} (h : Nr D' e' x X') (k : Int) (hk : 0 < k) (hD : k * D = D') (he : k * e = e') (hX : k * X = X') : Nr D e x X := by
  refine ⟨h.1, ?_⟩
  have e1 : D' * val x - 2 ^ 80 * X' = k * (D * val x - 2 ^ 80 * X) := by subst hD he hX; grind
  have h2 := h.2
  rw [e1, ← he, Int.mul_assoc] at h2
  exact h2.div hk
theorem Nr.add {D e f g b c : Int} {x y : UInt64} {X Y : Int} (hx : Nr D e x X) (hy : Nr D f y Y) (t : Nat) (bx : Ab X (b * U)) (by' : Ab Y (c * U)) (hD : 0 < D) (ht : t ≤ 900)
    (hn : 2 ^ 80 * (b + c) + e + f ≤ D * 2 ^ (t + 53)) (hg : e + f + D * 2 ^ t ≤ g) : Nr D g (add x y) (X + Y) := by
  have h1 := (((bx.add by').mulP (k := 2 ^ 80) (by decide)).add hx.2).add hy.2
  have e1 : 2 ^ 80 * (X + Y) + (D * val x - 2 ^ 80 * X) + (D * val y - 2 ^ 80 * Y) = D * (val x + val y) := by grind
  have e2 : 2 ^ 80 * (b * U + c * U) + e * U + f * U = (2 ^ 80 * (b + c) + e + f) * U := by grind
  rw [e1, e2] at h1
  have h2 := h1.scale hn
  rw [Int.mul_assoc] at h2
  have h3 := h2.div hD
  obtain ⟨fa, a1, a2⟩ := addU t hx.1 hy.1 ht h3.1 h3.2
  refine ⟨fa, ?_⟩
  have h4 := ((Ab.mulP (a := val (Float64.add x y) - (val x + val y)) ⟨a1, a2⟩ (Int.le_of_lt hD)).add hx.2).add hy.2
  have e3 : D * (val (Float64.add x y) - (val x + val y)) + (D * val x - 2 ^ 80 * X) + (D * val y - 2 ^ 80 * Y) = D * val (Float64.add x y) - 2 ^ 80 * (X + Y) := by grind
  have e4 : D * (2 ^ t * U) + e * U + f * U = (e + f + D * 2 ^ t) * U := by grind
  rw [e3, e4] at h4
  exact h4.scale hg
theorem Nr.sub {D e f g b c : Int} {x y : UInt64} {X Y : Int} (hx : Nr D e x X) (hy : Nr D f y Y) (t : Nat) (bx : Ab X (b * U)) (by' : Ab Y (c * U)) (hD : 0 < D) (ht : t ≤ 900)
    (hn : 2 ^ 80 * (b + c) + e + f ≤ D * 2 ^ (t + 53)) (hg : e + f + D * 2 ^ t ≤ g) : Nr D g (sub x y) (X - Y) := by
  have h1 := (((bx.sub by').mulP (k := 2 ^ 80) (by decide)).add hx.2).sub hy.2
  have e1 : 2 ^ 80 * (X - Y) + (D * val x - 2 ^ 80 * X) - (D * val y - 2 ^ 80 * Y) = D * (val x - val y) := by grind
  have e2 : 2 ^ 80 * (b * U + c * U) + e * U + f * U = (2 ^ 80 * (b + c) + e + f) * U := by grind
  rw [e1, e2] at h1
  have h2 := h1.scale hn
  rw [Int.mul_assoc] at h2
  have h3 := h2.div hD
  obtain ⟨fa, a1, a2⟩ := subU t hx.1 hy.1 ht h3.1 h3.2
  refine ⟨fa, ?_⟩
  have h4 := ((Ab.mulP (a := val (Float64.sub x y) - (val x - val y)) ⟨a1, a2⟩ (Int.le_of_lt hD)).add hx.2).sub hy.2
  have e3 : D * (val (Float64.sub x y) - (val x - val y)) + (D * val x - 2 ^ 80 * X) - (D * val y - 2 ^ 80 * Y) = D * val (Float64.sub x y) - 2 ^ 80 * (X - Y) := by grind
  have e4 : D * (2 ^ t * U) + e * U + f * U = (e + f + D * 2 ^ t) * U := by grind
  rw [e3, e4] at h4
  exact h4.scale hg
/-- times a written factor, cm / 2 ^ s, that stands for n / d -/
theorem Nr.mul {D e b : Int} {x : UInt64} {X : Int} (hx : Nr D e x X) (bX : Ab X (b * U)) (t s : Nat) (cm n d : Int) {c : UInt64} {D' g : Int} (hc : isFinite c = true) (hv : val c * 2 ^ s = cm * 2 ^ 1074)
    (hD : 0 < D) (hd : 0 ≤ d) (ht : t ≤ 900) (hDd : D * d = D') (hb : cm.natAbs * (2 ^ 80 * b + e) ≤ D * (2 ^ s * 2 ^ (t + 53)))
    (hg : D * d * 2 ^ s * 2 ^ t + (d * cm).natAbs * e + (d * cm - 2 ^ s * n).natAbs * (2 ^ 80 * b) ≤ 2 ^ s * g) : Nr D' g (mul c x) (n * X) := by
  have hS : (0 : Int) < 2 ^ s := Int.pow_pos (by decide)
  have h1 := ((bX.mulP (k := 2 ^ 80) (by decide)).add hx.2).mul cm
  have e1 : cm * (2 ^ 80 * X + (D * val x - 2 ^ 80 * X)) = D * (cm * val x) := by grind
  have e2 : cm.natAbs * (2 ^ 80 * (b * U) + e * U) = cm.natAbs * (2 ^ 80 * b + e) * U := by grind
  rw [e1, e2] at h1
  have h2 := h1.scale hb
  rw [Int.mul_assoc, Int.mul_assoc] at h2
  have h3 := h2.div hD
  obtain ⟨fa, a1, a2⟩ := mulU t s cm (fin_of hc) hv hx.1 ht h3.1 h3.2
  refine ⟨fa, ?_⟩
  have h4 := ((Ab.mulP (a := 2 ^ s * val (Float64.mul c x) - cm * val x) ⟨a1, a2⟩ (k := D * d) (Int.mul_nonneg (Int.le_of_lt hD) hd)).add (hx.2.mul (d * cm))).add ((bX.mulP (k := 2 ^ 80) (by decide)).mul (d * cm - 2 ^ s * n))
  have e3 : D * d * (2 ^ s * val (Float64.mul c x) - cm * val x) + d * cm * (D * val x - 2 ^ 80 * X) + (d * cm - 2 ^ s * n) * (2 ^ 80 * X) = 2 ^ s * (D' * val (Float64.mul c x) - 2 ^ 80 * (n * X)) := by subst hDd; grind
  have e4 : D * d * (2 ^ s * (2 ^ t * U)) + (d * cm).natAbs * (e * U) + (d * cm - 2 ^ s * n).natAbs * (2 ^ 80 * (b * U)) = (D * d * 2 ^ s * 2 ^ t + (d * cm).natAbs * e + (d * cm - 2 ^ s * n).natAbs * (2 ^ 80 * b)) * U := by grind
  rw [e3, e4] at h4
  have h5 := h4.scale hg
  rw [Int.mul_assoc] at h5
  exact h5.div hS
theorem q255 {n : Int} {x : UInt64} (h : Q255 n x) (hn : 0 ≤ n ∧ n < 256) : Nr 255 (255 * 2 ^ 27) x (n * U) := by
  obtain ⟨a, b, c⟩ := q255' h hn
  exact ⟨a, by rw [Int.mul_assoc 255]; exact ⟨b, c⟩⟩
/-- luma and chromas of the floats, near to what they should be -/
structure Yiq (RU GU BU : Int) (y i q : UInt64) : Prop where
  y : Nr 25500 (25500 * 2 ^ 33) y (30 * RU + 59 * GU + 11 * BU)
  i : Nr 2550000 (2550000 * 2 ^ 38) i (74 * (100 * RU - (30 * RU + 59 * GU + 11 * BU)) - 27 * (100 * BU - (30 * RU + 59 * GU + 11 * BU)))
  q : Nr 2550000 (2550000 * 2 ^ 38) q (48 * (100 * RU - (30 * RU + 59 * GU + 11 * BU)) + 41 * (100 * BU - (30 * RU + 59 * GU + 11 * BU)))
theorem yiq_near {RU GU BU : Int} {r g b : UInt64} (hR : 0 ≤ RU ∧ RU ≤ 255 * U) (hG : 0 ≤ GU ∧ GU ≤ 255 * U) (hB : 0 ≤ BU ∧ BU ≤ 255 * U)
    (hr : Nr 255 (255 * 2 ^ 27) r RU) (hg : Nr 255 (255 * 2 ^ 27) g GU) (hb : Nr 255 (255 * 2 ^ 27) b BU) : Yiq RU GU BU (fY r g b) (fI r g b) (fQ r g b) := by
  have bR : Ab RU (255 * U) := ⟨by omega, hR.2⟩
  have bG : Ab GU (255 * U) := ⟨by omega, hG.2⟩
  have bB : Ab BU (255 * U) := ⟨by omega, hB.2⟩
  have n30 : Ab (30 * RU) (7650 * U) := by unfold Ab at *; omega
  have n59 : Ab (59 * GU) (15045 * U) := by unfold Ab at *; omega
  have n11 : Ab (11 * BU) (2805 * U) := by unfold Ab at *; omega
  have n89 : Ab (30 * RU + 59 * GU) (22695 * U) := by unfold Ab at *; omega
  have nL : Ab (30 * RU + 59 * GU + 11 * BU) (25500 * U) := by unfold Ab at *; omega
  have nR : Ab (100 * RU) (25500 * U) := by unfold Ab at *; omega
  have nB : Ab (100 * BU) (25500 * U) := by unfold Ab at *; omega
  have a := hr.mul bR 28 54 5404319552844595 30 100 (D' := 25500) (g := 25500 * 2 ^ 30) (by decide +kernel) v_03 (by decide) (by decide) (by decide) (by decide) (by decide +kernel) (by decide +kernel)
  have c := hg.mul bG 28 53 5314247560297185 59 100 (D' := 25500) (g := 25500 * 2 ^ 30) (by decide +kernel) v_059 (by decide) (by decide) (by decide) (by decide) (by decide +kernel) (by decide +kernel)
  have d := hb.mul bB 28 56 7926335344172073 11 100 (D' := 25500) (g := 25500 * 2 ^ 30) (by decide +kernel) v_011 (by decide) (by decide) (by decide) (by decide) (by decide +kernel) (by decide +kernel)
  have s := a.add c (g := 25500 * 2 ^ 32) 28 n30 n59 (by decide) (by decide) (by decide +kernel) (by decide +kernel)
  have y : Nr 25500 (25500 * 2 ^ 33) (fY r g b) (30 * RU + 59 * GU + 11 * BU) := s.add d 28 n89 n11 (by decide) (by decide) (by decide +kernel) (by decide +kernel)
  have r' := hr.up 100 (D' := 25500) (e' := 25500 * 2 ^ 27) (by decide) (by decide) (by decide) rfl
  have b' := hb.up 100 (D' := 25500) (e' := 25500 * 2 ^ 27) (by decide) (by decide) (by decide) rfl
  have w := r'.sub y (g := 25500 * 2 ^ 34) 29 nR nL (by decide) (by decide) (by decide +kernel) (by decide +kernel)
  have v := b'.sub y (g := 25500 * 2 ^ 34) 29 nB nL (by decide) (by decide) (by decide +kernel) (by decide +kernel)
  have nW : Ab (100 * RU - (30 * RU + 59 * GU + 11 * BU)) (25500 * U) := by unfold Ab at *; omega
  have nV : Ab (100 * BU - (30 * RU + 59 * GU + 11 * BU)) (25500 * U) := by unfold Ab at *; omega
  clear n30 n59 n11 n89 nL nR nB bR bG bB hR hG hB a c d s r' b' hr hg hb
  have p := w.mul nW 29 52 3332663724254167 74 100 (D' := 2550000) (g := 2550000 * 2 ^ 35) (by decide +kernel) v_074 (by decide) (by decide) (by decide) (by decide) (by decide +kernel) (by decide +kernel)
  have k := v.mul nV 29 51 607985949695017 27 100 (D' := 2550000) (g := 2550000 * 2 ^ 35) (by decide +kernel) v_027 (by decide) (by decide) (by decide) (by decide) (by decide +kernel) (by decide +kernel)
  have m := w.mul nW 29 51 1080863910568919 48 100 (D' := 2550000) (g := 2550000 * 2 ^ 35) (by decide +kernel) v_048 (by decide) (by decide) (by decide) (by decide) (by decide +kernel) (by decide +kernel)
  have n := v.mul nV 29 54 7385903388887613 41 100 (D' := 2550000) (g := 2550000 * 2 ^ 35) (by decide +kernel) v_041 (by decide) (by decide) (by decide) (by decide) (by decide +kernel) (by decide +kernel)
  exact ⟨y, p.sub k (b := 1887000) (c := 688500) 29 (by unfold Ab at *; omega) (by unfold Ab at *; omega) (by decide) (by decide) (by decide +kernel) (by decide +kernel),
    m.add n (b := 1224000) (c := 1045500) 29 (by unfold Ab at *; omega) (by unfold Ab at *; omega) (by decide) (by decide) (by decide +kernel) (by decide +kernel)⟩
theorem mulK (n : Int) : 1024 * n * 2 ^ 1074 = 2 ^ 80 * (1024 * (n * U)) := by rw [K_U]; ac_rfl
theorem test_b {x : UInt64} {n e : Int} (h0 : 0 ≤ n) (h5 : n ≤ 25500) (hx : Nr 25500 e x (n * U)) (he : e ≤ 25500 * 2 ^ 44) :
    IntIs (add (mul x (ofInt 26112000)) 4602678819172646912) (1024 * n) := by
  have hU := U_pos
  obtain ⟨fx, hx⟩ := hx
  obtain ⟨h1, h2⟩ := hx.scale he
  have hn0 : 0 ≤ n * U := Int.mul_nonneg h0 (Int.le_of_lt hU)
  have hn1 : n * U ≤ 25500 * U := Int.mul_le_mul_of_nonneg_right h5 (Int.le_of_lt hU)
  obtain ⟨ff, f1, f2⟩ := mulUr 52 0 26112000 (fin_of (by decide +kernel)) v_b fx (by decide) (by omega) (by omega)
  have hh : Fnt 4602678819172646912 := fin_of (by decide +kernel)
  have vh := v_h
  obtain ⟨fz, z1, z2⟩ := addU 53 ff hh (by decide) (by rw [vh]; omega) (by rw [vh]; omega)
  rw [vh] at z1 z2
  refine intIs_of fz (by omega) ?_ ?_
  · rw [mulK]; omega
  · rw [Int.add_mul, mulK, Int.one_mul, K_U]; omega
theorem test_c {x : UInt64} {n : Int} (h0 : -2600000 ≤ n) (h5 : n ≤ 2600000) (hx : Nr 2550000 (2550000 * 2 ^ 38) x (n * U)) :
    IntIs (add (mul x (ofInt 2611200000)) 4751297606876397568) (1024 * n + 4294967296) := by
  have hU := U_pos
  obtain ⟨fx, h1, h2⟩ := hx
  have hn0 : -2600000 * U ≤ n * U := Int.mul_le_mul_of_nonneg_right h0 (Int.le_of_lt hU)
  have hn1 : n * U ≤ 2600000 * U := Int.mul_le_mul_of_nonneg_right h5 (Int.le_of_lt hU)
  obtain ⟨ff, f1, f2⟩ := mulUr 60 0 2611200000 (fin_of (by decide +kernel)) v_c fx (by decide) (by omega) (by omega)
  have hh : Fnt 4751297606876397568 := fin_of (by decide +kernel)
  have vh := v_g
  obtain ⟨fz, z1, z2⟩ := addU 61 ff hh (by decide) (by rw [vh]; omega) (by rw [vh]; omega)
  rw [vh] at z1 z2
  refine intIs_of fz (by omega) ?_ ?_
  · rw [Int.add_mul, mulK, K_U]; omega
  · rw [Int.add_mul, Int.add_mul, mulK, Int.one_mul, K_U]; omega
theorem cmp_lt {x y : UInt64} (fx : Fnt x) (fy : Fnt y) : (cmp x y == some .lt) = decide (val x < val y) := by
  obtain ⟨_, _, _, hx⟩ := fx
  obtain ⟨_, _, _, hy⟩ := fy
  rw [cmp_right hx hy]
  by_cases h : val x < val y
  · rw [Int.compare_eq_lt.mpr h, decide_eq_true h]; rfl
  · rw [decide_eq_false h]
    rcases Int.lt_or_eq_of_le (Int.not_lt.mp h) with h2 | h2
    · rw [Int.compare_eq_gt.mpr h2]; rfl
    · rw [Int.compare_eq_eq.mpr h2.symm]; rfl
theorem cmp_gt' {x y : UInt64} (fx : Fnt x) (fy : Fnt y) : (cmp x y == some .gt) = decide (val y < val x) := by
  obtain ⟨_, _, _, hx⟩ := fx
  obtain ⟨_, _, _, hy⟩ := fy
  rw [cmp_right hx hy]
  by_cases h : val y < val x
  · rw [Int.compare_eq_gt.mpr h, decide_eq_true h]; rfl
  · rw [decide_eq_false h]
    rcases Int.lt_or_eq_of_le (Int.not_lt.mp h) with h2 | h2
    · rw [Int.compare_eq_lt.mpr h2]; rfl
    · rw [Int.compare_eq_eq.mpr h2]; rfl
theorem cmp_le {x y : UInt64} (fx : Fnt x) (fy : Fnt y) (h : val x ≤ val y) : (cmp x y == some .lt || cmp x y == some .eq) = true := by
  obtain ⟨_, _, _, hx⟩ := fx
  obtain ⟨_, _, _, hy⟩ := fy
  rw [cmp_right hx hy]
  rcases Int.lt_or_eq_of_le h with h2 | h2
  · rw [Int.compare_eq_lt.mpr h2]; rfl
  · rw [Int.compare_eq_eq.mpr h2]; rfl
theorem fin0 : Fnt 0 := fin_of (by decide +kernel)
theorem fin1 : Fnt 4607182418800017408 := fin_of (by decide +kernel)
theorem cut_val {x : UInt64} (fx : Fnt x) : Fnt (cut x) ∧ val (cut x) = min (max (val x) 0) (2 ^ 80 * U) := by
  have hU := U_pos
  unfold cut
  rw [cmp_lt fx fin0, v_0]
  by_cases h : val x < 0
  · rw [decide_eq_true h, if_pos rfl, cmp_gt' fin0 fin1, v_0, v_1, decide_eq_false (by omega), if_neg (by decide)]
    exact ⟨fin0, by rw [v_0]; omega⟩
  · have e : (if decide (val x < 0) = true then 0 else x) = x := by rw [decide_eq_false h]; rfl
    rw [e, cmp_gt' fx fin1, v_1]
    by_cases h2 : 2 ^ 80 * U < val x
    · rw [decide_eq_true h2, if_pos rfl]
      exact ⟨fin1, by rw [v_1]; omega⟩
    · rw [decide_eq_false h2, if_neg (by decide)]
      exact ⟨fx, by omega⟩
theorem pf_of {x : UInt64} {n : Int} (hx : Nr 25500 (25500 * 2 ^ 44) x (n * U)) : PF (cut x) n := by
  have hU := U_pos
  obtain ⟨fx, h1, h2⟩ := hx
  obtain ⟨fc, vc⟩ := cut_val fx
  have key : ∃ k, k = min (max n 0) 25500 ∧ Nr 25500 (25500 * 2 ^ 44) (cut x) (k * U) := by
    refine ⟨_, rfl, fc, ?_⟩
    unfold Ab
    rw [vc]
    clear vc fc fx
    generalize val x = v at *
    by_cases ha : n ≤ 0
    · have hn : n * U ≤ 0 := Int.mul_nonpos_of_nonpos_of_nonneg ha (Int.le_of_lt hU)
      rw [show min (max n 0) 25500 = 0 by omega, Int.zero_mul]
      constructor <;> omega
    · by_cases hb : 25500 ≤ n
      · have hn : 25500 * U ≤ n * U := Int.mul_le_mul_of_nonneg_right hb (Int.le_of_lt hU)
        rw [show min (max n 0) 25500 = 25500 by omega]
        constructor <;> omega
      · have hn0 : 0 ≤ n * U := Int.mul_nonneg (by omega) (Int.le_of_lt hU)
        have hn1 : n * U ≤ 25500 * U := Int.mul_le_mul_of_nonneg_right (by omega) (Int.le_of_lt hU)
        rw [show min (max n 0) 25500 = n by omega]
        constructor <;> omega
  obtain ⟨k, hk, nk⟩ := key
  refine ⟨?_, ?_, ?_⟩
  · rw [← hk]; exact test_b (by omega) (by omega) nk (Int.le_refl _)
  · exact cmp_le fin0 fc (by rw [v_0, vc]; omega)
  · exact cmp_le fc fin1 (by rw [v_1, vc]; omega)
theorem knob_v : ∀ k : Nat, k < 5 → val (ofInt (k : Int)) * 2 ^ 0 = (k : Int) * 2 ^ 1074 ∧ isFinite (ofInt (k : Int)) = true := by decide +kernel
theorem bound4 {k X B : Int} (hk : 0 ≤ k ∧ k < 5) (h : Ab X (B * U)) (hB : 0 ≤ B) : Ab (k * X) (4 * B * U) :=
  (h.mulP hk.1).mono (by rw [Int.mul_assoc]; exact Int.mul_le_mul_of_nonneg_right (by omega) (Int.mul_nonneg hB (Int.le_of_lt U_pos)))
/-- the three components again, near to what they should be -/
structure Back (LU W G C : Int) (x₁ x₂ x₃ : UInt64) : Prop where
  r : Nr 25500 (25500 * 2 ^ 44) x₁ (LU + W)
  g : Nr 25500 (25500 * 2 ^ 44) x₂ (LU + G)
  b : Nr 25500 (25500 * 2 ^ 44) x₃ (LU + C)
theorem back_of {LU W G C : Int} {y i q : UInt64} (hL : Ab LU (25500 * U)) (hI : Ab (74 * W - 27 * C) (12000000 * U)) (hQ : Ab (48 * W + 41 * C) (12000000 * U)) (hG : 59 * G = -30 * W - 11 * C)
    (hy : Nr 25500 (25500 * 2 ^ 33) y LU) (hi : Nr 2550000 (2550000 * 2 ^ 41) i (74 * W - 27 * C)) (hq : Nr 2550000 (2550000 * 2 ^ 41) q (48 * W + 41 * C)) : Back LU W G C (fR y i q) (fG y i q) (fB y i q) := by
  have a := hi.mul hI 31 52 4264378400050585 410 433 (D' := 1104150000) (g := 1104150000 * 2 ^ 42) (by decide +kernel) v_y1 (by decide) (by decide) (by decide) (by decide) (by decide +kernel) (by decide +kernel)
  have c := hq.mul hQ 31 52 2808249190277215 270 433 (D' := 1104150000) (g := 1104150000 * 2 ^ 42) (by decide +kernel) v_y2 (by decide) (by decide) (by decide) (by decide) (by decide +kernel) (by decide +kernel)
  have d := hi.mul hI 31 53 2475067082956189 7020 25547 (D' := 65144850000) (g := 65144850000 * 2 ^ 42) (by decide +kernel) v_y3 (by decide) (by decide) (by decide) (by decide) (by decide +kernel) (by decide +kernel)
  have e := hq.mul hQ 31 53 5725796214702067 16240 25547 (D' := 65144850000) (g := 65144850000 * 2 ^ 42) (by decide +kernel) v_y4 (by decide) (by decide) (by decide) (by decide) (by decide +kernel) (by decide +kernel)
  have m := hi.mul hI 31 51 2496221502468635 480 433 (D' := 1104150000) (g := 1104150000 * 2 ^ 42) (by decide +kernel) v_y5 (by decide) (by decide) (by decide) (by decide) (by decide +kernel) (by decide +kernel)
  have n := hq.mul hQ 31 52 7696682965944959 740 433 (D' := 1104150000) (g := 1104150000 * 2 ^ 42) (by decide +kernel) v_y6 (by decide) (by decide) (by decide) (by decide) (by decide +kernel) (by decide +kernel)
  have y' := hy.up 43300 (D' := 1104150000) (e' := 1104150000 * 2 ^ 33) (by decide) (by decide) (by decide) rfl
  have y'' := hy.up 2554700 (D' := 65144850000) (e' := 65144850000 * 2 ^ 33) (by decide) (by decide) (by decide) rfl
  have bL := hL.mulP (k := 43300) (by decide)
  have bL' := hL.mulP (k := 2554700) (by decide)
  have b1 := hI.mulP (k := 410) (by decide)
  have b2 := hQ.mulP (k := 270) (by decide)
  have b3 := hI.mulP (k := 7020) (by decide)
  have b4 := hQ.mulP (k := 16240) (by decide)
  have b5 := hI.mulP (k := 480) (by decide)
  have b6 := hQ.mulP (k := 740) (by decide)
  rw [← Int.mul_assoc] at bL bL' b1 b2 b3 b4 b5 b6
  have s1 := bL.add b1
  have s3 := bL'.sub b3
  have s5 := bL.sub b5
  rw [← Int.add_mul] at s1 s3 s5
  have r := (y'.add a (g := 1104150000 * 2 ^ 43) 31 bL b1 (by decide) (by decide) (by decide +kernel) (by decide +kernel)).add c (g := 1104150000 * 2 ^ 44) 31 s1 b2 (by decide) (by decide) (by decide +kernel) (by decide +kernel)
  have g := (y''.sub d (g := 65144850000 * 2 ^ 43) 31 bL' b3 (by decide) (by decide) (by decide +kernel) (by decide +kernel)).sub e (g := 65144850000 * 2 ^ 44) 31 s3 b4 (by decide) (by decide) (by decide +kernel) (by decide +kernel)
  have b := (y'.sub m (g := 1104150000 * 2 ^ 43) 31 bL b5 (by decide) (by decide) (by decide +kernel) (by decide +kernel)).add n (g := 1104150000 * 2 ^ 44) 31 s5 b6 (by decide) (by decide) (by decide +kernel) (by decide +kernel)
  clear a c d e m n y' y'' bL bL' b1 b2 b3 b4 b5 b6 s1 s3 s5 hy hi hq hL hI hQ
  exact ⟨r.down 43300 (by decide) (by decide) (by decide) (by omega), g.down 2554700 (by decide) (by decide) (by decide) (by omega), b.down 43300 (by decide) (by decide) (by decide) (by omega)⟩
theorem nr_knob {D e b : Int} {x : UInt64} {X : Int} (hx : Nr D e x X) (bX : Ab X (b * U)) (t : Nat) {k g : Int} (hk : 0 ≤ k ∧ k < 5) (kv : val (ofInt k) * 2 ^ 0 = k * 2 ^ 1074 ∧ isFinite (ofInt k) = true)
    (h0 : 0 ≤ 2 ^ 80 * b + e) (hD : 0 < D) (ht : t ≤ 900) (hb : 4 * (2 ^ 80 * b + e) ≤ D * (2 ^ 0 * 2 ^ (t + 53))) (he : 0 ≤ e) (hg : D * 2 ^ t + 4 * e ≤ g) : Nr D g (mul (ofInt k) x) (k * X) := by
  refine hx.mul bX t 0 k k 1 kv.2 kv.1 hD (by decide) ht (Int.mul_one D) ?_ ?_
  · refine Int.le_trans (Int.mul_le_mul_of_nonneg_right ?_ h0) hb
    omega
  · have e1 : (1 * k - 2 ^ 0 * k).natAbs = 0 := by omega
    have e2 : ((1 * k).natAbs : Int) * e ≤ 4 * e := Int.mul_le_mul_of_nonneg_right (by omega) he
    rw [e1, Int.mul_one, Int.pow_zero, Int.mul_one, Int.one_mul g]
    omega
theorem tube_facts {r g b knob : Int} {x y z : UInt64} (hr : 0 ≤ r ∧ r < 256) (hg : 0 ≤ g ∧ g < 256) (hb : 0 ≤ b ∧ b < 256) (hk : 0 ≤ knob ∧ knob < 5) (hx : Q255 r x) (hy : Q255 g y) (hz : Q255 b z) :
    YF r g b knob (fY x y z) (fI x y z) (fQ x y z) := by
  have bR := in255 hr
  have bG := in255 hg
  have bB := in255 hb
  have H := yiq_near bR bG bB (q255 hx hr) (q255 hy hg) (q255 hz hb)
  obtain ⟨ny, ni, nq⟩ := H
  have kv := knob_v knob.toNat (by omega)
  rw [show ((knob.toNat : Nat) : Int) = knob by omega] at kv
  have eL : (30 * r + 59 * g + 11 * b) * U = 30 * (r * U) + 59 * (g * U) + 11 * (b * U) := by grind
  have eX : (74 * (100 * r - (30 * r + 59 * g + 11 * b)) - 27 * (100 * b - (30 * r + 59 * g + 11 * b))) * U = 74 * (100 * (r * U) - (30 * (r * U) + 59 * (g * U) + 11 * (b * U))) - 27 * (100 * (b * U) - (30 * (r * U) + 59 * (g * U) + 11 * (b * U))) := by grind
  have eQ : (48 * (100 * r - (30 * r + 59 * g + 11 * b)) + 41 * (100 * b - (30 * r + 59 * g + 11 * b))) * U = 48 * (100 * (r * U) - (30 * (r * U) + 59 * (g * U) + 11 * (b * U))) + 41 * (100 * (b * U) - (30 * (r * U) + 59 * (g * U) + 11 * (b * U))) := by grind
  have e1 : (30 * r + 59 * g + 11 * b + knob * (100 * r - (30 * r + 59 * g + 11 * b))) * U = (30 * (r * U) + 59 * (g * U) + 11 * (b * U)) + knob * (100 * (r * U) - (30 * (r * U) + 59 * (g * U) + 11 * (b * U))) := by grind
  have e2 : (30 * r + 59 * g + 11 * b + knob * (100 * g - (30 * r + 59 * g + 11 * b))) * U = (30 * (r * U) + 59 * (g * U) + 11 * (b * U)) + knob * (100 * (g * U) - (30 * (r * U) + 59 * (g * U) + 11 * (b * U))) := by grind
  have e3 : (30 * r + 59 * g + 11 * b + knob * (100 * b - (30 * r + 59 * g + 11 * b))) * U = (30 * (r * U) + 59 * (g * U) + 11 * (b * U)) + knob * (100 * (b * U) - (30 * (r * U) + 59 * (g * U) + 11 * (b * U))) := by grind
  have py := test_b (n := 30 * r + 59 * g + 11 * b) (e := 25500 * 2 ^ 33) (by omega) (by omega) (by rw [eL]; exact ny) (by decide)
  have pi := test_c (n := 74 * (100 * r - (30 * r + 59 * g + 11 * b)) - 27 * (100 * b - (30 * r + 59 * g + 11 * b))) (by omega) (by omega) (by rw [eX]; exact ni)
  have pq := test_c (n := 48 * (100 * r - (30 * r + 59 * g + 11 * b)) + 41 * (100 * b - (30 * r + 59 * g + 11 * b))) (by omega) (by omega) (by rw [eQ]; exact nq)
  clear eL eX eQ hx hy hz
  have nL : Ab (30 * (r * U) + 59 * (g * U) + 11 * (b * U)) (25500 * U) := by unfold Ab; omega
  have nI : Ab (74 * (100 * (r * U) - (30 * (r * U) + 59 * (g * U) + 11 * (b * U))) - 27 * (100 * (b * U) - (30 * (r * U) + 59 * (g * U) + 11 * (b * U)))) (3000000 * U) := by unfold Ab; omega
  have nQ : Ab (48 * (100 * (r * U) - (30 * (r * U) + 59 * (g * U) + 11 * (b * U))) + 41 * (100 * (b * U) - (30 * (r * U) + 59 * (g * U) + 11 * (b * U)))) (3000000 * U) := by unfold Ab; omega
  have kI := nr_knob ni nI (g := 2550000 * 2 ^ 41) 31 hk kv (by decide +kernel) (by decide) (by decide) (by decide +kernel) (by decide) (by decide +kernel)
  have kQ := nr_knob nq nQ (g := 2550000 * 2 ^ 41) 31 hk kv (by decide +kernel) (by decide) (by decide) (by decide +kernel) (by decide) (by decide +kernel)
  have bI := bound4 hk nI (by decide)
  have bQ := bound4 hk nQ (by decide)
  generalize r * U = RU at *
  generalize g * U = GU at *
  generalize b * U = BU at *
  have eI : knob * (74 * (100 * RU - (30 * RU + 59 * GU + 11 * BU)) - 27 * (100 * BU - (30 * RU + 59 * GU + 11 * BU))) = 74 * (knob * (100 * RU - (30 * RU + 59 * GU + 11 * BU))) - 27 * (knob * (100 * BU - (30 * RU + 59 * GU + 11 * BU))) := by grind
  have eQ : knob * (48 * (100 * RU - (30 * RU + 59 * GU + 11 * BU)) + 41 * (100 * BU - (30 * RU + 59 * GU + 11 * BU))) = 48 * (knob * (100 * RU - (30 * RU + 59 * GU + 11 * BU))) + 41 * (knob * (100 * BU - (30 * RU + 59 * GU + 11 * BU))) := by grind
  have eG : 59 * (knob * (100 * GU - (30 * RU + 59 * GU + 11 * BU))) = -30 * (knob * (100 * RU - (30 * RU + 59 * GU + 11 * BU))) - 11 * (knob * (100 * BU - (30 * RU + 59 * GU + 11 * BU))) := by grind
  rw [eI] at kI bI
  rw [eQ] at kQ bQ
  have B := back_of nL (bI.scale (by decide)) (bQ.scale (by decide)) eG ny kI kQ
  exact ⟨py, pi, pq, ⟨pf_of (by rw [e1]; exact B.r), pf_of (by rw [e2]; exact B.g), pf_of (by rw [e3]; exact B.b)⟩⟩
end Mine
end
section
open PySem PySem.W PyProof.Rows
set_option maxRecDepth 100000
set_option maxHeartbeats 8000000
namespace Mine
/-- the knob's bounds, to be found by its name -/
structure KnobOk (n : Int) : Prop where
  ok : 0 ≤ n ∧ n < 5
section
variable {w : World} {mean : ExcName → Option Value} {mg mb : Str → Option Value} {news : List (Addr × Obj)}
    {dp un : Nat} {gd : Option (List Code)} {cn : Str} {cs : Scope} {a : Addr} {ccd : Value} {cl : List (Str × Addr)} {outer : List Env} {A₀ : Around} {base h₀ : Heap} {L : Addr} {m : Str → Option Value} {s : Shared} {Q E : Value → Shared → Prop}
theorem yiq_use {r g b knob : Int} {x y z : UInt64} {t u v : Tok} (hr : 0 ≤ r ∧ r < 256) (hg : 0 ≤ g ∧ g < 256) (hb : 0 ≤ b ∧ b < 256) (hk : KnobOk knob) (hx : Q255 r x) (hy : Q255 g y) (hz : Q255 b z)
    (B : Below A₀ base outer h₀) (F : Fr h₀ L s.heap m) (X : (hd.heap_39 w.params).In h₀) (N : News h₀ L s.heap news) (T : Top hd.view_39 (looseW hd.view_39 []) mean mg mb h₀) (hK : cs.kind = .function)
    (hd : dp + 1 < recursionLimit) (hu : un + 8 * 1 < cLine)
    (ret : ∀ (D : Addr) (t₁ t₂ t₃ : Tok) (h' : Heap) (tk' : Nat) (y i q : UInt64), YF r g b knob y i q → Fr h₀ L h' m → News h₀ L h' ((D, { cls := .type "tuple", data := .seq #[.float y t₁, .float i t₂, .float q t₃] }) :: news) → (∀ p ∈ news, p.1 < D) → Q (.ref D) { s with heap := h', toks := tk' }) :
    wpAny (model Challenge.rw_mj0070_01.row.prog w) (ktrTop dp un gd cn cs L a ccd cl outer) (call (.ref 21) [.float x t, .float y u, .float z v]) Q E s :=
  clT_use (yiq_c _ _ _ _ _ _ _ _ _ _ _) B F X N T hK hd hu fun D t₁ t₂ t₃ h' tk' F' N' l => ret D t₁ t₂ t₃ h' tk' _ _ _ (tube_facts hr hg hb hk.ok hx hy hz) F' N' l
theorem rgb_use {r g b knob : Int} {y i q : UInt64} {t u v : Tok} (hf : RF r g b knob y i q)
    (B : Below A₀ base outer h₀) (F : Fr h₀ L s.heap m) (X : (hd.heap_39 w.params).In h₀) (N : News h₀ L s.heap news) (T : Top hd.view_39 (looseW hd.view_39 []) mean mg mb h₀) (hK : cs.kind = .function)
    (hd : dp + 1 < recursionLimit) (hu : un + 8 * 1 < cLine)
    (ret : ∀ (D : Addr) (t₁ t₂ t₃ : Tok) (h' : Heap) (tk' : Nat) (x₁ x₂ x₃ : UInt64), PF x₁ (30 * r + 59 * g + 11 * b + knob * (100 * r - (30 * r + 59 * g + 11 * b))) → PF x₂ (30 * r + 59 * g + 11 * b + knob * (100 * g - (30 * r + 59 * g + 11 * b))) → PF x₃ (30 * r + 59 * g + 11 * b + knob * (100 * b - (30 * r + 59 * g + 11 * b))) → Fr h₀ L h' m → News h₀ L h' ((D, { cls := .type "tuple", data := .seq #[.float x₁ t₁, .float x₂ t₂, .float x₃ t₃] }) :: news) → (∀ p ∈ news, p.1 < D) → Q (.ref D) { s with heap := h', toks := tk' }) :
    wpAny (model Challenge.rw_mj0070_01.row.prog w) (ktrTop dp un gd cn cs L a ccd cl outer) (call (.ref 28) [.float y t, .float i u, .float q v]) Q E s :=
  clT_use (rgb_c _ _ _ _ _ _ _ _ _ _ _) B F X N T hK hd hu fun D t₁ t₂ t₃ h' tk' F' N' l => ret D t₁ t₂ t₃ h' tk' _ _ _ hf.pr hf.pg hf.pb F' N' l
end
theorem comp_endW {h₀ : Heap} {L I C D : Addr} {m : Str → Option Value} {s₁ : Shared} {oI oC oD : Obj} {S : List (Addr × Obj) → Prop} {rest : Value → List (Addr × Obj) → Prop} {y : Value} {h' : Heap} {tk : Nat} {news' : List (Addr × Obj)}
    (F : Fr h₀ L h' m) (N : News h₀ L h' ((I, oI) :: (C, oC) :: (D, oD) :: news')) (off : LCg.Off3 I C D news') (hS : S news') (r : rest y news') :
    LCg.CompEnd h₀ L m s₁ I oI C oC D oD S rest y { s₁ with heap := h', toks := tk } := LCg.CompEnd.intro F N news' (fun p hp => hp) off hS r
section
variable {prog : Program} {w : World} {A : Around} {E : Value → Shared → Prop} {s : Shared} {t u : Tok} {Q : Value → Shared → Prop}
theorem div_255 {n : Int} (h0 : 0 ≤ n ∧ n < 256) (h : ∀ x, Q255 n x → Q (.float x s.toks) { s with toks := s.toks + 1 }) : wpAny (model prog w) A (binaryOp .Div (.int n t) (.int 255 u)) Q E s :=
  AutoIntOps.truediv_2 (by decide) (Flt.quot_fits (by decide) (Nat.lt_of_lt_of_le (show n.natAbs < 2 ^ 8 by omega) (Nat.pow_le_pow_right (by decide) (by decide)))) (h _ ⟨rfl⟩)
theorem int_is {x : UInt64} {n : Int} (hi : IntIs x n) (h : Q (.int n s.toks) { s with toks := s.toks + 1 }) : wpAny (model prog w) A (call (.type "int") [.float x t]) Q E s := by
  obtain ⟨sg, m, e, hd, rfl⟩ := hi
  exact call_int_float hd h
theorem mul_knob {n : Int} {x : UInt64} (h0 : 0 ≤ n ∧ n < 5) (h : Q (.float (Float64.mul (Float64.ofInt n) x) s.toks) { s with toks := s.toks + 1 }) : wpAny (model prog w) A (binaryOp .Mult (.int n t) (.float x u)) Q E s :=
  mul_if_fits (Nat.lt_of_lt_of_le (show n.natAbs < 2 ^ 8 by omega) (Nat.pow_le_pow_right (by decide) (by decide))) h
theorem mul_big {n : Int} {x : UInt64} (h0 : 0 ≤ n ∧ n < 2 ^ 32) (h : Q (.float (Float64.mul x (Float64.ofInt n)) s.toks) { s with toks := s.toks + 1 }) : wpAny (model prog w) A (binaryOp .Mult (.float x t) (.int n u)) Q E s :=
  mul_fi_fits (Nat.lt_of_lt_of_le (show n.natAbs < 2 ^ 33 by omega) (Nat.pow_le_pow_right (by decide) (by decide))) h
theorem ne_same {n k : Int} (h0 : n = k) (h : Q (.bool false) s) : wpAny (model prog w) A (compareOp .NotEq (.int n t) (.int k u)) Q E s :=
  PyProof.Rows.ne_int (by rw [h0]; simpa using h)
theorem le_true {a b : UInt64} (h0 : (Float64.cmp a b == some .lt || Float64.cmp a b == some .eq) = true) (h : Q (.bool true) s) : wpAny (model prog w) A (compareOp .LtE (.float a t) (.float b u)) Q E s :=
  AutoFloatOps.le_0 (by rw [h0]; exact h)
theorem eq_known {a b : Addr} {vs us : List Value} {ns ms : List Int} (hl : s.heap.IsList a vs.toArray) (hi : IntsAre vs ns) (hl' : s.heap.IsList b us.toArray) (hi' : IntsAre us ms) (hu : A.units + 64 < cLine) (e : ns = ms) (h : Q (.bool true) s) : wpAny (model prog w) A (compareOp .Eq (.ref a) (.ref b)) Q E s :=
  eq_intsK hl hi hl' hi' hu (by rw [e, decide_eq_true rfl]; exact h)
theorem due_is (r g b knob : Int) : [1024 * min (max (30 * r + 59 * g + 11 * b + knob * (100 * r - (30 * r + 59 * g + 11 * b))) 0) 25500, 1024 * min (max (30 * r + 59 * g + 11 * b + knob * (100 * g - (30 * r + 59 * g + 11 * b))) 0) 25500, 1024 * min (max (30 * r + 59 * g + 11 * b + knob * (100 * b - (30 * r + 59 * g + 11 * b))) 0) 25500] =
    List.map (fun k' => 1024 * k') (List.map (fun k' => if 25500 < (if 0 > 30 * r + 59 * g + 11 * b + knob * (100 * k' - (30 * r + 59 * g + 11 * b)) then 0 else 30 * r + 59 * g + 11 * b + knob * (100 * k' - (30 * r + 59 * g + 11 * b))) then 25500 else if 0 > 30 * r + 59 * g + 11 * b + knob * (100 * k' - (30 * r + 59 * g + 11 * b)) then 0 else 30 * r + 59 * g + 11 * b + knob * (100 * k' - (30 * r + 59 * g + 11 * b))) [r, g, b]) := by
  have cl : ∀ n : Int, 1024 * min (max n 0) 25500 = 1024 * (if 25500 < (if 0 > n then 0 else n) then 25500 else if 0 > n then 0 else n) := by
    intro n
    split <;> split at * <;> omega
  simp only [List.map_cons, List.map_nil, cl]
end
local macro_rules | `(tactic| walk_at "binaryOp Div int int") => `(tactic| (k_here; k_dflt (refine' div_255 ?k1 ?_); (case k1 => assumption); intro x9 hx9; (try dsimp only)))
local macro_rules | `(tactic| walk_at "binaryOp Mult int float") => `(tactic| (k_here; k_dflt (refine' mul_knob ?k1 ?_); (case k1 => assumption); (try dsimp only)))
local macro_rules | `(tactic| walk_at "binaryOp Mult float int") => `(tactic| (k_here; k_dflt (refine' mul_big ?k1 ?_); (case k1 => decide); (try dsimp only)))
local macro_rules | `(tactic| walk_at "compareOp NotEq int int") => `(tactic| (k_here; refine' ne_same ?k1 ?_; (case k1 => omega); (try dsimp only)))
local macro_rules | `(tactic| walk_at "compareOp LtE float float") => `(tactic| (k_here; (first | refine le_true (PF.lo (by assumption)) ?_ | refine le_true (PF.hi (by assumption)) ?_); (try dsimp only)))
local macro_rules | `(tactic| walk_at "CompEnd") => `(tactic| (k_here; k_dflt (refine comp_endW (by assumption) (by assumption) (by ((try simp only [LCg.Off3, and_true]); assumption)) (by lcg_src) ?_)))
local macro_rules | `(tactic| walk_at "compareOp Eq ref ref") => `(tactic| (k_here; (with_reducible show wpAny _ _ (compareOp CmpOp.Eq (Value.ref _) (Value.ref _)) _ _ _); (with_unfolding_all refine' eq_known ?k1 ?k2 ?k3 ?k4 ?k5 ?k6 ?_; (case k1 => is_list); (case k3 => is_list); (case k2 => exact .cons _ _ (.cons _ _ (.cons _ _ .nil))); (case k4 => with_reducible assumption); (case k5 => ktr_units); (case k6 => with_reducible exact due_is _ _ _ _); k_whole)))
local macro_rules | `(tactic| lcg_src) => `(tactic| ((with_reducible refine TupAt.mk ?_); k_mem))
local macro_rules | `(tactic| walk_at "eval ListComp") => `(tactic| (k_here; lcg_look; lcg_calm; k_dflt (refine comp_tuple (F₀ := by k_asm) (by rfl) (by decide) (by rfl) (by decide) (by rfl) ?_); walk1; k_dflt (refine tupSrc (by rfl) (by k_asm) (by k_asm) (by k_mem) (by exact Nat.le_of_ble_eq_true rfl) ?_); intro g'; k_dflt lcg_lit))
local macro_rules | `(tactic| walk_at "call type:int") => `(tactic| (k_here; (with_reducible show wpAny _ _ (call (Value.type "int") [Value.float _ _]) _ _ _); (first | refine int_is (YF.py (by assumption)) ?_ | refine int_is (YF.pi (by assumption)) ?_ | refine int_is (YF.pq (by assumption)) ?_ | refine int_is (PF.int (by assumption)) ?_); (try dsimp only)))
local macro_rules | `(tactic| walk_at "call ref") => `(tactic| (k_here; (with_reducible show wpAny _ _ (call (Value.ref 21) _) _ _ _); k_dflt (refine' yiq_use ?p1 ?p2 ?p3 ?p4 ?p5 ?p6 ?p7 ?k1 ?k2 ?k3 ?k4 ?k5 ?kK ?kd ?ku ?_); (case p4 => assumption); (case p5 => assumption); (case p6 => assumption); (case p7 => assumption); (case p1 => assumption); (case p2 => assumption); (case p3 => assumption); (case k1 => k_asm); (case k2 => k_asm); (case k3 => k_asm); (case k4 => k_asm); (case k5 => k_asm); (case kK => first | exact rfl | assumption); (case kd => ktr_room); (case ku => ktr_units); intro D9 t9 t8 t7 h9 tk9 y9 i9 q9 hF9 F9 N9 l9; (try k_lt l9); (try dsimp only); (try k_fold)))
local macro_rules | `(tactic| walk_at "call ref") => `(tactic| (k_here; (with_reducible show wpAny _ _ (call (Value.ref 28) _) _ _ _); k_dflt (refine' rgb_use ?p1 ?k1 ?k2 ?k3 ?k4 ?k5 ?kK ?kd ?ku ?_); (case p1 => exact YF.back (by assumption)); (case k1 => k_asm); (case k2 => k_asm); (case k3 => k_asm); (case k4 => k_asm); (case k5 => k_asm); (case kK => first | exact rfl | assumption); (case kd => ktr_room); (case ku => ktr_units); intro D9 t9 t8 t7 h9 tk9 x9 x8 x7 hP9 hP8 hP7 F9 N9 l9; (try k_lt l9); (try dsimp only); (try k_fold)))
theorem news_pick {h₀ h : Heap} {L l : Addr} {o : Obj} {news : List (Addr × Obj)} (N : News h₀ L h news) (hm : (l, o) ∈ news) : News h₀ L h ([(l, o)] ++ news.filter fun p => decide (p.1 ≠ l)) := by
  intro p hp
  rcases List.mem_append.mp hp with hp | hp
  · rw [List.mem_singleton.mp hp]; exact N _ hm
  · exact N p (List.mem_filter.mp hp).1
theorem news_back {h₀ h h' : Heap} {L l : Addr} {o : Obj} {news : List (Addr × Obj)} (N₀ : News h₀ L h news) (hm : (l, o) ∈ news) (N₁ : News h₀ L h' [(l, o)]) (N₂ : News h₀ L h' (news.filter fun p => decide (p.1 ≠ l))) : News h₀ L h' news := by
  intro p hp
  by_cases e : p.1 = l
  · have h1 := (N₀ p hp).1
    have h2 := (N₀ _ hm).1
    rw [e] at h1
    have h3 : p = (l, o) := Prod.ext e (Option.some.inj (h1.symm.trans h2))
    rw [h3]
    exact N₁ _ (.head _)
  · exact N₂ p (List.mem_filter.mpr ⟨hp, by simpa using e⟩)
theorem tube_c (w : World) (mean mg mb) (news) (l : Addr) (q : Nat) (r g b knob : Int) (tr tg tb tk : Tok) (hr : 0 ≤ r ∧ r < 256) (hg : 0 ≤ g ∧ g < 256) (hb : 0 ≤ b ∧ b < 256) (hk : 0 ≤ knob ∧ knob < 5) (hm : (l, W.listOf #[.int r tr, .int g tg, .int b tb] q) ∈ news) :
    Cl 12 w mean mg mb 115 news [.ref l, .int knob tk] (fun t => .bool true) := by
  have hko : KnobOk knob := ⟨hk⟩
  w_top off; dsimp only [Cl]; k_fill; intros; rename_i hN hT hK hrm hun hret; refine wpAny_call ?_
  have hN2 := news_pick hN hm
  k_dflt ((refine' code_frzC ?k1 ?k2 ?k3 hN2 ?kh ?k5 ?kA ?kF ?kK ?k6 ?k7 ?k8 ?k9 ?kB ?kD ?_ ?c2 ?c3 ?c4; (case kA => exact rfl); (case kF => exact rfl); (case kK => assumption); (case k1 => k_asm); (case k2 => k_asm); (case k3 => k_asm); (case kh => exact fun p hp q hq => by rw [List.mem_singleton.mp hq]; simpa using (List.mem_filter.mp hp).2); (case k5 => k_asm); (case k6 => k_is); (case k7 => k_is); (case k8 => ktr_room); (case k9 => exact BindsTo.of_eq rfl); (case kB => exact rfl); (case kD => decide +kernel); (case c2 => exact rfl); (case c3 => exact rfl); (case c4 => exact rfl); k_whole; intro g' L' h' tk' cells' F' N' Y' B' X' T' l1; k_lt l1; k_cells Y'; (try simp only [List.cons_append, List.nil_append] at N'); (try dsimp only); (try k_lift B'); (try k_fold)))
  clear hN2
  k_steps
  refine hret 0 _ _ (by assumption) ?_
  rename News _ _ _ _ => hrest
  revert hrest
  rename News _ _ _ _ => hled
  intro hrest
  exact news_back hN hm (cb_drop hled (fun p hp => by (rw [List.mem_singleton.mp hp]; k_mem))) hrest
end Mine
end
section
open PySem PySem.W PyProof.Rows
set_option maxRecDepth 100000
set_option maxHeartbeats 8000000
namespace Mine
/-- the reader's state -/
structure St where
  cells : List (Str × List Int)
  colour : List Int
  row : List Int
  number : Int
  inside : Bool
def st0 : St := ⟨[], [255, 255, 255], [], 0, false⟩
abbrev alpha (c : Nat) : Prop := 65 ≤ c ∧ c ≤ 90 ∨ 97 ≤ c ∧ c ≤ 122
/-- the colour behind a letter: the row (all of it below 256), if it is an m and the row has three -/
def obey (c : Nat) (row colour : List Int) : List Int := if c = 109 ∧ row.length = 3 ∧ ∀ v ∈ row, v < 256 then row else colour
/-- one sign more -/
def step (s : St) (c : Nat) : St :=
  if s.inside = false then (if c = 27 then { s with inside := true, row := [], number := 0 } else { s with cells := s.cells ++ [(shownS c, s.colour)] })
  else if 48 ≤ c ∧ c ≤ 57 then { s with number := 10 * s.number + (c % 32 : Nat) - 16 }
  else if c = 59 then { s with row := s.row ++ [s.number], number := 0 }
  else if alpha c then { s with row := s.row ++ [s.number], colour := obey c (s.row ++ [s.number]) s.colour, inside := false }
  else s
def run (cs : List Nat) : St := cs.foldl step st0
theorem run_snoc (cs : List Nat) (c : Nat) : run (cs ++ [c]) = step (run cs) c := by unfold run; rw [List.foldl_append]; rfl
def cellD (p : Str × List Int) : Dat := .tuple [.str p.1, .list (p.2.map Dat.int)]
section
variable {prog : Program} {w : World} {A : Around} {E : Value → Shared → Prop} {s : Shared} {env : Env} {h₀ : Heap} {x : Str} {body : List Stmt} {Q : Flow → Shared → Prop}
theorem txt_loop {xt : Str} {tx : Tok} {m₀ : Str → Option Value} {news : List (Addr × Obj)} (J : Nat → (Str → Option Value) → List (Addr × Obj) → Prop)
    (hh : A.handled = none) (F : Fr h₀ env.locals s.heap m₀) (N : News h₀ env.locals s.heap news) (hj : J 0 m₀ news)
    (turn : ∀ i c t m₁ nx h tk own, xt.cps[i]? = some c → OwnOff own (nx.map (·.1)) → J i m₁ nx → Fr h₀ env.locals h (fun y => if y = x then some (.str ⟨#[c]⟩ t) else m₁ y) → News h₀ env.locals h (nx ++ own) →
      wpAny (model prog w) A (execs body env) (InvPostG h₀ env.locals (J (i + 1)) own { s with heap := h, toks := tk } Q) E { s with heap := h, toks := tk })
    (done : ∀ m₁ nx h tk, J xt.cps.size m₁ nx → Fr h₀ env.locals h m₁ → News h₀ env.locals h nx → Q .next { s with heap := h, toks := tk }) :
    wpAny (model prog w) A (pyIter (.str xt tx)) (fun it s₂ => LoopAtV prog w A h₀ env x body Q E it s₂) E s := by
  have hLI : env.locals ≠ s.heap.objs.size := Nat.ne_of_lt F.ns.lt
  have hnI : ∀ p ∈ news, p.1 ∉ [s.heap.objs.size] := fun p hp hI => absurd (Heap.lt_size (N p hp).1) ((List.mem_singleton.mp hI) ▸ Nat.lt_irrefl _)
  have hI0 : ∀ b ∈ [s.heap.objs.size], h₀.get? b = none := fun b hb => by rw [List.mem_singleton.mp hb]; exact next_is_new F
  have go : ∀ (o : Obj) (k : String), (∀ A' : Around, A'.handled = none → Walks prog w A' s.heap.objs.size [s.heap.objs.size] [s.heap.objs.size] xt.cps.size (SignAt xt) (fun i h => h.IsStrIter s.heap.objs.size k xt tx i)) → (s.heap.push o).IsStrIter s.heap.objs.size k xt tx 0 →
      LoopAtV prog w A h₀ env x body Q E (.ref s.heap.objs.size) { s with heap := s.heap.push o } := by
    intro o k W hst
    refine kdr_loop J (W A hh) (fun _ h => h) (fun _ h => h) (fun i h st b hb => ?_) (fun hm => hLI (List.mem_singleton.mp hm)) hI0 hnI hst (F.push _) (fun p hp => ⟨Heap.get?_push_of_some _ (N p hp).1, (N p hp).2⟩) hj ?_ ?_
    · obtain ⟨o, e, _⟩ := st
      rw [List.mem_singleton.mp hb]
      exact ⟨o, e⟩
    · rintro i v m₁ nx h tk own hi ⟨c, u, hc, rfl⟩ hoff hJ F₁ N₁
      exact turn i c u m₁ nx h tk own hc hoff hJ F₁ N₁
    · intro m₁ nx h tk hJ F₁ N₁
      exact done m₁ nx h tk hJ F₁ N₁
  cases ha : xt.cps.all (· < 128)
  · exact wpAny_pyIter_wide ha (go _ _ (fun A' hA => Walks.strWide hA _ xt tx) ⟨_, Heap.get?_push_size _ rfl, rfl, rfl⟩)
  · exact wpAny_pyIter_ascii ha (go _ _ (fun A' hA => Walks.strAscii hA _ xt tx) ⟨_, Heap.get?_push_size _ rfl, rfl, rfl⟩)
theorem fr_pairs {L : Addr} {h : Heap} {ps : List (Str × Value)} {m₁ : Str → Option Value} {v : Value} (h1 : ∀ p ∈ ps, m₁ p.1 = some p.2)
    (F : Fr h₀ L h (fun y => if y = x then some v else m₁ y)) : Fr h₀ L h (fun y => if y = x then some v else kstB m₁ ps y) := by
  have em : (fun y => if y = x then some v else kstB m₁ ps y) = fun y => if y = x then some v else m₁ y := by
    funext y
    by_cases hy : y = x
    · rw [if_pos hy, if_pos hy]
    · rw [if_neg hy, if_neg hy]
      exact kstB_eq h1 fun _ => rfl
  rw [em]
  exact F
theorem fr_pairsOut {L : Addr} {h : Heap} {ps : List (Str × Value)} {m₁ : Str → Option Value} (h1 : ∀ p ∈ ps, m₁ p.1 = some p.2) (F : Fr h₀ L h m₁) : Fr h₀ L h (kstB m₁ ps) := by
  have em : kstB m₁ ps = m₁ := by
    funext y
    exact kstB_eq h1 fun _ => rfl
  rw [em]
  exact F
end
end Mine
end
section
open PySem PySem.W PyProof.Rows
set_option maxRecDepth 100000
set_option maxHeartbeats 8000000
namespace Mine
local macro_rules | `(tactic| walk_at "mine prem") => `(tactic| (refine ⟨?_, ?_, ?_, ?_, ?_, ?_, ?_, ?_⟩; (· k_asm); (· k_asm); (· k_asm); (· k_asm); (· k_asm); (· first | exact rfl | assumption); (· ktr_room); (· ktr_units)))
local macro_rules | `(tactic| walk_at "mine pos") => `(tactic| first | assumption | omega | ((simp only [Int.toNat_zero, List.getD_cons_zero]); omega))
/-- what holds between two signs -/
def Inv (cs : List Nat) (i : Nat) (m : Str → Option Value) (nx : List (Addr × Obj)) : Prop :=
  ∃ (C : Addr) (n₁ : Nat) (vs : List Value) (a : Addr) (tn : Tok) (tl : List (Addr × Obj)),
    m (Str.ofString "cells") = some (.ref C) ∧ m (Str.ofString "colour") = some (.ref a) ∧ m (Str.ofString "number") = some (.int (run (cs.take i)).number tn) ∧ m (Str.ofString "inside") = some (.bool (run (cs.take i)).inside) ∧
    DatAll tl vs ((run (cs.take i)).cells.map cellD) ∧ DatIn tl (.ref a) (.list ((run (cs.take i)).colour.map Dat.int)) ∧ (∀ p ∈ tl, p.1 ≠ C) ∧ vs.length ≤ i ∧
    (((run (cs.take i)).inside = false ∧ nx = (C, listOf vs.toArray n₁) :: tl) ∨
     ((run (cs.take i)).inside = true ∧ ∃ (R : Addr) (rs : List Value) (n₂ : Nat), m (Str.ofString "row") = some (.ref R) ∧ C ≠ R ∧ (∀ p ∈ tl, p.1 ≠ R) ∧ IntsAre rs (run (cs.take i)).row ∧ nx = (C, listOf vs.toArray n₁) :: (R, listOf rs.toArray n₂) :: tl))
/-- as Cl, of a def that makes data -/
abbrev ClD (k : Nat) (w : World) (mean : ExcName → Option Value) (mg mb : Str → Option Value) (f : Addr) (news : List (Addr × Obj)) (args : List Value) (d : Dat) : Prop :=
  ∀ (dp un : Nat) (gd : Option (List Code)) (cn : Str) (cs : Scope) (a : Addr) (ccd : Value) (cl : List (Str × Addr)) (outer : List Env) (A₀ : Around) (base h₀ : Heap) (L : Addr) (m : Str → Option Value) (s : Shared) (Q E : Value → Shared → Prop),
    Below A₀ base outer h₀ → Fr h₀ L s.heap m → (hd.heap_39 w.params).In h₀ → News h₀ L s.heap news → Top hd.view_39 (looseW hd.view_39 []) mean mg mb h₀ → cs.kind = .function →
    dp + k < recursionLimit → un + 8 * k < cLine → (∀ (v : Value) (tl : List (Addr × Obj)) (h' : Heap) (tk' : Nat), Fr h₀ L h' m → News h₀ L h' (tl ++ news) → DatIn tl v d → Q v { s with heap := h', toks := tk' }) →
      wpAny (model Challenge.rw_mj0070_01.row.prog w) (ktrTop dp un gd cn cs L a ccd cl outer) (call (.ref f) args) Q E s
theorem clD_use {k : Nat} {w : World} {mean : ExcName → Option Value} {mg mb : Str → Option Value} {f : Addr} {news : List (Addr × Obj)} {args : List Value} {d : Dat}
    {dp un : Nat} {gd : Option (List Code)} {cn : Str} {cs : Scope} {a : Addr} {ccd : Value} {cl : List (Str × Addr)} {outer : List Env} {A₀ : Around} {base h₀ : Heap} {L : Addr} {m : Str → Option Value} {s : Shared} {Q E : Value → Shared → Prop}
    (C : ClD k w mean mg mb f news args d)
    (B : Below A₀ base outer h₀) (F : Fr h₀ L s.heap m) (X : (hd.heap_39 w.params).In h₀) (N : News h₀ L s.heap news) (T : Top hd.view_39 (looseW hd.view_39 []) mean mg mb h₀) (hk : cs.kind = .function)
    (hd : dp + k < recursionLimit) (hu : un + 8 * k < cLine)
    (ret : ∀ (v : Value) (tl : List (Addr × Obj)) (h' : Heap) (tk' : Nat), Fr h₀ L h' m → News h₀ L h' (tl ++ news) → DatIn tl v d → Q v { s with heap := h', toks := tk' }) :
    wpAny (model Challenge.rw_mj0070_01.row.prog w) (ktrTop dp un gd cn cs L a ccd cl outer) (call (.ref f) args) Q E s :=
  C dp un gd cn cs a ccd cl outer A₀ base h₀ L m s Q E B F X N T hk hd hu ret
section
variable {h₀ h' : Heap} {L : Addr} {cs : List Nat} {i : Nat} {own all : List (Addr × Obj)} {s₁ : Shared} {tk : Nat} {m' : Str → Option Value} {st : St} {C a R D : Addr} {n₁ n₂ : Nat} {vs rs : List Value} {tn : Tok} {tl : List (Addr × Obj)} {c : Nat}
theorem end_out (F : Fr h₀ L h' m') (N : News h₀ L h' all) (hst : run (cs.take (i + 1)) = st) (hin : st.inside = false)
    (mC : m' (Str.ofString "cells") = some (.ref C)) (mc : m' (Str.ofString "colour") = some (.ref a)) (mn : m' (Str.ofString "number") = some (.int st.number tn)) (mi : m' (Str.ofString "inside") = some (.bool false))
    (dv : DatAll tl vs (st.cells.map cellD)) (dc : DatIn tl (.ref a) (.list (st.colour.map Dat.int))) (oC : ∀ p ∈ tl, p.1 ≠ C) (hvl : vs.length ≤ i + 1)
    (ho : OwnOff own (((C, listOf vs.toArray n₁) :: tl).map (·.1))) (hs : ∀ p ∈ (C, listOf vs.toArray n₁) :: tl, p ∈ all) (hw : ∀ p ∈ own, p ∈ all) :
    InvEndG h₀ L (Inv cs (i + 1)) own s₁ { s₁ with heap := h', toks := tk } := by
  refine InvEndG.intro F N (nx := (C, listOf vs.toArray n₁) :: tl) ?_ ho hs hw
  unfold Inv
  rw [hst, hin]
  exact ⟨C, n₁, vs, a, tn, tl, mC, mc, mn, mi, dv, dc, oC, hvl, .inl ⟨rfl, rfl⟩⟩
theorem end_in (F : Fr h₀ L h' m') (N : News h₀ L h' all) (hst : run (cs.take (i + 1)) = st) (hin : st.inside = true)
    (mC : m' (Str.ofString "cells") = some (.ref C)) (mc : m' (Str.ofString "colour") = some (.ref a)) (mn : m' (Str.ofString "number") = some (.int st.number tn)) (mi : m' (Str.ofString "inside") = some (.bool true)) (mR : m' (Str.ofString "row") = some (.ref R))
    (dv : DatAll tl vs (st.cells.map cellD)) (dc : DatIn tl (.ref a) (.list (st.colour.map Dat.int))) (oC : ∀ p ∈ tl, p.1 ≠ C) (hvl : vs.length ≤ i + 1) (hCR : C ≠ R) (oR : ∀ p ∈ tl, p.1 ≠ R) (ir : IntsAre rs st.row)
    (ho : OwnOff own (((C, listOf vs.toArray n₁) :: (R, listOf rs.toArray n₂) :: tl).map (·.1))) (hs : ∀ p ∈ (C, listOf vs.toArray n₁) :: (R, listOf rs.toArray n₂) :: tl, p ∈ all) (hw : ∀ p ∈ own, p ∈ all) :
    InvEndG h₀ L (Inv cs (i + 1)) own s₁ { s₁ with heap := h', toks := tk } := by
  refine InvEndG.intro F N (nx := (C, listOf vs.toArray n₁) :: (R, listOf rs.toArray n₂) :: tl) ?_ ho hs hw
  unfold Inv
  rw [hst, hin]
  exact ⟨C, n₁, vs, a, tn, tl, mC, mc, mn, mi, dv, dc, oC, hvl, .inr ⟨rfl, R, rs, n₂, mR, hCR, oR, ir, rfl⟩⟩
theorem allLt_mem {d : Nat} : ∀ {l : List (Addr × Obj)}, AllLt d l → ∀ p ∈ l, p.1 < d
  | [], _, _, hp => nomatch hp
  | q :: r, h, p, hp => by
    rcases List.mem_cons.mp hp with rfl | hp
    · exact h.1
    · exact allLt_mem h.2 p hp
theorem off_cons {o o' : Obj} {x : Addr} {nx : List (Addr × Obj)} (ho : OwnOff own (nx.map (·.1))) (hx : ∀ p ∈ own, p.1 ≠ x) : OwnOff own (((x, o) :: nx).map (·.1)) := by
  intro p hp b hb
  rcases List.mem_cons.mp hb with rfl | hb
  · exact hx p hp
  · exact ho p hp b hb
theorem off_tl {x y : Addr × Obj} {nx : List (Addr × Obj)} (ho : OwnOff own ((x :: nx).map (·.1))) : OwnOff own (nx.map (·.1)) := fun p hp b hb => ho p hp b (.tail _ hb)
theorem ints_dat {news : List (Addr × Obj)} : ∀ {vs : List Value} {ns : List Int}, IntsAre vs ns → DatAll news vs (ns.map Dat.int)
  | _, _, .nil => .nil
  | _, _, .cons k t r => .cons (.int k t) (ints_dat r)
theorem ints_snoc {vs : List Value} {ns : List Int} (h : IntsAre vs ns) (k : Int) (t : Tok) : IntsAre (vs ++ [.int k t]) (ns ++ [k]) := by
  induction h with
  | nil => exact .cons k t .nil
  | cons j u r ih => exact .cons j u ih
/-- ESC -/
theorem p_esc (F : Fr h₀ L h' m') (N : News h₀ L h' ((R, listOf #[] 0) :: (C, listOf vs.toArray n₁) :: (tl ++ own))) (l1 : C < R ∧ AllLt R (tl ++ own)) (hst : run (cs.take (i + 1)) = step st c) (hin : st.inside = false) (hc : (c : Int) = 27)
    (mC : m' (Str.ofString "cells") = some (.ref C)) (mc : m' (Str.ofString "colour") = some (.ref a)) (mn : m' (Str.ofString "number") = some (.int 0 tn)) (mi : m' (Str.ofString "inside") = some (.bool true)) (mR : m' (Str.ofString "row") = some (.ref R))
    (dv : DatAll tl vs (st.cells.map cellD)) (dc : DatIn tl (.ref a) (.list (st.colour.map Dat.int))) (oC : ∀ p ∈ tl, p.1 ≠ C) (hvl : vs.length ≤ i) (ho : OwnOff own (((C, listOf vs.toArray n₁) :: tl).map (·.1))) :
    InvEndG h₀ L (Inv cs (i + 1)) own s₁ { s₁ with heap := h', toks := tk } := by
  have hs : step st c = { st with inside := true, row := [], number := 0 } := by unfold step; rw [hin, if_pos rfl, if_pos (by omega)]
  rw [hs] at hst
  have lt := allLt_mem l1.2
  refine end_in (R := R) (rs := []) (n₂ := 0) (C := C) (a := a) (n₁ := n₁) (vs := vs) (tl := tl) F N hst rfl mC mc mn mi mR dv dc oC (by omega) (Nat.ne_of_lt l1.1) (fun p hp => Nat.ne_of_lt (lt p (List.mem_append.mpr (.inl hp)))) .nil ?_ ?_ ?_
  · refine off_cons (o := listOf vs.toArray n₁) (o' := listOf vs.toArray n₁) (off_cons (o := listOf #[] 0) (o' := listOf #[] 0) (off_tl (y := (C, listOf vs.toArray n₁)) ho) fun p hp => Nat.ne_of_lt (lt p (List.mem_append.mpr (.inr hp)))) fun p hp => ho p hp C (.head _)
  · intro p hp
    rcases List.mem_cons.mp hp with rfl | hp
    · exact .tail _ (.head _)
    · rcases List.mem_cons.mp hp with rfl | hp
      · exact .head _
      · exact .tail _ (.tail _ (List.mem_append.mpr (.inl hp)))
  · exact fun p hp => .tail _ (.tail _ (List.mem_append.mpr (.inr hp)))
/-- a sign that is shown -/
theorem p_sign {t9 : Tok} (F : Fr h₀ L h' m') (N : News h₀ L h' ((D, { cls := .type "tuple", data := .seq #[.str (shownS c) t9, .ref a] }) :: (C, listOf (vs.toArray.push (.ref D)) (n₁ + 1)) :: (tl ++ own))) (l1 : C < D ∧ AllLt D (tl ++ own)) (hst : run (cs.take (i + 1)) = step st c) (hin : st.inside = false) (hc : (c : Int) ≠ 27)
    (mC : m' (Str.ofString "cells") = some (.ref C)) (mc : m' (Str.ofString "colour") = some (.ref a)) (mn : m' (Str.ofString "number") = some (.int st.number tn)) (mi : m' (Str.ofString "inside") = some (.bool false))
    (dv : DatAll tl vs (st.cells.map cellD)) (dc : DatIn tl (.ref a) (.list (st.colour.map Dat.int))) (oC : ∀ p ∈ tl, p.1 ≠ C) (hvl : vs.length ≤ i) (ho : OwnOff own (((C, listOf vs.toArray n₁) :: tl).map (·.1))) :
    InvEndG h₀ L (Inv cs (i + 1)) own s₁ { s₁ with heap := h', toks := tk } := by
  have hs : step st c = { st with cells := st.cells ++ [(shownS c, st.colour)] } := by unfold step; rw [hin, if_pos rfl, if_neg (by omega)]
  rw [hs] at hst
  have lt := allLt_mem l1.2
  rw [show vs.toArray.push (Value.ref D) = (vs ++ [Value.ref D]).toArray by simp] at N
  have up : ∀ p ∈ tl, p ∈ (D, ({ cls := .type "tuple", data := .seq #[.str (shownS c) t9, .ref a] } : Obj)) :: tl := fun p hp => .tail _ hp
  have dt : DatIn ((D, ({ cls := .type "tuple", data := .seq #[.str (shownS c) t9, .ref a] } : Obj)) :: tl) (.ref D) (cellD (shownS c, st.colour)) := DatIn.tuple (vs := [.str (shownS c) t9, .ref a]) (.head _) (.cons (.str _ _) (.cons (dc.mono up) .nil))
  refine end_out (C := C) (a := a) (n₁ := n₁ + 1) (vs := vs ++ [.ref D]) (tl := (D, { cls := .type "tuple", data := .seq #[.str (shownS c) t9, .ref a] }) :: tl) F N hst hin mC mc mn mi ?_ (dc.mono up) ?_ (by rw [List.length_append, List.length_singleton]; omega) ?_ ?_ ?_
  · show DatAll _ _ (List.map cellD (st.cells ++ [(shownS c, st.colour)]))
    rw [List.map_append]
    exact (dv.mono up).append (DatAll.one dt)
  · intro p hp
    rcases List.mem_cons.mp hp with rfl | hp
    · exact Nat.ne_of_gt l1.1
    · exact oC p hp
  · refine off_cons (o := listOf #[] 0) (o' := listOf #[] 0) (off_cons (o := listOf #[] 0) (o' := listOf #[] 0) (off_tl (y := (C, listOf vs.toArray n₁)) ho) fun p hp => Nat.ne_of_lt (lt p (List.mem_append.mpr (.inr hp)))) fun p hp => ho p hp C (.head _)
  · intro p hp
    rcases List.mem_cons.mp hp with rfl | hp
    · exact .tail _ (.head _)
    · rcases List.mem_cons.mp hp with rfl | hp
      · exact .head _
      · exact .tail _ (.tail _ (List.mem_append.mpr (.inl hp)))
  · exact fun p hp => .tail _ (.tail _ (List.mem_append.mpr (.inr hp)))
/-- inside, the row as it was or longer -/
theorem p_in {st' : St} (F : Fr h₀ L h' m') (N : News h₀ L h' ((C, listOf vs.toArray n₁) :: (R, listOf rs.toArray n₂) :: (tl ++ own))) (hst : run (cs.take (i + 1)) = st') (hin : st'.inside = true) (hce : st'.cells = st.cells) (hco : st'.colour = st.colour)
    (mC : m' (Str.ofString "cells") = some (.ref C)) (mc : m' (Str.ofString "colour") = some (.ref a)) (mn : m' (Str.ofString "number") = some (.int st'.number tn)) (mi : m' (Str.ofString "inside") = some (.bool true)) (mR : m' (Str.ofString "row") = some (.ref R))
    (dv : DatAll tl vs (st.cells.map cellD)) (dc : DatIn tl (.ref a) (.list (st.colour.map Dat.int))) (oC : ∀ p ∈ tl, p.1 ≠ C) (hvl : vs.length ≤ i) (hCR : C ≠ R) (oR : ∀ p ∈ tl, p.1 ≠ R) (ir : IntsAre rs st'.row) {o : Obj} (ho : OwnOff own (((C, listOf vs.toArray n₁) :: (R, o) :: tl).map (·.1))) :
    InvEndG h₀ L (Inv cs (i + 1)) own s₁ { s₁ with heap := h', toks := tk } := by
  refine end_in (R := R) (rs := rs) (n₂ := n₂) (C := C) (a := a) (n₁ := n₁) (vs := vs) (tl := tl) F N hst hin mC mc mn mi mR (by rw [hce]; exact dv) (by rw [hco]; exact dc) oC (by omega) hCR oR ir ho ?_ ?_
  · intro p hp
    rcases List.mem_cons.mp hp with rfl | hp
    · exact .head _
    · rcases List.mem_cons.mp hp with rfl | hp
      · exact .tail _ (.head _)
      · exact .tail _ (.tail _ (List.mem_append.mpr (.inl hp)))
  · exact fun p hp => .tail _ (.tail _ (List.mem_append.mpr (.inr hp)))
/-- a letter; the colour stays -/
theorem p_stay {st' : St} {o o' : Obj} (F : Fr h₀ L h' m') (N : News h₀ L h' ((C, listOf vs.toArray n₁) :: (R, o) :: (tl ++ own))) (hst : run (cs.take (i + 1)) = st') (hin : st'.inside = false) (hce : st'.cells = st.cells) (hco : st'.colour = st.colour)
    (mC : m' (Str.ofString "cells") = some (.ref C)) (mc : m' (Str.ofString "colour") = some (.ref a)) (mn : m' (Str.ofString "number") = some (.int st'.number tn)) (mi : m' (Str.ofString "inside") = some (.bool false))
    (dv : DatAll tl vs (st.cells.map cellD)) (dc : DatIn tl (.ref a) (.list (st.colour.map Dat.int))) (oC : ∀ p ∈ tl, p.1 ≠ C) (hvl : vs.length ≤ i) (ho : OwnOff own (((C, listOf vs.toArray n₁) :: (R, o') :: tl).map (·.1))) :
    InvEndG h₀ L (Inv cs (i + 1)) own s₁ { s₁ with heap := h', toks := tk } := by
  refine end_out (C := C) (a := a) (n₁ := n₁) (vs := vs) (tl := tl) F N hst hin mC mc mn mi (by rw [hce]; exact dv) (by rw [hco]; exact dc) oC (by omega) ?_ ?_ ?_
  · exact off_cons (o := o) (o' := o) (fun p hp b hb => ho p hp b (.tail _ (.tail _ hb))) fun p hp => ho p hp C (.head _)
  · intro p hp
    rcases List.mem_cons.mp hp with rfl | hp
    · exact .head _
    · exact .tail _ (.tail _ (List.mem_append.mpr (.inl hp)))
  · exact fun p hp => .tail _ (.tail _ (List.mem_append.mpr (.inr hp)))
/-- a letter; the row is the colour -/
theorem p_turn {st' : St} {o' : Obj} (F : Fr h₀ L h' m') (N : News h₀ L h' ((C, listOf vs.toArray n₁) :: (R, listOf rs.toArray n₂) :: (tl ++ own))) (hst : run (cs.take (i + 1)) = st') (hin : st'.inside = false) (hce : st'.cells = st.cells) (ir : IntsAre rs st'.colour)
    (mC : m' (Str.ofString "cells") = some (.ref C)) (mc : m' (Str.ofString "colour") = some (.ref R)) (mn : m' (Str.ofString "number") = some (.int st'.number tn)) (mi : m' (Str.ofString "inside") = some (.bool false))
    (dv : DatAll tl vs (st.cells.map cellD)) (oC : ∀ p ∈ tl, p.1 ≠ C) (hvl : vs.length ≤ i) (hCR : C ≠ R) (ho : OwnOff own (((C, listOf vs.toArray n₁) :: (R, o') :: tl).map (·.1))) :
    InvEndG h₀ L (Inv cs (i + 1)) own s₁ { s₁ with heap := h', toks := tk } := by
  refine end_out (C := C) (a := R) (n₁ := n₁) (vs := vs) (tl := (R, listOf rs.toArray n₂) :: tl) F N hst hin mC mc mn mi (by rw [hce]; exact dv.mono fun p hp => .tail _ hp) (DatIn.list (.head _) (ints_dat ir)) ?_ (by omega) ?_ ?_ ?_
  · intro p hp
    rcases List.mem_cons.mp hp with rfl | hp
    · exact fun e => hCR e.symm
    · exact oC p hp
  · exact ho
  · intro p hp
    rcases List.mem_cons.mp hp with rfl | hp
    · exact .head _
    · rcases List.mem_cons.mp hp with rfl | hp
      · exact .tail _ (.head _)
      · exact .tail _ (.tail _ (List.mem_append.mpr (.inl hp)))
  · exact fun p hp => .tail _ (.tail _ (List.mem_append.mpr (.inr hp)))
end
theorem news_ck {h₀ h : Heap} {L : Addr} {p q r : Addr × Obj} (N : News h₀ L h [p, q, r]) : News h₀ L h [r, q] := by
  intro x hx
  rcases List.mem_cons.mp hx with rfl | hx
  · exact N _ (.tail _ (.tail _ (.head _)))
  · rw [List.mem_singleton.mp hx]; exact N _ (.tail _ (.head _))
theorem obey_no {c : Nat} {row colour : List Int} (h : ¬(c = 109 ∧ row.length = 3 ∧ ∀ v ∈ row, v < 256)) : obey c row colour = colour := by unfold obey; rw [if_neg h]
theorem obey_yes {c : Nat} {row colour : List Int} (h : c = 109 ∧ row.length = 3 ∧ ∀ v ∈ row, v < 256) : obey c row colour = row := by unfold obey; rw [if_pos h]
theorem str_is {c d : Nat} {x : Str} (hx : x = ⟨#[d]⟩) : (({ cps := #[c] } : Str) == x) = decide (c = d) := by
  subst hx
  by_cases h : c = d
  · subst h; simp
  · rw [decide_eq_false h]
    apply Bool.eq_false_iff.mpr
    intro e
    have := eq_of_beq e
    injection this with this
    simp at this
    exact h this
theorem t59 : Str.ofString ";" = ⟨#[59]⟩ := by decide +kernel
theorem t109 : Str.ofString "m" = ⟨#[109]⟩ := by decide +kernel
theorem is59 {c : Nat} {b : Bool} (h : (({ cps := #[c] } : Str) == Str.ofString ";") = b) : b = decide (c = 59) := by rw [str_is t59] at h; exact h.symm
theorem is109 {c : Nat} {b : Bool} (h : (({ cps := #[c] } : Str) == Str.ofString "m") = b) : b = decide (c = 109) := by rw [str_is t109] at h; exact h.symm
section
variable {s : St} {c : Nat}
theorem st_digit (hi : s.inside = true) (h : 48 ≤ c ∧ c ≤ 57) : step s c = { s with number := 10 * s.number + (c % 32 : Nat) - 16 } := by unfold step; rw [hi, if_neg (by decide), if_pos h]
theorem st_semi (hi : s.inside = true) (h : ¬(48 ≤ c ∧ c ≤ 57)) (h2 : c = 59) : step s c = { s with row := s.row ++ [s.number], number := 0 } := by unfold step; rw [hi, if_neg (by decide), if_neg h, if_pos h2]
theorem st_alpha (hi : s.inside = true) (h : ¬(48 ≤ c ∧ c ≤ 57)) (h2 : c ≠ 59) (h3 : 65 ≤ c ∧ c ≤ 90 ∨ 97 ≤ c ∧ c ≤ 122) : step s c = { s with row := s.row ++ [s.number], colour := obey c (s.row ++ [s.number]) s.colour, inside := false } := by
  unfold step; rw [hi, if_neg (by decide), if_neg h, if_neg h2, if_pos (show alpha c from h3)]
theorem st_none (hi : s.inside = true) (h : ¬(48 ≤ c ∧ c ≤ 57)) (h2 : c ≠ 59) (h3 : ¬(65 ≤ c ∧ c ≤ 90 ∨ 97 ≤ c ∧ c ≤ 122)) : step s c = s := by
  unfold step; rw [hi, if_neg (by decide), if_neg h, if_neg h2, if_neg (show ¬ alpha c from h3)]
end
local macro_rules | `(tactic| walk_at "mine none") => `(tactic| fail)
local macro_rules | `(tactic| walk_at "mine none2") => `(tactic| fail)
local macro_rules | `(tactic| walk_at "exec For Name Name cons nil") => `(tactic| (k_here; (rename Fr _ _ _ _ => lF'); (with_unfolding_all refine' For_invVF lF' ?k1 ?k2 ?_; (case k1 => exact rfl); (case k2 => exact rfl); k_whole)))
local macro_rules | `(tactic| walk_at "call ref") => `(tactic| (k_here; (with_reducible show wpAny _ _ (call (Value.ref 35) _) _ _ _); k_dflt (first | (refine' cl_use2 (ctoi_c _ _ _ _ _ _ _ ?kp0) ?kH ?_; (case kp0 => walk_at "mine pos")) | (refine' cl_use2 (ctoi_i _ _ _ _ _ _ _) ?kH ?_)); (case kH => walk_at "mine prem"); intro t9 h9 tk9 F9 N9; (try dsimp only); (try k_fold)))
local macro_rules | `(tactic| walk_at "call ref") => `(tactic| (k_here; (with_reducible show wpAny _ _ (call (Value.ref 84) _) _ _ _); k_dflt (first | (refine' cl_use2 (unctrl_c _ _ _ _ _ _ _ ?kp0) ?kH ?_; (case kp0 => walk_at "mine pos"))); (case kH => walk_at "mine prem"); intro t9 h9 tk9 F9 N9; (try dsimp only); (try k_fold)))
local macro_rules | `(tactic| walk_at "call ref") => `(tactic| (k_here; (with_reducible show wpAny _ _ (call (Value.ref 49) _) _ _ _); k_dflt (first | (refine' cl_use2 (isdigit_c _ _ _ _ _ _ _ ?kp0) ?kH ?_; (case kp0 => walk_at "mine pos"))); (case kH => walk_at "mine prem"); intro t9 h9 tk9 F9 N9; (try dsimp only); (try k_fold)))
local macro_rules | `(tactic| walk_at "call ref") => `(tactic| (k_here; (with_reducible show wpAny _ _ (call (Value.ref 42) _) _ _ _); k_dflt (first | (refine' cl_use2 (isalpha_c _ _ _ _ _ _ _ ?kp0) ?kH ?_; (case kp0 => walk_at "mine pos"))); (case kH => walk_at "mine prem"); intro t9 h9 tk9 F9 N9; (try dsimp only); (try k_fold)))
local macro_rules | `(tactic| walk_at "call ref") => `(tactic| (k_here; (with_reducible show wpAny _ _ (call (Value.ref 77) _) _ _ _); k_dflt (first | (refine' cl_use2 (ctrl_c _ _ _ _ _ _ _ ?kp0) ?kH ?_; (case kp0 => walk_at "mine pos"))); (case kH => walk_at "mine prem"); intro t9 h9 tk9 F9 N9; (try dsimp only); (try k_fold)))
local macro_rules | `(tactic| k_all) => `(tactic| assumption)
theorem cells_c (w : World) (mean mg mb) (news) (x : Str) (t : Tok) (cs : List Nat) (hx : x.cps.toList = cs) (hc : ∀ c ∈ cs, c < 55296) (hl : cs.length ≤ 400) (hok : ∀ i, 0 ≤ (run (cs.take i)).number ∧ (run (cs.take i)).number < 1000 ∧ (run (cs.take i)).row.length ≤ 4) :
    ClD 12 w mean mg mb 110 news [.str x t] (.list ((run cs).cells.map cellD)) := by
  w_top off; dsimp only [ClD]; k_fill; intros; rename_i hN hT hK hrm hun hret; refine wpAny_call ?_
  have hN2 : News _ _ _ ([] ++ news) := hN
  k_dflt ((refine' code_frz ?k1 ?k2 ?k3 hN2 ?kh ?k5 ?kA ?kF ?kK ?k6 ?k7 ?k8 ?k9 ?kB ?_ ?c2 ?c3 ?c4 ?c5; (case kA => exact rfl); (case kF => exact rfl); (case kK => assumption); (case k1 => k_asm); (case k2 => k_asm); (case k3 => k_asm); (case kh => exact fun _ _ _ hq => nomatch hq); (case k5 => k_asm); (case k6 => k_is); (case k7 => k_is); (case k8 => ktr_room); (case k9 => exact BindsTo.of_eq rfl); (case c5 => decide); (case kB => exact locs rfl); (case c2 => exact rfl); (case c3 => exact rfl); (case c4 => exact rfl); k_whole; intro g' L' h' F' N' B' X' T' l1; clear l1; (try dsimp only); (try k_lift B'); (try k_fold)))
  clear hN2
  k_steps
  rename Fr _ _ _ _ => lF'
  rename News _ _ _ _ => lN'
  with_unfolding_all refine' txt_loop (Inv cs) ?kh lF' (news_ck lN') ?kj ?_ ?_
  case kh => rfl
  case kj =>
    refine ⟨_, 0, [], _, _, _, rfl, rfl, rfl, rfl, .nil, DatIn.list (.head _) (ints_dat (.cons _ _ (.cons _ _ (.cons _ _ .nil)))), ?_, Nat.zero_le _, .inl ⟨rfl, rfl⟩⟩
    intro p hp
    rw [List.mem_singleton.mp hp]
    exact Nat.ne_of_gt (by assumption)
  · clear lF' lN'
    intro i c u m₁ nx h tk own hci hoff hJ F₁ N₁
    have hcc : c < 55296 := hc c (by rw [← hx]; exact List.mem_of_getElem? (by simpa using hci))
    have hstep : run (cs.take (i + 1)) = step (run (cs.take i)) c := by
      rw [← run_snoc]; congr 1
      have : cs[i]? = some c := by rw [← hx]; simpa using hci
      simp [List.take_add_one, this]
    have hil : i < cs.length := by
      rw [← hx]; have := (Array.getElem?_eq_some_iff.mp hci).1; simpa using this
    obtain ⟨C, n₁, vs, a, tn, tl, mC, mc, mn, mi, dv, dc, oC, hvl, hin⟩ := hJ
    obtain ⟨n0, n1, r4⟩ := hok i
    generalize hst : run (cs.take i) = st at *
    rcases hin with ⟨hin, rfl⟩ | ⟨hin, R, rs, n₂, mR, hCR, oR, ir, rfl⟩
    · rw [hin] at mi
      have F₂ := fr_pairs (ps := [(Str.ofString "cells", .ref C), (Str.ofString "colour", .ref a), (Str.ofString "number", .int st.number tn), (Str.ofString "inside", .bool false)]) (by simp only [List.forall_mem_cons]; exact ⟨mC, mc, mn, mi, fun _ h => nomatch h⟩) F₁
      clear F₁
      have oCo : ∀ p ∈ tl ++ own, p.1 ≠ C := by
        intro p hp
        rcases List.mem_append.mp hp with hp | hp
        · exact oC p hp
        · exact hoff p hp C (.head _)
      have N₂ : News _ _ h ((C, listOf vs.toArray n₁) :: (tl ++ own)) := N₁
      clear N₁
      generalize htw : tl ++ own = tw at N₂ oCo
      k_steps
      all_goals subst htw
      · exact p_esc (by assumption) (by assumption) (by assumption) hstep hin (by assumption) rfl rfl rfl rfl rfl dv dc oC hvl hoff
      · exact p_sign (by assumption) (by assumption) (by assumption) hstep hin (by assumption) rfl rfl rfl rfl dv dc oC hvl hoff
    · rw [hin] at mi
      have F₂ := fr_pairs (ps := [(Str.ofString "cells", .ref C), (Str.ofString "colour", .ref a), (Str.ofString "number", .int st.number tn), (Str.ofString "inside", .bool true), (Str.ofString "row", .ref R)]) (by simp only [List.forall_mem_cons]; exact ⟨mC, mc, mn, mi, mR, fun _ h => nomatch h⟩) F₁
      clear F₁
      have oCo : ∀ p ∈ tl ++ own, p.1 ≠ C := by
        intro p hp
        rcases List.mem_append.mp hp with hp | hp
        · exact oC p hp
        · exact hoff p hp C (.head _)
      have oRo : ∀ p ∈ tl ++ own, p.1 ≠ R := by
        intro p hp
        rcases List.mem_append.mp hp with hp | hp
        · exact oR p hp
        · exact hoff p hp R (.tail _ (.head _))
      have N₂ : News _ _ h ((C, listOf vs.toArray n₁) :: (R, listOf rs.toArray n₂) :: (tl ++ own)) := N₁
      clear N₁
      have hrl : rs.length ≤ 4 := by rw [ir.length]; exact r4
      generalize htw : tl ++ own = tw at N₂ oCo oRo
      k_steps
      all_goals subst htw
      · exact p_in (by assumption) (by assumption) (hstep.trans (st_digit hin (by assumption))) hin rfl rfl rfl rfl rfl rfl rfl dv dc oC hvl hCR oR ir hoff
      · rename News _ _ _ _ => hLed
        rw [List.push_toArray] at hLed
        have h59 := is59 (by assumption)
        exact p_in (by assumption) hLed (hstep.trans (st_semi hin (by assumption) (of_decide_eq_true h59.symm))) hin rfl rfl rfl rfl rfl rfl rfl dv dc oC hvl hCR oR (ints_snoc ir _ _) hoff
      · rename News _ _ _ _ => hLed
        have h59 := is59 (by assumption)
        have h109 := is109 (by assumption)
        have hob : obey c (st.row ++ [st.number]) st.colour = st.row ++ [st.number] := obey_yes ⟨of_decide_eq_true h109.symm, by rw [List.length_append, List.length_singleton]; omega, fun v hv => Int.lt_of_le_of_lt ((by assumption : ∀ a ∈ st.row ++ [st.number], a ≤ _) v hv) (by assumption)⟩
        exact p_turn (by assumption) hLed (hstep.trans (st_alpha hin (by assumption) (of_decide_eq_false h59.symm) (by assumption))) rfl rfl (by show IntsAre _ (obey c (st.row ++ [st.number]) st.colour); rw [hob]; exact ints_snoc ir _ _) rfl rfl rfl rfl dv oC hvl hCR hoff
      · rename News _ _ _ _ => hLed
        have h59 := is59 (by assumption)
        have hob : obey c (st.row ++ [st.number]) st.colour = st.colour := obey_no fun ⟨_, _, h⟩ => absurd (h _ (by assumption)) (by assumption)
        exact p_stay (st := st) (by assumption) hLed (hstep.trans (st_alpha hin (by assumption) (of_decide_eq_false h59.symm) (by assumption))) rfl rfl hob rfl rfl rfl rfl dv dc oC hvl hoff
      · rename News _ _ _ _ => hLed
        have h59 := is59 (by assumption)
        have hob : obey c (st.row ++ [st.number]) st.colour = st.colour := obey_no fun ⟨_, h, _⟩ => by rw [List.length_append, List.length_singleton] at h; omega
        exact p_stay (st := st) (by assumption) hLed (hstep.trans (st_alpha hin (by assumption) (of_decide_eq_false h59.symm) (by assumption))) rfl rfl hob rfl rfl rfl rfl dv dc oC hvl hoff
      · rename News _ _ _ _ => hLed
        have h59 := is59 (by assumption)
        have h109 := is109 (by assumption)
        have hob : obey c (st.row ++ [st.number]) st.colour = st.colour := obey_no fun ⟨h, _, _⟩ => of_decide_eq_false h109.symm h
        exact p_stay (st := st) (by assumption) hLed (hstep.trans (st_alpha hin (by assumption) (of_decide_eq_false h59.symm) (by assumption))) rfl rfl hob rfl rfl rfl rfl dv dc oC hvl hoff
      · have h59 := is59 (by assumption)
        exact p_in (by assumption) (by assumption) (hstep.trans (st_none hin (by assumption) (of_decide_eq_false h59.symm) (by assumption))) hin rfl rfl rfl rfl rfl rfl rfl dv dc oC hvl hCR oR ir hoff
  · clear lF' lN'
    intro m₁ nx h tk hJ F₁ N₁
    have hsz : x.cps.size = cs.length := by rw [← hx]; exact (Array.length_toList).symm
    have hcs : cs.take x.cps.size = cs := by rw [hsz, List.take_length]
    have hd : ∃ C, m₁ (Str.ofString "cells") = some (.ref C) ∧ DatIn nx (.ref C) (.list ((run cs).cells.map cellD)) := by
      obtain ⟨C, n₁, vs, a, tn, tl, mC, mc, mn, mi, dv, dc, oC, hvl, hin⟩ := hJ
      rw [hcs] at dv
      refine ⟨C, mC, ?_⟩
      rcases hin with ⟨_, rfl⟩ | ⟨_, R, rs, n₂, _, _, _, _, rfl⟩
      · exact DatIn.list (.head _) (dv.mono fun p hp => .tail _ hp)
      · exact DatIn.list (.head _) (dv.mono fun p hp => .tail _ (.tail _ hp))
    obtain ⟨C, mC, hD⟩ := hd
    have F₂ := fr_pairsOut (ps := [(Str.ofString "cells", .ref C)]) (by simp only [List.forall_mem_cons]; exact ⟨mC, fun _ h => nomatch h⟩) F₁
    clear F₁ hJ
    k_steps
    rename News _ _ _ _ => hrest
    revert hrest
    rename News _ _ _ _ => hled
    intro hrest
    refine hret _ _ _ _ (by assumption) (fun p hp => (List.mem_append.mp hp).elim (hled p) (hrest p)) hD
end Mine
end
section
open PySem PySem.W PyProof.Rows
set_option maxRecDepth 100000
set_option maxHeartbeats 4000000
namespace Mine
def Ok (s : St) : Prop := 0 ≤ s.number ∧ s.number < 1000 ∧ s.row.length ≤ 4
noncomputable def OkAll : St → List Nat → Prop
  | s, [] => Ok s
  | s, c :: cs => Ok s ∧ OkAll (step s c) cs
theorem OkAll.head {s : St} : ∀ {cs : List Nat}, OkAll s cs → Ok s
  | [], h => h
  | _ :: _, h => h.1
theorem okAll_append {ys : List Nat} : ∀ {xs : List Nat} {s : St}, OkAll s xs → OkAll (xs.foldl step s) ys → OkAll s (xs ++ ys)
  | [], _, _, h => h
  | _ :: _, _, h, k => ⟨h.1, okAll_append h.2 k⟩
theorem okAll_take : ∀ {cs : List Nat} {s : St}, OkAll s cs → ∀ i, Ok ((cs.take i).foldl step s)
  | cs, s, h, 0 => by simpa using h.head
  | [], s, h, i + 1 => h
  | c :: cs, s, h, i + 1 => okAll_take h.2 i
theorem okAll_one {s : St} {c : Nat} (h : Ok s) (k : Ok (step s c)) : OkAll s [c] := ⟨h, k⟩
section
variable {s : St} {c : Nat}
theorem ms_digit (hi : s.inside = true) (h : 48 ≤ c ∧ c ≤ 57) : step s c = { s with number := 10 * s.number + (c % 32 : Nat) - 16 } := by unfold step; rw [hi, if_neg (by decide), if_pos h]
theorem ms_semi (hi : s.inside = true) : step s 59 = { s with row := s.row ++ [s.number], number := 0 } := by unfold step; rw [hi, if_neg (by decide), if_neg (by decide), if_pos rfl]
theorem ms_alpha (hi : s.inside = true) (h3 : alpha c) : step s c = { s with row := s.row ++ [s.number], colour := obey c (s.row ++ [s.number]) s.colour, inside := false } := by
  have h3' : 65 ≤ c ∧ c ≤ 90 ∨ 97 ≤ c ∧ c ≤ 122 := h3
  unfold step; rw [hi, if_neg (by decide), if_neg (by omega), if_neg (by omega), if_pos h3]
theorem ms_none (hi : s.inside = true) (h : ¬(48 ≤ c ∧ c ≤ 57)) (h2 : c ≠ 59) (h3 : ¬ alpha c) : step s c = s := by
  unfold step; rw [hi, if_neg (by decide), if_neg h, if_neg h2, if_neg h3]
theorem ms_esc (hi : s.inside = false) : step s 27 = { s with inside := true, row := [], number := 0 } := by unfold step; rw [hi, if_pos rfl, if_pos rfl]
theorem ms_sign (hi : s.inside = false) (h : c ≠ 27) : step s c = { s with cells := s.cells ++ [(shownS c, s.colour)] } := by unfold step; rw [hi, if_pos rfl, if_neg h]
end
/-- three figures inside -/
theorem figs_run {s : St} {n : Nat} (hi : s.inside = true) (h0 : s.number = 0) (hn : n < 1000) (hr : s.row.length ≤ 4) : (figs n).foldl step s = { s with number := (n : Int) } ∧ OkAll s (figs n) := by
  have e1 : step s (n / 100 + 48) = { s with number := ((n / 100 : Nat) : Int) } := by
    rw [ms_digit hi (by omega), h0]; congr 1; omega
  have e2 : step { s with number := ((n / 100 : Nat) : Int) } (n / 10 % 10 + 48) = { s with number := ((n / 10 : Nat) : Int) } := by
    rw [ms_digit (s := { s with number := ((n / 100 : Nat) : Int) }) hi (by omega)]; congr 1; simp only []; omega
  have e3 : step { s with number := ((n / 10 : Nat) : Int) } (n % 10 + 48) = { s with number := (n : Int) } := by
    rw [ms_digit (s := { s with number := ((n / 10 : Nat) : Int) }) hi (by omega)]; congr 1; simp only []; omega
  unfold figs
  refine ⟨by rw [List.foldl_cons, List.foldl_cons, List.foldl_cons, List.foldl_nil, e1, e2, e3], ?_⟩
  refine ⟨⟨by omega, by omega, hr⟩, ?_⟩
  rw [e1]
  refine ⟨⟨by show (0 : Int) ≤ ((n / 100 : Nat) : Int); omega, by show ((n / 100 : Nat) : Int) < 1000; omega, hr⟩, ?_⟩
  rw [e2]
  refine ⟨⟨by show (0 : Int) ≤ ((n / 10 : Nat) : Int); omega, by show ((n / 10 : Nat) : Int) < 1000; omega, hr⟩, ?_⟩
  rw [e3]
  exact ⟨by show (0 : Int) ≤ (n : Int); omega, by show (n : Int) < 1000; omega, hr⟩
/-- the rows with ; between -/
theorem rows_run : ∀ (ns : List Nat) (n : Nat) (s : St), s.inside = true → s.number = 0 → (∀ k ∈ n :: ns, k < 1000) → s.row.length + ns.length ≤ 4 →
    ∃ q r, (semi ((n :: ns).map figs)).foldl step s = { s with row := r, number := q } ∧ OkAll s (semi ((n :: ns).map figs)) ∧ r ++ [q] = s.row ++ (n :: ns).map (fun (k : Nat) => (k : Int)) ∧ 0 ≤ q ∧ q < 1000
  | [], n, s, hi, h0, hk, hl => by
    have h := figs_run hi h0 (hk n (.head _)) (by simpa using hl)
    exact ⟨n, s.row, by simpa [semi] using h.1, by simpa [semi] using h.2, by simp, by omega, by have := hk n (.head _); omega⟩
  | m :: ns, n, s, hi, h0, hk, hl => by
    have hl' : s.row.length + (ns.length + 1) ≤ 4 := hl
    have h := figs_run hi h0 (hk n (.head _)) (by omega)
    have e : semi ((n :: m :: ns).map figs) = figs n ++ 59 :: semi ((m :: ns).map figs) := rfl
    have hs : step { s with number := (n : Int) } 59 = { s with row := s.row ++ [(n : Int)], number := 0 } := ms_semi hi
    obtain ⟨q, r, h1, h2, h3, h4, h5⟩ := rows_run ns m { s with row := s.row ++ [(n : Int)], number := 0 } hi rfl (fun k hk' => hk k (.tail _ hk')) (by show (s.row ++ [(n : Int)]).length + ns.length ≤ 4; rw [List.length_append, List.length_singleton]; omega)
    have hn := hk n (.head _)
    refine ⟨q, r, ?_, ?_, ?_, h4, h5⟩
    · rw [e, List.foldl_append, h.1, List.foldl_cons, hs, h1]
    · rw [e]
      refine okAll_append h.2 ?_
      rw [h.1]
      refine ⟨⟨by show (0 : Int) ≤ (n : Int); omega, by show (n : Int) < 1000; omega, by show s.row.length ≤ 4; omega⟩, ?_⟩
      rw [hs]
      exact h2
    · rw [h3]
      show s.row ++ [(n : Int)] ++ _ = _
      rw [List.append_assoc]; rfl
def nums (k r g b : Nat) : List Nat := match k with
  | 2 => [g]
  | 3 => [g, b, 0]
  | _ => [g, b]
def num0 (k r : Nat) : Nat := match k with
  | 4 => r + 256
  | _ => r
theorem rows_eq {k : Nat} (hk : k < 6) (r g b : Nat) : seqRows k r g b = (num0 k r :: nums k r g b).map figs := by
  have h : k = 0 ∨ k = 1 ∨ k = 2 ∨ k = 3 ∨ k = 4 ∨ k = 5 := by omega
  rcases h with rfl | rfl | rfl | rfl | rfl | rfl <;> rfl
theorem mark_none : ∀ c ∈ marks, ¬(48 ≤ c ∧ c ≤ 57) ∧ c ≠ 59 ∧ ¬ alpha c := by decide +kernel
theorem letter_alpha : ∀ c ∈ letters, alpha c ∧ c ≠ 109 := by decide +kernel
theorem getD_mem {l : List Nat} {i : Nat} (h : i < l.length) : l.getD i 0 ∈ l := by
  rw [List.getD_eq_getElem?_getD, List.getElem?_eq_getElem h]; exact List.getElem_mem h
theorem mark_run {s : St} {k m : Nat} (hi : s.inside = true) (ho : Ok s) : (seqMark k m).foldl step s = s ∧ OkAll s (seqMark k m) := by
  unfold seqMark
  split
  · have h := mark_none _ (getD_mem (l := marks) (i := m % 6) (Nat.mod_lt _ (by decide)))
    have e := ms_none hi h.1 h.2.1 h.2.2
    exact ⟨by rw [List.foldl_cons, e]; rfl, ⟨ho, by rw [e]; exact ho⟩⟩
  · exact ⟨rfl, ho⟩
theorem last_alpha (k m : Nat) : alpha (seqLast k m) := by
  unfold seqLast
  split
  · exact (letter_alpha _ (getD_mem (l := letters) (i := m % 51) (Nat.mod_lt _ (by decide)))).1
  · decide
theorem obey_last {k r g b m : Nat} (hk : k < 6) (hr : r < 256) (hg : g < 256) (hb : b < 256) (col : List Int) :
    obey (seqLast k m) ((num0 k r :: nums k r g b).map fun (x : Nat) => (x : Int)) col = if k < 2 then [(r : Int), (g : Int), (b : Int)] else col := by
  have h : k = 0 ∨ k = 1 ∨ k = 2 ∨ k = 3 ∨ k = 4 ∨ k = 5 := by omega
  have h3 : ∀ v ∈ [(r : Int), (g : Int), (b : Int)], v < 256 := by
    intro v hv
    simp only [List.mem_cons, List.not_mem_nil, or_false] at hv
    rcases hv with rfl | rfl | rfl <;> omega
  rcases h with rfl | rfl | rfl | rfl | rfl | rfl
  · exact if_pos ⟨rfl, rfl, h3⟩
  · exact if_pos ⟨rfl, rfl, h3⟩
  · exact if_neg fun ⟨_, h, _⟩ => by simp [num0, nums] at h
  · exact if_neg fun ⟨_, h, _⟩ => by simp [num0, nums] at h
  · refine if_neg fun ⟨_, _, h⟩ => ?_
    have := h ((r + 256 : Nat) : Int) (.head _)
    omega
  · refine if_neg fun ⟨h, _, _⟩ => ?_
    exact (letter_alpha _ (getD_mem (l := letters) (i := m % 51) (Nat.mod_lt _ (by decide)))).2 h
/-- one sequence and the sign behind it -/
theorem chunk {s : St} {k r g b m c : Nat} (hi : s.inside = false) (ho : Ok s) (hk : k < 6) (hr : r < 256) (hg : g < 256) (hb : b < 256) (hc : c ≠ 27) :
    ∃ row q, (seqCodes k r g b m ++ [c]).foldl step s = ⟨s.cells ++ [(shownS c, if k < 2 then [(r : Int), (g : Int), (b : Int)] else s.colour)], if k < 2 then [(r : Int), (g : Int), (b : Int)] else s.colour, row, q, false⟩ ∧ OkAll s (seqCodes k r g b m ++ [c]) := by
  let s1 : St := { s with inside := true, row := [], number := 0 }
  have ho1 : Ok s1 := ⟨Int.le_refl _, by show (0 : Int) < 1000; decide, Nat.zero_le _⟩
  have e1 : step s 27 = s1 := ms_esc hi
  have e2 : step s1 91 = s1 := ms_none rfl (by decide) (by decide) (by decide)
  obtain ⟨e3, o3⟩ := mark_run (s := s1) (k := k) (m := m) rfl ho1
  have hns : (∀ j ∈ num0 k r :: nums k r g b, j < 1000) ∧ (nums k r g b).length ≤ 3 := by
    have h : k = 0 ∨ k = 1 ∨ k = 2 ∨ k = 3 ∨ k = 4 ∨ k = 5 := by omega
    rcases h with rfl | rfl | rfl | rfl | rfl | rfl <;> refine ⟨?_, by simp [nums]⟩ <;> intro j hj <;> simp only [num0, nums, List.mem_cons, List.not_mem_nil, or_false] at hj <;> omega
  obtain ⟨q, row, e4, o4, e5, q0, q1⟩ := rows_run (nums k r g b) (num0 k r) s1 rfl rfl hns.1 (by show 0 + _ ≤ 4; have := hns.2; omega)
  have hlen : row.length ≤ 3 := by
    have := congrArg List.length e5
    rw [List.length_append, List.length_singleton] at this
    have h2 := hns.2
    simp only [List.length_append, List.length_map, List.length_cons] at this
    have h0 : s1.row.length = 0 := rfl
    omega
  let s2 : St := { s1 with row := row, number := q }
  have e5' : row ++ [q] = (num0 k r :: nums k r g b).map fun (x : Nat) => (x : Int) := by rw [e5]; rfl
  have e6 : step s2 (seqLast k m) = { s with row := row ++ [q], number := q, colour := (if k < 2 then [(r : Int), (g : Int), (b : Int)] else s.colour), inside := false } := by
    rw [ms_alpha (s := s2) rfl (last_alpha k m)]
    show St.mk _ (obey (seqLast k m) (row ++ [q]) s.colour) _ _ _ = _
    rw [e5', obey_last hk hr hg hb]
  let s3 : St := { s with row := row ++ [q], number := q, colour := (if k < 2 then [(r : Int), (g : Int), (b : Int)] else s.colour), inside := false }
  have ho3 : Ok s3 := ⟨q0, q1, by show (row ++ [q]).length ≤ 4; rw [List.length_append, List.length_singleton]; omega⟩
  have e7 : step s3 c = { s3 with cells := s.cells ++ [(shownS c, s3.colour)] } := ms_sign rfl hc
  have es : seqCodes k r g b m ++ [c] = 27 :: 91 :: (seqMark k m ++ (semi ((num0 k r :: nums k r g b).map figs) ++ [seqLast k m, c])) := by
    unfold seqCodes
    rw [rows_eq hk]
    simp only [List.cons_append, List.append_assoc, List.nil_append]
  refine ⟨row ++ [q], q, ?_, ?_⟩
  · rw [es, List.foldl_cons, List.foldl_cons, e1, e2, List.foldl_append, e3, List.foldl_append, e4, List.foldl_cons, List.foldl_cons, List.foldl_nil]
    show step (step s2 (seqLast k m)) c = _
    rw [e6]
    exact e7
  · rw [es]
    refine ⟨ho, ?_⟩
    rw [e1]
    refine ⟨ho1, ?_⟩
    rw [e2]
    refine okAll_append o3 ?_
    rw [e3]
    refine okAll_append o4 ?_
    rw [e4]
    refine ⟨⟨q0, q1, by show row.length ≤ 4; omega⟩, ?_⟩
    show OkAll (step s2 (seqLast k m)) [c]
    rw [e6]
    refine okAll_one ho3 ?_
    show Ok (step s3 c)
    rw [e7]
    exact ho3
structure LSt where
  stream : List Nat
  due : List (Str × List Int)
  colour : List Int
def lst0 : LSt := ⟨[], [], [255, 255, 255]⟩
def codeOf (n : Int) : Int := if n = 27 then 126 else n
noncomputable def lstep (s : LSt) (v : Int) : LSt :=
  let sm := v % 1152921504606846976
  let rest := sm / 16777216
  let code := codeOf ((sm + rest / 6) % 55296)
  let colour := if rest % 6 < 2 then [sm % 256, sm / 256 % 256, sm / 65536 % 256] else s.colour
  ⟨s.stream ++ (seqCodes (rest % 6).toNat (sm % 256).toNat (sm / 256 % 256).toNat (sm / 65536 % 256).toNat (rest / 6).toNat ++ [code.toNat]), s.due ++ [(shownS code.toNat, colour)], colour⟩
noncomputable def lrun (xs : List Int) : LSt := xs.foldl lstep lst0
/-- three components of a colour -/
def Rgb (l : List Int) : Prop := ∃ r g b : Int, (0 ≤ r ∧ r < 256) ∧ (0 ≤ g ∧ g < 256) ∧ (0 ≤ b ∧ b < 256) ∧ l = [r, g, b]
structure Rel (s : LSt) : Prop where
  cells : (run s.stream).cells = s.due
  colour : (run s.stream).colour = s.colour
  inside : (run s.stream).inside = false
  ok : OkAll st0 s.stream
  codes : ∀ c ∈ s.stream, c < 55296
  rgb : Rgb s.colour
  all : ∀ p ∈ s.due, Rgb p.2 ∧ ∃ c, p.1 = shownS c
theorem okAll_last : ∀ {cs : List Nat} {s : St}, OkAll s cs → Ok (cs.foldl step s)
  | [], _, h => h
  | c :: cs, s, h => okAll_last (cs := cs) (s := step s c) h.2
theorem figs_lt {n c : Nat} (h : n < 1000) (hc : c ∈ figs n) : c < 60 := by
  unfold figs at hc
  simp only [List.mem_cons, List.not_mem_nil, or_false] at hc
  omega
theorem semi_lt : ∀ (ns : List Nat), (∀ n ∈ ns, n < 1000) → ∀ c ∈ semi (ns.map figs), c < 60
  | [], _, c, hc => nomatch hc
  | [n], h, c, hc => figs_lt (h n (.head _)) hc
  | n :: m :: ns, h, c, hc => by
    have e : semi ((n :: m :: ns).map figs) = figs n ++ 59 :: semi ((m :: ns).map figs) := rfl
    rw [e] at hc
    rcases List.mem_append.mp hc with hc | hc
    · exact figs_lt (h n (.head _)) hc
    · rcases List.mem_cons.mp hc with rfl | hc
      · decide
      · exact semi_lt (m :: ns) (fun k hk => h k (.tail _ hk)) c hc
theorem marks_lt : ∀ c ∈ marks, c < 127 := by decide +kernel
theorem alpha_lt {c : Nat} (h : alpha c) : c < 127 := by
  have h3' : 65 ≤ c ∧ c ≤ 90 ∨ 97 ≤ c ∧ c ≤ 122 := h
  omega
theorem codes_lt {k r g b m c : Nat} (hk : k < 6) (hr : r < 256) (hg : g < 256) (hb : b < 256) (hc : c ∈ seqCodes k r g b m) : c < 127 := by
  unfold seqCodes at hc
  rw [rows_eq hk] at hc
  rcases List.mem_cons.mp hc with rfl | hc
  · decide
  rcases List.mem_cons.mp hc with rfl | hc
  · decide
  rcases List.mem_append.mp hc with hc | hc
  · rcases List.mem_append.mp hc with hc | hc
    · unfold seqMark at hc
      split at hc
      · rw [List.mem_singleton.mp hc]
        exact marks_lt _ (getD_mem (Nat.mod_lt _ (by decide)))
      · cases hc
    · refine Nat.lt_of_lt_of_le (semi_lt _ ?_ c hc) (by decide)
      have h : k = 0 ∨ k = 1 ∨ k = 2 ∨ k = 3 ∨ k = 4 ∨ k = 5 := by omega
      rcases h with rfl | rfl | rfl | rfl | rfl | rfl <;> intro j hj <;> simp only [num0, nums, List.mem_cons, List.not_mem_nil, or_false] at hj <;> omega
  · rw [List.mem_singleton.mp hc]
    exact alpha_lt (last_alpha k m)
theorem rel_step {s : LSt} (h : Rel s) (v : Int) : Rel (lstep s v) := by
  unfold lstep
  simp only []
  generalize hsm : v % 1152921504606846976 = sm
  have hs0 : 0 ≤ sm := by omega
  generalize hkd : (sm / 16777216 % 6).toNat = k
  generalize hmo : (sm / 16777216 / 6).toNat = m
  generalize hrr : (sm % 256).toNat = r
  generalize hgg : (sm / 256 % 256).toNat = g
  generalize hbb : (sm / 65536 % 256).toNat = b
  generalize hcc : (codeOf ((sm + sm / 16777216 / 6) % 55296)).toNat = c
  have hk : k < 6 := by omega
  have hr : r < 256 := by omega
  have hg : g < 256 := by omega
  have hb : b < 256 := by omega
  have hc : c ≠ 27 ∧ c < 55296 := by
    rw [← hcc]
    unfold codeOf
    split <;> omega
  have ecol : (if sm / 16777216 % 6 < 2 then [sm % 256, sm / 256 % 256, sm / 65536 % 256] else s.colour) = if k < 2 then [(r : Int), (g : Int), (b : Int)] else s.colour := by
    have e1 : (r : Int) = sm % 256 := by omega
    have e2 : (g : Int) = sm / 256 % 256 := by omega
    have e3 : (b : Int) = sm / 65536 % 256 := by omega
    by_cases hh : k < 2
    · rw [if_pos hh, if_pos (by omega), e1, e2, e3]
    · rw [if_neg hh, if_neg (by omega)]
  rw [ecol]
  obtain ⟨row, q, he, hok⟩ := chunk (s := run s.stream) (k := k) (r := r) (g := g) (b := b) (m := m) (c := c) h.inside (okAll_last h.ok) hk hr hg hb hc.1
  have hrun : run (s.stream ++ (seqCodes k r g b m ++ [c])) = (seqCodes k r g b m ++ [c]).foldl step (run s.stream) := by unfold run; rw [List.foldl_append]
  rw [h.cells, h.colour] at he
  have hrgb : Rgb (if k < 2 then [(r : Int), (g : Int), (b : Int)] else s.colour) := by
    by_cases hh : k < 2
    · rw [if_pos hh]; exact ⟨r, g, b, by omega, by omega, by omega, rfl⟩
    · rw [if_neg hh]; exact h.rgb
  refine ⟨?_, ?_, ?_, okAll_append h.ok hok, ?_, hrgb, ?_⟩
  · show (run (s.stream ++ (seqCodes k r g b m ++ [c]))).cells = _
    rw [hrun, he]
  · show (run (s.stream ++ (seqCodes k r g b m ++ [c]))).colour = _
    rw [hrun, he]
  · show (run (s.stream ++ (seqCodes k r g b m ++ [c]))).inside = _
    rw [hrun, he]
  · intro d hd
    rcases List.mem_append.mp hd with hd | hd
    · exact h.codes d hd
    · rcases List.mem_append.mp hd with hd | hd
      · exact Nat.lt_trans (codes_lt hk hr hg hb hd) (by decide)
      · rw [List.mem_singleton.mp hd]; exact hc.2
  · intro p hp
    rcases List.mem_append.mp hp with hp | hp
    · exact h.all p hp
    · rw [List.mem_singleton.mp hp]; exact ⟨hrgb, c, rfl⟩
theorem rel_run (xs : List Int) : Rel (lrun xs) := by
  suffices h : ∀ (xs : List Int) (s : LSt), Rel s → Rel (xs.foldl lstep s) from h xs lst0 ⟨rfl, rfl, rfl, ⟨by decide, by decide, by decide⟩, (fun _ h => nomatch h), ⟨255, 255, 255, by decide, by decide, by decide, rfl⟩, (fun _ h => nomatch h)⟩
  intro xs
  induction xs with
  | nil => intro s h; exact h
  | cons x xs ih => intro s h; exact ih _ (rel_step h x)
end Mine
end
section
open PySem PySem.W PyProof.Rows
set_option maxRecDepth 100000
set_option maxHeartbeats 8000000
namespace Mine
local macro_rules | `(tactic| walk_at "mine prem") => `(tactic| (refine ⟨?_, ?_, ?_, ?_, ?_, ?_, ?_, ?_⟩; (· k_asm); (· k_asm); (· k_asm); (· k_asm); (· k_asm); (· first | exact rfl | assumption); (· ktr_room); (· ktr_units)))
local macro_rules | `(tactic| walk_at "mine pos") => `(tactic| first | assumption | omega | ((simp only [Int.toNat_zero, List.getD_cons_zero]); omega))
/-- a mark at which the walk stands still -/
def Stop (P : Prop) : Prop := P
theorem Stop.out {P : Prop} (h : Stop P) : P := h
/-- what holds between two numbers of the script -/
def LInv (ns : List Int) (X : Addr) (ox : Obj) (knob : Int) (tk : Tok) (i : Nat) (m : Str → Option Value) (nx : List (Addr × Obj)) : Prop :=
  ∃ (D : Addr) (n₁ : Nat) (vs : List Value) (a : Addr) (ts : Tok) (tl : List (Addr × Obj)),
    m (Str.ofString "stream") = some (.str ⟨(lrun (ns.take i)).stream.toArray⟩ ts) ∧ m (Str.ofString "due") = some (.ref D) ∧ m (Str.ofString "colour") = some (.ref a) ∧ m (Str.ofString "knob") = some (.int knob tk) ∧
    DatAll tl vs ((lrun (ns.take i)).due.map cellD) ∧ DatIn tl (.ref a) (.list ((lrun (ns.take i)).colour.map Dat.int)) ∧ (∀ p ∈ tl, p.1 ≠ D) ∧ vs.length ≤ i ∧ (X, ox) ∈ tl ∧ nx = (D, listOf vs.toArray n₁) :: tl
theorem lrun_snoc (xs : List Int) (x : Int) : lrun (xs ++ [x]) = lstep (lrun xs) x := by unfold lrun; rw [List.foldl_append]; rfl
theorem LInv.mem {ns : List Int} {X : Addr} {ox : Obj} {knob : Int} {tk : Tok} {i : Nat} {m : Str → Option Value} {nx : List (Addr × Obj)} (h : LInv ns X ox knob tk i m nx) : (X, ox) ∈ nx := by
  obtain ⟨D, n₁, vs, a, ts, tl, _, _, _, _, _, _, _, _, hm, rfl⟩ := h
  exact .tail _ hm
theorem lrun_step {ns : List Int} {i : Nat} {v : Int} (h : ns[i]? = some v) : lrun (ns.take (i + 1)) = lstep (lrun (ns.take i)) v := by
  rw [← lrun_snoc]; congr 1
  simp [List.take_add_one, h]
section
variable {prog : Program} {w : World} {A : Around} {E : Value → Shared → Prop} {s : Shared} {env : Env} {h₀ : Heap} {x : Str} {body : List Stmt} {Q : Flow → Shared → Prop}
theorem law_loop {X a D : Addr} {n : Nat} {ws : List Value} {ns : List Int} {t₁ t₂ t₃ ts tk : Tok} {knob : Int} {p1 p2 p5 p6 : Addr × Obj} {m₀ : Str → Option Value}
    (hh : A.handled = none) (hi : IntsAre ws ns) (F : Fr h₀ env.locals s.heap m₀) (N : News h₀ env.locals s.heap [(X, listOf ws.toArray n), p1, p2, (a, listOf #[.int 255 t₁, .int 255 t₂, .int 255 t₃] 0), (D, listOf #[] 0), p5, p6]) (hX : X ≠ D) (ha : a ≠ D)
    (ms : m₀ (Str.ofString "stream") = some (.str (Str.ofString "") ts)) (md : m₀ (Str.ofString "due") = some (.ref D)) (mc : m₀ (Str.ofString "colour") = some (.ref a)) (mk : m₀ (Str.ofString "knob") = some (.int knob tk))
    (turn : ∀ i v t m₁ nx h tk' own, ns[i]? = some v → OwnOff own (nx.map (·.1)) → LInv ns X (listOf ws.toArray n) knob tk i m₁ nx → Fr h₀ env.locals h (fun y => if y = x then some (.int v t) else m₁ y) → News h₀ env.locals h (nx ++ own) →
      wpAny (model prog w) A (execs body env) (InvPostG h₀ env.locals (LInv ns X (listOf ws.toArray n) knob tk (i + 1)) own { s with heap := h, toks := tk' } Q) E { s with heap := h, toks := tk' })
    (done : ∀ m₁ nx h tk', LInv ns X (listOf ws.toArray n) knob tk ns.length m₁ nx → Fr h₀ env.locals h m₁ → News h₀ env.locals h nx → Q .next { s with heap := h, toks := tk' }) :
    wpAny (model prog w) A (pyIter (.ref X)) (fun it s₂ => LoopAtV prog w A h₀ env x body Q E it s₂) E s := by
  have N₀ : News h₀ env.locals s.heap ((D, listOf #[] 0) :: [(X, listOf ws.toArray n), (a, listOf #[.int 255 t₁, .int 255 t₂, .int 255 t₃] 0)]) := by
    intro p hp
    refine N p ?_
    simp only [List.mem_cons, List.not_mem_nil, or_false] at hp ⊢
    rcases hp with rfl | rfl | rfl <;> simp
  have hlen := hi.length
  refine kdl_iter (LInv ns X (listOf ws.toArray n) knob tk) hh (.tail _ (.head _)) F N₀ ?_ ?_ ?_
  · refine ⟨D, 0, [], a, ts, _, ms, md, mc, mk, .nil, DatIn.list (vs := [.int 255 t₁, .int 255 t₂, .int 255 t₃]) (.tail _ (.head _)) (ints_dat (.cons _ _ (.cons _ _ (.cons _ _ .nil)))), ?_, Nat.zero_le _, .head _, rfl⟩
    intro p hp
    rcases List.mem_cons.mp hp with rfl | hp
    · exact hX
    · rw [List.mem_singleton.mp hp]; exact ha
  · intro i v m₁ nx h tk' own hv hoff _ hJ F₁ N₁
    have hi' : i < ns.length := by rw [← hlen]; exact (List.getElem?_eq_some_iff.mp hv).1
    obtain ⟨t, hx⟩ := hi.get i (ns[i]'hi') (List.getElem?_eq_getElem hi')
    have ev : v = .int (ns[i]'hi') t := by rw [hx] at hv; exact (Option.some.inj hv).symm
    subst ev
    refine wpAny_mono (turn i _ t m₁ nx h tk' own (List.getElem?_eq_getElem hi') hoff hJ F₁ N₁) (fun f s₂ p => ?_) fun _ _ e => e
    have up : InvEndG h₀ env.locals (LInv ns X (listOf ws.toArray n) knob tk (i + 1)) own { s with heap := h, toks := tk' } s₂ →
        InvEndG h₀ env.locals (fun m' nx => (X, listOf ws.toArray n) ∈ nx ∧ LInv ns X (listOf ws.toArray n) knob tk (i + 1) m' nx) own { s with heap := h, toks := tk' } s₂ := by
      rintro ⟨h', tk9, m', news', nx', e', F', N', hn', ho', ha', hS⟩
      exact ⟨h', tk9, m', news', nx', e', F', N', hn', ho', ha', hS.mem, hS⟩
    cases f with
    | ret v => exact p
    | brk => exact p
    | next => exact up p
    | cont => exact up p
  · intro m₁ nx h tk' hJ F₁ N₁
    rw [hlen] at hJ
    exact done m₁ nx h tk' hJ F₁ N₁
end
section
variable {prog : Program} {w : World} {A : Around} {E : Value → Shared → Prop} {s : Shared} {a k : Int} {t u : Tok} {Q : Value → Shared → Prop}
theorem mod_e (hk : 0 < k) (h : Q (.int (a % k) s.toks) { s with toks := s.toks + 1 }) : wpAny (model prog w) A (binaryOp .Mod (.int a t) (.int k u)) Q E s :=
  mod_int' (by omega) (by rw [Int.fmod_eq_emod_of_nonneg _ (Int.le_of_lt hk)]; exact h)
theorem div_e (hk : 0 < k) (hl : k.natAbs.log2 < 9000) (h : Q (.int (a / k) s.toks) { s with toks := s.toks + 1 }) : wpAny (model prog w) A (binaryOp .FloorDiv (.int a t) (.int k u)) Q E s :=
  floordiv_int (by omega) (by rw [Int.fdiv_eq_ediv_of_nonneg _ (Int.le_of_lt hk)]; exact h) (Or.inl (PyProof.noPylong_of_log2 hl))
theorem pow_e {n r : Int} (h0 : 0 ≤ n) (h1 : n ≤ 1000000) (e : (2 : Int) ^ n.toNat = r) (h : Q (.int r s.toks) { s with toks := s.toks + 1 }) : wpAny (model prog w) A (binaryOp .Pow (.int 2 t) (.int n u)) Q E s :=
  pow_int_small h0 h1 (by decide) (by rw [e]; exact h)
end
section
variable {prog : Program} {w : World} {A : Around} {E : Value → Shared → Prop} {s : Shared} {xs ys : List Nat} {t u : Tok} {Q : Value → Shared → Prop}
theorem cat_app : (⟨xs.toArray⟩ ++ ⟨ys.toArray⟩ : Str) = ⟨(xs ++ ys).toArray⟩ := by
  refine Str.ext' ?_
  rw [Str.cps_append]
  simp
theorem cat_e (hsz : xs.length + ys.length ≤ 16777216) (h : ∀ t' tk, Q (.str ⟨(xs ++ ys).toArray⟩ t') { s with toks := tk }) : wpAny (model prog w) A (binaryOp .Add (.str ⟨xs.toArray⟩ t) (.str ⟨ys.toArray⟩ u)) Q E s :=
  PyProof.Rows.add_str (fun t' tk => by rw [cat_app]; exact h t' tk) (by rw [sizeLine_eq]; exact hsz)
theorem icat_e (hsz : xs.length + ys.length ≤ 16777216) (h : ∀ t' tk, Q (.str ⟨(xs ++ ys).toArray⟩ t') { s with toks := tk }) : wpAny (model prog w) A (inplaceOp .Add (.str ⟨xs.toArray⟩ t) (.str ⟨ys.toArray⟩ u)) Q E s :=
  PyProof.Rows.iadd_str (fun t' tk => by rw [cat_app]; exact h t' tk) (by rw [sizeLine_eq]; exact hsz)
end
theorem seqCodes_len (k r g b m : Nat) : (seqCodes k r g b m).length ≤ 21 := by
  have h : ∀ l, l.length = (l : List Nat).length := fun _ => rfl
  unfold seqCodes
  rw [List.length_cons, List.length_cons, List.length_append, List.length_append, List.length_singleton]
  have h1 : (seqMark k m).length ≤ 1 := by unfold seqMark; split <;> simp
  have h2 : (semi (seqRows k r g b)).length ≤ 15 := by unfold seqRows; split <;> simp [semi, figs]
  omega
theorem lrun_len_le (ns : List Int) : (lrun ns).stream.length ≤ 22 * ns.length := by
  suffices h : ∀ (xs : List Int) (s : LSt), (xs.foldl lstep s).stream.length ≤ s.stream.length + 22 * xs.length by
    have := h ns lst0
    unfold lrun
    simpa [lst0] using this
  intro xs
  induction xs with
  | nil => intro s; simp
  | cons x xs ih =>
    intro s
    rw [List.foldl_cons]
    refine Nat.le_trans (ih _) ?_
    have h2 : (lstep s x).stream.length ≤ s.stream.length + 22 := by
      unfold lstep
      simp only [List.length_append, List.length_singleton]
      have := seqCodes_len (x % 1152921504606846976 / 16777216 % 6).toNat (x % 1152921504606846976 % 256).toNat (x % 1152921504606846976 / 256 % 256).toNat (x % 1152921504606846976 / 65536 % 256).toNat (x % 1152921504606846976 / 16777216 / 6).toNat
      omega
    rw [List.length_cons]
    omega
theorem take6 (ws : List Int) : (List.take 6 ws ++ [2624250, 15134740, 5926500]).length ≤ 9 := by
  rw [List.length_append, List.length_take]
  simp only [List.length_cons, List.length_nil]
  omega
theorem lrun_len {ws : List Int} (i : Nat) : (lrun (List.take i (List.take 6 ws ++ [2624250, 15134740, 5926500]))).stream.length ≤ 1000 := by
  refine Nat.le_trans (lrun_len_le _) ?_
  have := take6 ws
  rw [List.length_take]
  omega
theorem lrun_len4 (ws : List Int) : (lrun (List.take 6 ws ++ [2624250, 15134740, 5926500])).stream.length ≤ 400 := by
  refine Nat.le_trans (lrun_len_le _) ?_
  have := take6 ws
  omega
theorem lrun_open {ws : List Int} {i : Nat} {v : Int} (h : (List.take 6 ws ++ [2624250, 15134740, 5926500])[i]? = some v) : ∃ st : LSt, lrun (List.take i (List.take 6 ws ++ [2624250, 15134740, 5926500])) = st ∧ lrun (List.take (i + 1) (List.take 6 ws ++ [2624250, 15134740, 5926500])) = lstep st v ∧ st.stream.length ≤ 1000 ∧ i < 9 :=
  ⟨_, rfl, lrun_step h, lrun_len i, Nat.lt_of_lt_of_le (List.getElem?_eq_some_iff.mp h).1 (take6 ws)⟩
theorem sz1 (k r g b m x : Nat) : (seqCodes k r g b m).length + [x].length ≤ 16777216 := by
  have := seqCodes_len k r g b m
  rw [List.length_singleton]; omega
theorem sz2 {s : List Nat} (h : s.length ≤ 1000) (k r g b m x : Nat) : s.length + (seqCodes k r g b m ++ [x]).length ≤ 16777216 := by
  have := seqCodes_len k r g b m
  rw [List.length_append, List.length_singleton]; omega
theorem lstep_at {st : LSt} {v : Int} {c : Nat} {col : List Int} (hc : (codeOf ((v % 1152921504606846976 + v % 1152921504606846976 / 16777216 / 6) % 55296)).toNat = c) (hcol : (if v % 1152921504606846976 / 16777216 % 6 < 2 then [v % 1152921504606846976 % 256, v % 1152921504606846976 / 256 % 256, v % 1152921504606846976 / 65536 % 256] else st.colour) = col) :
    lstep st v = ⟨st.stream ++ (seqCodes (v % 1152921504606846976 / 16777216 % 6).toNat (v % 1152921504606846976 % 256).toNat (v % 1152921504606846976 / 256 % 256).toNat (v % 1152921504606846976 / 65536 % 256).toNat (v % 1152921504606846976 / 16777216 / 6).toNat ++ [c]), st.due ++ [(shownS c, col)], col⟩ := by
  subst hc hcol
  rfl
theorem code_27 {n : Int} (h : n = 27) : (codeOf n).toNat = Int.toNat 126 := by unfold codeOf; rw [if_pos h]
theorem code_n {n : Int} (h : n ≠ 27) : (codeOf n).toNat = n.toNat := by unfold codeOf; rw [if_neg h]
theorem q_end {h₀ h' : Heap} {L : Addr} {ns : List Int} {i : Nat} {own : List (Addr × Obj)} {s₁ : Shared} {tk : Nat} {m' : Str → Option Value} {st st' : LSt} {D T l X a : Addr} {ox o' : Obj} {n₁ : Nat} {vs : List Value} {ts tq t9 : Tok} {tl : List (Addr × Obj)} {c : Nat} {col : List Int} {knob : Int}
    (F : Fr h₀ L h' m') (N : News h₀ L h' ((T, { cls := .type "tuple", data := .seq #[.str (shownS c) t9, .ref a] }) :: (l, o') :: (D, listOf (vs.toArray.push (.ref T)) (n₁ + 1)) :: (tl ++ own)))
    (l1 : D < l ∧ AllLt l (tl ++ own)) (l2 : l < T ∧ D < T ∧ AllLt T (tl ++ own)) (hst : lrun (ns.take (i + 1)) = st') (hdue : st'.due = st.due ++ [(shownS c, col)]) (hcol : st'.colour = col)
    (ms : m' (Str.ofString "stream") = some (.str ⟨st'.stream.toArray⟩ ts)) (md : m' (Str.ofString "due") = some (.ref D)) (mc : m' (Str.ofString "colour") = some (.ref a)) (mk : m' (Str.ofString "knob") = some (.int knob tq))
    (dv : DatAll tl vs (st.due.map cellD)) (dc : DatIn ((l, o') :: tl) (.ref a) (.list (col.map Dat.int))) (oD : ∀ p ∈ tl, p.1 ≠ D) (hvl : vs.length ≤ i) (hX : (X, ox) ∈ tl) (ho : OwnOff own (((D, listOf vs.toArray n₁) :: tl).map (·.1))) :
    InvEndG h₀ L (LInv ns X ox knob tq (i + 1)) own s₁ { s₁ with heap := h', toks := tk } := by
  have lt1 := allLt_mem l1.2
  have lt2 := allLt_mem l2.2.2
  rw [show vs.toArray.push (Value.ref T) = (vs ++ [Value.ref T]).toArray by simp] at N
  have up : ∀ p ∈ tl, p ∈ (T, ({ cls := .type "tuple", data := .seq #[.str (shownS c) t9, .ref a] } : Obj)) :: (l, o') :: tl := fun p hp => .tail _ (.tail _ hp)
  have up2 : ∀ p ∈ (l, o') :: tl, p ∈ (T, ({ cls := .type "tuple", data := .seq #[.str (shownS c) t9, .ref a] } : Obj)) :: (l, o') :: tl := fun p hp => .tail _ hp
  have dt : DatIn ((T, ({ cls := .type "tuple", data := .seq #[.str (shownS c) t9, .ref a] } : Obj)) :: (l, o') :: tl) (.ref T) (cellD (shownS c, col)) := DatIn.tuple (vs := [.str (shownS c) t9, .ref a]) (.head _) (.cons (.str _ _) (.cons (dc.mono up2) .nil))
  refine InvEndG.intro F N (nx := (D, listOf (vs ++ [Value.ref T]).toArray (n₁ + 1)) :: (T, { cls := .type "tuple", data := .seq #[.str (shownS c) t9, .ref a] }) :: (l, o') :: tl) ?_ ?_ ?_ ?_
  · unfold LInv
    rw [hst]
    refine ⟨D, n₁ + 1, vs ++ [Value.ref T], a, ts, _, ms, md, mc, mk, ?_, ?_, ?_, ?_, up _ hX, rfl⟩
    · rw [hdue, List.map_append]
      exact (dv.mono up).append (DatAll.one dt)
    · rw [hcol]; exact dc.mono up2
    · intro p hp
      rcases List.mem_cons.mp hp with rfl | hp
      · exact Nat.ne_of_gt l2.2.1
      · rcases List.mem_cons.mp hp with rfl | hp
        · exact Nat.ne_of_gt l1.1
        · exact oD p hp
    · rw [List.length_append, List.length_singleton]; omega
  · refine off_cons (o := listOf #[] 0) (o' := listOf #[] 0) (off_cons (o := listOf #[] 0) (o' := listOf #[] 0) (off_cons (o := listOf #[] 0) (o' := listOf #[] 0) (off_tl (y := (D, listOf vs.toArray n₁)) ho) fun p hp => Nat.ne_of_lt (lt1 p (List.mem_append.mpr (.inr hp)))) fun p hp => Nat.ne_of_lt (lt2 p (List.mem_append.mpr (.inr hp)))) fun p hp => ho p hp D (.head _)
  · intro p hp
    rcases List.mem_cons.mp hp with rfl | hp
    · exact .tail _ (.tail _ (.head _))
    · rcases List.mem_cons.mp hp with rfl | hp
      · exact .head _
      · rcases List.mem_cons.mp hp with rfl | hp
        · exact .tail _ (.head _)
        · exact .tail _ (.tail _ (.tail _ (List.mem_append.mpr (.inl hp))))
  · exact fun p hp => .tail _ (.tail _ (.tail _ (List.mem_append.mpr (.inr hp))))
theorem datIn_list {news : List (Addr × Obj)} {v : Value} {ds : List Dat} (h : DatIn news v (.list ds)) : ∃ a vs n, v = .ref a ∧ (a, listOf vs.toArray n) ∈ news ∧ DatAll news vs ds := by
  cases h with
  | list hm r => exact ⟨_, _, _, rfl, hm, r⟩
theorem cell_ok {p : Str × List Int} (h : ∃ c, p.1 = shownS c) : kqdOk 8 (cellD p) = true := by
  obtain ⟨x, l⟩ := p
  obtain ⟨c, rfl⟩ := h
  have h1 : PyData.strOk (shownS c) = true := by
    unfold PyData.strOk shownS
    rw [Array.all_eq_true']
    intro d hd
    have hd : d ∈ shown c := by simpa using hd
    have : d < 1114112 := by
      unfold shown at hd
      split at hd <;> (rcases List.mem_append.mp hd with hd | hd) <;> (repeat' split at hd) <;> simp only [List.mem_cons, List.not_mem_nil, or_false] at hd <;> omega
    simpa using this
  show ([Dat.str (shownS c), Dat.list (l.map Dat.int)].all (kqdOk 7)) = true
  simp only [List.all_cons, List.all_nil, Bool.and_true, Bool.and_eq_true]
  refine ⟨h1, ?_⟩
  show ((l.map Dat.int).all (kqdOk 6)) = true
  rw [List.all_eq_true]
  intro d hd
  obtain ⟨i, _, rfl⟩ := List.mem_map.mp hd
  rfl
section
variable {prog : Program} {w : World} {A : Around} {E : Value → Shared → Prop} {s : Shared} {h₀ : Heap} {L a b : Addr} {Q : Value → Shared → Prop}
/-- what was read against what is due -/
theorem ne_cells {t1 t2 : List (Addr × Obj)} {v1 v2 : List Value} {k1 k2 : Nat} {c1 c2 : List (Str × List Int)} (N : News h₀ L s.heap (t1 ++ ((b, listOf v2.toArray k2) :: t2))) (m1 : (a, listOf v1.toArray k1) ∈ t1) (d1 : DatAll t1 v1 (c1.map cellD)) (d2 : DatAll t2 v2 (c2.map cellD)) (e : c1 = c2)
    (hok : ∀ p ∈ c2, Rgb p.2 ∧ ∃ c, p.1 = shownS c) (hu : A.units + 64 < cLine) (h : Q (.bool false) s) : wpAny (model prog w) A (compareOp .NotEq (.ref a) (.ref b)) Q E s := by
  subst e
  have ok : ∀ d ∈ c1.map cellD, kqdOk 8 d = true := by
    intro d hd
    obtain ⟨p, hp, rfl⟩ := List.mem_map.mp hd
    exact cell_ok (hok p hp).2
  refine kqd_ne N (List.mem_append.mpr (.inl m1)) rfl rfl d1 (fun p hp => List.mem_append.mpr (.inl hp)) (List.mem_append.mpr (.inr (.head _))) rfl rfl d2 (fun p hp => List.mem_append.mpr (.inr (.tail _ hp))) ok ok hu ?_
  simpa using h
end
theorem law_facts {ws : List Int} {m : Str → Option Value} {t : Tok} (h : m (Str.ofString "stream") = some (.str ⟨(lrun (List.take 6 ws ++ [2624250, 15134740, 5926500])).stream.toArray⟩ t)) :
    ∃ st : LSt, lrun (List.take 6 ws ++ [2624250, 15134740, 5926500]) = st ∧ (∀ c ∈ st.stream, c < 55296) ∧ st.stream.length ≤ 400 ∧ (∀ i, 0 ≤ (run (st.stream.take i)).number ∧ (run (st.stream.take i)).number < 1000 ∧ (run (st.stream.take i)).row.length ≤ 4) ∧ (run st.stream).cells = st.due ∧ ∀ p ∈ st.due, Rgb p.2 ∧ ∃ c, p.1 = shownS c :=
  have R := rel_run (List.take 6 ws ++ [2624250, 15134740, 5926500])
  ⟨_, rfl, R.codes, lrun_len4 ws, okAll_take R.ok, R.cells, R.all⟩
theorem knob_ok {m : Str → Option Value} {x : Int} {t : Tok} (h : m (Str.ofString "knob") = some (.int (x % 5) t)) : 0 ≤ x % 5 ∧ x % 5 < 5 := by omega
/-- a cell of the due list, as the ledger holds it -/
theorem cell_open {tl : List (Addr × Obj)} {v : Value} {p : Str × List Int} (h : DatIn tl v (cellD p)) (hp : Rgb p.2) : ∃ (T l : Addr) (x : Str) (t t₁ t₂ t₃ : Tok) (n k : Nat) (r g b : Int), v = .ref T ∧ (T, ({ cls := .type "tuple", data := .seq #[.str x t, .ref l] n } : Obj)) ∈ tl ∧ (l, listOf #[.int r t₁, .int g t₂, .int b t₃] k) ∈ tl ∧ (0 ≤ r ∧ r < 256) ∧ (0 ≤ g ∧ g < 256) ∧ (0 ≤ b ∧ b < 256) := by
  obtain ⟨s, cl⟩ := p
  obtain ⟨r, g, b, hr, hg, hb, rfl⟩ := hp
  cases h with
  | tuple hm hr' =>
    cases hr' with
    | cons h1 h2 =>
      cases h2 with
      | cons h3 h4 =>
        cases h4
        cases h1
        cases h3 with
        | list hm2 hr2 =>
          cases hr2 with
          | cons q1 hr2 =>
            cases hr2 with
            | cons q2 hr2 =>
              cases hr2 with
              | cons q3 hr2 =>
                cases hr2
                cases q1
                cases q2
                cases q3
                exact ⟨_, _, _, _, _, _, _, _, _, r, g, b, rfl, hm, hm2, hr, hg, hb⟩
section
variable {prog : Program} {w : World} {A : Around} {E : Value → Shared → Prop} {s : Shared} {env : Env} {h₀ : Heap} {x : Str} {body : List Stmt} {Q : Flow → Shared → Prop}
/-- the loop over what is due -/
theorem due_loop {D : Addr} {n₁ : Nat} {vs : List Value} {cs : List (Str × List Int)} {knob : Int} {tq : Tok} {m₀ : Str → Option Value} {led tl : List (Addr × Obj)}
    (hh : A.handled = none) (F : Fr h₀ env.locals s.heap m₀) (N : News h₀ env.locals s.heap led) (hD : (D, listOf vs.toArray n₁) ∈ led) (dv : DatAll tl vs (cs.map cellD)) (sub : ∀ p ∈ tl, p ∈ led) (hall : ∀ p ∈ cs, Rgb p.2 ∧ ∃ c, p.1 = shownS c) (mk : m₀ (Str.ofString "knob") = some (.int knob tq))
    (turn : ∀ (T l : Addr) (z : Str) (t t₁ t₂ t₃ : Tok) (n k : Nat) (r g b : Int) (m₁ : Str → Option Value) (h : Heap) (tk' : Nat) (own : List (Addr × Obj)), OwnOff own (led.map (·.1)) → (T, ({ cls := .type "tuple", data := .seq #[.str z t, .ref l] n } : Obj)) ∈ led ++ own → (l, listOf #[.int r t₁, .int g t₂, .int b t₃] k) ∈ led ++ own →
      (0 ≤ r ∧ r < 256) → (0 ≤ g ∧ g < 256) → (0 ≤ b ∧ b < 256) → Fr h₀ env.locals h (fun y => if y = x then some (.ref T) else kstB m₁ [(Str.ofString "knob", .int knob tq)] y) → News h₀ env.locals h (led ++ own) →
      wpAny (model prog w) A (execs body env) (InvPostG h₀ env.locals (fun m' nx => m' (Str.ofString "knob") = some (.int knob tq) ∧ nx = led) own { s with heap := h, toks := tk' } Q) E { s with heap := h, toks := tk' })
    (done : ∀ m₁ h tk', Fr h₀ env.locals h m₁ → News h₀ env.locals h led → Q .next { s with heap := h, toks := tk' }) :
    wpAny (model prog w) A (pyIter (.ref D)) (fun it s₂ => LoopAtV prog w A h₀ env x body Q E it s₂) E s := by
  refine kdl_iter (fun _ m nx => m (Str.ofString "knob") = some (.int knob tq) ∧ nx = led) hh hD F N ⟨mk, rfl⟩ ?_ ?_
  · rintro i v m₁ nx h tk' own hv hoff _ ⟨mk₁, rfl⟩ F₁ N₁
    have hlen := dv.length
    have hi : i < (cs.map cellD).length := by rw [← hlen]; exact (List.getElem?_eq_some_iff.mp hv).1
    obtain ⟨v', hv', hDt⟩ := dv.get hi
    have ev : v' = v := by rw [hv] at hv'; exact (Option.some.inj hv').symm
    rw [ev] at hDt
    have hi2 : i < cs.length := by simpa using hi
    have ep : (cs.map cellD)[i]'hi = cellD (cs[i]'hi2) := by simp
    rw [ep] at hDt
    obtain ⟨T, l, z, t, t₁, t₂, t₃, n, k, r, g, b, rfl, hT, hl, hr, hg, hb⟩ := cell_open hDt (hall _ (List.getElem_mem hi2)).1
    refine wpAny_mono (turn T l z t t₁ t₂ t₃ n k r g b m₁ h tk' own hoff (List.mem_append.mpr (.inl (sub _ hT))) (List.mem_append.mpr (.inl (sub _ hl))) hr hg hb (fr_pairs (by simp only [List.forall_mem_cons]; exact ⟨mk₁, fun _ h => nomatch h⟩) F₁) N₁) (fun f s₂ p => ?_) fun _ _ e => e
    have up : InvEndG h₀ env.locals (fun m' nx' => m' (Str.ofString "knob") = some (.int knob tq) ∧ nx' = nx) own { s with heap := h, toks := tk' } s₂ →
        InvEndG h₀ env.locals (fun m' nx' => (D, listOf vs.toArray n₁) ∈ nx' ∧ m' (Str.ofString "knob") = some (.int knob tq) ∧ nx' = nx) own { s with heap := h, toks := tk' } s₂ := by
      rintro ⟨h', tk9, m', news', nx', e', F', N', hn', ho', ha', hk', rfl⟩
      exact ⟨h', tk9, m', news', nx', e', F', N', hn', ho', ha', hD, hk', rfl⟩
    cases f with
    | ret v => exact p
    | brk => exact p
    | next => exact up p
    | cont => exact up p
  · rintro m₁ nx h tk' ⟨_, rfl⟩ F₁ N₁
    exact done m₁ h tk' F₁ N₁
end
local macro_rules | `(tactic| walk_at "binaryOp Add str str") => `(tactic| (k_here; k_dflt (refine cat_e (sz1 _ _ _ _ _ _) ?_); intro _ _; (try dsimp only)))
local macro_rules | `(tactic| walk_at "inplaceOp Add str str") => `(tactic| (k_here; k_dflt (refine icat_e (sz2 (by assumption) _ _ _ _ _ _) ?_); intro _ _; (try dsimp only)))
local macro_rules | `(tactic| walk_at "binaryOp Mod int int") => `(tactic| (k_here; k_dflt (refine mod_e (by decide) ?_); (try dsimp only)))
local macro_rules | `(tactic| walk_at "binaryOp FloorDiv int int") => `(tactic| (k_here; k_dflt (refine div_e (by decide) (by decide +kernel) ?_); (try dsimp only)))
local macro_rules | `(tactic| walk_at "binaryOp Pow int int") => `(tactic| (k_here; k_dflt (first | refine pow_e (r := 1152921504606846976) (by decide) (by decide) (by decide +kernel) ?_ | refine pow_e (r := 16777216) (by decide) (by decide) (by decide +kernel) ?_); (try dsimp only)))
local macro_rules | `(tactic| walk_at "execs cons Assign cons") => `(tactic| ((with_reducible refine wpAny_execs_cons ?_); (try dsimp only)))
local macro_rules | `(tactic| walk_at "exec For Name BinOp cons nil") => `(tactic| (k_here; (rename Fr _ _ _ _ => lF'); (with_unfolding_all refine' For_invVF lF' ?k1 ?k2 ?_; (case k1 => exact rfl); (case k2 => exact rfl); k_whole)))
local macro_rules | `(tactic| walk_at "exec For Name Name cons nil") => `(tactic| (k_here; (rename Fr _ _ _ _ => lF'); (with_unfolding_all refine' For_invVF lF' ?k1 ?k2 ?_; (case k1 => exact rfl); (case k2 => exact rfl); k_whole)))
local macro_rules | `(tactic| walk_at "pyIter ref") => `(tactic| ((with_reducible show wpAny _ _ (pyIter (Value.ref _)) (fun it s₂ => LoopAtV _ _ _ _ _ _ _ _ _ it s₂) _ _); refine Stop.out ?_))
local macro_rules | `(tactic| walk_at "call ref") => `(tactic| (k_here; (with_reducible show wpAny _ _ (call (Value.ref 91) _) _ _ _); k_dflt (first | (refine' cl_use2 (shown_c _ _ _ _ _ _ _ ?kp0 ?kp1) ?kH ?_; (case kp0 => walk_at "mine pos"); (case kp1 => walk_at "mine pos"))); (case kH => walk_at "mine prem"); intro t9 h9 tk9 F9 N9; (try dsimp only); (try k_fold)))
local macro_rules | `(tactic| walk_at "call ref") => `(tactic| (k_here; (with_reducible show wpAny _ _ (call (Value.ref 103) _) _ _ _); k_dflt (refine' cl_use2 (seq_c _ _ _ _ _ _ _ _ _ _ _ _ _ _ _ _ _ ?kp0 ?kp1 ?kp2 ?kp3 ?kp4) ?kH ?_); (case kH => walk_at "mine prem"); (case kp0 => omega); (case kp1 => omega); (case kp2 => omega); (case kp3 => omega); (case kp4 => omega); intro t9 h9 tk9 F9 N9; (try dsimp only); (try k_fold)))
local macro_rules | `(tactic| walk_at "call ref") => `(tactic| (k_here; (with_reducible show wpAny _ _ (call (Value.ref 110) _) _ _ _); k_dflt (refine' clD_use (cells_c _ _ _ _ _ _ _ _ ?p0 ?p1 ?p2 ?p3) ?k1 ?k2 ?k3 ?k4 ?k5 ?kK ?kd ?ku ?_); (case p1 => assumption); (case p0 => k_dflt (exact rfl)); (case p2 => assumption); (case p3 => assumption); (case k1 => k_asm); (case k2 => k_asm); (case k3 => k_asm); (case k4 => k_asm); (case k5 => k_asm); (case kK => first | exact rfl | assumption); (case kd => ktr_room); (case ku => ktr_units); intro v9 tl9 h9 tk9 F9 N9 D9; (obtain ⟨a9, vs9, n9, e9, m9, d9⟩ := datIn_list D9); subst e9; (try dsimp only); (try k_fold)))
local macro_rules | `(tactic| walk_at "call ref") => `(tactic| (k_here; (with_reducible show wpAny _ _ (call (Value.ref 115) _) _ _ _); k_dflt (refine' cl_use2 (tube_c _ _ _ _ _ _ _ _ _ _ _ _ _ _ _ ?p1 ?p2 ?p3 ?p4 ?p5) ?kH ?_); (case kH => walk_at "mine prem"); (case p5 => assumption); (case p1 => assumption); (case p2 => assumption); (case p3 => assumption); (case p4 => assumption); intro t9 h9 tk9 F9 N9; (try dsimp only); (try k_fold)))
local macro_rules | `(tactic| walk_at "compareOp NotEq ref ref") => `(tactic| (k_here; k_dflt (refine' ne_cells ?k1 ?k2 ?k3 ?k4 ?k5 ?k6 ?k7 ?_); (case k1 => k_asm); (case k2 => assumption); (case k3 => assumption); (case k4 => assumption); (case k5 => assumption); (case k6 => assumption); (case k7 => ktr_units); (try dsimp only)))
local macro_rules | `(tactic| walk_at "subscriptTail") => `(tactic| (k_here; k_dflt (refine' item_tupleT (l := [_, _]) ?t ?a ?b ?c ?d ?_; (case t => exact News.isTup (by k_asm) (by assumption)); (case a => decide); (case b => decide); (case c => rfl); (case d => rfl); k_whole)))
local macro_rules | `(tactic| k_all) => `(tactic| assumption)
theorem law_c : PySem.Challenge.rw_mj0070_01.Holds := by
  refine hd ?_
  k_go0
  all_goals try k_fold
  k_steps
  unfold Stop
  rename Fr _ _ _ _ => lF'
  rename News _ _ _ _ => lN'
  rename IntsAre _ _ => lI'
  with_unfolding_all refine' law_loop ?kh lI' lF' lN' ?kx ?ka ?m1 ?m2 ?m3 ?m4 ?_ ?_
  case kh => rfl
  case m1 => rfl
  case m2 => rfl
  case m3 => rfl
  case m4 => rfl
  case kx => k_ne
  case ka => k_ne
  · clear lF' lN'
    intro i v t m₁ nx h tk' own hvi hoff hJ F₁ N₁
    obtain ⟨D, n₁, vs, a, ts, tl, ms, md, mc, mk, dv, dc, oD, hvl, hX, rfl⟩ := hJ
    obtain ⟨st, hst, hstep, hsl, hi9⟩ := lrun_open hvi
    have hvs : vs.length ≤ 9 := by omega
    rw [hst] at ms dv dc
    have F₂ := fr_pairs (ps := [(Str.ofString "stream", _), (Str.ofString "due", _), (Str.ofString "colour", _), (Str.ofString "knob", _)]) (by simp only [List.forall_mem_cons]; exact ⟨ms, md, mc, mk, fun _ h => nomatch h⟩) F₁
    clear F₁
    have oDo : ∀ p ∈ tl ++ own, p.1 ≠ D := by
      intro p hp
      rcases List.mem_append.mp hp with hp | hp
      · exact oD p hp
      · exact hoff p hp D (.head _)
    have N₂ : News _ _ h ((D, listOf vs.toArray n₁) :: (tl ++ own)) := N₁
    clear N₁
    generalize htw : tl ++ own = tw at N₂ oDo
    k_steps
    all_goals subst htw
    · exact q_end (st := st) (by assumption) (by assumption) (by assumption) (by assumption) (hstep.trans (lstep_at (code_27 (by assumption)) (if_pos (by assumption)))) rfl rfl rfl rfl rfl rfl dv (DatIn.list (.head _) (ints_dat (.cons _ _ (.cons _ _ (.cons _ _ .nil))))) oD hvl hX hoff
    · exact q_end (st := st) (by assumption) (by assumption) (by assumption) (by assumption) (hstep.trans (lstep_at (code_27 (by assumption)) (if_neg (by assumption)))) rfl rfl rfl rfl rfl rfl dv (dc.mono fun p hp => .tail _ hp) oD hvl hX hoff
    · exact q_end (st := st) (by assumption) (by assumption) (by assumption) (by assumption) (hstep.trans (lstep_at (code_n (by assumption)) (if_pos (by assumption)))) rfl rfl rfl rfl rfl rfl dv (DatIn.list (.head _) (ints_dat (.cons _ _ (.cons _ _ (.cons _ _ .nil))))) oD hvl hX hoff
    · exact q_end (st := st) (by assumption) (by assumption) (by assumption) (by assumption) (hstep.trans (lstep_at (code_n (by assumption)) (if_neg (by assumption)))) rfl rfl rfl rfl rfl rfl dv (dc.mono fun p hp => .tail _ hp) oD hvl hX hoff
  · clear lF' lN'
    intro m₁ nx h tk' hJ F₁ N₁
    obtain ⟨D, n₁, vs, a, ts, tl, ms, md, mc, mk, dv, dc, oD, hvl, hX, rfl⟩ := hJ
    rw [List.take_length] at ms dv dc
    obtain ⟨st, hst, hcod, hlen, hok, hcel, hall⟩ := law_facts ms
    rw [hst] at ms dv dc
    have hkn := knob_ok mk
    have F₂ := fr_pairsOut (ps := [(Str.ofString "stream", _), (Str.ofString "due", _), (Str.ofString "knob", _)]) (by simp only [List.forall_mem_cons]; exact ⟨ms, md, mk, fun _ h => nomatch h⟩) F₁
    clear F₁
    have N₂ : News _ _ h ((D, listOf vs.toArray n₁) :: tl) := N₁
    clear N₁
    dsimp only [PyProof.Rows.envOf] at F₂ N₂
    k_steps
    unfold Stop
    rename Fr _ _ _ _ => lF'
    rename News _ _ _ _ => lN'
    with_unfolding_all refine' due_loop ?kh lF' lN' (List.mem_append.mpr (.inr (.head _))) dv (fun p hp => List.mem_append.mpr (.inr (.tail _ hp))) hall rfl ?_ ?_
    case kh => rfl
    · clear lF' lN'
      intro T l z t t₁ t₂ t₃ n k r g b m₂ h₂ tk₂ own hoff hT hl hr hg hb F₃ N₃
      dsimp only [PyProof.Rows.envOf] at F₃ N₃
      generalize hlw : _ ++ own = lw at hT hl N₃
      k_steps
      subst hlw
      exact InvEndG.intro (by assumption) (by assumption) ⟨rfl, rfl⟩ hoff (fun p hp => List.mem_append.mpr (.inl hp)) (fun p hp => List.mem_append.mpr (.inr hp))
    · clear lF' lN'
      intro m₂ h₂ tk₂ F₃ N₃
      dsimp only [PyProof.Rows.envOf] at F₃ N₃
      k_steps
end Mine
end
theorem PySem.Challenge.cw_mj0070_01_holds : PySem.Challenge.rw_mj0070_01.Holds :=
  Mine.law_c
