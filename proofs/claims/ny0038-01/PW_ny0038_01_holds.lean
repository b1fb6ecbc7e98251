import PyProof.Rows.All
import Wide.All
import OpenK.AllK
import Wide.FinOn
import PySem.Challenge.RW_ny0038_01
open PySem PySem.W PyProof.Rows PySem.Calls
set_option Elab.async false
set_option maxRecDepth 100000
namespace Mine
set_option maxHeartbeats 8000000 in
open_top hd for PySem.Challenge.rw_ny0038_01
end Mine
namespace Mine
abbrev ClP (w : World) (mean : ExcName → Option Value) (mg mb : Str → Option Value) (f : Addr) (news : List (Addr × Obj)) (vs : List Value) (R : Tok → Value) : Prop :=
  ∀ (dp un : Nat) (gd : Option (List Code)) (cn : Str) (cs : Scope) (a : Addr) (ccd : Value) (cl : List (Str × Addr)) (outer : List Env) (A₀ : Around) (base h₀ : Heap) (L : Addr) (m : Str → Option Value) (s : Shared) (Q E : Value → Shared → Prop),
    Below A₀ base outer h₀ → Fr h₀ L s.heap m → (hd.heap_39 w.params).In h₀ → News h₀ L s.heap news → Top hd.view_39 (looseW hd.view_39 []) mean mg mb h₀ → cs.kind = .function →
    dp < 900 → un < 5000 → (∀ (t : Tok) (h' : Heap) (tk' : Nat), Fr h₀ L h' m → News h₀ L h' news → Q (R t) { s with heap := h', toks := tk' }) →
      wpAny (model PySem.Challenge.rw_ny0038_01.prog w) (ktrTop dp un gd cn cs L a ccd cl outer) (call (.ref f) vs) Q E s
end Mine

namespace Mine
theorem and127 (x : Int) : Builtin.bitAnd x 127 = x % 128 := bitAnd_m7 x
theorem and31 (x : Int) : Builtin.bitAnd x 31 = x % 32 := bitAnd_m5 x
theorem and128 (x : Int) : Builtin.bitAnd x 128 = x / 128 % 2 * 128 := kbt_bit x 7
theorem and32 (x : Int) : Builtin.bitAnd x 32 = x / 32 % 2 * 32 := kbt_bit x 5
theorem orSum (x y : Int) : Builtin.bitOr x y = x + y - Builtin.bitAnd x y := by
  have h := bitXor_and x y
  unfold Builtin.bitXor at h
  omega
theorem or128 (x : Int) : Builtin.bitOr x 128 = x + 128 - x / 128 % 2 * 128 := by rw [orSum, and128]
theorem or32 (x : Int) : Builtin.bitOr x 32 = x + 32 - x / 32 % 2 * 32 := by rw [orSum, and32]

def chrS (x : Int) : Str := ⟨#[x.toNat]⟩
/-- what unctrl shows -/
def repF (x : Int) : Str :=
  if x = 127 then Str.ofString "^?" else if 32 ≤ x % 128 ∧ x % 128 ≤ 126 then chrS (x % 128) else Str.ofString "^" ++ chrS (if x % 128 < 32 then x % 128 + 64 else 159)
def shownF (x : Int) : Str := if x / 128 % 2 = 1 then Str.ofString "!" ++ repF x else repF x
def ctrlF (x : Int) : Int := x % 32
def altF (x : Int) : Int := x + 128 - x / 128 % 2 * 128
def punctF (x : Int) : Bool := decide (33 ≤ x ∧ x ≤ 126 ∧ ¬ (65 ≤ x ∧ x ≤ 90) ∧ ¬ (97 ≤ x ∧ x ≤ 122) ∧ ¬ (48 ≤ x ∧ x ≤ 57))
def codeF (x : Int) : Int := if x % 1112064 < 55296 then x % 1112064 else x % 1112064 + 2048
end Mine
namespace Mine
theorem chr_eq {a b : Int} (h : a.toNat = b.toNat) : ({ cps := #[a.toNat] } : Str) = chrS b := by unfold chrS; rw [h]
end Mine
namespace Mine
theorem fmP (x : Int) {k : Int} (h : 0 ≤ k) : x.fmod k = x % k := Int.fmod_eq_emod_of_nonneg x h
theorem fdP (x : Int) {k : Int} (h : 0 ≤ k) : x.fdiv k = x / k := Int.fdiv_eq_ediv_of_nonneg x h
theorem fm1112064 (x : Int) : x.fmod 1112064 = x % 1112064 := fmP x (by decide)
theorem fm256 (x : Int) : x.fmod 256 = x % 256 := fmP x (by decide)
theorem fm128 (x : Int) : x.fmod 128 = x % 128 := fmP x (by decide)
theorem fm32 (x : Int) : x.fmod 32 = x % 32 := fmP x (by decide)
theorem fm4 (x : Int) : x.fmod 4 = x % 4 := fmP x (by decide)
theorem fm2 (x : Int) : x.fmod 2 = x % 2 := fmP x (by decide)
theorem fd256 (x : Int) : x.fdiv 256 = x / 256 := fdP x (by decide)
end Mine
namespace Mine
def placeB (x : Int) : Int := if x % 128 < 32 then x % 128 + 64 else if x % 128 < 95 then x % 128 - 32 else if x % 128 < 127 then x % 128 + 2 else if x = 127 then 63 else 96
def placeF (x : Int) : Int := if x % 256 > 127 then placeB x + 2 else if placeB x > 1 then placeB x + 129 else placeB x
def markF (x : Int) : Int := if punctF x then 1 else 0
def ownD (x : Int) : Dat := .tuple [.int (placeF x), .int (ctrlF x), .int (altF x), .int (markF x)]
end Mine

namespace Mine
theorem shown_bang {b : Int} {r : Str} (z : Builtin.bitAnd b 128 ≠ 0) (hr : r = repF b) : Str.ofString "!" ++ r = shownF b := by
  rw [and128] at z
  unfold shownF
  rw [if_pos (by omega), hr]
theorem shown_flat {b : Int} {r : Str} (z : Builtin.bitAnd b 128 = 0) (hr : r = repF b) : r = shownF b := by
  rw [and128] at z
  unfold shownF
  rw [if_neg (by omega), hr]
theorem rep_del {b : Int} (h : b = 127) : Str.ofString "^?" = repF b := by unfold repF; rw [if_pos h]
theorem rep_print {b : Int} (h : b ≠ 127) (h1 : 32 ≤ Builtin.bitAnd b 127) (h2 : Builtin.bitAnd b 127 ≤ 126) : ({ cps := #[(Builtin.bitAnd b 127).toNat] } : Str) = repF b := by
  rw [and127] at *
  unfold repF
  rw [if_neg h, if_pos ⟨h1, h2⟩]; rfl
theorem rep_low {b : Int} (h : b ≠ 127) (h1 : ¬ 32 ≤ Builtin.bitAnd b 127) : Str.ofString "^" ++ ({ cps := #[(Builtin.bitOr (Builtin.bitAnd b 127) 32 + 32).toNat] } : Str) = repF b := by
  rw [and127] at *
  unfold repF
  rw [if_neg h, if_neg (fun q => h1 q.1), or32]
  exact congrArg (HAppend.hAppend (Str.ofString "^")) (chr_eq (by rw [if_pos (Int.not_le.mp h1)]; omega))
theorem rep_high {b : Int} (h : b ≠ 127) (h1 : ¬ Builtin.bitAnd b 127 ≤ 126) : Str.ofString "^" ++ ({ cps := #[(Builtin.bitOr (Builtin.bitAnd b 127) 32 + 32).toNat] } : Str) = repF b := by
  rw [and127] at *
  unfold repF
  rw [if_neg h, if_neg (fun q => h1 q.2), or32]
  exact congrArg (HAppend.hAppend (Str.ofString "^")) (chr_eq (by rw [if_neg (by omega)]; omega))
theorem lo127 (b : Int) : 0 ≤ Builtin.bitAnd b 127 := by rw [and127]; omega
theorem hi127 (b : Int) : Builtin.bitAnd b 127 ≤ 1114111 := by rw [and127]; omega
theorem lo31 (b : Int) : 0 ≤ Builtin.bitAnd b 31 := by rw [and31]; omega
theorem hi31 (b : Int) : Builtin.bitAnd b 31 ≤ 1114111 := by rw [and31]; omega
theorem loOr (b : Int) : 0 ≤ Builtin.bitOr (Builtin.bitAnd b 127) 32 + 32 := by rw [or32, and127]; omega
theorem hiOr (b : Int) : Builtin.bitOr (Builtin.bitAnd b 127) 32 + 32 ≤ 1114111 := by rw [or32, and127]; omega
theorem lo128 (b : Nat) : 0 ≤ Builtin.bitOr (b : Int) 128 := by rw [or128]; omega
theorem hi128 {x : Int} (h0 : 0 ≤ x) (h : x ≤ 1114111) : Builtin.bitOr (x.toNat : Int) 128 ≤ 1114111 := by rw [or128, Int.toNat_of_nonneg h0]; omega
theorem pu1 {b : Int} (h1 : 65 ≤ b) (h2 : b ≤ 90) : (!decide (b ≤ 90)) = punctF b := by
  rw [decide_eq_true h2]; exact (decide_eq_false fun q => q.2.2.1 ⟨h1, h2⟩).symm
theorem pu2 {b : Int} (h1 : 97 ≤ b) (h2 : b ≤ 122) : (!decide (b ≤ 122)) = punctF b := by
  rw [decide_eq_true h2]; exact (decide_eq_false fun q => q.2.2.2.1 ⟨h1, h2⟩).symm
theorem pu3 {b : Int} (h1 : b ≤ 126) (h2 : ¬ b ≤ 122) : (!decide (b ≤ 57)) = punctF b := by
  rw [decide_eq_false (by omega)]; exact (decide_eq_true ⟨by omega, h1, by omega, fun q => h2 q.2, by omega⟩).symm
theorem pu4 {b : Int} (h1 : ¬ b ≤ 90) (h2 : ¬ 97 ≤ b) : (!decide (b ≤ 57)) = punctF b := by
  rw [decide_eq_false (by omega)]; exact (decide_eq_true ⟨by omega, by omega, fun q => h1 q.2, fun q => h2 q.1, by omega⟩).symm
theorem pu5 {b : Int} (h1 : ¬ 65 ≤ b) (h2 : 48 ≤ b) : (!decide (b ≤ 57)) = punctF b := by
  by_cases h : b ≤ 57
  · rw [decide_eq_true h]; exact (decide_eq_false fun q => q.2.2.2.2 ⟨h2, h⟩).symm
  · rw [decide_eq_false h]; exact (decide_eq_true ⟨by omega, by omega, fun q => h1 q.1, by omega, fun q => h q.2⟩).symm
theorem pu6 {b : Int} (h1 : 33 ≤ b) (h2 : ¬ 48 ≤ b) : (!decide (48 ≤ b)) = punctF b := by
  rw [decide_eq_false h2]; exact (decide_eq_true ⟨h1, by omega, by omega, by omega, fun q => h2 q.1⟩).symm
theorem pu7 {b : Int} (h : ¬ b ≤ 126) : decide (b ≤ 126) = punctF b := by
  rw [decide_eq_false h]; exact (decide_eq_false fun q => h q.2.1).symm
theorem pu8 {b : Int} (h : ¬ 33 ≤ b) : decide (33 ≤ b) = punctF b := by
  rw [decide_eq_false h]; exact (decide_eq_false fun q => h q.1).symm
theorem nat_of {x : Int} (h0 : 0 ≤ x) : (x.toNat : Int) = x := Int.toNat_of_nonneg h0
end Mine

namespace Mine
theorem calm_C0 : True := by
  w_top off
  trivial
end Mine
namespace Mine
theorem warm0 : (fun (_ : OpenLaw) => True) PySem.Challenge.rw_ny0038_01 ∧ (hd.heap_39 = hd.heap_39) := by k_fill; exact ⟨trivial, rfl⟩
local macro_rules | `(tactic| k_room) => `(tactic| ((simp only [depth_under_make, depth_under_kw, depth_in1, depth_deeper, depth_caller, recursionLimit]); omega))
local macro_rules | `(tactic| ktr_room) => `(tactic| ((simp only [depth_under_make, depth_under_kw, depth_in1, depth_deeper, depth_caller, recursionLimit]); omega))
/-- as ClP, for a helper called from the inside of such a def -/
abbrev ClH (w : World) (mean : ExcName → Option Value) (mg mb : Str → Option Value) (f : Addr) (news : List (Addr × Obj)) (vs : List Value) (R : Tok → Value) : Prop :=
  ∀ (dp un : Nat) (gd : Option (List Code)) (cn : Str) (cs : Scope) (a : Addr) (ccd : Value) (cl : List (Str × Addr)) (outer : List Env) (A₀ : Around) (base h₀ : Heap) (L : Addr) (m : Str → Option Value) (s : Shared) (Q E : Value → Shared → Prop),
    Below A₀ base outer h₀ → Fr h₀ L s.heap m → (hd.heap_39 w.params).In h₀ → News h₀ L s.heap news → Top hd.view_39 (looseW hd.view_39 []) mean mg mb h₀ → cs.kind = .function →
    dp < 950 → un < 5500 → (∀ (t : Tok) (h' : Heap) (tk' : Nat), Fr h₀ L h' m → News h₀ L h' news → Q (R t) { s with heap := h', toks := tk' }) →
      wpAny (model PySem.Challenge.rw_ny0038_01.prog w) (ktrTop dp un gd cn cs L a ccd cl outer) (call (.ref f) vs) Q E s
set_option maxHeartbeats 8000000 in
theorem ctoi_int (w : World) (mean : ExcName → Option Value) (mg mb : Str → Option Value) (news : List (Addr × Obj)) (x : Int) (t : Tok) :
    ClH w mean mg mb 21 news [.int x t] (fun _ => .int x t) := by
  dsimp only [ClH]; intros; rename_i hret
  refine wpAny_call ?_
  k_dflt cell_enter
  k_steps
  all_goals (exact hret 0 _ _ (by k_asm) (by k_asm))
set_option maxHeartbeats 8000000 in
theorem ctoi_str (w : World) (mean : ExcName → Option Value) (mg mb : Str → Option Value) (news : List (Addr × Obj)) (x : Int) (t : Tok) :
    ClH w mean mg mb 21 news [.str (chrS x) t] (fun t => .int (x.toNat : Int) t) := by
  dsimp only [ClH]; intros; rename_i hret
  refine wpAny_call ?_
  k_dflt cell_enter
  k_steps
  all_goals (exact hret _ _ _ (by k_asm) (by k_asm))
end Mine

namespace Mine
theorem calm_C1 : True := by
  w_top off
  trivial
end Mine
namespace Mine
theorem warm : (fun (_ : OpenLaw) => True) PySem.Challenge.rw_ny0038_01 ∧ (hd.heap_39 = hd.heap_39) := by k_fill; exact ⟨trivial, rfl⟩
local macro_rules | `(tactic| k_room) => `(tactic| ((simp only [depth_under_make, depth_under_kw, depth_in1, depth_deeper, depth_caller, recursionLimit]); omega))
local macro_rules | `(tactic| ktr_room) => `(tactic| ((simp only [depth_under_make, depth_under_kw, depth_in1, depth_deeper, depth_caller, recursionLimit]); omega))
local macro_rules | `(tactic| walk_at "call builtin:chr") => `(tactic| (k_here; (with_reducible show wpAny _ _ (call (Value.builtin "chr") [Value.int _ _]) _ _ _); refine chr_of_range (by first | exact lo127 _ | exact lo31 _ | exact loOr _ | exact lo128 _) (by first | exact hi127 _ | exact hi31 _ | exact hiOr _ | exact hi128 (by assumption) (by assumption)) ?_))
local macro_rules | `(tactic| walk_at "call ref") => `(tactic| (k_here; (with_reducible show wpAny _ _ (call (Value.ref 21) _) _ _ _); k_dflt (refine' ctoi_int _ _ _ _ _ _ _ _ _ _ _ _ _ _ _ _ _ _ _ _ _ _ _ _ ?kB ?kF ?kI ?kN ?kT ?kK ?kd ?ku ?_; (case kB => k_asm); (case kF => k_asm); (case kI => k_asm); (case kN => k_asm); (case kT => k_asm); (case kK => exact rfl); (case kd => ((try simp only [depth_under_make, depth_under_kw, depth_in1, depth_deeper, depth_caller]); omega)); (case ku => ((try simp only [units_deeper, units_in1]); omega)); (intro t9 h9 tk9 F9 N9; (try dsimp only)))))

set_option maxHeartbeats 8000000 in
theorem unctrl_int (w : World) (mean : ExcName → Option Value) (mg mb : Str → Option Value) (news : List (Addr × Obj)) (x : Int) (t : Tok) :
    ClP w mean mg mb 98 news [.int x t] (fun t => .str (shownF x) t) := by
  dsimp only [ClP]; intros; rename_i hret
  refine wpAny_call ?_
  k_dflt cell_enter
  k_steps
  all_goals (refine cb_retS hret ?_ (by k_asm) (by k_asm))
  all_goals (clear hret)
  all_goals (first | refine shown_bang (by with_reducible assumption) ?_ | refine shown_flat (by with_reducible assumption) ?_)
  all_goals (first | exact rep_del (by with_reducible assumption) | exact rep_print (by with_reducible assumption) (by with_reducible assumption) (by with_reducible assumption) | exact rep_low (by with_reducible assumption) (by with_reducible assumption) | exact rep_high (by with_reducible assumption) (by with_reducible assumption))

set_option maxHeartbeats 8000000 in
theorem ctrl_int (w : World) (mean : ExcName → Option Value) (mg mb : Str → Option Value) (news : List (Addr × Obj)) (x : Int) (t : Tok) :
    ClP w mean mg mb 84 news [.int x t] (fun t => .int (ctrlF x) t) := by
  dsimp only [ClP]; intros; rename_i hret
  refine wpAny_call ?_
  k_dflt cell_enter
  k_steps
  all_goals (refine cb_retI hret ?_ (by k_asm) (by k_asm))
  all_goals (clear hret)
  all_goals (exact and31 _)

set_option maxHeartbeats 8000000 in
theorem alt_int (w : World) (mean : ExcName → Option Value) (mg mb : Str → Option Value) (news : List (Addr × Obj)) (x : Int) (t : Tok) :
    ClP w mean mg mb 91 news [.int x t] (fun t => .int (altF x) t) := by
  dsimp only [ClP]; intros; rename_i hret
  refine wpAny_call ?_
  k_dflt cell_enter
  k_steps
  all_goals (refine cb_retI hret ?_ (by k_asm) (by k_asm))
  all_goals (clear hret)
  all_goals (exact or128 _)

set_option maxHeartbeats 8000000 in
theorem punct_int (w : World) (mean : ExcName → Option Value) (mg mb : Str → Option Value) (news : List (Addr × Obj)) (x : Int) (t : Tok) :
    ClP w mean mg mb 70 news [.int x t] (fun _ => .bool (punctF x)) := by
  dsimp only [ClP]; intros; rename_i hret
  refine wpAny_call ?_
  k_dflt cell_enter
  k_steps
  all_goals (refine cb_retB hret ?_ (by k_asm) (by k_asm))
  all_goals (clear hret)
  all_goals (first | exact pu1 (by with_reducible assumption) (by with_reducible assumption) | exact pu2 (by with_reducible assumption) (by with_reducible assumption) | exact pu3 (by with_reducible assumption) (by with_reducible assumption) | exact pu4 (by with_reducible assumption) (by with_reducible assumption) | exact pu5 (by with_reducible assumption) (by with_reducible assumption) | exact pu6 (by with_reducible assumption) (by with_reducible assumption) | exact pu7 (by with_reducible assumption) | exact pu8 (by with_reducible assumption))

set_option maxHeartbeats 8000000 in
theorem code_int (w : World) (mean : ExcName → Option Value) (mg mb : Str → Option Value) (news : List (Addr × Obj)) (x : Int) (t : Tok) :
    ClP w mean mg mb 143 news [.int x t] (fun t => .int (codeF x) t) := by
  dsimp only [ClP]; intros; rename_i hret
  refine wpAny_call ?_
  k_dflt cell_enter
  k_steps
  all_goals (refine cb_retI hret ?_ (by k_asm) (by k_asm))
  all_goals (clear hret)
  all_goals (simp only [fm1112064] at *; unfold codeF; first | (rw [if_pos (by assumption)]; done) | (rw [if_neg (by assumption)]; done))
end Mine

namespace Mine
theorem calm_C2 : True := by
  w_top off
  trivial
end Mine
namespace Mine
local macro_rules | `(tactic| walk_at "mine none") => `(tactic| fail "none")
theorem warm2 : (fun (_ : OpenLaw) => True) PySem.Challenge.rw_ny0038_01 ∧ (hd.heap_39 = hd.heap_39) := by k_fill; exact ⟨trivial, rfl⟩
local macro_rules | `(tactic| k_room) => `(tactic| ((simp only [depth_under_make, depth_under_kw, depth_in1, depth_deeper, depth_caller, recursionLimit]); omega))
local macro_rules | `(tactic| ktr_room) => `(tactic| ((simp only [depth_under_make, depth_under_kw, depth_in1, depth_deeper, depth_caller, recursionLimit]); omega))
local macro_rules | `(tactic| walk_at "call builtin:chr") => `(tactic| (k_here; (with_reducible show wpAny _ _ (call (Value.builtin "chr") [Value.int _ _]) _ _ _); refine chr_of_range (by first | exact lo127 _ | exact lo31 _ | exact loOr _ | exact lo128 _) (by first | exact hi127 _ | exact hi31 _ | exact hiOr _ | exact hi128 (by assumption) (by assumption)) ?_))
local macro_rules | `(tactic| walk_at "call ref") => `(tactic| (k_here; (with_reducible show wpAny _ _ (call (Value.ref 21) _) _ _ _); k_dflt (refine' ctoi_str _ _ _ _ _ _ _ _ _ _ _ _ _ _ _ _ _ _ _ _ _ _ _ _ ?kB ?kF ?kI ?kN ?kT ?kK ?kd ?ku ?_; (case kB => k_asm); (case kF => k_asm); (case kI => k_asm); (case kN => k_asm); (case kT => k_asm); (case kK => exact rfl); (case kd => ((try simp only [depth_under_make, depth_under_kw, depth_in1, depth_deeper, depth_caller]); omega)); (case ku => ((try simp only [units_deeper, units_in1]); omega)); (intro t9 h9 tk9 F9 N9; (try dsimp only)))))

set_option maxHeartbeats 8000000 in
theorem unctrl_str (w : World) (mean : ExcName → Option Value) (mg mb : Str → Option Value) (news : List (Addr × Obj)) (x : Int) (t : Tok) (h0 : 0 ≤ x) (h1 : x ≤ 1114111) :
    ClP w mean mg mb 98 news [.str (chrS x) t] (fun t => .str (shownF x) t) := by
  dsimp only [ClP]; intros; rename_i hret
  refine wpAny_call ?_
  k_dflt cell_enter
  k_steps
  all_goals (refine cb_retS hret ?_ (by k_asm) (by k_asm))
  all_goals (clear hret)
  all_goals (refine Eq.trans ?_ (congrArg shownF (nat_of h0)))
  all_goals (first | refine shown_bang (by with_reducible assumption) ?_ | refine shown_flat (by with_reducible assumption) ?_)
  all_goals (first | exact rep_del (by with_reducible assumption) | exact rep_print (by with_reducible assumption) (by with_reducible assumption) (by with_reducible assumption) | exact rep_low (by with_reducible assumption) (by with_reducible assumption) | exact rep_high (by with_reducible assumption) (by with_reducible assumption))

set_option maxHeartbeats 8000000 in
theorem ctrl_str (w : World) (mean : ExcName → Option Value) (mg mb : Str → Option Value) (news : List (Addr × Obj)) (x : Int) (t : Tok) (h0 : 0 ≤ x) (h1 : x ≤ 1114111) :
    ClP w mean mg mb 84 news [.str (chrS x) t] (fun t => .str (chrS (ctrlF x)) t) := by
  dsimp only [ClP]; intros; rename_i hret
  refine wpAny_call ?_
  k_dflt cell_enter
  k_steps
  all_goals (refine cb_retS hret ?_ (by k_asm) (by k_asm))
  all_goals (clear hret)
  all_goals (exact chr_eq (congrArg Int.toNat ((and31 _).trans (congrArg ctrlF (nat_of h0)))))

set_option maxHeartbeats 8000000 in
theorem alt_str (w : World) (mean : ExcName → Option Value) (mg mb : Str → Option Value) (news : List (Addr × Obj)) (x : Int) (t : Tok) (h0 : 0 ≤ x) (h1 : x ≤ 1114111) :
    ClP w mean mg mb 91 news [.str (chrS x) t] (fun t => .str (chrS (altF x)) t) := by
  dsimp only [ClP]; intros; rename_i hret
  refine wpAny_call ?_
  k_dflt cell_enter
  k_steps
  all_goals (refine cb_retS hret ?_ (by k_asm) (by k_asm))
  all_goals (clear hret)
  all_goals (exact chr_eq (congrArg Int.toNat ((or128 _).trans (congrArg altF (nat_of h0)))))

set_option maxHeartbeats 8000000 in
theorem punct_str (w : World) (mean : ExcName → Option Value) (mg mb : Str → Option Value) (news : List (Addr × Obj)) (x : Int) (t : Tok) (h0 : 0 ≤ x) (h1 : x ≤ 1114111) :
    ClP w mean mg mb 70 news [.str (chrS x) t] (fun _ => .bool (punctF x)) := by
  dsimp only [ClP]; intros; rename_i hret
  refine wpAny_call ?_
  k_dflt cell_enter
  k_steps
  all_goals (refine cb_retB hret ?_ (by k_asm) (by k_asm))
  all_goals (clear hret)
  all_goals (refine Eq.trans ?_ (congrArg punctF (nat_of h0)))
  all_goals (first | exact pu1 (by with_reducible assumption) (by with_reducible assumption) | exact pu2 (by with_reducible assumption) (by with_reducible assumption) | exact pu3 (by with_reducible assumption) (by with_reducible assumption) | exact pu4 (by with_reducible assumption) (by with_reducible assumption) | exact pu5 (by with_reducible assumption) (by with_reducible assumption) | exact pu6 (by with_reducible assumption) (by with_reducible assumption) | exact pu7 (by with_reducible assumption) | exact pu8 (by with_reducible assumption))
end Mine

namespace Mine
/-- what a call hands back: a datum, borne by what it made (behind what stood) -/
abbrev BackD (h₀ : Heap) (L : Addr) (m : Str → Option Value) (news : List (Addr × Obj)) (s : Shared) (Q : Value → Shared → Prop) (d : Dat) : Prop :=
  ∀ (v : Value) (tl : List (Addr × Obj)) (h' : Heap) (tk' : Nat), Fr h₀ L h' m → News h₀ L h' (tl ++ news) → (∀ q ∈ news, ∀ p ∈ tl, q.1 ≠ p.1) → DatIn tl v d → Q v { s with heap := h', toks := tk' }
abbrev ClD (w : World) (mean : ExcName → Option Value) (mg mb : Str → Option Value) (f : Addr) (news : List (Addr × Obj)) (vs : List Value) (d : Dat) : Prop :=
  ∀ (dp un : Nat) (gd : Option (List Code)) (cn : Str) (cs : Scope) (a : Addr) (ccd : Value) (cl : List (Str × Addr)) (outer : List Env) (A₀ : Around) (base h₀ : Heap) (L : Addr) (m : Str → Option Value) (s : Shared) (Q E : Value → Shared → Prop),
    Below A₀ base outer h₀ → Fr h₀ L s.heap m → (hd.heap_39 w.params).In h₀ → News h₀ L s.heap news → Top hd.view_39 (looseW hd.view_39 []) mean mg mb h₀ → cs.kind = .function →
    dp < 900 → un < 5000 → BackD h₀ L m news s Q d →
      wpAny (model PySem.Challenge.rw_ny0038_01.prog w) (ktrTop dp un gd cn cs L a ccd cl outer) (call (.ref f) vs) Q E s
section
variable {h₀ h' : Heap} {L : Addr} {m : Str → Option Value} {news : List (Addr × Obj)} {s : Shared} {Q : Value → Shared → Prop} {tk' : Nat}
theorem tup4_end {a : Addr} {n : Nat} {i1 i2 i3 i4 p1 p2 p3 p4 : Int} {t1 t2 t3 t4 : Tok} (hret : BackD h₀ L m news s Q (.tuple [.int p1, .int p2, .int p3, .int p4])) (F : Fr h₀ L h' m)
    (N : News h₀ L h' ((a, ({ cls := .type "tuple", data := .seq #[.int i1 t1, .int i2 t2, .int i3 t3, .int i4 t4] n } : Obj)) :: news)) (l1 : ∀ p ∈ news, p.1 < a)
    (e1 : i1 = p1) (e2 : i2 = p2) (e3 : i3 = p3) (e4 : i4 = p4) : Q (.ref a) { s with heap := h', toks := tk' } := by
  subst e1; subst e2; subst e3; subst e4
  refine hret _ [_] h' tk' F N (fun q hq p hp => ?_) (.tuple (vs := [.int i1 t1, .int i2 t2, .int i3 t3, .int i4 t4]) (List.Mem.head _) (.cons (.int _ _) (.cons (.int _ _) (.cons (.int _ _) (.cons (.int _ _) .nil)))))
  rw [List.mem_singleton.mp hp]; exact Nat.ne_of_lt (l1 q hq)
end
def Hold (P : Prop) : Prop := P
theorem Hold.out {P : Prop} (h : Hold P) : P := h
end Mine

namespace Mine
theorem calm_D1 : True := by
  w_top off
  trivial
end Mine
namespace Mine
theorem pB1 {x : Int} (h : x.fmod 128 < 32) : x.fmod 128 + 64 = placeB x := by
  rw [fm128] at *; unfold placeB; rw [if_pos h]
theorem pB2 {x : Int} (h : ¬ x.fmod 128 < 32) (h1 : x.fmod 128 < 95) : x.fmod 128 - 32 = placeB x := by
  rw [fm128] at *; unfold placeB; rw [if_neg h, if_pos h1]
theorem pB3 {x : Int} (h : ¬ x.fmod 128 < 32) (h1 : ¬ x.fmod 128 < 95) (h2 : x.fmod 128 < 127) : x.fmod 128 + 2 = placeB x := by
  rw [fm128] at *; unfold placeB; rw [if_neg h, if_neg h1, if_pos h2]
theorem pB4 {x : Int} (h : ¬ x.fmod 128 < 32) (h1 : ¬ x.fmod 128 < 95) (h2 : ¬ x.fmod 128 < 127) (h3 : x = 127) : 63 = placeB x := by
  rw [fm128] at *; unfold placeB; rw [if_neg h, if_neg h1, if_neg h2, if_pos h3]
theorem pB5 {x : Int} (h : ¬ x.fmod 128 < 32) (h1 : ¬ x.fmod 128 < 95) (h2 : ¬ x.fmod 128 < 127) (h3 : ¬ x = 127) : 96 = placeB x := by
  rw [fm128] at *; unfold placeB; rw [if_neg h, if_neg h1, if_neg h2, if_neg h3]
theorem pF1 {x p : Int} (h : 127 < x.fmod 256) (e : p = placeB x) : p + 2 = placeF x := by
  rw [fm256] at h; unfold placeF; rw [if_pos h, e]
theorem pF2 {x p : Int} (h : ¬ 127 < x.fmod 256) (h1 : 1 < p) (e : p = placeB x) : p + 129 = placeF x := by
  rw [fm256] at h; unfold placeF; rw [if_neg h, ← e, if_pos h1]
theorem pF3 {x p : Int} (h : ¬ 127 < x.fmod 256) (h1 : ¬ 1 < p) (e : p = placeB x) : p = placeF x := by
  rw [fm256] at h; unfold placeF; rw [if_neg h, ← e, if_neg h1]
theorem pF4 {x : Int} (h : x = 127) : 63 + 129 = placeF x := by subst h; decide
theorem fm_lo (x : Int) : 0 ≤ x.fmod 128 := by rw [fm128]; omega
theorem alt_own (x : Int) : x.fdiv 256 * 256 + 128 + x.fmod 128 = altF x := by
  rw [fd256, fm128]; unfold altF; omega
theorem mark_of {x : Int} {b : Bool} (h : b = punctF x) : (if b = true then 1 else 0 : Int) = markF x := by unfold markF; rw [h]
theorem ow1 {x : Int} (h1 : 33 ≤ x) (h2 : x ≤ 47) : decide (x ≤ 47) = punctF x := by
  rw [decide_eq_true h2]; exact (decide_eq_true ⟨h1, by omega, by omega, by omega, by omega⟩).symm
theorem ow2 {x : Int} (h1 : 58 ≤ x) (h2 : x ≤ 64) : decide (x ≤ 64) = punctF x := by
  rw [decide_eq_true h2]; exact (decide_eq_true ⟨by omega, by omega, by omega, by omega, by omega⟩).symm
theorem ow3 {x : Int} (h1 : 91 ≤ x) (h2 : x ≤ 96) : decide (x ≤ 96) = punctF x := by
  rw [decide_eq_true h2]; exact (decide_eq_true ⟨by omega, by omega, by omega, by omega, by omega⟩).symm
theorem ow4 {x : Int} (h1 : 123 ≤ x) : decide (x ≤ 126) = punctF x := by
  by_cases h : x ≤ 126
  · rw [decide_eq_true h]; exact (decide_eq_true ⟨by omega, h, by omega, by omega, by omega⟩).symm
  · rw [decide_eq_false h]; exact (decide_eq_false fun q => h q.2.1).symm
theorem ow5 {x : Int} (h1 : ¬ x ≤ 96) (h2 : ¬ 123 ≤ x) : decide (123 ≤ x) = punctF x := by
  rw [decide_eq_false h2]; exact (decide_eq_false fun q => q.2.2.2.1 ⟨by omega, by omega⟩).symm
theorem ow6 {x : Int} (h1 : ¬ x ≤ 64) (h2 : ¬ 91 ≤ x) : decide (123 ≤ x) = punctF x := by
  rw [decide_eq_false (by omega)]; exact (decide_eq_false fun q => q.2.2.1 ⟨by omega, by omega⟩).symm
theorem ow7 {x : Int} (h1 : ¬ x ≤ 47) (h2 : ¬ 58 ≤ x) : decide (123 ≤ x) = punctF x := by
  rw [decide_eq_false (by omega)]; exact (decide_eq_false fun q => q.2.2.2.2 ⟨by omega, by omega⟩).symm
theorem ow8 {x : Int} (h : ¬ 33 ≤ x) : decide (123 ≤ x) = punctF x := by
  rw [decide_eq_false (by omega)]; exact (decide_eq_false fun q => h q.1).symm
theorem warm3 : (fun (_ : OpenLaw) => True) PySem.Challenge.rw_ny0038_01 ∧ (hd.heap_39 = hd.heap_39) := by k_fill; exact ⟨trivial, rfl⟩
/-- a box, so that no line takes what is held for its own -/
structure Box (P : Prop) : Prop where
  out : P
theorem cutP {P G : Prop} (walk : Box P → G) (tail : P) : G := walk ⟨tail⟩
theorem env_one {g h : Heap} {L : Addr} {n : Str} {a b : Value} {M : Str → Option Value} (F : Fr g L h fun y => if y = n then some a else if y = n then some b else M y) : Fr g L h fun y => if y = n then some a else M y := by
  have e : (fun y => if y = n then some a else if y = n then some b else M y) = fun y => if y = n then some a else M y := by
    funext y
    by_cases c : y = n
    · rw [if_pos c, if_pos c]
    · rw [if_neg c, if_neg c, if_neg c]
  exact e ▸ F
theorem use_tail {M : Model} {A : Around} {t : Sem Flow} {Q : Flow → Shared → Prop} {E : Value → Shared → Prop} {g h : Heap} {L : Addr} {news : List (Addr × Obj)} {me : Str → Option Value} {n : Str} {x p : Int} {ge} {dr} {os} {tk : Nat} {tp : Tok}
    (key : ∀ (h : Heap) (tk : Nat) (p : Int) (tp : Tok), p = placeF x → Fr g L h (fun y => if y = n then some (.int p tp) else me y) → News g L h news → wpAny M A t Q E { heap := h, gens := ge, drawn := dr, toks := tk, os := os })
    (F : Fr g L h fun y => if y = n then some (.int p tp) else me y) (N : News g L h news) (e : p = placeF x) : wpAny M A t Q E { heap := h, gens := ge, drawn := dr, toks := tk, os := os } := key h tk p tp e F N
local macro_rules | `(tactic| k_room) => `(tactic| ((simp only [depth_under_make, depth_under_kw, depth_in1, depth_deeper, depth_caller, recursionLimit]); omega))
local macro_rules | `(tactic| ktr_room) => `(tactic| ((simp only [depth_under_make, depth_under_kw, depth_in1, depth_deeper, depth_caller, recursionLimit]); omega))
local macro_rules | `(tactic| walk_at "exec Assign cons BoolOp") => `(tactic| (k_here; refine Hold.out ?_))
set_option maxHeartbeats 8000000 in
theorem own_int (w : World) (mean : ExcName → Option Value) (mg mb : Str → Option Value) (news : List (Addr × Obj)) (x : Int) (t : Tok) :
    ClD w mean mg mb 150 news [.int x t] (ownD x) := by
  dsimp only [ClD]; intros; rename_i hret
  refine wpAny_call ?_
  k_dflt cell_enter
  iterate 9 ((repeat (k_unfold; (try dsimp only))); first | walk1 | (dsimp only; walk1))
  refine cutP (P := ?P) (fun key => ?walk) ?tail
  case walk =>
    k_steps
    all_goals unfold Hold
    all_goals (first | (refine use_tail (x := x) ?_ (env_one (by with_reducible assumption)) (by with_reducible assumption) ?_; exact key.out) | (refine use_tail (x := x) ?_ (by with_reducible assumption) (by with_reducible assumption) ?_; exact key.out))
    all_goals clear hret key
    all_goals (try exact pF4 (by with_reducible assumption))
    all_goals (first | refine pF1 (by with_reducible assumption) ?_ | refine pF2 (by with_reducible assumption) (by first | (with_reducible assumption) | (have h9 := fm_lo x; omega)) ?_ | refine pF3 (by with_reducible assumption) (by with_reducible assumption) ?_)
    all_goals (first | exact pB1 (by with_reducible assumption) | exact pB2 (by with_reducible assumption) (by with_reducible assumption) | exact pB3 (by with_reducible assumption) (by with_reducible assumption) (by with_reducible assumption) | exact pB4 (by with_reducible assumption) (by with_reducible assumption) (by with_reducible assumption) (by with_reducible assumption) | exact pB5 (by with_reducible assumption) (by with_reducible assumption) (by with_reducible assumption) (by with_reducible assumption))
  case tail =>
    intro h9 tk9 p9 tp9 e9 F9 N9
    k_dflt (refine wpAny_Assign_Name ?_ (by with_unfolding_all rfl))
    k_steps
    all_goals (refine tup4_end hret (by k_asm) (by k_asm) (by assumption) e9 (fm32 _) (alt_own _) ?_)
    all_goals (clear hret)
    all_goals (refine mark_of ?_)
    all_goals (first | exact ow1 (by with_reducible assumption) (by with_reducible assumption) | exact ow2 (by with_reducible assumption) (by with_reducible assumption) | exact ow3 (by with_reducible assumption) (by with_reducible assumption) | exact ow4 (by with_reducible assumption) | exact ow5 (by with_reducible assumption) (by with_reducible assumption) | exact ow6 (by with_reducible assumption) (by with_reducible assumption) | exact ow7 (by with_reducible assumption) (by with_reducible assumption) | exact ow8 (by with_reducible assumption))
end Mine

namespace Mine
theorem calm_E1 : True := by
  w_top off
  trivial
end Mine
namespace Mine
def lexLt : List Int → List Int → Bool
  | x :: xs, y :: ys => if x = y then lexLt xs ys else decide (x < y)
  | _, _ => false
section
variable {prog : Program} {w : World} {A : Around} {E : Value → Shared → Prop} {s : Shared}
theorem tupKey {h : Heap} {a : Addr} {vs : List Value} {ns : List Int} (ht : IsTup h a vs.toArray) (hi : IntsAre vs ns) : IsTupleKey (intKind prog w) h ns a := by
  obtain ⟨o, ho, hc, n, hd⟩ := ht
  refine ⟨o, _, n, ho, hc, hd, ?_⟩
  show ItemsAre _ ns vs
  clear hd
  induction hi with
  | nil => exact .nil
  | cons i t r ih => exact .cons (intKind_is _ _ _ _) ih
theorem tup_eq {a b : Addr} {xs ys : List Value} {ns ms : List Int} {Q : Value → Shared → Prop} (hu : A.units < cLine) (ha : IsTup s.heap a xs.toArray) (hb : IsTup s.heap b ys.toArray) (hi : IntsAre xs ns) (hj : IntsAre ys ms)
    (h : Q (.bool (decide (ns = ms))) s) : wpAny (model prog w) A (compareOp .Eq (.ref a) (.ref b)) Q E s := by
  have hx := tupKey (prog := prog) (w := w) ha hi
  have hy := tupKey (prog := prog) (w := w) hb hj
  exact wpAny_richCompare_same_room (op := .Eq) hx.typeIs hy.typeIs F.slot_tuple_eq
      (wpAny_call_entry F.slot_tuple_eq hx.typeIs F.entry_tuple_eq (tuple_eq_tree hx hy ⟨_, rfl, (fun e => nomatch e), h⟩) (F.args_tuple_eq_2 _ _)) hu
theorem tuple_lt_tree {a b : Addr} {xs ys : List Value} {ns ms : List Int} {P : Fin → Shared → Prop} (ha : IsTup s.heap a xs.toArray) (hb : IsTup s.heap b ys.toArray) (hi : IntsAre xs ns) (hj : IntsAre ys ms) (hl : ns.length = ms.length)
    (h : P (.done (.ret (.bool (lexLt ns ms)))) s) :
    wpAny (model prog w) A (Builtin.«tuple.__lt__» ⟨[.ref a, .ref b], []⟩) P E s := by
  have hTb : s.TypeIs (.ref b) "tuple" := by obtain ⟨o, ho, hc, _⟩ := hb; exact ⟨o, ho, hc⟩
  obtain ⟨oa, hoa, _, na, hda⟩ := ha
  obtain ⟨ob, hob, _, nb, hdb⟩ := hb
  show wpAny _ _ (isInstance (.ref b) (.type "tuple") >>= _) _ _ s
  refine wpAny_bind (wpAny_isInstance hTb isSubtype_tuple_tuple ?_)
  simp only [Bool.not_true, Bool.false_eq_true, if_false]
  refine wpAny_bind (wpAny_tupleItemsOf hoa hda ?_)
  refine wpAny_bind (wpAny_tupleItemsOf hob hdb ?_)
  refine wpAny_bind ?_
  refine wpAny_forIn_list _
    (fun rest r s' => r.1 = none ∧ s' = s ∧ ∃ ns' ms' xs' ys', rest = List.zip xs' ys' ∧ IntsAre xs' ns' ∧ IntsAre ys' ms' ∧ lexLt ns' ms' = lexLt ns ms ∧ ns'.length = ms'.length)
    _ ?_ ?_ _ _ ⟨rfl, rfl, ns, ms, xs, ys, rfl, hi, hj, rfl, hl⟩
  · rintro ⟨u, v⟩ rest r s' ⟨hr, rfl, ns', ms', xs', ys', hz, hx', hy', hdec, hlen⟩
    cases hx' with
    | nil => simp at hz
    | cons k1 t1 hx'' =>
      cases hy' with
      | nil => simp at hz
      | cons k2 t2 hy'' =>
        simp only [List.zip_cons_cons, List.cons.injEq, Prod.mk.injEq] at hz
        obtain ⟨⟨rfl, rfl⟩, rfl⟩ := hz
        refine wpAny_bind (wpAny_eqBool_int ?_)
        by_cases hk : k1 = k2
        · subst hk
          simp only [beq_self_eq_true, Bool.not_true, Bool.false_eq_true, if_false]
          refine wpAny_pure ⟨rfl, rfl, _, _, _, _, rfl, hx'', hy'', ?_, by simpa using hlen⟩
          rw [← hdec]; simp [lexLt]
        · have hk' : (k1 == k2) = false := by simpa using hk
          rw [hk']
          simp only [Bool.not_false, if_true]
          have hf : lexLt ns ms = decide (k1 < k2) := by rw [← hdec]; simp [lexLt, hk]
          rw [hf] at h
          refine wpAny_bind (wpAny_rule (wpAny_bind (wpAny_lt_int ?_)))
          exact wpAny_bind (wpAny_pure (wpAny_pure (wpAny_pure h)))
  · rintro ⟨r1, r2⟩ s' ⟨hr, rfl, ns', ms', xs', ys', hz, hx', hy', hdec, hlen⟩
    simp only at hr
    subst hr
    refine wpAny_pure ?_
    have hfin : lexLt ns ms = false := by
      rw [← hdec]
      cases hx' with
      | nil => rfl
      | cons _ _ =>
        cases hy' with
        | nil => rfl
        | cons _ _ => simp at hz
    have hs : xs.toArray.size = ys.toArray.size := by simp [hi.length, hj.length, hl]
    show P (.done (.ret (Builtin.Tuple.tupleCompareSizes .Lt xs.toArray.size ys.toArray.size))) s'
    rw [hs, show Builtin.Tuple.tupleCompareSizes .Lt ys.toArray.size ys.toArray.size = .bool false from by simp [Builtin.Tuple.tupleCompareSizes], ← hfin]; exact h
theorem tup_lt {a b : Addr} {xs ys : List Value} {ns ms : List Int} {Q : Value → Shared → Prop} (hu : A.units < cLine) (ha : IsTup s.heap a xs.toArray) (hb : IsTup s.heap b ys.toArray) (hi : IntsAre xs ns) (hj : IntsAre ys ms) (hl : ns.length = ms.length)
    (h : Q (.bool (lexLt ns ms)) s) : wpAny (model prog w) A (compareOp .Lt (.ref a) (.ref b)) Q E s := by
  have hx := tupKey (prog := prog) (w := w) ha hi
  have hy := tupKey (prog := prog) (w := w) hb hj
  exact wpAny_richCompare_same_room (op := .Lt) hx.typeIs hy.typeIs F.slot_tuple_lt
      (wpAny_call_entry F.slot_tuple_lt hx.typeIs F.entry_tuple_lt (tuple_lt_tree ha hb hi hj hl ⟨_, rfl, (fun e => nomatch e), h⟩) (F.args_tuple_lt_2 _ _)) hu
end
def orderF (ns ms : List Int) : Int := if ns = ms then 0 else if lexLt ns ms = true then -1 else 1
theorem tupNews {h₀ h : Heap} {L a : Addr} {n : Nat} {vs : List Value} {news : List (Addr × Obj)} (N : News h₀ L h news) (hm : (a, ({ cls := .type "tuple", data := .seq vs.toArray n } : Obj)) ∈ news) : IsTup h a vs.toArray := ⟨_, (N _ hm).1, rfl, n, rfl⟩
theorem warm4 : (fun (_ : OpenLaw) => True) PySem.Challenge.rw_ny0038_01 ∧ (hd.heap_39 = hd.heap_39) := by k_fill; exact ⟨trivial, rfl⟩
local macro_rules | `(tactic| k_room) => `(tactic| ((simp only [depth_under_make, depth_under_kw, depth_in1, depth_deeper, depth_caller, recursionLimit]); omega))
local macro_rules | `(tactic| ktr_room) => `(tactic| ((simp only [depth_under_make, depth_under_kw, depth_in1, depth_deeper, depth_caller, recursionLimit]); omega))
local macro_rules | `(tactic| walk_at "compareOp Eq ref ref") => `(tactic| (k_here; (with_reducible show wpAny _ _ (compareOp CmpOp.Eq (Value.ref _) (Value.ref _)) _ _ _); k_dflt (refine tup_eq (by simp only [units_deeper, cLine]; omega) (tupNews (by with_reducible assumption) (by with_reducible assumption)) (tupNews (by with_reducible assumption) (by with_reducible assumption)) (by with_reducible assumption) (by with_reducible assumption) ?_)))
local macro_rules | `(tactic| walk_at "compareOp Lt ref ref") => `(tactic| (k_here; (with_reducible show wpAny _ _ (compareOp CmpOp.Lt (Value.ref _) (Value.ref _)) _ _ _); k_dflt (refine tup_lt (by simp only [units_deeper, cLine]; omega) (tupNews (by with_reducible assumption) (by with_reducible assumption)) (tupNews (by with_reducible assumption) (by with_reducible assumption)) (by with_reducible assumption) (by with_reducible assumption) (by with_reducible assumption) ?_)))
theorem order_clash {b : Bool} {P : Prop} (h1 : b = true) (h2 : b = false) : P := by rw [h1] at h2; cases h2
set_option maxHeartbeats 8000000 in
theorem order_ok (w : World) (mean : ExcName → Option Value) (mg mb : Str → Option Value) (news : List (Addr × Obj)) (a b : Addr) (n k : Nat) (vs us : List Value) (ns ms : List Int)
    (ha : (a, ({ cls := .type "tuple", data := .seq vs.toArray n } : Obj)) ∈ news) (hb : (b, ({ cls := .type "tuple", data := .seq us.toArray k } : Obj)) ∈ news) (hi : IntsAre vs ns) (hj : IntsAre us ms) (hl : ns.length = ms.length) :
    ClP w mean mg mb 157 news [.ref a, .ref b] (fun t => .int (orderF ns ms) t) := by
  dsimp only [ClP]; intros; rename_i hret
  refine wpAny_call ?_
  k_dflt cell_enter
  k_steps
  all_goals (refine cb_retI hret ?_ (by k_asm) (by k_asm))
  all_goals (clear hret; unfold orderF)
  all_goals (simp only [decide_eq_true_eq, decide_eq_false_iff_not] at *)
  all_goals (repeat' split)
  all_goals (first | rfl | contradiction | exact order_clash (by assumption) (by assumption))
end Mine

namespace Mine
open LCg
/-- a value has come: a datum over what stood as data and what was made; all of the ledger stands -/
def Back (h₀ : Heap) (L : Addr) (m : Str → Option Value) (led news : List (Addr × Obj)) (s : Shared) (d : Dat) (y : Value) (s₂ : Shared) : Prop :=
  ∃ tl h' tk', s₂ = { s with heap := h', toks := tk' } ∧ Fr h₀ L h' m ∧ News h₀ L h' (tl ++ led) ∧ (∀ q ∈ led, ∀ p ∈ tl, q.1 ≠ p.1) ∧ DatIn (tl ++ news) y d
theorem Back.intro {h₀ h' : Heap} {L : Addr} {m : Str → Option Value} {led news all : List (Addr × Obj)} {s : Shared} {d : Dat} {y : Value} {tk' : Nat} (tl : List (Addr × Obj)) (F : Fr h₀ L h' m) (N : News h₀ L h' all) (hs : ∀ p ∈ tl ++ led, p ∈ all)
    (off : ∀ q ∈ led, ∀ p ∈ tl, q.1 ≠ p.1) (hd : DatIn (tl ++ news) y d) : Back h₀ L m led news s d y { s with heap := h', toks := tk' } := ⟨tl, h', tk', rfl, F, fun p hp => N p (hs p hp), off, hd⟩
section
variable {prog : Program} {w : World} {A : Around} {E : Value → Shared → Prop} {s : Shared} {h₀ : Heap} {L : Addr} {m : Str → Option Value} {env : Env} {led news : List (Addr × Obj)}
/-- the state behind a comprehension: a new list, what its items made, the ledger -/
def FinL (h₀ : Heap) (L : Addr) (m : Str → Option Value) (led news : List (Addr × Obj)) (s : Shared) (ds : List Dat) (Q : Value → Shared → Prop) : Prop :=
  ∀ D tl ys h tk, Fr h₀ L h m → News h₀ L h ((D, lst ys) :: (tl ++ led)) → (∀ q ∈ led, q.1 ≠ D ∧ ∀ p ∈ tl, q.1 ≠ p.1) → (∀ p ∈ tl, p.1 ≠ D) → DatAll (tl ++ news) ys ds → Q (.ref D) { s with heap := h, toks := tk }
theorem Off1.mem {D : Addr} : ∀ {l : List (Addr × Obj)}, Off1 D l → ∀ p ∈ l, p.1 ≠ D
  | [], _, _, h => nomatch h
  | _ :: _, x, p, h => by
    rcases List.mem_cons.mp h with rfl | h
    · exact x.1
    · exact Off1.mem x.2 p h
theorem rest_of {α : Type} {elt : Expr} {x : Str} {scope : Scope} {cl : List (Str × Addr)} {s₂ : Shared} {S : List (Addr × Obj) → Prop} {P : Nat → Value → Prop} {Q : Value → Shared → Prop} (src : List α) (f : α → Dat)
    (hS : ∀ tl, S (tl ++ led))
    (turn : ∀ i a v I oI C oC D m₂ ys h tk tl (E' : Value → Shared → Prop), src[i]? = some a → P i v → NsObj oC m₂ → m₂ x = some v → Fr h₀ L h m → News h₀ L h ((I, oI) :: (C, oC) :: (D, lst ys) :: (tl ++ led)) → Off3 I C D (tl ++ led) → ((@Ne Nat I C) ∧ (@Ne Nat I D) ∧ (@Ne Nat C D)) →
      wpAny (model prog w) A (eval elt (compEnvC scope cl C env)) (Back h₀ L m ((I, oI) :: (C, oC) :: (D, lst ys) :: (tl ++ led)) (tl ++ news) { s₂ with heap := h, toks := tk } (f a)) E' { s₂ with heap := h, toks := tk })
    (fin : FinL h₀ L m led news s₂ (src.map f) Q) :
    CompRest prog w A h₀ L m env elt x scope cl s₂ S P (FinE h₀ L m s₂ Q) src.length 0 [] led := by
  have key : ∀ (j i : Nat) (ys : List Value) (tl : List (Addr × Obj)), i + j = src.length → DatAll (tl ++ news) ys ((src.take i).map f) → (∀ q ∈ led, ∀ p ∈ tl, q.1 ≠ p.1) → CompRest prog w A h₀ L m env elt x scope cl s₂ S P (FinE h₀ L m s₂ Q) j i ys (tl ++ led) := by
    intro j
    induction j with
    | zero =>
      intro i ys tl hi hy off
      have e : i = src.length := by omega
      subst e
      rw [List.take_length] at hy
      exact CompRest.zero fun D h tk F N o1 => fin D tl ys h tk F N (fun q hq => ⟨Off1.mem o1 q (List.mem_append_right _ hq), off q hq⟩) (fun p hp => Off1.mem o1 p (List.mem_append_left _ hp)) hy
    | succ j ih =>
      intro i ys tl hi hy off
      refine CompRest.succ ?_
      intro v I oI C oC D m₂ h tk E' hv hC hx F N off3 ne
      have hlt : i < src.length := by omega
      refine wpAny_mono (turn i src[i] v I oI C oC D m₂ ys h tk tl E' (by simp [hlt]) hv hC hx F N off3 ne) (fun y s₃ hq => ?_) fun _ _ e => e
      obtain ⟨tl', h', tk', rfl, F', N', off', hd⟩ := hq
      refine ⟨h', tk', tl' ++ tl ++ led, rfl, F', ?_, ?_, ?_, ?_⟩
      · intro p hp
        refine N' p ?_
        simp only [List.mem_append, List.mem_cons] at hp ⊢
        grind
      · refine Off3.of fun p hp => ?_
        rw [List.append_assoc] at hp
        rcases List.mem_append.mp hp with hp | hp
        · exact ⟨fun e => off' (I, oI) (.head _) p hp e.symm, fun e => off' (C, oC) (.tail _ (.head _)) p hp e.symm, fun e => off' (D, lst ys) (.tail _ (.tail _ (.head _))) p hp e.symm⟩
        · exact off3.mem p hp
      · exact hS _
      · refine ih (i + 1) (ys ++ [y]) (tl' ++ tl) (by omega) ?_ ?_
        · rw [List.take_add_one, List.getElem?_eq_getElem hlt]
          simp only [Option.toList_some, List.map_append, List.map_cons, List.map_nil]
          refine DatAll.append (hy.mono fun p hp => ?_) (DatAll.one (hd.mono fun p hp => ?_))
          · rw [List.append_assoc]; exact List.mem_append_right _ hp
          · rwa [List.append_assoc]
        · intro q hq p hp
          rcases List.mem_append.mp hp with hp | hp
          · exact off' q (.tail _ (.tail _ (.tail _ (List.mem_append_right _ hq)))) p hp
          · exact off q hq p hp
  exact key src.length 0 [] [] (by omega) .nil fun _ _ _ hp => nomatch hp
end
end Mine
namespace Mine
open LCg
section
variable {prog : Program} {w : World} {A : Around} {E : Value → Shared → Prop} {s : Shared} {h₀ : Heap} {L : Addr} {m : Str → Option Value} {env : Env} {led news : List (Addr × Obj)}
/-- one clause over a list of the ledger, its name a local of the block -/
theorem comp_list {elt iter : Expr} {x : Str} {px : Pos} {scope : Scope} {cl : List (Str × Addr)} {pos : Pos} {Q : Value → Shared → Prop} {ax : Addr} {its : List Value} {k : Nat} {src : List Dat} (f : Dat → Dat) (F₀ : Fr h₀ L s.heap m) (hh : A.handled = none)
    (hclos : closureFor scope env = pure cl) (hcell : ∀ y ∈ scope.names, y.2 ≠ .cell) (hkind : scope.kind = .function)
    (hnames : ∀ y ∈ scope.names, y.2 = .local → scope.names.lookup y.1 = some .local) (hx : scope.names.lookup x = some .local)
    (hiter : ∀ P : Value → Shared → Prop, P (.ref ax) s → wpAny (model prog w) A (eval iter env) P E s)
    (N : News h₀ L s.heap led) (hm : (ax, ({ cls := .type "list", data := .seq its.toArray k } : Obj)) ∈ led) (hsz : its.length ≤ 1000) (hd : DatAll news its src)
    (turn : ∀ (i : Nat) a v I oI C oC D m₂ ys h tk tl g (E' : Value → Shared → Prop), src[i]? = some a → DatIn news v a → NsObj oC m₂ → m₂ x = some v → Fr h₀ L h m → News h₀ L h ((I, oI) :: (C, oC) :: (D, lst ys) :: (tl ++ led)) → Off3 I C D (tl ++ led) → ((@Ne Nat I C) ∧ (@Ne Nat I D) ∧ (@Ne Nat C D)) →
      wpAny (model prog w) A (eval elt (compEnvC scope cl C env)) (Back h₀ L m ((I, oI) :: (C, oC) :: (D, lst ys) :: (tl ++ led)) (tl ++ news) { { s with heap := g } with heap := h, toks := tk } (f a)) E' { { s with heap := g } with heap := h, toks := tk })
    (fin : ∀ g, FinL h₀ L m led news { s with heap := g } (src.map f) Q)
    (hs : ∀ x, foldedSetIterable iter env x = pure x := by intro _; rfl) :
    wpAny (model prog w) A (eval (.ListComp elt [⟨.Name x px, iter, [], 0⟩] scope pos) env) Q E s := by
  refine ListComp_U F₀ hclos hcell hkind hnames hx (hiter _ ?_) hs
  refine CompSrc.ledger hh F₀ N hm (by rw [List.size_toArray, sizeLine_eq]; omega) fun g => ?_
  have e : its.toArray.size = src.length := by rw [List.size_toArray, hd.length]
  rw [e]
  refine rest_of src f (fun tl => .inr ⟨_, List.mem_append_right _ hm, rfl, _, rfl⟩) ?_ (fin g)
  intro i a v I oI C oC D m₂ ys h tk tl E' ha hv hC hxv F' N' off ne
  refine turn i a v I oI C oC D m₂ ys h tk tl g E' ha ?_ hC hxv F' N' off ne
  have hi : i < src.length := by
    rcases Nat.lt_or_ge i src.length with h1 | h1
    · exact h1
    · rw [List.getElem?_eq_none h1] at ha; cases ha
  obtain ⟨v', hv', hD⟩ := hd.get hi
  have : v = v' := by
    have q : its[i]? = some v := by simpa using hv
    rw [hv'] at q; exact (Option.some.inj q).symm
  subst this
  rw [List.getElem?_eq_getElem hi] at ha
  cases ha
  exact hD
/-- one clause over a range, its name a local of the block -/
theorem comp_range {elt iter : Expr} {x : Str} {px : Pos} {scope : Scope} {cl : List (Str × Addr)} {pos : Pos} {Q : Value → Shared → Prop} (a b : Int) (n : Nat) (f : Int → Dat) (F₀ : Fr h₀ L s.heap m) (_N : News h₀ L s.heap led)
    (hclos : closureFor scope env = pure cl) (hcell : ∀ y ∈ scope.names, y.2 ≠ .cell) (hkind : scope.kind = .function)
    (hnames : ∀ y ∈ scope.names, y.2 = .local → scope.names.lookup y.1 = some .local) (hx : scope.names.lookup x = some .local)
    (hiter : ∀ P : Value → Shared → Prop, (∀ r t u v h' tk', Fr h₀ L h' m → News h₀ L h' led → IsRange h' r a b 1 t u v → P (.ref r) { s with heap := h', toks := tk' }) → wpAny (model prog w) A (eval iter env) P E s) (hh : A.handled = none)
    (hsm : Builtin.Range.small a b 1 = true) (hn : Builtin.Range.rangeSize a b 1 = ((n : Nat) : Int)) (hsz : n ≤ 1000)
    (turn : ∀ (i : Nat) v t I oI C oC D m₂ ys h tk tl g tk0 (E' : Value → Shared → Prop), i < n → v = .int (a + (i : Int)) t → NsObj oC m₂ → m₂ x = some v → Fr h₀ L h m → News h₀ L h ((I, oI) :: (C, oC) :: (D, lst ys) :: (tl ++ led)) → Off3 I C D (tl ++ led) → ((@Ne Nat I C) ∧ (@Ne Nat I D) ∧ (@Ne Nat C D)) →
      wpAny (model prog w) A (eval elt (compEnvC scope cl C env)) (Back h₀ L m ((I, oI) :: (C, oC) :: (D, lst ys) :: (tl ++ led)) (tl ++ news) { { s with heap := g, toks := tk0 } with heap := h, toks := tk } (f (a + (i : Int)))) E' { { s with heap := g, toks := tk0 } with heap := h, toks := tk })
    (fin : ∀ g tk0, FinL h₀ L m led news { s with heap := g, toks := tk0 } ((rangeKs a n).map f) Q)
    (hs : ∀ x, foldedSetIterable iter env x = pure x := by intro _; rfl) :
    wpAny (model prog w) A (eval (.ListComp elt [⟨.Name x px, iter, [], 0⟩] scope pos) env) Q E s := by
  refine ListComp_U F₀ hclos hcell hkind hnames hx (hiter _ ?_) hs
  intro r t u v h' tk' F' N' hr
  refine CompSrc.range hh F' N' hr hsm hn (by rw [sizeLine_eq]; omega) fun g => ?_
  have e : n = (rangeKs a n).length := (rangeKs_length a n).symm
  have R := rest_of (prog := prog) (w := w) (A := A) (elt := elt) (x := x) (scope := scope) (cl := cl) (env := env) (s₂ := { s with heap := g, toks := tk' }) (S := fun _ => True) (P := fun i v => ∃ t, v = .int (a + (i : Int)) t) (Q := Q) (h₀ := h₀) (L := L) (m := m) (led := led) (news := news) (rangeKs a n) f (fun _ => trivial) ?_ (fin g tk')
  · rw [← e] at R; exact R
  intro i a' v I oI C oC D m₂ ys h tk tl E' ha hv hC hxv F' N' off ne
  obtain ⟨t, rfl⟩ := hv
  have hi : i < n := by
    rcases Nat.lt_or_ge i n with h1 | h1
    · exact h1
    · rw [List.getElem?_eq_none (by rw [rangeKs_length]; exact h1)] at ha; cases ha
  have ea : a' = a + (i : Int) := by
    simp [rangeKs, hi] at ha
    exact ha.symm
  subst ea
  exact turn i _ t I oI C oC D m₂ ys h tk tl g tk' E' hi rfl hC hxv F' N' off ne
end
end Mine

namespace Mine
open LCg
def flatD : Dat → Bool
  | .int _ => true
  | .str _ => true
  | _ => false
theorem datIn_flat {news : List (Addr × Obj)} {v : Value} {d : Dat} (h : DatIn news v d) (hf : flatD d = true) : DatIn [] v d := by
  cases h with
  | int i t => exact .int i t
  | str x t => exact .str x t
  | _ => cases hf
theorem datAll_flat {news : List (Addr × Obj)} : ∀ {vs : List Value} {ds : List Dat}, DatAll news vs ds → (∀ d ∈ ds, flatD d = true) → DatAll [] vs ds
  | _, _, .nil, _ => .nil
  | _, _, .cons h r, hf => .cons (datIn_flat h (hf _ (.head _))) (datAll_flat r fun d hd => hf d (.tail _ hd))
theorem datAll_take {news : List (Addr × Obj)} : ∀ {vs : List Value} {ds : List Dat} (k : Nat), DatAll news vs ds → DatAll news (vs.take k) (ds.take k)
  | _, _, 0, _ => .nil
  | _, _, _ + 1, .nil => .nil
  | _, _, k + 1, .cons h r => .cons h (datAll_take k r)
theorem datAll_drop {news : List (Addr × Obj)} : ∀ {vs : List Value} {ds : List Dat} (k : Nat), DatAll news vs ds → DatAll news (vs.drop k) (ds.drop k)
  | _, _, 0, h => h
  | _, _, _ + 1, .nil => .nil
  | _, _, k + 1, .cons _ r => datAll_drop k r
theorem pick_upto2 (vs : List Value) : (slicePick vs.toArray none (some 2) none).toList = vs.take 2 := by
  have e : sliceBounds none (some 2) none vs.toArray.size = (((0 : Nat) : Int), ((min 2 vs.toArray.size : Nat) : Int), 1) := by
    simp only [sliceBounds, Option.getD_none, show (1 : Int) > 0 by decide, if_true, if_neg (show ¬ ((2 : Int) < 0) by omega)]
    congr 1
    congr 1
    omega
  rw [kmk_pick_nat _ e]
  show (vs.drop 0).take (min 2 vs.toArray.size - 0) = _
  rw [List.drop_zero, Nat.sub_zero, List.size_toArray, kmk_take_min]
theorem pick_from2 (vs : List Value) : (slicePick vs.toArray (some 2) none none).toList = vs.drop 2 := by
  have e : sliceBounds (some 2) none none vs.toArray.size = (((min 2 vs.toArray.size : Nat) : Int), ((vs.toArray.size : Nat) : Int), 1) := by
    simp only [sliceBounds, Option.getD_none, show (1 : Int) > 0 by decide, if_true, if_neg (show ¬ ((2 : Int) < 0) by omega)]
    congr 1
    omega
  rw [kmk_pick_nat _ e]
  show (vs.drop (min 2 vs.toArray.size)).take (vs.toArray.size - min 2 vs.toArray.size) = _
  rw [List.size_toArray, kmk_drop_min, List.take_of_length_le (by rw [List.length_drop]; omega)]
abbrev listO (vs : List Value) (n : Nat) : Obj := { cls := .type "list", data := .seq vs.toArray n }
section
variable {prog : Program} {w : World} {A : Around} {E : Value → Shared → Prop} {s : Shared} {h₀ : Heap} {L : Addr} {m : Str → Option Value} {env : Env} {led news : List (Addr × Obj)}
theorem add_cat {a b : Addr} {vs us : List Value} {n k : Nat} {Q : Value → Shared → Prop} (F : Fr h₀ L s.heap m) (N : News h₀ L s.heap led) (ha : (a, listO vs n) ∈ led) (hb : (b, listO us k) ∈ led) (hsz : vs.length + us.length ≤ 1000)
    (h : ∀ D h', Fr h₀ L h' m → News h₀ L h' ((D, listO (vs ++ us) 0) :: led) → (∀ p ∈ led, p.1 < D) → Q (.ref D) { s with heap := h' }) : wpAny (model prog w) A (binaryOp .Add (.ref a) (.ref b)) Q E s :=
  add_lists F N ⟨_, (N _ ha).1, rfl, _, rfl⟩ ⟨_, (N _ hb).1, rfl, _, rfl⟩ (fun h' F' N' => h _ h' F' N' fun p hp => Heap.lt_size (N p hp).1) (by rw [sizeLine_eq]; omega)
def FinF (h₀ : Heap) (L : Addr) (m : Str → Option Value) (led : List (Addr × Obj)) (s : Shared) (ds : List Dat) (Q : Value → Shared → Prop) : Prop :=
  ∀ D ys h tk, Fr h₀ L h m → News h₀ L h ((D, lst ys) :: led) → (∀ q ∈ led, q.1 ≠ D) → DatAll [] ys ds → Q (.ref D) { s with heap := h, toks := tk }
theorem FinF.toL {ds : List Dat} {Q : Value → Shared → Prop} (h : FinF h₀ L m led s ds Q) (hf : ∀ d ∈ ds, flatD d = true) : FinL h₀ L m led news s ds Q := by
  intro D tl ys h' tk F N off off' hD
  refine h D ys h' tk F (fun p hp => N p ?_) (fun q hq => (off q hq).1) (datAll_flat hD hf)
  rcases List.mem_cons.mp hp with rfl | hp
  · exact .head _
  · exact .tail _ (List.mem_append_right _ hp)
end
end Mine
namespace Mine
open LCg
theorem allLt_mem {d : Addr} : ∀ {l : List (Addr × Obj)}, AllLt d l → ∀ p ∈ l, p.1 < d
  | [], _, _, h => nomatch h
  | _ :: _, x, p, h => by
    rcases List.mem_cons.mp h with rfl | h
    · exact x.1
    · exact allLt_mem x.2 p h
abbrev tupO (vs : List Value) (n : Nat) : Obj := { cls := .type "tuple", data := .seq vs.toArray n }
theorem News.bring {h₀ h : Heap} {L : Addr} {p : Addr × Obj} {news : List (Addr × Obj)} (N : News h₀ L h news) (hp : p ∈ news) : News h₀ L h (p :: news) := fun q hq => by
  rcases List.mem_cons.mp hq with rfl | hq
  · exact N _ hp
  · exact N _ hq
section
variable {prog : Program} {w : World} {A : Around} {E : Value → Shared → Prop} {s : Shared} {h₀ h' : Heap} {L : Addr} {m : Str → Option Value} {led news : List (Addr × Obj)} {tk' : Nat}
/-- a new tuple is what came -/
theorem leaf_tup {all : List (Addr × Obj)} {D : Addr} {vs : List Value} {n : Nat} {ds : List Dat} (F : Fr h₀ L h' m) (N : News h₀ L h' ((D, tupO vs n) :: all)) (l1 : AllLt D all) (hsub : ∀ p ∈ led, p ∈ all) (hd : DatAll news vs ds) :
    Back h₀ L m led news s (.tuple ds) (.ref D) { s with heap := h', toks := tk' } := by
  refine Back.intro [(D, tupO vs n)] F N (fun p hp => ?_) (fun q hq p hp => ?_) (.tuple (List.Mem.head _) (DatAll.mono (fun p hp => List.Mem.tail _ hp) hd))
  · rcases List.mem_cons.mp hp with rfl | hp
    · exact .head _
    · exact .tail _ (hsub p hp)
  · rw [List.mem_singleton.mp hp]; exact Nat.ne_of_lt (allLt_mem l1 q (hsub q hq))
theorem list_end2 {Q : Value → Shared → Prop} {D : Addr} {tl : List (Addr × Obj)} {ys : List Value} {ds : List Dat} (hret : BackD h₀ L m news s Q (.list ds)) (F : Fr h₀ L h' m)
    (N : News h₀ L h' ((D, lst ys) :: (tl ++ led))) (hsub : ∀ p ∈ news, p ∈ led) (off : ∀ q ∈ led, q.1 ≠ D ∧ ∀ p ∈ tl, q.1 ≠ p.1) (hd : DatAll (tl ++ []) ys ds) : Q (.ref D) { s with heap := h', toks := tk' } := by
  refine hret _ ((D, lst ys) :: tl) h' tk' F (fun p hp => N p ?_) (fun q hq p hp => ?_) (.list (n := ys.length) (List.Mem.head _) (DatAll.mono (fun p hp => ?_) hd))
  · rcases List.mem_cons.mp hp with rfl | hp
    · exact .head _
    · rcases List.mem_append.mp hp with hp | hp
      · exact .tail _ (List.mem_append_left _ hp)
      · exact .tail _ (List.mem_append_right _ (hsub p hp))
  · rcases List.mem_cons.mp hp with rfl | hp
    · exact (off q (hsub q hq)).1
    · exact (off q (hsub q hq)).2 p hp
  · rw [List.append_nil] at hp
    exact .tail _ hp
theorem len_led {l : Addr} {vs : List Value} {n k : Nat} {Q : Value → Shared → Prop} (N : News h₀ L s.heap led) (hm : (l, listO vs n) ∈ led) (hk : vs.length = k) (hfit : k < 1000)
    (h : Q (.int (k : Int) (s.toks + 1)) { s with toks := s.toks + 1 + 1 }) : wpAny (model prog w) A (call (.builtin "len") [.ref l]) Q E s := by
  have hl : s.heap.IsList l vs.toArray := ⟨_, (N _ hm).1, rfl, n, rfl⟩
  have e : vs.toArray.size = k := by rw [List.size_toArray, hk]
  exact len_list hl (by rw [e]; omega) (by rw [e]; exact h)
theorem item_list {l : Addr} {value slice : PySem.Expr} {vs : List Value} {n : Nat} {k : Int} {u : Tok} {v : Value} {Q : Value → Shared → Prop}
    (N : News h₀ L s.heap led) (hm : (l, listO vs n) ∈ led) (h0 : 0 ≤ k) (hhi : k < 2 ^ 63) (hx : vs[k.toNat]? = some v) (h : Q v s)
    (hs : subscripted slice false (.ref l) (.int k u) = operate [.ref l, .int k u] (getItem (.ref l) (.int k u))) :
    wpAny (model prog w) A (subscriptTail value slice (.ref l) (.int k u)) Q E s := by
  have hl : s.heap.IsList l vs.toArray := ⟨_, (N _ hm).1, rfl, n, rfl⟩
  exact tail_any hl.typeIs slot_list_getitem.lookup (wpAny_getItem_list hl h0 hhi (by simpa using hx) h) hs
end
end Mine

namespace Mine
open LCg
section
variable {prog : Program} {w : World} {A : Around} {E : Value → Shared → Prop} {s : Shared} {h₀ : Heap} {L : Addr} {m : Str → Option Value} {env : Env} {led news : List (Addr × Obj)}
theorem compLoop_gen {elt : Expr} {gens : List Comprehension} {scope : Scope} {pos p : Pos} {depth : Nat} {target : Expr} {it acc : Value} {emit : Sem Unit} {R : Result → Shared → Prop}
    (hturn : compTurn (.ListComp elt gens scope pos) depth it acc env = (standAt p >>= fun _ => pyNext it >>= fun r => match r with
      | none => pure (.done .next)
      | some v => letOwnedTupleGo target it v >>= fun _ => assign target env v >>= fun _ => emit >>= fun _ => again (.compLoop (.ListComp elt gens scope pos) depth it acc env)))
    (Inv : Nat → Shared → Prop)
    (turn : ∀ n s, Inv n s → wpAny (model prog w) A (pyNext it) (fun r s₁ => match r with
      | none => R (.ok .next) s₁
      | some v => wpAny (model prog w) A (letOwnedTupleGo target it v) (fun _ s₂ => wpAny (model prog w) A (assign target env v) (fun _ s₃ =>
          wpAny (model prog w) A emit (fun _ s₄ => ∃ m, m < n ∧ Inv m s₄) (notedBy (model prog w) A env fun e s' => R (.error e) s') s₃) (notedBy (model prog w) A env fun e s' => R (.error e) s') s₂)
          (notedBy (model prog w) A env fun e s' => R (.error e) s') s₁) (notedBy (model prog w) A env fun e s' => R (.error e) s') s)
    (n : Nat) (h : Inv n s) : codeAny (model prog w) A (.compLoop (.ListComp elt gens scope pos) depth it acc env) R s := by
  refine codeAny_loop rfl Inv (fun n s hI => ?_) n h
  show wpAny _ A ((compTurn (.ListComp elt gens scope pos) depth it acc env).onRaise (fun x => do noteFrame x env; theTreesLotGoes x)) _ _ s
  refine wpAny_noted ?_
  rw [hturn]
  refine wpAny_bind (wpAny_standAt (wpAny_bind (wpAny_mono (turn n s hI) (fun r s₁ h₁ => ?_) fun _ _ h' => h')))
  cases r with
  | none => exact wpAny_pure h₁
  | some v => exact wpAny_bind (wpAny_mono h₁ (fun _ _ h₂ => wpAny_bind (wpAny_mono h₂ (fun _ _ h₃ => wpAny_bind (wpAny_mono h₃ (fun _ _ h₄ => wpAny_pure ⟨rfl, h₄⟩) fun _ _ e => e)) fun _ _ e => e)) fun _ _ e => e)
/-- the ledger of a block under way -/
abbrev blk (C D : Addr) (oC : Obj) (ys : List Value) (xs tl led : List (Addr × Obj)) : List (Addr × Obj) := (C, oC) :: (D, lst ys) :: (xs ++ (tl ++ led))
structure Apart (I C D : Addr) (cad : List Addr) (X : List (Addr × Obj)) : Prop where
  i : ∀ p ∈ X, p.1 ≠ I
  c : ∀ p ∈ X, p.1 ≠ C
  d : ∀ p ∈ X, p.1 ≠ D
  x : ∀ p ∈ X, p.1 ∉ cad
theorem mem_cad {xs : List (Addr × Obj)} {cad : List Addr} (h : xs.map (·.1) = cad) {p : Addr × Obj} (hp : p ∈ xs) : p.1 ∈ cad := h ▸ List.mem_map.mpr ⟨p, hp, rfl⟩
/-- one clause over a list of the ledger: what each turn emits is a list of data -/
theorem level {elt : Expr} {gens : List Comprehension} {scope : Scope} {pos p : Pos} {depth : Nat} {target : Expr} {emit : Sem Unit} {R : Result → Shared → Prop} {I C D ax : Addr} {cad : List Addr} {its : List Value} {k : Nat} {src ds0 : List Dat}
    (g : Dat → List Dat) (Pre : Obj → List (Addr × Obj) → Prop) (T : Value → Obj → List (Addr × Obj) → Prop)
    (hturn : compTurn (.ListComp elt gens scope pos) depth (.ref I) (.ref D) env = (standAt p >>= fun _ => pyNext (.ref I) >>= fun r => match r with
      | none => pure (.done .next)
      | some v => letOwnedTupleGo target (.ref I) v >>= fun _ => assign target env v >>= fun _ => emit >>= fun _ => again (.compLoop (.ListComp elt gens scope pos) depth (.ref I) (.ref D) env)))
    (hh : A.handled = none) (hIC : I ≠ C) (hID : I ≠ D) (hIL : I ≠ L) (hI0 : h₀.get? I = none) (hIx : I ∉ cad) (hm : (ax, listO its k) ∈ led) (hd : DatAll news its src)
    (hassign : ∀ (i : Nat) a v oI oC xs ys tl h tk (Q : Unit → Shared → Prop) (E' : Value → Shared → Prop), src[i]? = some a → DatIn news v a → Pre oC xs → xs.map (·.1) = cad → Fr h₀ L h m → News h₀ L h ((I, oI) :: blk C D oC ys xs tl led) → Apart I C D cad (tl ++ led) →
      (∀ h₁ tk₁ oC₁ xs₁, T v oC₁ xs₁ → xs₁.map (·.1) = cad → Fr h₀ L h₁ m → News h₀ L h₁ ((I, oI) :: blk C D oC₁ ys xs₁ tl led) → Q () { s with heap := h₁, toks := tk₁ }) → wpAny (model prog w) A (assign target env v) Q E' { s with heap := h, toks := tk })
    (hemit : ∀ (i : Nat) a v oI oC xs ys tl h tk (Q : Unit → Shared → Prop) (E' : Value → Shared → Prop), src[i]? = some a → DatIn news v a → T v oC xs → xs.map (·.1) = cad → Fr h₀ L h m → News h₀ L h ((I, oI) :: blk C D oC ys xs tl led) → Apart I C D cad (tl ++ led) →
      (∀ q ∈ led, ∀ p ∈ tl, q.1 ≠ p.1) → DatAll (tl ++ news) ys (ds0 ++ (src.take i).flatMap g) →
      (∀ h₁ tk₁ oC₁ xs₁ ys₁ tl₁, Pre oC₁ xs₁ → xs₁.map (·.1) = cad → Fr h₀ L h₁ m → News h₀ L h₁ ((I, oI) :: blk C D oC₁ ys₁ xs₁ tl₁ led) → Apart I C D cad (tl₁ ++ led) → (∀ q ∈ led, ∀ p ∈ tl₁, q.1 ≠ p.1) →
        DatAll (tl₁ ++ news) ys₁ ((ds0 ++ (src.take i).flatMap g) ++ g a) → Q () { s with heap := h₁, toks := tk₁ }) → wpAny (model prog w) A emit Q E' { s with heap := h, toks := tk })
    (hfin : ∀ oC xs ys tl h tk, Pre oC xs → xs.map (·.1) = cad → Fr h₀ L h m → News h₀ L h (blk C D oC ys xs tl led) → Apart I C D cad (tl ++ led) → (∀ q ∈ led, ∀ p ∈ tl, q.1 ≠ p.1) → DatAll (tl ++ news) ys (ds0 ++ src.flatMap g) → R (.ok .next) { s with heap := h, toks := tk })
    {oC0 : Obj} {xs0 tl0 : List (Addr × Obj)} {ys0 : List Value} {h0 : Heap} {tk0 : Nat} (hp0 : Pre oC0 xs0) (hx0 : xs0.map (·.1) = cad) (F0 : Fr h₀ L h0 m) (N0 : News h₀ L h0 (blk C D oC0 ys0 xs0 tl0 led)) (hit0 : h0.IsListIter I ax 0)
    (ap0 : Apart I C D cad (tl0 ++ led)) (of0 : ∀ q ∈ led, ∀ p ∈ tl0, q.1 ≠ p.1) (hD0 : DatAll (tl0 ++ news) ys0 ds0) :
    codeAny (model prog w) A (.compLoop (.ListComp elt gens scope pos) depth (.ref I) (.ref D) env) R { s with heap := h0, toks := tk0 } := by
  have hne : ax ≠ I := ap0.i _ (List.mem_append_right _ hm)
  have W := Walks.list (prog := prog) (w := w) hh I ax hne its.toArray
  have hlen : its.toArray.size = src.length := by rw [List.size_toArray, hd.length]
  have keepBut : ∀ {h h₁ : Heap} {oC xs ys tl}, (∀ b o, b ∉ [I] → h.get? b = some o → h₁.get? b = some o) → xs.map (·.1) = cad → Fr h₀ L h m → News h₀ L h (blk C D oC ys xs tl led) → Apart I C D cad (tl ++ led) → Fr h₀ L h₁ m ∧ News h₀ L h₁ (blk C D oC ys xs tl led) := by
    intro h h₁ oC xs ys tl hk hx F N ap
    refine ⟨fr_but F hk (Ne.symm hIL) hI0, news_but N hk fun p hp => ?_⟩
    rcases List.mem_cons.mp hp with rfl | hp
    · exact Ne.symm hIC
    · rcases List.mem_cons.mp hp with rfl | hp
      · exact Ne.symm hID
      · rcases List.mem_append.mp hp with hp | hp
        · exact fun e => hIx (e ▸ mem_cad hx hp)
        · exact ap.i p hp
  refine compLoop_gen hturn
    (fun n s' => ∃ i oC xs ys tl h tk, s' = { s with heap := h, toks := tk } ∧ i ≤ src.length ∧ n = src.length + 1 - i ∧ Pre oC xs ∧ xs.map (·.1) = cad ∧ Fr h₀ L h m ∧ News h₀ L h (blk C D oC ys xs tl led) ∧ h.IsListIter I ax i ∧ Apart I C D cad (tl ++ led) ∧ (∀ q ∈ led, ∀ p ∈ tl, q.1 ≠ p.1) ∧
      DatAll (tl ++ news) ys (ds0 ++ (src.take i).flatMap g)) ?_ (src.length + 1)
    ⟨0, oC0, xs0, ys0, tl0, h0, tk0, rfl, Nat.zero_le _, rfl, hp0, hx0, F0, N0, hit0, ap0, of0, by simpa using hD0⟩
  rintro n s' ⟨i, oC, xs, ys, tl, h, tk, rfl, hi, rfl, hp, hx, F, N, hit, ap, of, hD⟩
  have hls : h.IsList ax its.toArray := ⟨_, (N (ax, listO its k) (List.Mem.tail _ (List.Mem.tail _ (List.mem_append_right _ (List.mem_append_right _ hm))))).1, rfl, k, rfl⟩
  by_cases hlt : i < src.length
  · refine W.item i _ _ _ (by rw [hlen]; exact hlt) ⟨hit, hls⟩ fun v h₁ tk₁ hP hst hk => ?_
    have hv : its[i]? = some v := by simpa using hP
    obtain ⟨v', hv', hD'⟩ := hd.get hlt
    have e : v = v' := by rw [hv'] at hv; exact (Option.some.inj hv).symm
    subst e
    have ha : src[i]? = some src[i] := List.getElem?_eq_getElem hlt
    obtain ⟨F₁, N₁⟩ := keepBut hk hx F N ap
    refine letGo_listiter (E := notedBy (model prog w) A env fun e s' => R (.error e) s') (s' := { s with heap := h₁, toks := tk₁ }) hst.1 ?_
    obtain ⟨oI, heI, hcI, hdI⟩ := hst.1
    have N₂ : News h₀ L h₁ ((I, oI) :: blk C D oC ys xs tl led) := fun p hp => by
      rcases List.mem_cons.mp hp with rfl | hp
      · exact ⟨heI, hIL, hI0⟩
      · exact N₁ p hp
    refine hassign i src[i] v oI oC xs ys tl h₁ tk₁ _ _ ha hD' hp hx F₁ N₂ ap fun h₂ tk₂ oC₂ xs₂ hT hx₂ F₂ N₂' => ?_
    refine hemit i src[i] v oI oC₂ xs₂ ys tl h₂ tk₂ _ _ ha hD' hT hx₂ F₂ N₂' ap of hD fun h₃ tk₃ oC₃ xs₃ ys₃ tl₃ hp₃ hx₃ F₃ N₃ ap₃ of₃ hD₃ => ?_
    refine ⟨src.length + 1 - (i + 1), by omega, i + 1, oC₃, xs₃, ys₃, tl₃, h₃, tk₃, rfl, hlt, rfl, hp₃, hx₃, F₃, fun p hp => N₃ p (.tail _ hp), ⟨oI, (N₃ _ (List.Mem.head _)).1, hcI, hdI⟩, ap₃, of₃, ?_⟩
    have e : (src.take (i + 1)).flatMap g = (src.take i).flatMap g ++ g src[i] := by
      rw [List.take_add_one, ha, Option.toList_some, List.flatMap_append]
      simp only [List.flatMap_cons, List.flatMap_nil, List.append_nil]
    rw [e, ← List.append_assoc]
    exact hD₃
  · have e : i = src.length := by omega
    subst e
    refine W.done _ _ _ (by rw [hlen]; exact ⟨hit, hls⟩) fun h₁ tk₁ hk => ?_
    obtain ⟨F₁, N₁⟩ := keepBut hk hx F N ap
    rw [List.take_length] at hD
    exact hfin oC xs ys tl h₁ tk₁ hp hx F₁ N₁ ap of hD
/-- what is emitted is one item, appended -/
theorem emit_append {elt : Expr} {I C D : Addr} {oI oC : Obj} {cad : List Addr} {xs tl : List (Addr × Obj)} {ys : List Value} {ds : List Dat} {d : Dat} {h : Heap} {tk : Nat} {Q : Unit → Shared → Prop} {E' : Value → Shared → Prop}
    (hID : I ≠ D) (hCD : C ≠ D) (hDL : D ≠ L) (hD0 : h₀.get? D = none) (hDx : D ∉ cad) (hx : xs.map (·.1) = cad) (ap : Apart I C D cad (tl ++ led)) (of : ∀ q ∈ led, ∀ p ∈ tl, q.1 ≠ p.1) (hsz : ys.length ≤ 1000)
    (hel : wpAny (model prog w) A (eval elt env) (Back h₀ L m ((I, oI) :: blk C D oC ys xs tl led) (tl ++ news) { s with heap := h, toks := tk } d) E' { s with heap := h, toks := tk }) (hD : DatAll (tl ++ news) ys ds)
    (hQ : ∀ h₁ tk₁ ys₁ tl₁, Fr h₀ L h₁ m → News h₀ L h₁ ((I, oI) :: blk C D oC ys₁ xs tl₁ led) → Apart I C D cad (tl₁ ++ led) → (∀ q ∈ led, ∀ p ∈ tl₁, q.1 ≠ p.1) → DatAll (tl₁ ++ news) ys₁ (ds ++ [d]) → Q () { s with heap := h₁, toks := tk₁ }) :
    wpAny (model prog w) A (eval elt env >>= fun x => call (.builtin "list.append") [.ref D, x] >>= fun _ => pure ()) Q E' { s with heap := h, toks := tk } := by
  refine wpAny_bind (wpAny_mono hel (fun y s₁ h₁ => ?_) fun _ _ e => e)
  obtain ⟨tl', h', tk', rfl, F', N', off', hd⟩ := h₁
  have zD := (N' (D, lst ys) (List.mem_append_right _ (.tail _ (.tail _ (.head _))))).1
  refine wpAny_bind (append_at (hsz := by show ys.toArray.size ≤ sizeLine; rw [List.size_toArray, sizeLine_eq]; omega) zD fun h₂ hs hD₂ => wpAny_pure ?_)
  have offD : ∀ p ∈ tl', p.1 ≠ D := fun p hp e => off' (D, lst ys) (.tail _ (.tail _ (.head _))) p hp e.symm
  refine hQ h₂ tk' (ys ++ [y]) (tl' ++ tl) (F'.change hs hDL hD0) (fun p hp => ?_) ⟨fun p hp => ?_, fun p hp => ?_, fun p hp => ?_, fun p hp => ?_⟩ (fun q hq p hp => ?_) ?_
  · have keep : ∀ p : Addr × Obj, p.1 ≠ D → p ∈ tl' ++ ((I, oI) :: blk C D oC ys xs tl led) → h₂.get? p.1 = some p.2 ∧ p.1 ≠ L ∧ h₀.get? p.1 = none := fun p h1 h2 => ⟨hs.extBut _ _ h1 (N' p h2).1, (N' p h2).2⟩
    rcases List.mem_cons.mp hp with rfl | hp
    · exact keep _ hID (List.mem_append_right _ (.head _))
    · rcases List.mem_cons.mp hp with rfl | hp
      · exact keep _ hCD (List.mem_append_right _ (.tail _ (.head _)))
      · rcases List.mem_cons.mp hp with rfl | hp
        · exact ⟨hD₂.trans (congrArg some (lst_snoc ys y)), hDL, hD0⟩
        · rcases List.mem_append.mp hp with hp | hp
          · exact keep _ (fun e => hDx (e ▸ mem_cad hx hp)) (List.mem_append_right _ (.tail _ (.tail _ (.tail _ (List.mem_append_left _ hp)))))
          · rw [List.append_assoc] at hp
            rcases List.mem_append.mp hp with hp | hp
            · exact keep _ (offD p hp) (List.mem_append_left _ hp)
            · exact keep _ (ap.d p hp) (List.mem_append_right _ (.tail _ (.tail _ (.tail _ (List.mem_append_right _ hp)))))
  · rw [List.append_assoc] at hp
    rcases List.mem_append.mp hp with hp | hp
    · exact fun e => off' (I, oI) (.head _) p hp e.symm
    · exact ap.i p hp
  · rw [List.append_assoc] at hp
    rcases List.mem_append.mp hp with hp | hp
    · exact fun e => off' (C, oC) (.tail _ (.head _)) p hp e.symm
    · exact ap.c p hp
  · rw [List.append_assoc] at hp
    rcases List.mem_append.mp hp with hp | hp
    · exact offD p hp
    · exact ap.d p hp
  · rw [List.append_assoc] at hp
    rcases List.mem_append.mp hp with hp | hp
    · intro hc
      rw [← hx] at hc
      obtain ⟨q, hq, e⟩ := List.mem_map.mp hc
      exact off' q (.tail _ (.tail _ (.tail _ (List.mem_append_left _ hq)))) p hp e
    · exact ap.x p hp
  · rcases List.mem_append.mp hp with hp | hp
    · exact off' q (.tail _ (.tail _ (.tail _ (List.mem_append_right _ (List.mem_append_right _ hq))))) p hp
    · exact of q hq p hp
  · refine DatAll.append (DatAll.mono (fun p hp => ?_) hD) (DatAll.one (DatIn.mono (fun p hp => ?_) hd))
    · rw [List.append_assoc]; exact List.mem_append_right _ hp
    · rwa [List.append_assoc]
end
end Mine

namespace Mine
open LCg
section
variable {prog : Program} {w : World} {A : Around} {E : Value → Shared → Prop} {s : Shared} {h₀ : Heap} {L : Addr} {m : Str → Option Value} {env : Env} {led news : List (Addr × Obj)}
/-- the end of a block's loop -/
abbrev LoopEnd (h₀ : Heap) (L : Addr) (m : Str → Option Value) (I C D : Addr) (cad : List Addr) (led news : List (Addr × Obj)) (ds : List Dat) (s : Shared) (R : Result → Shared → Prop) : Prop :=
  ∀ oC' xs' ys tl h' tk', (∃ mC, NsObj oC' mC) → xs'.map (·.1) = cad → Fr h₀ L h' m → News h₀ L h' (blk C D oC' ys xs' tl led) → Apart I C D cad (tl ++ led) → (∀ q ∈ led, ∀ p ∈ tl, q.1 ≠ p.1) → DatAll (tl ++ news) ys ds → R (.ok .next) { s with heap := h', toks := tk' }
structure Fresh3 (h₀ : Heap) (L I C D : Addr) : Prop where
  ic : I ≠ C
  id : I ≠ D
  cd : C ≠ D
  il : I ≠ L
  cl : C ≠ L
  dl : D ≠ L
  i0 : h₀.get? I = none
  c0 : h₀.get? C = none
  d0 : h₀.get? D = none
abbrev LoopRuns (prog : Program) (w : World) (A : Around) (h₀ : Heap) (L : Addr) (m : Str → Option Value) (env : Env) (led news : List (Addr × Obj)) (s : Shared) (elt : Expr) (gens : List Comprehension) (scope : Scope) (pos : Pos) (cl : List (Str × Addr)) (ax : Addr) (ds : List Dat) : Prop :=
  ∀ I C D oC h tk R, Fresh3 h₀ L I C D → (NsObj oC fun _ => none) → Fr h₀ L h m → News h₀ L h (blk C D oC [] [] [] led) → h.IsListIter I ax 0 → Apart I C D [] led → LoopEnd h₀ L m I C D [] led news ds s R →
    codeAny (model prog w) A (.compLoop (.ListComp elt gens scope pos) 0 (.ref I) (.ref D) (compEnvC scope cl C env)) R { s with heap := h, toks := tk }
theorem comp_core {elt target iter : Expr} {ifs : List Expr} {rest : List Comprehension} {scope : Scope} {pos : Pos} {cl : List (Str × Addr)} {ax : Addr} {its : List Value} {k : Nat} {ds : List Dat} {RR : Value → Addr → Result → Shared → Prop}
    (hcell : ∀ y ∈ scope.names, y.2 ≠ .cell) (hkind : scope.kind = .function) (F : Fr h₀ L s.heap m) (N : News h₀ L s.heap led) (hm : (ax, listO its k) ∈ led)
    (loop : LoopRuns prog w A h₀ L m env led news s elt (⟨target, iter, ifs, 0⟩ :: rest) scope pos cl ax ds)
    (hRR : ∀ D C h tk m' ys tl, Fr h₀ L h m → News h₀ L h ((D, lst ys) :: (tl ++ led)) → h.Ns C m' → h₀.get? C = none → C ≠ L → C ≠ D → (∀ p ∈ tl ++ led, p.1 ≠ C) → (∀ q ∈ led, q.1 ≠ D ∧ ∀ p ∈ tl, q.1 ≠ p.1) → (∀ p ∈ tl, p.1 ≠ D) → DatAll (tl ++ news) ys ds → RR (.ref D) C (.ok .next) { s with heap := h, toks := tk }) :
    wpAny (model prog w) A (pyIter (.ref ax)) (fun it s₂ => wpAny (model prog w) A (newList []) (fun acc s₃ => wpAny (model prog w) A (newFunctionEnv scope env.globals cl [] env.qual none .none (some env)) (fun cenv s₄ =>
      codeAny (model prog w) A (.compStart (.ListComp elt (⟨target, iter, ifs, 0⟩ :: rest) scope pos) 0 it acc { cenv with scope := relabel scope env }) (RR acc cenv.locals) s₄) E s₃) E s₂) E s := by
  have hl : s.heap.IsList ax its.toArray := ⟨_, (N _ hm).1, rfl, k, rfl⟩
  refine wpAny_pyIter_list hl ?_
  generalize hH1 : s.heap.push { cls := .type "list_iterator", data := .fields #[.ref ax, .int 0 0] } = H1
  refine wpAny_newObj_type (wpAny_newFunctionEnv hcell (by intro y hy; simp at hy) (fun h₁ hns₁ hsb₁ => ?_) hkind)
  dsimp only at hns₁ hsb₁ ⊢
  generalize hH2 : H1.push { cls := .type "list", dict := none, data := .seq ([] : List Value).toArray } = H2 at hns₁ hsb₁ ⊢
  have s1 : H1.objs.size = s.heap.objs.size + 1 := by rw [← hH1, Heap.size_push]
  have s2 : H2.objs.size = s.heap.objs.size + 1 + 1 := by rw [← hH2, Heap.size_push, s1]
  have old1 : ∀ b o, s.heap.get? b = some o → H1.get? b = some o := fun b o e => hH1 ▸ Heap.get?_push_of_some _ e
  have old2 : ∀ b o, H1.get? b = some o → H2.get? b = some o := fun b o e => hH2 ▸ Heap.get?_push_of_some _ e
  have old3 : ∀ b o, b ≠ H2.objs.size → H2.get? b = some o → h₁.get? b = some o := fun b o hb e => hsb₁.extBut b o hb (Heap.get?_push_of_some _ e)
  have olds : ∀ b o, s.heap.get? b = some o → h₁.get? b = some o := fun b o e => old3 b o (by rw [s2]; exact Nat.ne_of_lt (Nat.lt_succ_of_lt (Nat.lt_succ_of_lt (Heap.lt_size e)))) (old2 b o (old1 b o e))
  have hI : h₁.get? s.heap.objs.size = some { cls := .type "list_iterator", data := .fields #[.ref ax, .int 0 0] } := old3 _ _ (by rw [s2]; exact Nat.ne_of_lt (by omega)) (old2 _ _ (hH1 ▸ Heap.get?_push_size _ rfl))
  have hD : h₁.get? H1.objs.size = some (lst []) := old3 _ _ (by rw [s1, s2]; exact Nat.ne_of_lt (by omega)) (hH2 ▸ Heap.get?_push_size _ rfl)
  have fresh₀ : ∀ a, s.heap.objs.size ≤ a → h₀.get? a = none := fun a ha => by
    cases e : h₀.get? a with
    | none => rfl
    | some o' => exact absurd (Heap.lt_size (F.keep a o' e)) (Nat.not_lt.mpr ha)
  have hLlt : L < s.heap.objs.size := F.ns.lt
  obtain ⟨oC, heC, hoC⟩ := ns_obj hns₁
  have fr : Fresh3 h₀ L s.heap.objs.size H2.objs.size H1.objs.size := ⟨by rw [s2]; exact Nat.ne_of_lt (by omega), by rw [s1]; exact Nat.ne_of_lt (by omega), by rw [s1, s2]; exact Nat.ne_of_gt (by omega), Nat.ne_of_gt hLlt, by rw [s2]; exact Nat.ne_of_gt (Nat.lt_succ_of_lt (Nat.lt_succ_of_lt hLlt)), by rw [s1]; exact Nat.ne_of_gt (Nat.lt_succ_of_lt hLlt),
    fresh₀ _ (Nat.le_refl _), fresh₀ _ (by rw [s2]; omega), fresh₀ _ (by rw [s1]; omega)⟩
  have lows : ∀ p ∈ led, p.1 < s.heap.objs.size := fun p hp => Heap.lt_size (N p hp).1
  have ap : Apart s.heap.objs.size H2.objs.size H1.objs.size [] led := ⟨fun p hp => Nat.ne_of_lt (lows p hp), fun p hp => by rw [s2]; exact Nat.ne_of_lt (Nat.lt_succ_of_lt (Nat.lt_succ_of_lt (lows p hp))), fun p hp => by rw [s1]; exact Nat.ne_of_lt (Nat.lt_succ_of_lt (lows p hp)), fun p _ h => nomatch h⟩
  have go : codeAny (model prog w) A (.compLoop (.ListComp elt (⟨target, iter, ifs, 0⟩ :: rest) scope pos) 0 (.ref s.heap.objs.size) (.ref H1.objs.size) (compEnvC scope cl H2.objs.size env)) (RR (.ref H1.objs.size) H2.objs.size) { s with heap := h₁, toks := s.toks + ([] : List (Str × Value)).length } := by
    refine loop _ _ _ oC h₁ _ _ fr ?_ (F.keeps olds) (fun p hp => ?_) ⟨_, hI, rfl, rfl⟩ ap ?_
    · have e : (fun x => ([] : List (Str × Value)).reverse.lookup x) = fun _ => (none : Option Value) := by funext x; simp
      rw [← e]; exact hoC
    · rcases List.mem_cons.mp hp with rfl | hp
      · exact ⟨heC, fr.cl, fr.c0⟩
      · rcases List.mem_cons.mp hp with rfl | hp
        · exact ⟨hD, fr.dl, fr.d0⟩
        · exact ⟨olds _ _ (N p hp).1, (N p hp).2⟩
    · intro oC' xs' ys tl h' tk' hC' hx' F' N' ap' of' hD'
      obtain ⟨mC, hmC⟩ := hC'
      have ex : xs' = [] := by cases xs' with | nil => rfl | cons _ _ => cases hx'
      subst ex
      refine hRR _ _ h' tk' mC ys tl F' (fun p hp => N' p (.tail _ hp)) (hmC.ns (N' _ (List.Mem.head _)).1) fr.c0 fr.cl fr.cd ap'.c (fun q hq => ⟨ap'.d q (List.mem_append_right _ hq), of' q hq⟩) (fun p hp => ap'.d p (List.mem_append_left _ hp)) hD'
  exact codeAny_compStart_list go (wpAny_pyIter_listiter ⟨_, hI, rfl, rfl⟩ go)
theorem comp_eval {elt target iter : Expr} {ifs : List Expr} {rest : List Comprehension} {scope : Scope} {pos : Pos} {cl : List (Str × Addr)} {ax : Addr} {its : List Value} {k : Nat} {ds : List Dat} {Q : Value → Shared → Prop}
    (hclos : closureFor scope env = pure cl) (hcell : ∀ y ∈ scope.names, y.2 ≠ .cell) (hkind : scope.kind = .function) (hnames : ∀ y ∈ scope.names, y.2 = .local → scope.names.lookup y.1 = some .local)
    (F : Fr h₀ L s.heap m) (N : News h₀ L s.heap led) (hm : (ax, listO its k) ∈ led) (hiter : ∀ P : Value → Shared → Prop, P (.ref ax) s → wpAny (model prog w) A (eval iter env) P E s)
    (loop : LoopRuns prog w A h₀ L m env led news s elt (⟨target, iter, ifs, 0⟩ :: rest) scope pos cl ax ds) (fin : FinL h₀ L m led news s ds Q)
    (hs : ∀ x, foldedSetIterable iter env x = pure x := by intro _; rfl) : wpAny (model prog w) A (eval (.ListComp elt (⟨target, iter, ifs, 0⟩ :: rest) scope pos) env) Q E s := by
  rw [eval_ListComp]
  refine wpAny_comprehension_free (use := none) rfl hs hclos hkind hnames (hiter _ ?_)
  refine comp_core hcell hkind F N hm loop ?_
  intro D C h tk m' ys tl F' N' hn hC0 hCL hCD offC off off' hD
  refine ⟨m', hn, fun h'' hs'' => fin D tl ys h'' tk (F'.change hs'' hCL hC0) (fun p hp => ⟨hs''.extBut _ _ ?_ (N' p hp).1, (N' p hp).2⟩) off off' hD⟩
  rcases List.mem_cons.mp hp with rfl | hp
  · exact Ne.symm hCD
  · exact offC p hp
/-- behind an assignment of a comprehension to a local name -/
def FinS (h₀ : Heap) (L : Addr) (m : Str → Option Value) (led news : List (Addr × Obj)) (s : Shared) (ds : List Dat) (y : Str) (Q : Flow → Shared → Prop) : Prop :=
  ∀ D tl ys h tk, Fr h₀ L h (fun z => if z = y then some (.ref D) else m z) → News h₀ L h ((D, lst ys) :: (tl ++ led)) → (∀ q ∈ led, q.1 ≠ D ∧ ∀ p ∈ tl, q.1 ≠ p.1) → (∀ p ∈ tl, p.1 ≠ D) → DatAll (tl ++ news) ys ds → Q .next { s with heap := h, toks := tk }
theorem comp_assign {elt target iter : Expr} {ifs : List Expr} {rest : List Comprehension} {scope : Scope} {pos spos py : Pos} {y : Str} {cl : List (Str × Addr)} {ax : Addr} {its : List Value} {k : Nat} {ds : List Dat} {Q : Flow → Shared → Prop}
    (hLe : env.locals = L) (hsw : swapsWith (.ListComp elt (⟨target, iter, ifs, 0⟩ :: rest) scope pos) (some (.Name y py)) spos.line env = pure true) (hy : env.kindOf y = some .local) (hp : (env.scope.kind == .class || (env.scope.kind == .module && env.locals != env.globals)) = false)
    (hclos : closureFor scope env = pure cl) (hcell : ∀ y ∈ scope.names, y.2 ≠ .cell) (hkind : scope.kind = .function) (hnames : ∀ y ∈ scope.names, y.2 = .local → scope.names.lookup y.1 = some .local)
    (F : Fr h₀ L s.heap m) (N : News h₀ L s.heap led) (hm : (ax, listO its k) ∈ led) (hiter : ∀ P : Value → Shared → Prop, P (.ref ax) s → wpAny (model prog w) A (eval iter env) P E s)
    (loop : LoopRuns prog w A h₀ L m env led news s elt (⟨target, iter, ifs, 0⟩ :: rest) scope pos cl ax ds) (fin : FinS h₀ L m led news s ds y Q)
    (hs : ∀ x, foldedSetIterable iter env x = pure x := by intro _; rfl) : wpAny (model prog w) A (exec (.Assign [.Name y py] (.ListComp elt (⟨target, iter, ifs, 0⟩ :: rest) scope pos) spos) env) Q E s := by
  subst hLe
  rw [exec_Assign_Name_used _ _ _ _ hsw]
  refine wpAny_bind (wpAny_standAt (wpAny_bind ?_))
  show wpAny _ A (do let _ ← comprehension (.ListComp elt (⟨target, iter, ifs, 0⟩ :: rest) scope pos) scope env _ (newList []) false (eval iter env) (some (assign (.Name y py) env))) _ _ s
  refine wpAny_bind (wpAny_mono (wpAny_comprehension_free (use := some (assign (.Name y py) env)) (Q := fun _ s' => Q .next s') rfl hs hclos hkind hnames (hiter _ ?_)) (fun _ s' hq => wpAny_pure (wpAny_pure hq)) fun _ _ e => e)
  refine comp_core hcell hkind F N hm loop ?_
  intro D C h tk m' ys tl F' N' hn hC0 hCL hCD offC off off' hD
  show wpAny _ A (assign (.Name y py) env (.ref D)) _ _ _
  refine wpAny_assign_Name (wpAny_storeName_local hy F'.ns (fun h₂ hn₂ hs₂ => ?_) hp)
  have hL₀ : h₀.get? env.locals = none := Heap.get?_none_of_le F'.above
  have F₂ : Fr h₀ env.locals h₂ (fun z => if z = y then some (.ref D) else m z) := ⟨hn₂, fun b o e => hs₂.extBut b o (fun q => by rw [q, hL₀] at e; cases e) (F'.keep b o e), F'.above⟩
  refine ⟨m', hn.sameBut hs₂ hCL, fun h'' hs'' => fin D tl ys h'' _ (F₂.change hs'' hCL hC0) (fun p hp => ?_) off off' hD⟩
  have z : h₂.get? p.1 = some p.2 := hs₂.extBut _ _ (N' p hp).2.1 (N' p hp).1
  refine ⟨hs''.extBut _ _ ?_ z, (N' p hp).2⟩
  rcases List.mem_cons.mp hp with rfl | hp
  · exact Ne.symm hCD
  · exact offC p hp
end
end Mine

namespace Mine
open LCg
section
variable {prog : Program} {w : World} {A : Around} {E : Value → Shared → Prop} {s : Shared} {h₀ : Heap} {L : Addr} {m : Str → Option Value} {env : Env} {led news : List (Addr × Obj)}
theorem flatMap_one (f : Dat → Dat) : ∀ l : List Dat, l.flatMap (fun a => [f a]) = l.map f
  | [] => rfl
  | a :: r => by rw [List.flatMap_cons, List.map_cons, flatMap_one f r]; rfl
theorem store_C {x : Str} {scope : Scope} {cl : List (Str × Addr)} {C : Addr} {v : Value} {Z : List (Addr × Obj)} {oC : Obj} {mC : Str → Option Value} {h : Heap} {tk : Nat} {Q : Unit → Shared → Prop} {E' : Value → Shared → Prop}
    (hx : scope.names.lookup x = some .local) (hkind : scope.kind = .function) (hC : NsObj oC mC) (hC0 : h₀.get? C = none) (hCL : C ≠ L) (F : Fr h₀ L h m) (N : News h₀ L h ((C, oC) :: Z)) (hZ : ∀ p ∈ Z, p.1 ≠ C)
    (hQ : ∀ h₁ tk₁ oC₁, NsObj oC₁ (fun y => if y = x then some v else mC y) → Fr h₀ L h₁ m → News h₀ L h₁ ((C, oC₁) :: Z) → Q () { s with heap := h₁, toks := tk₁ }) :
    wpAny (model prog w) A (storeName (compEnvC scope cl C env) x v) Q E' { s with heap := h, toks := tk } := by
  refine wpAny_storeName_local (lookup_relabel_local hx) (hC.ns (N _ (List.Mem.head _)).1) (fun h₃ hn₃ hs₃ => ?_) (by simp [compEnvC, relabel, hkind])
  obtain ⟨oC₁, heC, hoC⟩ := ns_obj hn₃
  refine hQ h₃ _ oC₁ hoC (F.change hs₃ hCL hC0) fun p hp => ?_
  rcases List.mem_cons.mp hp with rfl | hp
  · exact ⟨heC, hCL, hC0⟩
  · exact ⟨hs₃.extBut _ _ (hZ p hp) (N p (.tail _ hp)).1, (N p (.tail _ hp)).2⟩
theorem blk_rest {I C D : Addr} {oI : Obj} {ys : List Value} {cad : List Addr} {xs tl : List (Addr × Obj)} (fr : Fresh3 h₀ L I C D) (hx : xs.map (·.1) = cad) (hCx : C ∉ cad) (ap : Apart I C D cad (tl ++ led)) : ∀ p ∈ (I, oI) :: (D, lst ys) :: (xs ++ (tl ++ led)), p.1 ≠ C := by
  intro p hp
  rcases List.mem_cons.mp hp with rfl | hp
  · exact fr.ic
  · rcases List.mem_cons.mp hp with rfl | hp
    · exact Ne.symm fr.cd
    · rcases List.mem_append.mp hp with hp | hp
      · exact fun e => hCx (e ▸ mem_cad hx hp)
      · exact ap.c p hp
theorem swap12 {h : Heap} {a b : Addr × Obj} {Z : List (Addr × Obj)} (N : News h₀ L h (a :: b :: Z)) : News h₀ L h (b :: a :: Z) := fun p hp => by
  rcases List.mem_cons.mp hp with rfl | hp
  · exact N _ (.tail _ (.head _))
  · rcases List.mem_cons.mp hp with rfl | hp
    · exact N _ (.head _)
    · exact N _ (.tail _ (.tail _ hp))
abbrev EltRuns (prog : Program) (w : World) (A : Around) (h₀ : Heap) (L : Addr) (m : Str → Option Value) (env : Env) (led news : List (Addr × Obj)) (s : Shared) (elt : Expr) (scope : Scope) (cl : List (Str × Addr)) (src : List Dat) (f : Dat → Dat) (T : Value → (Str → Option Value) → Prop) : Prop :=
  ∀ (i : Nat) a v I oI C oC D m₂ ys tl h tk (E' : Value → Shared → Prop), src[i]? = some a → DatIn news v a → NsObj oC m₂ → T v m₂ → Fr h₀ L h m → News h₀ L h ((I, oI) :: (C, oC) :: (D, lst ys) :: (tl ++ led)) →
    wpAny (model prog w) A (eval elt (compEnvC scope cl C env)) (Back h₀ L m ((I, oI) :: (C, oC) :: (D, lst ys) :: (tl ++ led)) (tl ++ news) { s with heap := h, toks := tk } (f a)) E' { s with heap := h, toks := tk }
/-- one clause, any target whose assignment tells T -/
theorem runs_one {elt target iter : Expr} {scope : Scope} {pos : Pos} {cl : List (Str × Addr)} {ax : Addr} {its : List Value} {k : Nat} {src : List Dat} (f : Dat → Dat) (T : Value → (Str → Option Value) → Prop)
    (hh : A.handled = none) (hm : (ax, listO its k) ∈ led) (hd : DatAll news its src) (hsz : src.length ≤ 1000)
    (hassign : ∀ (i : Nat) a v C oC mC Z h tk (Q : Unit → Shared → Prop) (E' : Value → Shared → Prop), src[i]? = some a → DatIn news v a → NsObj oC mC → h₀.get? C = none → C ≠ L → Fr h₀ L h m → News h₀ L h ((C, oC) :: Z) → (∀ p ∈ news, p ∈ Z) → (∀ p ∈ Z, p.1 ≠ C) →
      (∀ h₁ tk₁ oC₁ m₁, NsObj oC₁ m₁ → T v m₁ → Fr h₀ L h₁ m → News h₀ L h₁ ((C, oC₁) :: Z) → Q () { s with heap := h₁, toks := tk₁ }) → wpAny (model prog w) A (assign target (compEnvC scope cl C env) v) Q E' { s with heap := h, toks := tk })
    (hnl : ∀ p ∈ news, p ∈ led) (helt : EltRuns prog w A h₀ L m env led news s elt scope cl src f T) :
    LoopRuns prog w A h₀ L m env led news s elt [⟨target, iter, [], 0⟩] scope pos cl ax (src.map f) := by
  intro I C D oC h tk R fr hoC F N hit ap fin
  refine level (cad := []) (ds0 := []) (tl0 := []) (fun a => [f a]) (fun oC _ => ∃ mC, NsObj oC mC) (fun v oC _ => ∃ m₂, NsObj oC m₂ ∧ T v m₂) (compTurn_list1 _ _ _ _ _ _ _ _) hh fr.ic fr.id fr.il fr.i0 (fun h => nomatch h) hm hd ?_ ?_ ?_ ⟨_, hoC⟩ rfl F N hit ap (fun _ _ _ hp => nomatch hp) .nil
  · rintro i a v oI oC xs ys tl h tk Q E' ha hv ⟨mC, hC⟩ hx F N ap hQ
    refine hassign i a v C oC mC ((I, oI) :: (D, lst ys) :: (xs ++ (tl ++ led))) h tk Q E' ha hv hC fr.c0 fr.cl F (swap12 N) (fun p hp => .tail _ (.tail _ (List.mem_append_right _ (List.mem_append_right _ (hnl p hp))))) (blk_rest fr hx (fun h => nomatch h) ap) ?_
    intro h₁ tk₁ oC₁ m₁ hC₁ hT F₁ N₁
    exact hQ h₁ tk₁ oC₁ xs ⟨m₁, hC₁, hT⟩ hx F₁ (swap12 N₁)
  · rintro i a v oI oC xs ys tl h tk Q E' ha hv ⟨m₂, hC, hT⟩ hx F N ap of hD hQ
    have ex : xs = [] := by cases xs with | nil => rfl | cons _ _ => cases hx
    subst ex
    have hi : i < src.length := by
      rcases Nat.lt_or_ge i src.length with h1 | h1
      · exact h1
      · rw [List.getElem?_eq_none h1] at ha; cases ha
    refine emit_append (cad := []) (xs := []) (oC := oC) (oI := oI) (m := m) (d := f a) fr.id fr.cd fr.dl fr.d0 (fun h => nomatch h) rfl ap of ?_ (helt i a v I oI C oC D m₂ ys tl h tk E' ha hv hC hT F N) hD ?_
    · rw [hD.length]
      simp only [List.nil_append, List.length_flatMap, List.length_cons, List.length_nil]
      have e : ((src.take i).map fun _ => 0 + 1).sum = (src.take i).length := by
        generalize src.take i = l
        induction l with
        | nil => rfl
        | cons _ _ ih => simp only [List.map_cons, List.sum_cons, List.length_cons, ih]; omega
      rw [e, List.length_take]; omega
    · intro h₁ tk₁ ys₁ tl₁ F₁ N₁ ap₁ of₁ hD₁
      exact hQ h₁ tk₁ oC [] ys₁ tl₁ ⟨m₂, hC⟩ rfl F₁ N₁ ap₁ of₁ hD₁
  · intro oC xs ys tl h tk hp hx F N ap of hD
    refine fin oC xs ys tl h tk hp hx F N ap of ?_
    have e : [] ++ src.flatMap (fun a => [f a]) = src.map f := by rw [List.nil_append]; exact flatMap_one f src
    rw [← e]; exact hD
theorem assign_one {x : Str} {px : Pos} {scope : Scope} {cl : List (Str × Addr)} (hx : scope.names.lookup x = some .local) (hkind : scope.kind = .function) {v : Value} {C : Addr} {oC : Obj} {mC : Str → Option Value} {Z : List (Addr × Obj)} {h : Heap} {tk : Nat} {Q : Unit → Shared → Prop} {E' : Value → Shared → Prop}
    (hC : NsObj oC mC) (hC0 : h₀.get? C = none) (hCL : C ≠ L) (F : Fr h₀ L h m) (N : News h₀ L h ((C, oC) :: Z)) (hZ : ∀ p ∈ Z, p.1 ≠ C)
    (hQ : ∀ h₁ tk₁ oC₁ m₁, NsObj oC₁ m₁ → m₁ = (fun y => if y = x then some v else mC y) → Fr h₀ L h₁ m → News h₀ L h₁ ((C, oC₁) :: Z) → Q () { s with heap := h₁, toks := tk₁ }) :
    wpAny (model prog w) A (assign (.Name x px) (compEnvC scope cl C env) v) Q E' { s with heap := h, toks := tk } :=
  wpAny_assign_Name (store_C hx hkind hC hC0 hCL F N hZ fun h₁ tk₁ oC₁ hC₁ F₁ N₁ => hQ h₁ tk₁ oC₁ _ hC₁ rfl F₁ N₁)
end
end Mine

namespace Mine
open LCg
section
variable {prog : Program} {w : World} {A : Around} {E : Value → Shared → Prop} {s : Shared} {h₀ : Heap} {L : Addr} {m : Str → Option Value} {env : Env} {led news : List (Addr × Obj)}
theorem assign_four {x1 x2 x3 x4 : Str} {p1 p2 p3 p4 tp : Pos} {kk : Nat} {scope : Scope} {cl : List (Str × Addr)} (hh : A.handled = none) (hx1 : scope.names.lookup x1 = some .local) (hx2 : scope.names.lookup x2 = some .local) (hx3 : scope.names.lookup x3 = some .local) (hx4 : scope.names.lookup x4 = some .local)
    (hkind : scope.kind = .function) {t : Addr} {v1 v2 v3 v4 : Value} {n : Nat} {C : Addr} {oC : Obj} {mC : Str → Option Value} {Z : List (Addr × Obj)} {h : Heap} {tk : Nat} {Q : Unit → Shared → Prop} {E' : Value → Shared → Prop}
    (hC : NsObj oC mC) (hC0 : h₀.get? C = none) (hCL : C ≠ L) (F : Fr h₀ L h m) (N : News h₀ L h ((C, oC) :: Z)) (ht : (t, tupO [v1, v2, v3, v4] n) ∈ Z) (hZ : ∀ p ∈ Z, p.1 ≠ C)
    (hQ : ∀ h₁ tk₁ oC₁ m₁, NsObj oC₁ m₁ → m₁ = (fun y => if y = x4 then some v4 else if y = x3 then some v3 else if y = x2 then some v2 else if y = x1 then some v1 else mC y) → Fr h₀ L h₁ m → News h₀ L h₁ ((C, oC₁) :: Z) → Q () { s with heap := h₁, toks := tk₁ }) :
    wpAny (model prog w) A (assign (.Tuple [.Name x1 p1, .Name x2 p2, .Name x3 p3, .Name x4 p4] kk tp) (compEnvC scope cl C env) (.ref t)) Q E' { s with heap := h, toks := tk } := by
  refine assign_Tuple_tuple hh (items := [v1, v2, v3, v4].toArray) ⟨_, (N _ (.tail _ ht)).1, rfl, n, rfl⟩ rfl rfl fun h₅ he => ?_
  have he' : ∀ b o, h.get? b = some o → h₅.get? b = some o := fun b o e => he b o (Nat.ne_of_lt (Heap.lt_size e)) e
  refine assignInOrder_cons (wpAny_assign_Name (store_C hx1 hkind hC hC0 hCL (F.keeps he') (N.grown he') hZ fun ha tka oCa hCa Fa Na => ?_))
  refine assignInOrder_cons (wpAny_assign_Name (store_C hx2 hkind hCa hC0 hCL Fa Na hZ fun hb tkb oCb hCb Fb Nb => ?_))
  refine assignInOrder_cons (wpAny_assign_Name (store_C hx3 hkind hCb hC0 hCL Fb Nb hZ fun hc tkc oCc hCc Fc Nc => ?_))
  refine assignInOrder_cons (wpAny_assign_Name (store_C hx4 hkind hCc hC0 hCL Fc Nc hZ fun hd tkd oCd hCd Fd Nd => ?_))
  exact assignInOrder_nil (hQ hd tkd oCd _ hCd rfl Fd Nd)
theorem assign_two {x1 x2 : Str} {p1 p2 tp : Pos} {kk : Nat} {scope : Scope} {cl : List (Str × Addr)} (hh : A.handled = none) (hx1 : scope.names.lookup x1 = some .local) (hx2 : scope.names.lookup x2 = some .local)
    (hkind : scope.kind = .function) {t : Addr} {v1 v2 : Value} {n : Nat} {C : Addr} {oC : Obj} {mC : Str → Option Value} {Z : List (Addr × Obj)} {h : Heap} {tk : Nat} {Q : Unit → Shared → Prop} {E' : Value → Shared → Prop}
    (hC : NsObj oC mC) (hC0 : h₀.get? C = none) (hCL : C ≠ L) (F : Fr h₀ L h m) (N : News h₀ L h ((C, oC) :: Z)) (ht : (t, tupO [v1, v2] n) ∈ Z) (hZ : ∀ p ∈ Z, p.1 ≠ C)
    (hQ : ∀ h₁ tk₁ oC₁ m₁, NsObj oC₁ m₁ → m₁ = (fun y => if y = x2 then some v2 else if y = x1 then some v1 else mC y) → Fr h₀ L h₁ m → News h₀ L h₁ ((C, oC₁) :: Z) → Q () { s with heap := h₁, toks := tk₁ }) :
    wpAny (model prog w) A (assign (.Tuple [.Name x1 p1, .Name x2 p2] kk tp) (compEnvC scope cl C env) (.ref t)) Q E' { s with heap := h, toks := tk } := by
  refine assign_Tuple_tuple hh (items := [v1, v2].toArray) ⟨_, (N _ (.tail _ ht)).1, rfl, n, rfl⟩ rfl rfl fun h₅ he => ?_
  have he' : ∀ b o, h.get? b = some o → h₅.get? b = some o := fun b o e => he b o (Nat.ne_of_lt (Heap.lt_size e)) e
  refine assignInOrder_cons (wpAny_assign_Name (store_C hx1 hkind hC hC0 hCL (F.keeps he') (N.grown he') hZ fun ha tka oCa hCa Fa Na => ?_))
  refine assignInOrder_cons (wpAny_assign_Name (store_C hx2 hkind hCa hC0 hCL Fa Na hZ fun hb tkb oCb hCb Fb Nb => ?_))
  exact assignInOrder_nil (hQ hb tkb oCb _ hCb rfl Fb Nb)
theorem compTurn_two0 (elt t0 i0 t1 i1 : Expr) (scope : Scope) (pos : Pos) (it acc : Value) (env : Env) :
    compTurn (.ListComp elt [⟨t0, i0, [], 0⟩, ⟨t1, i1, [], 0⟩] scope pos) 0 it acc env = (standAt i0.pos >>= fun _ => pyNext it >>= fun r => match r with
      | none => pure (.done .next)
      | some v => letOwnedTupleGo t0 it v >>= fun _ => assign t0 env v >>= fun _ =>
        (eval i1 env >>= fun x => standAt i1.pos >>= fun _ => foldedSetIterable i1 env x >>= fun x => holding [x] (pyIter x) >>= fun it1 => runOwn (.compStart (.ListComp elt [⟨t0, i0, [], 0⟩, ⟨t1, i1, [], 0⟩] scope pos) 1 it1 acc env) env >>= fun _ => pure ()) >>= fun _ =>
          again (.compLoop (.ListComp elt [⟨t0, i0, [], 0⟩, ⟨t1, i1, [], 0⟩] scope pos) 0 it acc env)) := by
  simp only [bind_assoc, pure_bind]
  rfl
theorem compTurn_two1 (elt t0 i0 t1 i1 : Expr) (scope : Scope) (pos : Pos) (it acc : Value) (env : Env) :
    compTurn (.ListComp elt [⟨t0, i0, [], 0⟩, ⟨t1, i1, [], 0⟩] scope pos) 1 it acc env = (standAt i1.pos >>= fun _ => pyNext it >>= fun r => match r with
      | none => pure (.done .next)
      | some v => letOwnedTupleGo t1 it v >>= fun _ => assign t1 env v >>= fun _ =>
        (eval elt env >>= fun x => call (.builtin "list.append") [acc, x] >>= fun _ => pure ()) >>= fun _ =>
          again (.compLoop (.ListComp elt [⟨t0, i0, [], 0⟩, ⟨t1, i1, [], 0⟩] scope pos) 1 it acc env)) := by rfl
theorem compStart_two1 {elt t0 i0 t1 i1 : Expr} {scope : Scope} {pos : Pos} {it acc : Value} {R : Result → Shared → Prop}
    (h0 : codeAny (model prog w) A (.compLoop (.ListComp elt [⟨t0, i0, [], 0⟩, ⟨t1, i1, [], 0⟩] scope pos) 1 it acc env) R s)
    (h : wpAny (model prog w) A (pyIter it) (fun it' s' => codeAny (model prog w) A (.compLoop (.ListComp elt [⟨t0, i0, [], 0⟩, ⟨t1, i1, [], 0⟩] scope pos) 1 it' acc env) R s') (notedBy (model prog w) A env fun x s' => R (.error x) s') s) :
    codeAny (model prog w) A (.compStart (.ListComp elt [⟨t0, i0, [], 0⟩, ⟨t1, i1, [], 0⟩] scope pos) 1 it acc env) R s := by
  refine codeAny_of_tree ?_
  show wpAny _ _ ((compStart (.ListComp elt [⟨t0, i0, [], 0⟩, ⟨t1, i1, [], 0⟩] scope pos) 1 it acc env).onRaise (fun x => do noteFrame x env; standAt theWindowsPlace)) _ _ s
  refine wpAny_notedAt ?_
  unfold compStart
  show wpAny _ _ (ask >>= _) _ _ s
  refine wpAny_bind (wpAny_askSetting (wpAny_ite ?_))
  split
  · first
      | exact wpAny_bind (wpAny_pure (wpAny_pure (And.intro rfl h0)))
      | exact wpAny_pure (And.intro rfl h0)
  · first
      | exact wpAny_bind (wpAny_rule (wpAny_bind (wpAny_standAt (wpAny_bind (wpAny_mono h (fun it' s' h' => wpAny_pure (And.intro rfl h')) fun _ _ x => x)))))
      | (refine wpAny_bind (wpAny_rule ?_); show wpAny _ _ (standAt i1.pos >>= _) _ _ s; exact wpAny_bind (wpAny_standAt (wpAny_bind (wpAny_mono h (fun it' s' h' => wpAny_pure (And.intro rfl h')) fun _ _ x => x))))
end
end Mine

namespace Mine
open LCg
section
variable {prog : Program} {w : World} {A : Around} {E : Value → Shared → Prop} {s : Shared} {h₀ : Heap} {L : Addr} {m : Str → Option Value} {env : Env} {led news : List (Addr × Obj)}
abbrev EltRuns2 (prog : Program) (w : World) (A : Around) (h₀ : Heap) (L : Addr) (m : Str → Option Value) (env : Env) (led news : List (Addr × Obj)) (s : Shared) (elt : Expr) (scope : Scope) (cl : List (Str × Addr)) (src src2 : List Dat) (f : Dat → Dat → Dat) (x y : Str) : Prop :=
  ∀ (i j : Nat) a u b v I oI I0 oI0 C oC D m₂ ys tl h tk (E' : Value → Shared → Prop), src[i]? = some a → DatIn news u a → src2[j]? = some b → DatIn news v b → NsObj oC m₂ → m₂ x = some u → m₂ y = some v → Fr h₀ L h m → News h₀ L h ((I, oI) :: (C, oC) :: (D, lst ys) :: (tl ++ ((I0, oI0) :: led))) →
    wpAny (model prog w) A (eval elt (compEnvC scope cl C env)) (Back h₀ L m ((I, oI) :: (C, oC) :: (D, lst ys) :: (tl ++ ((I0, oI0) :: led))) (tl ++ news) { s with heap := h, toks := tk } (f a b)) E' { s with heap := h, toks := tk }
theorem sum_le (g : Dat → List Dat) (n : Nat) (hg : ∀ a, (g a).length = n) : ∀ l : List Dat, (l.flatMap g).length = l.length * n
  | [] => by simp
  | a :: r => by rw [List.flatMap_cons, List.length_append, hg, sum_le g n hg r, List.length_cons, Nat.add_mul, Nat.one_mul, Nat.add_comm]
theorem runs_two {elt iter iter1 : Expr} {x y : Str} {px py : Pos} {scope : Scope} {pos : Pos} {cl : List (Str × Addr)} {ax ax2 : Addr} {its its2 : List Value} {k k2 : Nat} {src src2 : List Dat} (f : Dat → Dat → Dat)
    (hh : A.handled = none) (hx : scope.names.lookup x = some .local) (hy : scope.names.lookup y = some .local) (hxy : x ≠ y) (hkind : scope.kind = .function)
    (hm : (ax, listO its k) ∈ led) (hd : DatAll news its src) (hm2 : (ax2, listO its2 k2) ∈ led) (hd2 : DatAll news its2 src2) (hsz : src.length ≤ 30) (hsz2 : src2.length ≤ 30)
    (hiter : ∀ C oC mC Z h tk (P : Value → Shared → Prop) (E' : Value → Shared → Prop), NsObj oC mC → Fr h₀ L h m → News h₀ L h ((C, oC) :: Z) → (∀ p ∈ led, p ∈ Z) → P (.ref ax2) { s with heap := h, toks := tk } → wpAny (model prog w) A (eval iter1 (compEnvC scope cl C env)) P E' { s with heap := h, toks := tk })
    (helt : EltRuns2 prog w A h₀ L m env led news s elt scope cl src src2 f x y)
    (hs : ∀ C z, foldedSetIterable iter1 (compEnvC scope cl C env) z = pure z) :
    LoopRuns prog w A h₀ L m env led news s elt [⟨.Name x px, iter, [], 0⟩, ⟨.Name y py, iter1, [], 0⟩] scope pos cl ax (src.flatMap fun a => src2.map (f a)) := by
  intro I C D oC h tk R fr hoC F N hit ap fin
  refine level (cad := []) (ds0 := []) (tl0 := []) (fun a => src2.map (f a)) (fun oC _ => ∃ mC, NsObj oC mC) (fun v oC _ => ∃ m₂, NsObj oC m₂ ∧ m₂ x = some v) (compTurn_two0 _ _ _ _ _ _ _ _ _ _) hh fr.ic fr.id fr.il fr.i0 (fun h => nomatch h) hm hd ?_ ?_ ?_ ⟨_, hoC⟩ rfl F N hit ap (fun _ _ _ hp => nomatch hp) .nil
  · rintro i a v oI oC xs ys tl h tk Q E' ha hv ⟨mC, hC⟩ hxs F N ap hQ
    refine assign_one hx hkind hC fr.c0 fr.cl F (swap12 N) (blk_rest fr hxs (fun h => nomatch h) ap) ?_
    intro h₁ tk₁ oC₁ m₁ hC₁ hm₁ F₁ N₁
    exact hQ h₁ tk₁ oC₁ xs ⟨m₁, hC₁, by rw [hm₁]; simp⟩ hxs F₁ (swap12 N₁)
  · rintro i a u oI0 oC xs ys tl h tk Q E' ha hu ⟨m₂, hC, hmx⟩ hxs F N ap of hD hQ
    have ex : xs = [] := by cases xs with | nil => rfl | cons _ _ => cases hxs
    subst ex
    have hi : i < src.length := by
      rcases Nat.lt_or_ge i src.length with h1 | h1
      · exact h1
      · rw [List.getElem?_eq_none h1] at ha; cases ha
    refine wpAny_bind (hiter C oC m₂ ((I, oI0) :: (D, lst ys) :: ([] ++ (tl ++ led))) h tk _ _ hC F (swap12 N) (fun p hp => .tail _ (.tail _ (List.mem_append_right _ (List.mem_append_right _ hp)))) ?_)
    refine wpAny_bind (wpAny_standAt (wpAny_bind (wpAny_of_eq (hs C _) (wpAny_bind (wpAny_holding ?_)))))
    have hl2 : h.IsList ax2 its2.toArray := ⟨_, (N _ (.tail _ (.tail _ (.tail _ (List.mem_append_right _ (List.mem_append_right _ hm2)))))).1, rfl, k2, rfl⟩
    refine wpAny_pyIter_list hl2 ?_
    refine wpAny_bind (wpAny_runOwn ?_)
    have up : ∀ b o, h.get? b = some o → (h.push { cls := .type "list_iterator", data := .fields #[.ref ax2, .int 0 0] }).get? b = some o := fun b o e => Heap.get?_push_of_some _ e
    have hJ : (h.push { cls := .type "list_iterator", data := .fields #[.ref ax2, .int 0 0] }).get? h.objs.size = some { cls := .type "list_iterator", data := .fields #[.ref ax2, .int 0 0] } := Heap.get?_push_size _ rfl
    have low : ∀ p ∈ (I, oI0) :: blk C D oC ys [] tl led, p.1 < h.objs.size := fun p hp => Heap.lt_size (N p hp).1
    have hI1 : h₀.get? h.objs.size = none := by
      cases e : h₀.get? h.objs.size with
      | none => rfl
      | some o => exact absurd (Heap.lt_size (F.keep _ _ e)) (Nat.lt_irrefl _)
    have fr1 : Fresh3 h₀ L h.objs.size C D := ⟨Nat.ne_of_gt (low _ (.tail _ (.head _))), Nat.ne_of_gt (low _ (.tail _ (.tail _ (.head _)))), fr.cd, Nat.ne_of_gt F.ns.lt, fr.cl, fr.dl, hI1, fr.c0, fr.d0⟩
    have ap1 : ∀ tl₁ : List (Addr × Obj), Apart I C D [] (tl₁ ++ led) → (∀ p ∈ tl₁ ++ led, p.1 ≠ h.objs.size) → Apart h.objs.size C D [] (tl₁ ++ ((I, oI0) :: led)) := by
      intro tl₁ ap₁ hn
      have case : ∀ p ∈ tl₁ ++ ((I, oI0) :: led), p = (I, oI0) ∨ p ∈ tl₁ ++ led := fun p hp => by
        rcases List.mem_append.mp hp with hp | hp
        · exact .inr (List.mem_append_left _ hp)
        · rcases List.mem_cons.mp hp with rfl | hp
          · exact .inl rfl
          · exact .inr (List.mem_append_right _ hp)
      refine ⟨fun p hp => ?_, fun p hp => ?_, fun p hp => ?_, fun p hp h => nomatch h⟩
      · rcases case p hp with rfl | hp
        · exact Nat.ne_of_lt (low _ (.head _))
        · exact hn p hp
      · rcases case p hp with rfl | hp
        · exact fr.ic
        · exact ap₁.c p hp
      · rcases case p hp with rfl | hp
        · exact fr.id
        · exact ap₁.d p hp
    have go : ∀ tk', codeAny (model prog w) A (.compLoop (.ListComp elt [⟨.Name x px, iter, [], 0⟩, ⟨.Name y py, iter1, [], 0⟩] scope pos) 1 (.ref h.objs.size) (.ref D) (compEnvC scope cl C env))
        (fun r s' => match r with | .ok _ => wpAny (model prog w) A (pure ()) Q E' s' | .error e => cameBackBy (model prog w) A (compEnvC scope cl C env) E' e s') { s with heap := h.push { cls := .type "list_iterator", data := .fields #[.ref ax2, .int 0 0] }, toks := tk' } := by
      intro tk'
      refine level (led := (I, oI0) :: led) (cad := []) (ds0 := [] ++ (src.take i).flatMap fun a => src2.map (f a)) (tl0 := tl) (ys0 := ys) (xs0 := []) (fun b => [f a b]) (fun oC _ => ∃ mC, NsObj oC mC ∧ mC x = some u) (fun v oC _ => ∃ m₂, NsObj oC m₂ ∧ m₂ x = some u ∧ m₂ y = some v) (compTurn_two1 _ _ _ _ _ _ _ _ _ _) hh fr1.ic fr1.id fr1.il fr1.i0 (fun h => nomatch h) (.tail _ hm2) hd2 ?_ ?_ ?_ ⟨_, hC, hmx⟩ rfl (F.keeps up) ?_ ⟨_, hJ, rfl, rfl⟩ (ap1 tl ap fun p hp => Nat.ne_of_lt (low p (.tail _ (.tail _ (.tail _ hp))))) ?_ hD
      · rintro j b v oI oC xs ys tl h tk Q E' hb hv ⟨mC, hC, hmx⟩ hxs F N ap hQ
        refine assign_one hy hkind hC fr1.c0 fr1.cl F (swap12 N) (blk_rest fr1 hxs (fun h => nomatch h) ap) ?_
        intro h₁ tk₁ oC₁ m₁ hC₁ hm₁ F₁ N₁
        exact hQ h₁ tk₁ oC₁ xs ⟨m₁, hC₁, by rw [hm₁]; simp only [if_neg hxy]; exact hmx, by rw [hm₁]; simp⟩ hxs F₁ (swap12 N₁)
      · rintro j b v oI oC xs ys tl h tk Q E' hb hv ⟨m₂, hC, hmx, hmy⟩ hxs F N ap of hD hQ
        have ex : xs = [] := by cases xs with | nil => rfl | cons _ _ => cases hxs
        subst ex
        have hj : j < src2.length := by
          rcases Nat.lt_or_ge j src2.length with h1 | h1
          · exact h1
          · rw [List.getElem?_eq_none h1] at hb; cases hb
        refine emit_append (led := (I, oI0) :: led) (cad := []) (xs := []) (oC := oC) (oI := oI) (m := m) (d := f a b) fr1.id fr1.cd fr1.dl fr1.d0 (fun h => nomatch h) rfl ap of ?_ (helt i j a u b v _ oI I oI0 C oC D m₂ ys tl h tk E' ha hu hb hv hC hmx hmy F N) hD ?_
        · rw [hD.length, List.length_append, List.nil_append, sum_le _ src2.length (fun a => List.length_map _), sum_le _ 1 (fun a => rfl), List.length_take, List.length_take]
          have h1 : min i src.length ≤ 30 := by omega
          have h2 : min i src.length * src2.length ≤ 30 * 30 := Nat.mul_le_mul h1 hsz2
          omega
        · intro h₁ tk₁ ys₁ tl₁ F₁ N₁ ap₁ of₁ hD₁
          exact hQ h₁ tk₁ oC [] ys₁ tl₁ ⟨m₂, hC, hmx⟩ rfl F₁ N₁ ap₁ of₁ hD₁
      · rintro oC₁ xs₁ ys₁ tl₁ h₁ tk₁ ⟨mC, hC₁, _⟩ hxs F₁ N₁ ap₁ of₁ hD₁
        have ex : xs₁ = [] := by cases xs₁ with | nil => rfl | cons _ _ => cases hxs
        subst ex
        have mem : ∀ p ∈ tl₁ ++ led, p ∈ tl₁ ++ ((I, oI0) :: led) := fun p hp => (List.mem_append.mp hp).elim (List.mem_append_left _) fun h => List.mem_append_right _ (.tail _ h)
        refine wpAny_pure (hQ h₁ tk₁ oC₁ [] ys₁ tl₁ ⟨mC, hC₁⟩ rfl F₁ (fun p hp => ?_) ⟨fun p hp => ?_, fun p hp => ap₁.c p (mem p hp), fun p hp => ap₁.d p (mem p hp), fun p hp h => nomatch h⟩ (fun q hq p hp => of₁ q (.tail _ hq) p hp) ?_)
        · rcases List.mem_cons.mp hp with rfl | hp
          · exact N₁ _ (.tail _ (.tail _ (List.mem_append_right _ (List.mem_append_right _ (.head _)))))
          · rcases List.mem_cons.mp hp with rfl | hp
            · exact N₁ _ (.head _)
            · rcases List.mem_cons.mp hp with rfl | hp
              · exact N₁ _ (.tail _ (.head _))
              · exact N₁ p (.tail _ (.tail _ (List.mem_append_right _ (mem p hp))))
        · rcases List.mem_append.mp hp with hp | hp
          · exact fun e => of₁ (I, oI0) (.head _) p hp e.symm
          · exact ap.i p (List.mem_append_right _ hp)
        · have e := flatMap_one (f a) src2
          rw [e] at hD₁; exact hD₁
      · intro p hp
        have z : p ∈ (I, oI0) :: blk C D oC ys [] tl led := by
          rcases List.mem_cons.mp hp with rfl | hp
          · exact .tail _ (.head _)
          · rcases List.mem_cons.mp hp with rfl | hp
            · exact .tail _ (.tail _ (.head _))
            · rcases List.mem_append.mp hp with hp | hp
              · exact nomatch hp
              · rcases List.mem_append.mp hp with hp | hp
                · exact .tail _ (.tail _ (.tail _ (List.mem_append_right _ (List.mem_append_left _ hp))))
                · rcases List.mem_cons.mp hp with rfl | hp
                  · exact .head _
                  · exact .tail _ (.tail _ (.tail _ (List.mem_append_right _ (List.mem_append_right _ hp))))
        exact ⟨up _ _ (N p z).1, (N p z).2⟩
      · intro q hq p hp
        rcases List.mem_cons.mp hq with rfl | hq
        · exact Ne.symm (ap.i p (List.mem_append_left _ hp))
        · exact of q hq p hp
    exact compStart_two1 (go _) (wpAny_pyIter_listiter ⟨_, hJ, rfl, rfl⟩ (go _))
  · intro oC xs ys tl h tk hp hx F N ap of hD
    exact fin oC xs ys tl h tk hp hx F N ap of (by simpa using hD)
end
end Mine

namespace Mine
open LCg
section
variable {prog : Program} {w : World} {A : Around} {E : Value → Shared → Prop} {s : Shared} {h₀ : Heap} {L : Addr} {m : Str → Option Value} {env : Env} {led news : List (Addr × Obj)}
abbrev EltRunsC (prog : Program) (w : World) (A : Around) (h₀ : Heap) (L : Addr) (m : Str → Option Value) (env : Env) (led news : List (Addr × Obj)) (s : Shared) (elt : Expr) (scope : Scope) (cl : List (Str × Addr)) (x : Str) (src : List Dat) (f : Dat → Dat) : Prop :=
  ∀ (i : Nat) a v I oI C oC D c oc ys tl h tk (E' : Value → Shared → Prop), src[i]? = some a → DatIn news v a → oc.data = .cell (some v) → Fr h₀ L h m → News h₀ L h ((I, oI) :: (C, oC) :: (D, lst ys) :: (c, oc) :: (tl ++ led)) →
    wpAny (model prog w) A (eval elt (compEnvC scope ((x, c) :: cl) C env)) (Back h₀ L m ((I, oI) :: (C, oC) :: (D, lst ys) :: (c, oc) :: (tl ++ led)) (tl ++ news) { s with heap := h, toks := tk } (f a)) E' { s with heap := h, toks := tk }
theorem comp_cell {elt iter : Expr} {x : Str} {px : Pos} {scope : Scope} {pos : Pos} {cl : List (Str × Addr)} {ax : Addr} {its : List Value} {k : Nat} {src : List Dat} {Q : Value → Shared → Prop} (f : Dat → Dat)
    (hclos : closureFor scope env = pure cl) (hcells : ∀ n, cellsFrom n scope.names cl = (x, n) :: cl) (hpush : ∀ h, pushCells h scope.names = h.push { cls := .type "cell", data := .cell none }) (hkind : scope.kind = .function) (hnames : ∀ y ∈ scope.names, y.2 = .local → scope.names.lookup y.1 = some .local)
    (hxc : ∀ C c, (compEnvC scope ((x, c) :: cl) C env).kindOf x = some .cell) (hh : A.handled = none)
    (F : Fr h₀ L s.heap m) (N : News h₀ L s.heap led) (hm : (ax, listO its k) ∈ led) (hd : DatAll news its src) (hsz : src.length ≤ 1000) (hiter : ∀ P : Value → Shared → Prop, P (.ref ax) s → wpAny (model prog w) A (eval iter env) P E s)
    (helt : EltRunsC prog w A h₀ L m env led news s elt scope cl x src f) (fin : FinL h₀ L m led news s (src.map f) Q)
    (hs : ∀ x, foldedSetIterable iter env x = pure x := by intro _; rfl) : wpAny (model prog w) A (eval (.ListComp elt [⟨.Name x px, iter, [], 0⟩] scope pos) env) Q E s := by
  rw [eval_ListComp]
  refine wpAny_comprehension_free (use := none) rfl hs hclos hkind hnames (hiter _ ?_)
  have hl : s.heap.IsList ax its.toArray := ⟨_, (N _ hm).1, rfl, k, rfl⟩
  refine wpAny_pyIter_list hl ?_
  generalize hH1 : s.heap.push { cls := .type "list_iterator", data := .fields #[.ref ax, .int 0 0] } = H1
  refine wpAny_newObj_type ?_
  generalize hH2 : H1.push { cls := .type "list", dict := none, data := .seq ([] : List Value).toArray } = H2
  simp only [newFunctionEnv, Option.isSome_some, if_true]
  refine wpAny_bind (wpAny_alloc ?_)
  refine wpAny_bind (wpAny_layCells _ (fun name kind cells => by cases hkc : kind == NameKind.cell <;> simp [hkc]) _ _ _ _ ?_)
  rw [hcells, hpush]
  generalize hH3 : H2.push { cls := .type "dict", data := .dict #[] } = H3
  refine wpAny_bind (wpAny_pure (wpAny_pure ?_))
  generalize hH4 : H3.push { cls := .type "cell", data := .cell none } = H4
  have s1 : H1.objs.size = s.heap.objs.size + 1 := by rw [← hH1, Heap.size_push]
  have s2 : H2.objs.size = s.heap.objs.size + 1 + 1 := by rw [← hH2, Heap.size_push, s1]
  have s3 : H3.objs.size = s.heap.objs.size + 1 + 1 + 1 := by rw [← hH3, Heap.size_push, s2]
  have o1 : ∀ b o, s.heap.get? b = some o → H1.get? b = some o := fun b o e => hH1 ▸ Heap.get?_push_of_some _ e
  have o2 : ∀ b o, H1.get? b = some o → H2.get? b = some o := fun b o e => hH2 ▸ Heap.get?_push_of_some _ e
  have o3 : ∀ b o, H2.get? b = some o → H3.get? b = some o := fun b o e => hH3 ▸ Heap.get?_push_of_some _ e
  have o4 : ∀ b o, H3.get? b = some o → H4.get? b = some o := fun b o e => hH4 ▸ Heap.get?_push_of_some _ e
  have olds : ∀ b o, s.heap.get? b = some o → H4.get? b = some o := fun b o e => o4 b o (o3 b o (o2 b o (o1 b o e)))
  have hI : H4.get? s.heap.objs.size = some { cls := .type "list_iterator", data := .fields #[.ref ax, .int 0 0] } := o4 _ _ (o3 _ _ (o2 _ _ (hH1 ▸ Heap.get?_push_size _ rfl)))
  have hD : H4.get? H1.objs.size = some (lst []) := o4 _ _ (o3 _ _ (hH2 ▸ Heap.get?_push_size _ rfl))
  have hCo : H4.get? H2.objs.size = some { cls := .type "dict", data := .dict #[] } := o4 _ _ (hH3 ▸ Heap.get?_push_size _ rfl)
  have hc : H4.get? H3.objs.size = some { cls := .type "cell", data := .cell none } := hH4 ▸ Heap.get?_push_size _ rfl
  have hns : NsObj ({ cls := .type "dict", data := .dict #[] } : Obj) (fun _ => none) := by
    obtain ⟨o, es, ep, ho, hd, hk, hf⟩ := Heap.Ns.new H2 (.type "dict")
    rw [Heap.get?_push_size _ rfl] at ho
    cases ho
    exact ⟨es, ep, hd, hk, hf⟩
  have fresh₀ : ∀ a, s.heap.objs.size ≤ a → h₀.get? a = none := fun a ha => by
    cases e : h₀.get? a with
    | none => rfl
    | some o' => exact absurd (Heap.lt_size (F.keep a o' e)) (Nat.not_lt.mpr ha)
  have hLlt : L < s.heap.objs.size := F.ns.lt
  have fr : Fresh3 h₀ L s.heap.objs.size H2.objs.size H1.objs.size := ⟨by rw [s2]; exact Nat.ne_of_lt (by omega), by rw [s1]; exact Nat.ne_of_lt (by omega), by rw [s1, s2]; exact Nat.ne_of_gt (by omega), Nat.ne_of_gt hLlt, by rw [s2]; exact Nat.ne_of_gt (Nat.lt_succ_of_lt (Nat.lt_succ_of_lt hLlt)), by rw [s1]; exact Nat.ne_of_gt (Nat.lt_succ_of_lt hLlt),
    fresh₀ _ (Nat.le_refl _), fresh₀ _ (by rw [s2]; omega), fresh₀ _ (by rw [s1]; omega)⟩
  have lows : ∀ p ∈ led, p.1 < s.heap.objs.size := fun p hp => Heap.lt_size (N p hp).1
  generalize hcE : H3.objs.size = c at hc
  have c3 : c = s.heap.objs.size + 1 + 1 + 1 := hcE ▸ s3
  have hc0 : h₀.get? c = none := fresh₀ _ (by rw [c3]; omega)
  have hcL : c ≠ L := by rw [c3]; exact Nat.ne_of_gt (Nat.lt_succ_of_lt (Nat.lt_succ_of_lt (Nat.lt_succ_of_lt hLlt)))
  have hcI : s.heap.objs.size ≠ c := by rw [c3]; exact Nat.ne_of_lt (by omega)
  have hcC : H2.objs.size ≠ c := by rw [c3, s2]; exact Nat.ne_of_lt (by omega)
  have hcD : H1.objs.size ≠ c := by rw [c3, s1]; exact Nat.ne_of_lt (by omega)
  have ap : Apart s.heap.objs.size H2.objs.size H1.objs.size [c] led := ⟨fun p hp => Nat.ne_of_lt (lows p hp), fun p hp => by rw [s2]; exact Nat.ne_of_lt (Nat.lt_succ_of_lt (Nat.lt_succ_of_lt (lows p hp))), fun p hp => by rw [s1]; exact Nat.ne_of_lt (Nat.lt_succ_of_lt (lows p hp)),
    fun p hp h => absurd (List.mem_singleton.mp h) (by rw [c3]; exact Nat.ne_of_lt (Nat.lt_succ_of_lt (Nat.lt_succ_of_lt (Nat.lt_succ_of_lt (lows p hp)))))⟩
  generalize s.heap.objs.size = I at *
  generalize H1.objs.size = D at *
  generalize H2.objs.size = C at *
  have go : ∀ (R : Result → Shared → Prop), LoopEnd h₀ L m I C D [c] led news (src.map f) s R → codeAny (model prog w) A (.compLoop (.ListComp elt [⟨.Name x px, iter, [], 0⟩] scope pos) 0 (.ref I) (.ref D) (compEnvC scope ((x, c) :: cl) C env)) R { s with heap := H4 } := by
    intro R fin
    refine level (s := s) (tk0 := s.toks) (cad := [c]) (ds0 := []) (tl0 := []) (xs0 := [(c, { cls := .type "cell", data := .cell none })]) (fun a => [f a]) (fun oC xs => (∃ mC, NsObj oC mC) ∧ ∃ o v₀, xs = [(c, o)] ∧ o.data = .cell v₀) (fun v oC xs => (∃ mC, NsObj oC mC) ∧ ∃ o, xs = [(c, o)] ∧ o.data = .cell (some v)) (compTurn_list1 _ _ _ _ _ _ _ _) hh fr.ic fr.id fr.il fr.i0 (fun h => hcI (List.mem_singleton.mp h)) hm hd ?_ ?_ ?_ ⟨⟨_, hns⟩, { cls := .type "cell", data := .cell none }, none, rfl, rfl⟩ rfl (F.keeps olds) ?_ ⟨_, hI, rfl, rfl⟩ ap (fun _ _ _ hp => nomatch hp) .nil
    · rintro i a v oI oC xs ys tl h tk Q E' ha hv ⟨hC, o, v₀, rfl, ho⟩ hxs F N ap hQ
      refine wpAny_assign_Name (wpAny_storeName_cell (by show (compEnvC scope ((x, c) :: cl) C env).scope.kind = _; simp [compEnvC, relabel, hkind]) (hxc C c) (by simp [compEnvC]) ⟨o, (N _ (.tail _ (.tail _ (.tail _ (.head _))))).1, ho⟩ fun h₁ hv₁ hs₁ => ?_)
      obtain ⟨o', ho', hd'⟩ := hv₁
      refine hQ h₁ tk oC [(c, o')] ⟨hC, o', rfl, hd'⟩ rfl (F.change hs₁ hcL hc0) fun p hp => ?_
      have keep : ∀ p : Addr × Obj, p.1 ≠ c → p ∈ (I, oI) :: blk C D oC ys [(c, o)] tl led → h₁.get? p.1 = some p.2 ∧ p.1 ≠ L ∧ h₀.get? p.1 = none := fun p h1 h2 => ⟨hs₁.extBut _ _ h1 (N p h2).1, (N p h2).2⟩
      rcases List.mem_cons.mp hp with rfl | hp
      · exact keep _ hcI (.head _)
      · rcases List.mem_cons.mp hp with rfl | hp
        · exact keep _ hcC (.tail _ (.head _))
        · rcases List.mem_cons.mp hp with rfl | hp
          · exact keep _ hcD (.tail _ (.tail _ (.head _)))
          · rcases List.mem_cons.mp hp with rfl | hp
            · exact ⟨ho', hcL, hc0⟩
            · exact keep _ (fun e => ap.x p hp (by rw [e]; exact .head _)) (.tail _ (.tail _ (.tail _ (.tail _ hp))))
    · rintro i a v oI oC xs ys tl h tk Q E' ha hv ⟨hC, o, rfl, ho⟩ hxs F N ap of hD hQ
      refine emit_append (cad := [c]) (xs := [(c, o)]) (oC := oC) (oI := oI) (m := m) (d := f a) fr.id fr.cd fr.dl fr.d0 (fun h => hcD (List.mem_singleton.mp h)) rfl ap of ?_ (helt i a v I oI C oC D c o ys tl h tk E' ha hv ho F N) hD ?_
      · have hi : i < src.length := by
          rcases Nat.lt_or_ge i src.length with h1 | h1
          · exact h1
          · rw [List.getElem?_eq_none h1] at ha; cases ha
        rw [hD.length, List.nil_append, sum_le _ 1 (fun a => rfl), List.length_take]
        omega
      · intro h₁ tk₁ ys₁ tl₁ F₁ N₁ ap₁ of₁ hD₁
        exact hQ h₁ tk₁ oC [(c, o)] ys₁ tl₁ ⟨hC, o, _, rfl, ho⟩ rfl F₁ N₁ ap₁ of₁ hD₁
    · rintro oC xs ys tl h tk ⟨hC, _⟩ hx F N ap of hD
      refine fin oC xs ys tl h tk hC hx F N ap of ?_
      have e : [] ++ src.flatMap (fun a => [f a]) = src.map f := by rw [List.nil_append]; exact flatMap_one f src
      rw [← e]; exact hD
    · intro p hp
      rcases List.mem_cons.mp hp with rfl | hp
      · exact ⟨hCo, fr.cl, fr.c0⟩
      · rcases List.mem_cons.mp hp with rfl | hp
        · exact ⟨hD, fr.dl, fr.d0⟩
        · rcases List.mem_cons.mp hp with rfl | hp
          · exact ⟨hc, hcL, hc0⟩
          · exact ⟨olds _ _ (N p hp).1, (N p hp).2⟩
  have done : ∀ (R : Result → Shared → Prop), (∀ D C h tk m' ys tl, Fr h₀ L h m → News h₀ L h ((D, lst ys) :: (tl ++ led)) → h.Ns C m' → h₀.get? C = none → C ≠ L → C ≠ D → (∀ p ∈ tl ++ led, p.1 ≠ C) → (∀ q ∈ led, q.1 ≠ D ∧ ∀ p ∈ tl, q.1 ≠ p.1) → (∀ p ∈ tl, p.1 ≠ D) → DatAll (tl ++ news) ys (src.map f) → compPost (model prog w) A E none Q (.ref D) C (.ok .next) { s with heap := h, toks := tk }) := by
    intro R D C h tk m' ys tl F' N' hn hC0 hCL hCD offC off off' hD
    refine ⟨m', hn, fun h'' hs'' => fin D tl ys h'' tk (F'.change hs'' hCL hC0) (fun p hp => ⟨hs''.extBut _ _ ?_ (N' p hp).1, (N' p hp).2⟩) off off' hD⟩
    rcases List.mem_cons.mp hp with rfl | hp
    · exact Ne.symm hCD
    · exact offC p hp
  have le : LoopEnd h₀ L m I C D [c] led news (src.map f) s (compPost (model prog w) A E none Q (.ref D) C) := by
    rintro oC' xs' ys tl h' tk' ⟨mC, hmC⟩ hx' F' N' ap' of' hD'
    refine done (fun _ _ => True) D C h' tk' mC ys tl F' (fun p hp => N' p ?_) (hmC.ns (N' _ (List.Mem.head _)).1) fr.c0 fr.cl fr.cd ap'.c (fun q hq => ⟨ap'.d q (List.mem_append_right _ hq), of' q hq⟩) (fun p hp => ap'.d p (List.mem_append_left _ hp)) hD'
    rcases List.mem_cons.mp hp with rfl | hp
    · exact .tail _ (.head _)
    · exact .tail _ (.tail _ (List.mem_append_right _ hp))
  exact codeAny_compStart_list (go _ le) (wpAny_pyIter_listiter ⟨_, hI, rfl, rfl⟩ (go _ le))
end
end Mine

namespace Mine
theorem calm_F1 : True := by
  w_top off
  trivial
end Mine
namespace Mine
theorem turn_mono {M : Model} {A : Around} {E : Value → Shared → Prop} {s : Shared} {target : Expr} {env : Env} {v : Value} {body : List Stmt} {QT : Flow → Shared → Prop} (Qt : Flow → Shared → Prop)
    (h : wpAny M A (assign target env v) (fun _ s₂ => wpAny M A (execs body env) Qt E s₂) E s) (himp : ∀ f s', Qt f s' → QT f s') : wpAny M A (assign target env v) (fun _ s₂ => wpAny M A (execs body env) QT E s₂) E s :=
  wpAny_mono h (fun _ _ h₂ => wpAny_mono h₂ himp fun _ _ e => e) fun _ _ e => e
/-- the end of one turn of compare -/
def CmpLeaf (h₀ : Heap) (L a b : Addr) (news : List (Addr × Obj)) (s : Shared) (R : Flow → Prop) (f : Flow) (s' : Shared) : Prop :=
  ∃ h' tk' m', s' = { s with heap := h', toks := tk' } ∧ Fr h₀ L h' m' ∧ News h₀ L h' news ∧ m' (Str.ofString "left") = some (.ref a) ∧ m' (Str.ofString "right") = some (.ref b) ∧ R f
theorem cmp_turn {M : Model} {A : Around} {E : Value → Shared → Prop} {s : Shared} {target : Expr} {env : Env} {v : Value} {body : List Stmt} {QT : Flow → Shared → Prop} {h₀ : Heap} {m : Str → Option Value} (a b : Addr) (news : List (Addr × Obj)) (R : Flow → Prop)
    (_F : Fr h₀ env.locals s.heap m) (h : wpAny M A (assign target env v) (fun _ s₂ => wpAny M A (execs body env) (CmpLeaf h₀ env.locals a b news s R) E s₂) E s) (himp : ∀ f s', CmpLeaf h₀ env.locals a b news s R f s' → QT f s') :
    wpAny M A (assign target env v) (fun _ s₂ => wpAny M A (execs body env) QT E s₂) E s := turn_mono _ h himp
theorem CmpLeaf.intro {h₀ h' : Heap} {L a b : Addr} {news : List (Addr × Obj)} {s : Shared} {R : Flow → Prop} {f : Flow} {tk' : Nat} {m' : Str → Option Value} {p q r : Addr × Obj} (F : Fr h₀ L h' m') (N : News h₀ L h' (p :: q :: r :: news)) (h1 : m' (Str.ofString "left") = some (.ref a)) (h2 : m' (Str.ofString "right") = some (.ref b)) (hR : R f) :
    CmpLeaf h₀ L a b news s R f { s with heap := h', toks := tk' } := ⟨h', tk', m', rfl, F, fun z hz => N z (List.Mem.tail _ (List.Mem.tail _ (List.Mem.tail _ hz))), h1, h2, hR⟩
def CmpR (lt gt : Bool) (d : Int) (f : Flow) : Prop := match f with
  | .ret v => (lt = true ∧ ∃ t, v = .int (-d) t) ∨ (lt = false ∧ gt = true ∧ ∃ t, v = .int d t)
  | .next => lt = false ∧ gt = false
  | _ => False
theorem CmpR.lt {lt gt : Bool} {d : Int} {t : Tok} (h : lt = true) : CmpR lt gt d (.ret (.int (-d) t)) := .inl ⟨h, t, rfl⟩
theorem CmpR.gt {lt gt : Bool} {d : Int} {t : Tok} (h : lt = false) (h' : gt = true) : CmpR lt gt d (.ret (.int d t)) := .inr ⟨h, h', t, rfl⟩
theorem CmpR.eq {lt gt : Bool} {d : Int} (h : lt = false) (h' : gt = false) : CmpR lt gt d .next := ⟨h, h'⟩
theorem form_of {m : Str → Option Value} {a b : Addr} (h1 : m (Str.ofString "left") = some (.ref a)) (h2 : m (Str.ofString "right") = some (.ref b)) :
    m = fun y => if y = Str.ofString "left" then some (.ref a) else if y = Str.ofString "right" then some (.ref b) else m y := by
  funext y
  by_cases e1 : y = Str.ofString "left"
  · simp [e1, h1]
  · by_cases e2 : y = Str.ofString "right"
    · subst e2; simp [e1, h2]
    · simp [e1, e2]
theorem warm5 : (fun (_ : OpenLaw) => True) PySem.Challenge.rw_ny0038_01 ∧ (hd.heap_39 = hd.heap_39) := by k_fill; exact ⟨trivial, rfl⟩
local macro_rules | `(tactic| k_room) => `(tactic| ((simp only [depth_under_make, depth_under_kw, depth_in1, depth_deeper, depth_caller, recursionLimit]); omega))
local macro_rules | `(tactic| ktr_room) => `(tactic| ((simp only [depth_under_make, depth_under_kw, depth_in1, depth_deeper, depth_caller, recursionLimit]); omega))
local macro_rules | `(tactic| walk_at "exec For Tuple Attribute cons nil") => `(tactic| (k_here; (rename Fr _ _ _ _ => lF'); (with_unfolding_all refine' For_unrF lF' ?_ (by intro _; rfl)); k_whole))
local macro_rules | `(tactic| walk_at "pyIter ref") => `(tactic| (k_here; (with_reducible show wpAny _ _ (pyIter (Value.ref _)) (fun it s₂ => UnrAt _ _ _ _ _ _ _ _ _ it s₂) _ _); refine Hold.out ?_))
local macro_rules | `(tactic| walk_at "subscriptTail") => `(tactic| (k_here; (with_reducible show wpAny _ _ (subscriptTail _ _ (Value.ref _) (Value.int _ _)) _ _ _); k_dflt (refine' item_tupleT ?t ?a ?b ?c ?d ?_; (case t => exact News.isTup (by k_asm) (by k_mem)); (case a => omega); (case b => omega); (case c => assumption); (case d => assumption); k_whole)))
def ltD : Dat → Dat → Bool
  | .int a, .int b => decide (a < b)
  | .str a, .str b => decide (a.cps.toList < b.cps.toList)
  | _, _ => false
def kindD : Dat → Dat → Prop
  | .int _, .int _ => True
  | .str _, .str _ => True
  | _, _ => False
def compareF (L R : List Dat) : List (Nat × Int) → Int
  | [] => 0
  | (c, d) :: r => if ltD (L.getD c .none) (R.getD c .none) = true then -d else if ltD (R.getD c .none) (L.getD c .none) = true then d else compareF L R r
def TurnEnd (h₀ : Heap) (L : Addr) (own news : List (Addr × Obj)) (J : (Str → Option Value) → Prop) (s : Shared) (Q : Flow → Shared → Prop) (f : Flow) (s₂ : Shared) : Prop := match f with
  | .ret v => Q (.ret v) s₂
  | .brk => Q .next s₂
  | _ => ∃ h' tk m₂, s₂ = { s with heap := h', toks := tk } ∧ Fr h₀ L h' m₂ ∧ News h₀ L h' (own ++ news) ∧ J m₂
theorem unr_ind {prog : Program} {w : World} {A : Around} {E : Value → Shared → Prop} {s : Shared} {env : Env} {h₀ : Heap} {target : Expr} {body : List Stmt} {Q : Flow → Shared → Prop} {P : Nat → Value → Prop} {fp : List Addr} {n : Nat} {m : Str → Option Value} {news : List (Addr × Obj)}
    (J : Nat → (Str → Option Value) → Prop) (hJ0 : J 0 m)
    (step : ∀ i m₁ v h₁ tk₁ own, i < n → J i m₁ → P i v → (∀ p ∈ own, p.1 ∈ fp) → Fr h₀ env.locals h₁ m₁ → News h₀ env.locals h₁ (own ++ news) →
      wpAny (model prog w) A (assign target env v) (fun _ s₂ => wpAny (model prog w) A (execs body env) (TurnEnd h₀ env.locals own news (J (i + 1)) { s with heap := h₁, toks := tk₁ } Q) E s₂) E { s with heap := h₁, toks := tk₁ })
    (fin : ∀ m₁ h' tk, J n m₁ → Fr h₀ env.locals h' m₁ → News h₀ env.locals h' news → Q .next { s with heap := h', toks := tk }) :
    Unr prog w A E h₀ env target body Q P fp s n 0 m news := by
  have key : ∀ k i m₁, i + k = n → J i m₁ → Unr prog w A E h₀ env target body Q P fp s k i m₁ news := by
    intro k
    induction k with
    | zero =>
      intro i m₁ hi hj
      have e : i = n := by omega
      subst e
      exact Unr.zero fun h' tk F N => fin m₁ h' tk hj F N
    | succ k ih =>
      intro i m₁ hi hj
      refine Unr.succ fun v h₁ tk₁ own hP hown F N => ?_
      refine wpAny_mono (step i m₁ v h₁ tk₁ own (by omega) hj hP hown F N) (fun _ s₂ h₂ => wpAny_mono h₂ (fun f s₃ h₃ => ?_) fun _ _ e => e) fun _ _ e => e
      cases f with
      | ret v => exact .ret h₃
      | brk => exact .brk h₃
      | next =>
        obtain ⟨h', tk, m₂, e, F', N', hJ'⟩ := h₃
        exact .next ⟨rfl, h', tk, m₂, news, e, F', N', rfl, ih (i + 1) m₂ (by omega) hJ'⟩
      | cont =>
        obtain ⟨h', tk, m₂, e, F', N', hJ'⟩ := h₃
        exact .cont ⟨rfl, h', tk, m₂, news, e, F', N', rfl, ih (i + 1) m₂ (by omega) hJ'⟩
  exact key n 0 m (by omega) hJ0
theorem datAll_getI {news : List (Addr × Obj)} {vs : List Value} {ds : List Dat} (h : DatAll news vs ds) {c : Nat} (hc : c < ds.length) : ∃ v, vs[c]? = some v ∧ DatIn news v (ds.getD c .none) := by
  obtain ⟨v, hv, hd⟩ := h.get hc
  exact ⟨v, hv, by rw [List.getD_eq_getElem?_getD, List.getElem?_eq_getElem hc]; exact hd⟩
theorem seqIdx {c n : Nat} (h : c < n) : seqIndex? (c : Int) n = some c := by
  unfold seqIndex?
  have h1 : ¬ ((c : Int) < 0) := by omega
  have h2 : (decide (0 ≤ (c : Int)) && decide ((c : Int) < (n : Int))) = true := by simp; omega
  simp [h1, h]
def keysD (ks : List (Nat × Int)) : List Dat := ks.map fun k => .tuple [.int k.1, .int k.2]
set_option maxHeartbeats 8000000 in
theorem compare_ok (w : World) (mean : ExcName → Option Value) (mg mb : Str → Option Value) (news : List (Addr × Obj)) (j dj kl a b : Addr) (hsh : Int) (tk0 : Tok) (kn n1 n2 n3 : Nat) (kvs ls rs : List Value)
    (ks : List (Nat × Int)) (Ls Rs : List Dat) (hks : DatAll news kvs (keysD ks)) (hls : DatAll news ls Ls) (hrs : DatAll news rs Rs) (hLl : Ls.length = 4) (hRl : Rs.length = 4)
    (hc : ∀ k ∈ ks, k.1 < 4 ∧ kindD (Ls.getD k.1 .none) (Rs.getD k.1 .none)) :
    ClP w mean mg mb 119 ((j, instObj 122 dj) :: (dj, dictOf [⟨hsh, .str (Str.ofString "comp_select_list") tk0, .ref kl⟩] n3) :: (kl, listOf kvs.toArray kn) :: (a, tupO ls n1) :: (b, tupO rs n2) :: news) [.ref j, .ref a, .ref b] (fun t => .int (compareF Ls Rs ks) t) := by
  dsimp only [ClP]; intros; rename_i hret
  refine wpAny_call ?_
  k_dflt cell_enter
  k_steps
  unfold Hold
  have hLen : kvs.length = ks.length := by rw [hks.length]; simp [keysD]
  refine Iter_list_unr rfl ⟨_, News.get (by assumption) (List.Mem.tail _ (List.Mem.tail _ (List.Mem.head _))), rfl, _, rfl⟩ (by assumption) (by assumption) (News.ne_locals (by assumption) (List.Mem.tail _ (List.Mem.tail _ (List.Mem.head _)))) ?_
  refine unr_ind (fun i m₁ => m₁ (Str.ofString "left") = some (.ref a) ∧ m₁ (Str.ofString "right") = some (.ref b) ∧ compareF Ls Rs (ks.drop i) = compareF Ls Rs ks) ⟨rfl, rfl, rfl⟩ ?_ ?_
  · rintro i m₁ v h₁ tk₁ own hi ⟨hm1, hm2, hcf⟩ hP hown F₁ N₁
    have hi' : i < ks.length := by simpa [hLen] using hi
    obtain ⟨v', hv', hD⟩ := hks.get (k := i) (by simpa [keysD] using hi')
    have hvv : v = v' := by
      have : kvs[i]? = some v := by simpa using hP
      rw [hv'] at this; exact (Option.some.inj this).symm
    subst hvv
    have hcc := hc ks[i] (List.getElem_mem hi')
    have hdrop : ks.drop i = ks[i] :: ks.drop (i + 1) := List.drop_eq_getElem_cons hi'
    have hD' : DatIn news v (.tuple [.int ks[i].1, .int ks[i].2]) := by simpa [keysD] using hD
    generalize ks[i] = key at hcc hdrop hD'
    obtain ⟨c, d⟩ := key
    rw [hdrop] at hcf
    dsimp only at hcc hD'
    cases hD' with
    | tuple hp hall =>
      cases hall with
      | cons h1 hall =>
      cases h1 with
      | int _ t1 =>
      cases hall with
      | cons h2 hall =>
      cases h2 with
      | int _ t2 =>
      cases hall
      obtain ⟨lv, hlv, hlD⟩ := datAll_getI hls (c := c) (by omega)
      obtain ⟨rv, hrv, hrD⟩ := datAll_getI hrs (c := c) (by omega)
      have hs1 : seqIndex? (c : Int) ls.length = some c := seqIdx (by rw [hls.length]; omega)
      have hs2 : seqIndex? (c : Int) rs.length = some c := seqIdx (by rw [hrs.length]; omega)
      have hc4 : (c : Int) < 4 := by omega
      have N₂ := News.bring (News.bring (News.bring N₁ (List.mem_append_right own (List.Mem.tail _ (List.Mem.tail _ (List.Mem.tail _ (List.Mem.tail _ (List.Mem.head _))))))) (List.Mem.tail _ (List.mem_append_right own (List.Mem.tail _ (List.Mem.tail _ (List.Mem.tail _ (List.Mem.head _))))))) (List.Mem.tail _ (List.Mem.tail _ (List.mem_append_right own (List.Mem.tail _ (List.Mem.tail _ (List.Mem.tail _ (List.Mem.tail _ (List.Mem.tail _ hp))))))))
      rw [form_of hm1 hm2] at F₁
      refine cmp_turn a b (own ++ ((j, instObj 122 dj) :: (dj, dictOf [⟨hsh, .str (Str.ofString "comp_select_list") tk0, .ref kl⟩] n3) :: (kl, listOf kvs.toArray kn) :: (a, tupO ls n1) :: (b, tupO rs n2) :: news)) (CmpR (ltD (Ls.getD c .none) (Rs.getD c .none)) (ltD (Rs.getD c .none) (Ls.getD c .none)) d) F₁ ?_ ?_
      · clear hret hcf hdrop
        have hkind := hcc.2
        generalize Ls.getD c .none = Ld at *
        generalize Rs.getD c .none = Rd at *
        cases hlD with
        | int x tx =>
          cases hrD with
          | int y ty =>
            k_steps
            all_goals (refine CmpLeaf.intro (by k_asm) (by k_asm) rfl rfl ?_)
            all_goals (first | exact CmpR.lt (decide_eq_true (by assumption)) | exact CmpR.gt (decide_eq_false (by assumption)) (decide_eq_true (by assumption)) | exact CmpR.eq (decide_eq_false (by assumption)) (decide_eq_false (by assumption)))
          | _ => exact hkind.elim
        | str x tx =>
          cases hrD with
          | str y ty =>
            k_steps
            all_goals (refine CmpLeaf.intro (by k_asm) (by k_asm) rfl rfl ?_)
            all_goals (first | exact CmpR.lt (decide_eq_true (by assumption)) | exact CmpR.gt (decide_eq_false (by assumption)) (decide_eq_true (by assumption)) | exact CmpR.eq (decide_eq_false (by assumption)) (decide_eq_false (by assumption)))
          | _ => exact hkind.elim
        | _ => exact hkind.elim
      · rintro f s' ⟨h', tk', m', rfl, F', N', q1, q2, hR⟩
        cases f with
        | ret v =>
          rcases hR with ⟨hR, t, rfl⟩ | ⟨hR, hR', t, rfl⟩
          · have e : compareF Ls Rs ks = -d := by rw [← hcf, compareF, if_pos hR]
            rw [e] at hret
            dsimp only [TurnEnd]
            replace N' := News.right N'
            k_steps
            all_goals (exact hret _ _ _ (by k_asm) (by k_asm))
          · have e : compareF Ls Rs ks = d := by rw [← hcf, compareF, if_neg (by rw [hR]; decide), if_pos hR']
            rw [e] at hret
            dsimp only [TurnEnd]
            replace N' := News.right N'
            k_steps
            all_goals (exact hret _ _ _ (by k_asm) (by k_asm))
        | next => exact ⟨h', tk', m', rfl, F', N', q1, q2, by rw [← hcf]; show _ = (if _ then _ else if _ then _ else compareF Ls Rs _); rw [if_neg (by rw [hR.1]; decide), if_neg (by rw [hR.2]; decide)]⟩
        | brk => exact hR.elim
        | cont => exact hR.elim
  · rintro m₁ h' tk ⟨hm1, hm2, hcf⟩ F' N'
    have e : compareF Ls Rs ks = 0 := by rw [← hcf, List.drop_eq_nil_of_le (by simp [hLen])]; rfl
    rw [e] at hret
    k_steps
    all_goals (exact hret _ _ _ (by k_asm) (by k_asm))
end Mine

namespace Mine
theorem calm_H1 : True := by
  w_top off
  trivial
end Mine
namespace Mine
local macro_rules | `(tactic| walk_at "mine none") => `(tactic| fail "none")
open LCg
def innerL : List Str := ((rangeKs 32 63).map chrS ++ [Str.ofString "^?"]) ++ (rangeKs 64 32).map fun k => Str.ofString "^" ++ chrS k
def innerM : List Str := (innerL ++ [Str.ofString "^" ++ chrS 159]) ++ (rangeKs 95 32).map chrS
def textsL : List Str := (innerM.take 2 ++ innerM.map fun x => Str.ofString "!" ++ x) ++ innerM.drop 2
def bangD : Dat → Dat
  | .str x => .str (Str.ofString "!" ++ x)
  | d => d
theorem flat_str {α : Type} (l : List α) (f : α → Str) : ∀ d ∈ l.map (fun k => Dat.str (f k)), flatD d = true := by
  intro d hd
  obtain ⟨k, _, rfl⟩ := List.mem_map.mp hd
  rfl
theorem inner_length : innerM.length = 129 := by decide +kernel
theorem inner_len : ∀ x ∈ innerM, x.length ≤ 2 := by decide +kernel
theorem bang_flat : ∀ d ∈ (innerM.map Dat.str).map bangD, flatD d = true := by
  intro d hd
  obtain ⟨e, he, rfl⟩ := List.mem_map.mp hd
  obtain ⟨x, _, rfl⟩ := List.mem_map.mp he
  rfl
theorem inner_dat {ys1 ys2 ys3 : List Value} {t1 t2 : Tok} {x2 : Str} (h1 : DatAll [] ys1 ((rangeKs 32 63).map fun k => .str (chrS k))) (h2 : DatAll [] ys2 ((rangeKs 64 32).map fun k => .str (Str.ofString "^" ++ chrS k))) (h3 : DatAll [] ys3 ((rangeKs 95 32).map fun k => .str (chrS k)))
    (hx : x2 = Str.ofString "^" ++ chrS 159) : DatAll [] (ys1 ++ [.str (Str.ofString "^?") t1] ++ ys2 ++ [.str x2 t2] ++ ys3) (innerM.map .str) := by
  have e : innerM.map Dat.str = ((((rangeKs 32 63).map fun k => Dat.str (chrS k)) ++ [.str (Str.ofString "^?")]) ++ (rangeKs 64 32).map fun k => Dat.str (Str.ofString "^" ++ chrS k)) ++ [.str x2] ++ (rangeKs 95 32).map fun k => Dat.str (chrS k) := by
    rw [hx]
    simp only [innerM, innerL, List.map_append, List.map_map, List.map_cons, List.map_nil]
    rfl
  rw [e]
  exact DatAll.append (DatAll.append (DatAll.append (DatAll.append h1 (DatAll.one (.str _ _))) h2) (DatAll.one (.str _ _))) h3
theorem texts_eq : textsL.map Dat.str = ((innerM.map Dat.str).take 2 ++ (innerM.map Dat.str).map bangD) ++ (innerM.map Dat.str).drop 2 := by
  simp only [textsL, List.map_append, List.map_map, List.map_take, List.map_drop]
  rfl
theorem list_end {h₀ h' : Heap} {L : Addr} {m : Str → Option Value} {news rest : List (Addr × Obj)} {s : Shared} {Q : Value → Shared → Prop} {tk' : Nat} {D : Addr} {n : Nat} {vs : List Value} {ds : List Dat} (hret : BackD h₀ L m news s Q (.list ds)) (F : Fr h₀ L h' m)
    (N : News h₀ L h' ((D, listO vs n) :: rest)) (hsub : ∀ p ∈ news, p ∈ rest) (l1 : ∀ p ∈ rest, p.1 < D) (hd : DatAll [] vs ds) : Q (.ref D) { s with heap := h', toks := tk' } := by
  refine hret _ [(D, listO vs n)] h' tk' F (fun p hp => N p ?_) (fun q hq p hp => ?_) (.list (List.Mem.head _) (DatAll.mono (by intro _ h; cases h) hd))
  · rcases List.mem_cons.mp hp with rfl | hp
    · exact .head _
    · exact .tail _ (hsub p hp)
  · rw [List.mem_singleton.mp hp]; exact Nat.ne_of_lt (l1 q (hsub q hq))
theorem warm6 : (fun (_ : OpenLaw) => True) PySem.Challenge.rw_ny0038_01 ∧ (hd.heap_39 = hd.heap_39) := by k_fill; exact ⟨trivial, rfl⟩
local macro_rules | `(tactic| k_room) => `(tactic| ((simp only [depth_under_make, depth_under_kw, depth_in1, depth_deeper, depth_caller, recursionLimit]); omega))
local macro_rules | `(tactic| ktr_room) => `(tactic| ((simp only [depth_under_make, depth_under_kw, depth_in1, depth_deeper, depth_caller, recursionLimit]); omega))
local macro_rules | `(tactic| walk_at "eval ListComp") => `(tactic| (k_here; refine Hold.out ?_))
local macro_rules | `(tactic| walk_at "binaryOp Add ref ref") => `(tactic| (k_here; k_dflt (refine' add_cat ?F ?N ?a ?b ?z ?_; (case F => k_asm); (case N => k_asm); (case a => k_mem); (case b => k_mem); (case z => ((try simp only [List.length_append, List.length_cons, List.length_nil, List.length_take, List.length_drop]); omega)); intro D' h' F' N' l1)))
local macro_rules | `(tactic| walk_at "subscriptTail Name Slice ref ref") => `(tactic| (k_here; k_dflt (refine' kmk_slice_lit ?F ?N ?l ?p ?q ?e ?_ ?s ?t ?z; (case F => k_asm); (case N => k_asm); (case l => exact ⟨_, News.get (by k_asm) (by k_mem), rfl, _, rfl⟩); (case p => kmk_part); (case q => kmk_part); (case e => first | exact pick_upto2 _ | exact pick_from2 _); (case s => with_unfolding_all rfl); (case t => kmk_pure); (case z => (rw [List.size_toArray, sizeLine_eq]; (try simp only [List.length_append, List.length_cons, List.length_nil]); omega))); intro D' h' F' N' l1))
set_option maxHeartbeats 8000000 in
theorem texts_ok (w : World) (mean : ExcName → Option Value) (mg mb : Str → Option Value) (news : List (Addr × Obj)) :
    ClD w mean mg mb 136 news [] (.list (textsL.map .str)) := by
  dsimp only [ClD]; intros; rename_i hret
  refine wpAny_call ?_
  k_dflt cell_enter
  k_steps
  unfold Hold
  refine comp_range 32 95 63 (fun k => .str (chrS k)) (news := []) (by assumption) (by assumption) rfl (by decide) rfl (by decide) rfl ?iter rfl (by decide) (by decide) (by decide) ?turn ?fin
  case iter =>
    intro P hP
    k_steps
    exact hP _ _ _ _ _ _ (by k_asm) (by k_asm) (by assumption)
  case turn =>
    intro i v t I oI C oC D m₂ ys h tk tl g tk0 E' hi hv hC hx F9 N9 off ne
    subst hv
    clear hret
    k_steps
    exact Back.intro [] (by k_asm) (by k_asm) (fun p hp => hp) (fun _ _ _ hp => nomatch hp) (.str _ _)
  case fin =>
    intro g tk0
    refine FinF.toL ?_ (flat_str _ _)
    intro D1 ys1 h tk F9 N9 off hD1
    have hl1 : ys1.length = 63 := by rw [hD1.length, List.length_map, rangeKs_length]
    k_steps
    unfold Hold
    refine comp_range 64 96 32 (fun k => .str (Str.ofString "^" ++ chrS k)) (news := []) (by assumption) (by assumption) rfl (by decide) rfl (by decide) rfl ?iter rfl (by decide) (by decide) (by decide) ?turn ?fin
    case iter =>
      intro P hP
      k_steps
      exact hP _ _ _ _ _ _ (by k_asm) (by k_asm) (by assumption)
    case turn =>
      intro i v t I oI C oC D m₂ ys h tk tl g tk0 E' hi hv hC hx F9 N9 off ne
      subst hv
      clear hret
      k_steps
      exact Back.intro [] (by k_asm) (by k_asm) (fun p hp => hp) (fun _ _ _ hp => nomatch hp) (.str _ _)
    case fin =>
      intro g tk0
      refine FinF.toL ?_ (flat_str _ _)
      intro D2 ys2 h tk F9 N9 off hD2
      have hl2 : ys2.length = 32 := by rw [hD2.length, List.length_map, rangeKs_length]
      k_steps
      unfold Hold
      refine comp_range 95 127 32 (fun k => .str (chrS k)) (news := []) (by assumption) (by assumption) rfl (by decide) rfl (by decide) rfl ?iter rfl (by decide) (by decide) (by decide) ?turn ?fin
      case iter =>
        intro P hP
        k_steps
        exact hP _ _ _ _ _ _ (by k_asm) (by k_asm) (by assumption)
      case turn =>
        intro i v t I oI C oC D m₂ ys h tk tl g tk0 E' hi hv hC hx F9 N9 off ne
        subst hv
        clear hret
        k_steps
        exact Back.intro [] (by k_asm) (by k_asm) (fun p hp => hp) (fun _ _ _ hp => nomatch hp) (.str _ _)
      case fin =>
        intro g tk0
        refine FinF.toL ?_ (flat_str _ _)
        intro D3 ys3 h tk F9 N9 off hD3
        have hl3 : ys3.length = 32 := by rw [hD3.length, List.length_map, rangeKs_length]
        k_steps
        unfold Hold
        refine comp_list (src := innerM.map .str) (news := []) bangD (by assumption) rfl rfl (by decide) rfl (by decide) rfl ?iter (by assumption) (List.Mem.tail _ (List.Mem.head _)) ?size ?hM ?turn ?fin
        case size => (simp only [List.length_append, List.length_cons, List.length_nil]; omega)
        case hM => exact inner_dat hD1 hD2 hD3 rfl
        case iter =>
          intro P hP
          k_steps
          exact hP
        case turn =>
          intro i a v I oI C oC D m₂ ys h tk tl g E' ha hv hC hx F9 N9 off ne
          obtain ⟨x, hxm, rfl⟩ := List.mem_map.mp (List.mem_of_getElem? ha)
          have hxl := inner_len x hxm
          cases hv with
          | str _ t =>
          clear hret
          k_steps
          exact Back.intro [] (by k_asm) (by k_asm) (fun p hp => hp) (fun _ _ _ hp => nomatch hp) (.str _ _)
        case fin =>
          intro g
          refine FinF.toL ?_ bang_flat
          intro D4 ys4 h tk F9 N9 off hD4
          have hl4 : ys4.length = 129 := by rw [hD4.length, List.length_map, List.length_map]; exact inner_length
          k_steps
          refine list_end hret (by k_asm) (by k_asm) (by intro p hp; repeat (first | exact hp | apply List.Mem.tail)) (by assumption) ?_
          rw [texts_eq]
          exact DatAll.append (DatAll.append (datAll_take 2 (inner_dat hD1 hD2 hD3 rfl)) hD4) (datAll_drop 2 (inner_dat hD1 hD2 hD3 rfl))
end Mine

namespace Mine
theorem calm_J1 : True := by
  w_top off
  trivial
end Mine
namespace Mine
open LCg
theorem flat_int {α : Type} (l : List α) (f : α → Int) : ∀ d ∈ l.map (fun k => Dat.int (f k)), flatD d = true := by
  intro d hd
  obtain ⟨k, _, rfl⟩ := List.mem_map.mp hd
  rfl
theorem rangeSize_nat' (n : Nat) : Builtin.Range.rangeSize 0 (n : Int) 1 = (n : Int) := by
  have h := rangeSize_nat 0 (n : Int)
  simpa using h
theorem np4F : ∀ k : Fin 12, ((4 : Int) ^ k.val).natAbs < 1073741824 := by decide
theorem np3F : ∀ k : Fin 12, ((3 : Int) ^ k.val).natAbs < 1073741824 := by decide
theorem np4 (k : Nat) (h : k < 12) : ((4 : Int) ^ k).natAbs < 1073741824 := np4F ⟨k, h⟩
theorem np3 (k : Nat) (h : k < 12) : ((3 : Int) ^ k).natAbs < 1073741824 := np3F ⟨k, h⟩
theorem warm7 : (fun (_ : OpenLaw) => True) PySem.Challenge.rw_ny0038_01 ∧ (hd.heap_39 = hd.heap_39) := by k_fill; exact ⟨trivial, rfl⟩
local macro_rules | `(tactic| k_room) => `(tactic| ((simp only [depth_under_make, depth_under_kw, depth_in1, depth_deeper, depth_caller, recursionLimit]); omega))
local macro_rules | `(tactic| ktr_room) => `(tactic| ((simp only [depth_under_make, depth_under_kw, depth_in1, depth_deeper, depth_caller, recursionLimit]); omega))
local macro_rules | `(tactic| walk_at "eval ListComp") => `(tactic| (k_here; refine Hold.out ?_))
local macro_rules | `(tactic| walk_at "binaryOp Add ref ref") => `(tactic| (k_here; k_dflt (refine' add_cat ?F ?N ?a ?b ?z ?_; (case F => k_asm); (case N => k_asm); (case a => k_mem); (case b => k_mem); (case z => ((try simp only [List.length_append, List.length_cons, List.length_nil, List.length_take, List.length_drop]); omega)); intro D' h' F' N' l1; (try k_lt l1))))
local macro_rules | `(tactic| walk_at "binaryOp FloorDiv int int") => `(tactic| (k_here; k_dflt (first | refine floordiv_int (Int.ne_of_gt (Int.pow_pos (by decide))) ?_ (Or.inl (PyProof.noPylong_small (np4 _ (by omega)))) | refine floordiv_int (Int.ne_of_gt (Int.pow_pos (by decide))) ?_ (Or.inl (PyProof.noPylong_small (np3 _ (by omega)))))))
local macro_rules | `(tactic| k_all) => `(tactic| assumption)
def colF (total : Int) (k : Int) : Int := (total.fdiv (4 ^ (k + 1).toNat)).fmod 4
def wayF (total : Int) (k : Int) : Int := 1 - 2 * (total.fdiv (3 ^ (k + 1).toNat)).fmod 2
def colsF (total : Int) : List Int := (rangeKs 0 (total % 4).toNat).map (colF total) ++ [3, 1, 2, 0]
def keyD (total : Int) (k : Int) : Dat := .tuple [.int ((colsF total).getD k.toNat 0), .int (wayF total k)]
theorem len4 {ys : List Value} {a b c d : Value} {n : Nat} (h : ys.length + 4 = n) : (ys ++ [a, b, c, d]).length = n := by simpa using h
theorem cols_len (total : Int) : (colsF total).length < 8 := by
  have h1 : total % 4 < 4 := Int.emod_lt_of_pos _ (by decide)
  simp only [colsF, List.length_append, List.length_map, rangeKs_length, List.length_cons, List.length_nil]
  omega
theorem cols_dat {total : Int} {ys1 : List Value} {t1 t2 t3 t4 : Tok} (h : DatAll [] ys1 ((rangeKs 0 (total % 4).toNat).map fun k => .int (colF total k))) : DatAll [] (ys1 ++ [.int 3 t1, .int 1 t2, .int 2 t3, .int 0 t4]) ((colsF total).map .int) := by
  have e : (colsF total).map Dat.int = ((rangeKs 0 (total % 4).toNat).map fun k => Dat.int (colF total k)) ++ [.int 3, .int 1, .int 2, .int 0] := by
    simp only [colsF, List.map_append, List.map_map, List.map_cons, List.map_nil]
    rfl
  rw [e]
  exact DatAll.append h (.cons (.int _ _) (.cons (.int _ _) (.cons (.int _ _) (.cons (.int _ _) .nil))))
local macro_rules | `(tactic| walk_at "subscriptTail") => `(tactic| (k_here; (with_reducible show wpAny _ _ (subscriptTail _ _ (Value.ref _) (Value.int _ _)) _ _ _); k_dflt (refine' item_list ?N ?m ?a ?b ?x ?_ ?s; (case N => k_asm); (case m => k_mem); (case a => omega); (case b => omega); (case x => assumption); (case s => with_unfolding_all rfl))))
local macro_rules | `(tactic| walk_at "call builtin:len") => `(tactic| (k_here; k_dflt (refine' len_led ?N ?m ?k ?f ?_; (case N => k_asm); (case m => k_mem); (case k => exact len4 (by assumption)); (case f => omega))))
set_option maxHeartbeats 8000000 in
theorem keys_ok (w : World) (mean : ExcName → Option Value) (mg mb : Str → Option Value) (news : List (Addr × Obj)) (total : Int) (t : Tok) :
    ClD w mean mg mb 131 news [.int total t] (.list ((rangeKs 0 (colsF total).length).map (keyD total))) := by
  dsimp only [ClD]; intros; rename_i hret
  refine wpAny_call ?_
  k_dflt (refine' code_defC ?k1 ?k2 ?k3 ?k4 ?k5 ?kA ?kF ?kK ?k6 ?k7 ?k8 ?k9 ?kB ?kD ?_ ?c2 ?c3 ?c4; (case kA => exact rfl); (case kF => exact rfl); (case kK => assumption); (case k1 => k_asm); (case k2 => k_asm); (case k3 => k_asm); (case k4 => k_asm); (case k5 => k_asm); (case k6 => k_is); (case k7 => k_is); (case k8 => ktr_room); (case k9 => exact BindsTo.of_eq rfl); (case kB => exact rfl); (case kD => decide +kernel); (case c2 => exact rfl); (case c3 => exact rfl); (case c4 => exact rfl); k_whole; intro g' L' h' tk' cells' FG' F' N' Y' B' X' T' l1)
  obtain ⟨o1, o2, hE, d1, d2⟩ := CellsAre.two Y'
  subst hE
  clear Y'
  replace d1 : o1.data = .cell none := d1
  replace d2 : o2.data = .cell (some (.int total t)) := d2
  replace F' : Fr g' L' h' (fun _ => none) := F'
  simp only [List.cons_append, List.nil_append] at N'
  (try dsimp only)
  (try k_fold)
  k_steps
  unfold Hold
  have hn0 : 0 ≤ total % 4 := Int.emod_nonneg _ (by decide)
  have hn4 : total % 4 < 4 := Int.emod_lt_of_pos _ (by decide)
  have hf4 : total.fmod 4 = ((total % 4).toNat : Int) := by rw [fm4]; omega
  have hcol : ∀ p ∈ news, p.1 ≠ L' + 1 + 1 := fun p hp => Nat.ne_of_lt (Nat.lt_trans (l1 p hp) (Nat.lt_trans (Nat.lt_succ_self _) (Nat.lt_succ_self _)))
  have htot : ∀ p ∈ news, p.1 ≠ L' + 1 := fun p hp => Nat.ne_of_lt (Nat.lt_trans (l1 p hp) (Nat.lt_succ_self _))
  refine comp_range 0 (total.fmod 4) (total % 4).toNat (fun k => .int (colF total k)) (news := []) (cl := [(Str.ofString "total", L' + 1)]) (by with_reducible assumption) (by with_reducible assumption) (by with_unfolding_all rfl) (by decide) rfl (by decide) rfl ?iter rfl ?sm ?sz (by omega) ?turn ?fin
  case iter =>
    intro P hP
    k_steps
    exact hP _ _ _ _ _ _ (by k_asm) (by k_asm) (by assumption)
  case sm => rw [hf4]; exact small_one (by omega) (by omega) (by omega) (by omega)
  case sz => rw [hf4]; exact rangeSize_nat' _
  case turn =>
    intro i v t I oI C oC D m₂ ys h tk tl g tk0 E' hi hv hC hx F9 N9 off ne
    subst hv
    clear hret
    have N10 := News.bring N9 (p := (L' + 1, o2)) (List.Mem.tail _ (List.Mem.tail _ (List.Mem.tail _ (List.mem_append_right _ (List.Mem.tail _ (List.Mem.head _))))))
    clear N9
    have hi4 : i < 4 := by omega
    k_steps
    exact Back.intro [] (by k_asm) (by k_asm) (fun p hp => .tail _ hp) (fun _ _ _ hp => nomatch hp) (.int _ _)
  case fin =>
    intro g tk0
    refine FinF.toL ?_ (flat_int _ _)
    intro D1 ys1 h tk F9 N9 off hD1
    have hl1 : ys1.length = (total % 4).toNat := by rw [hD1.length, List.length_map, rangeKs_length]
    have o1' : @Ne Nat (L' + 1 + 1) D1 := off _ (List.Mem.head _)
    have o2' : @Ne Nat (L' + 1) D1 := off _ (List.Mem.tail _ (List.Mem.head _))
    k_steps
    unfold Hold
    rename _ = Data.cell (some (Value.ref _)) => dC
    refine comp_range 0 ((colsF total).length : Int) (colsF total).length (keyD total) (news := []) (cl := [(Str.ofString "total", L' + 1), (Str.ofString "columns", L' + 1 + 1)]) (by with_reducible assumption) (by with_reducible assumption) (by with_unfolding_all rfl) (by decide) rfl (by decide) rfl ?iter rfl ?sm ?sz ?szz ?turn ?fin
    case iter =>
      intro P hP
      have hcl := cols_len total
      have hlen : ys1.length + 4 = (colsF total).length := by
        simp only [colsF, List.length_append, List.length_map, rangeKs_length, List.length_cons, List.length_nil]; omega
      clear hret
      k_steps
      exact hP _ _ _ _ _ _ (by k_asm) (by k_asm) (by assumption)
    case sm => exact small_one (by omega) (by omega) (by have := cols_len total; omega) (by have := cols_len total; omega)
    case sz => exact rangeSize_nat' _
    case szz => have := cols_len total; omega
    case turn =>
      intro i v t I oI C oC D m₂ ys h tk tl g tk0 E' hi hv hC hx F9 N9 off ne
      subst hv
      clear hret
      have N10 := News.bring (News.bring (News.bring N9 (List.Mem.tail _ (List.Mem.tail _ (List.Mem.tail _ (List.mem_append_right _ (List.Mem.tail _ (List.Mem.tail _ (List.Mem.tail _ (List.Mem.tail _ (List.Mem.head _)))))))))) (List.Mem.tail _ (List.Mem.tail _ (List.Mem.tail _ (List.Mem.tail _ (List.mem_append_right _ (List.Mem.tail _ (List.Mem.tail _ (List.Mem.tail _ (List.Mem.head _)))))))))) (List.Mem.tail _ (List.Mem.tail _ (List.Mem.tail _ (List.Mem.tail _ (List.Mem.tail _ (List.mem_append_right _ (List.Mem.head _)))))))
      clear N9
      have hcl := cols_len total
      obtain ⟨vc, hvc, hvD⟩ := (cols_dat hD1).get (k := i) (by simpa using hi)
      have hvD' : DatIn [] vc (.int ((colsF total).getD i 0)) := by
        have e : (colsF total).getD i 0 = (colsF total)[i] := by rw [List.getD_eq_getElem?_getD, List.getElem?_eq_getElem hi]; rfl
        rw [e]; simpa using hvD
      cases hvD' with
      | int _ tc =>
      have hi' : (0 + (i : Int)).toNat = i := by omega
      rw [← hi'] at hvc
      k_steps
      refine leaf_tup (by k_asm) (by k_asm) (by assumption) (fun p hp => .tail _ (.tail _ (.tail _ hp))) ?_
      rw [hi']
      exact .cons (.int _ _) (.cons (.int _ _) .nil)
    case fin =>
      intro g tk0 D tl ys h tk F9 N9 off2 off3 hD2
      k_steps
      exact list_end2 hret (by k_asm) (by k_asm) (fun p hp => .tail _ (.tail _ (.tail _ (.tail _ (.tail _ hp))))) off2 hD2
end Mine

namespace Mine
theorem calm_L1 : True := by
  w_top off
  trivial
end Mine
namespace Mine
open LCg
theorem warm9 : (fun (_ : OpenLaw) => True) PySem.Challenge.rw_ny0038_01 ∧ (hd.heap_39 = hd.heap_39) := by k_fill; exact ⟨trivial, rfl⟩
local macro_rules | `(tactic| k_room) => `(tactic| ((simp only [depth_under_make, depth_under_kw, depth_in1, depth_deeper, depth_caller, recursionLimit]); omega))
local macro_rules | `(tactic| ktr_room) => `(tactic| ((simp only [depth_under_make, depth_under_kw, depth_in1, depth_deeper, depth_caller, recursionLimit]); omega))
theorem ne_all {d : Addr} {l : List (Addr × Obj)} (h : ∀ p ∈ l, p.1 < d) : ∀ p ∈ l, p.1 ≠ d := fun p hp => Nat.ne_of_lt (h p hp)
local macro_rules | `(tactic| k_all) => `(tactic| exact ne_all (by assumption))
set_option maxHeartbeats 8000000 in
theorem judge_ok (w : World) (mean : ExcName → Option Value) (mg mb : Str → Option Value) (news : List (Addr × Obj)) (kl : Addr) :
  ∀ (dp un : Nat) (gd : Option (List Code)) (cn : Str) (cs : Scope) (a : Addr) (ccd : Value) (cl : List (Str × Addr)) (outer : List Env) (A₀ : Around) (base h₀ : Heap) (L : Addr) (m : Str → Option Value) (s : Shared) (Q E : Value → Shared → Prop),
    Below A₀ base outer h₀ → Fr h₀ L s.heap m → (hd.heap_39 w.params).In h₀ → News h₀ L s.heap news → Top hd.view_39 (looseW hd.view_39 []) mean mg mb h₀ → cs.kind = .function →
    dp < 900 → un < 5000 → (∀ (j dj : Addr) (n : Nat) (hsh : Int) (tk0 : Tok) (h' : Heap) (tk' : Nat), Fr h₀ L h' m → News h₀ L h' ((j, instObj 122 dj) :: (dj, dictOf [⟨hsh, .str (Str.ofString "comp_select_list") tk0, .ref kl⟩] n) :: news) → (∀ p ∈ news, p.1 ≠ j ∧ p.1 ≠ dj) → Q (.ref j) { s with heap := h', toks := tk' }) →
      wpAny (model PySem.Challenge.rw_ny0038_01.prog w) (ktrTop dp un gd cn cs L a ccd cl outer) (call (.ref 122) [.ref kl]) Q E s := by
  intros; rename_i hret
  k_dflt (refine' call_cls ?k1 ?k2 ?k3 ?k4 ?k5 ?k6 ?_; (case k1 => k_asm); (case k2 => k_asm); (case k3 => k_asm); (case k4 => k_is); (case k5 => k_is); (case k6 => k_is))
  intro x' d' h' F' N' l1 l2
  have l3 : ∀ p ∈ news, p.1 ≠ x' ∧ p.1 ≠ d' := fun p hp => ⟨Nat.ne_of_lt (Nat.lt_trans (l1 p hp) l2), Nat.ne_of_lt (l1 p hp)⟩
  replace l2 := ltN l2
  k_dflt cell_enter
  k_steps
  all_goals exact hret _ _ _ _ _ _ _ (by k_asm) (by k_asm) l3
end Mine

namespace Mine
/-! the plain law -/
def gray (r : Nat) : Str := -- what is shown at a remainder by 256 (of a number that is not 127)
  let low := r % 128
  let rep : Str := if 32 ≤ low ∧ low ≤ 126 then ⟨#[low]⟩ else Str.ofString "^" ++ ⟨#[if low < 32 then low + 64 else 159]⟩
  if r < 128 then rep else Str.ofString "!" ++ rep
def grayP (r : Nat) : Nat :=
  let low := r % 128
  let p := if low < 32 then low + 64 else if low < 95 then low - 32 else if low < 127 then low + 2 else 96
  if r > 127 then p + 2 else if p > 1 then p + 129 else p
theorem gray_ok : ∀ r : Fin 256, textsL.getD (grayP r.val) (Str.ofString "") = gray r.val := by decide +kernel
theorem placeB_of {x : Int} (h : x ≠ 127) {k : Nat} (el : x % 128 = (k : Int)) : placeB x = ((if k < 32 then k + 64 else if k < 95 then k - 32 else if k < 127 then k + 2 else 96 : Nat) : Int) := by
  unfold placeB
  rw [if_neg h, el]
  clear el h
  by_cases c1 : k < 32
  · rw [if_pos (by omega), if_pos c1]; rfl
  · rw [if_neg (by omega), if_neg c1]
    by_cases c2 : k < 95
    · rw [if_pos (by omega), if_pos c2]; omega
    · rw [if_neg (by omega), if_neg c2]
      by_cases c3 : k < 127
      · rw [if_pos (by omega), if_pos c3]; rfl
      · rw [if_neg (by omega), if_neg c3]; rfl
theorem repF_of {x : Int} (h : x ≠ 127) {k : Nat} (el : x % 128 = (k : Int)) : repF x = if 32 ≤ k ∧ k ≤ 126 then (⟨#[k]⟩ : Str) else Str.ofString "^" ++ ⟨#[if k < 32 then k + 64 else 159]⟩ := by
  unfold repF
  rw [if_neg h, el]
  clear el h
  by_cases hA : 32 ≤ k ∧ k ≤ 126
  · rw [if_pos (by omega), if_pos hA]; rfl
  · rw [if_neg (by omega), if_neg hA]
    have c3 : (if (k : Int) < 32 then (k : Int) + 64 else 159).toNat = if k < 32 then k + 64 else 159 := by
      by_cases c : k < 32
      · rw [if_pos (by omega), if_pos c]; rfl
      · rw [if_neg (by omega), if_neg c]; rfl
    unfold chrS
    rw [c3]
theorem text_of (x : Int) : textsL.getD (placeF x).toNat (Str.ofString "") = shownF x := by
  by_cases h : x = 127
  · subst h; decide +kernel
  · have h0 : 0 ≤ x % 256 := Int.emod_nonneg _ (by decide)
    have h1 : x % 256 < 256 := Int.emod_lt_of_pos _ (by decide)
    obtain ⟨r, hr⟩ : ∃ r : Nat, x % 256 = (r : Int) := ⟨(x % 256).toNat, (Int.toNat_of_nonneg h0).symm⟩
    have hr9 : r < 256 := by omega
    have el : x % 128 = ((r % 128 : Nat) : Int) := by omega
    have eh : x / 128 % 2 = 1 ↔ ¬ r < 128 := by omega
    have eB := placeB_of h el
    have er := repF_of h el
    have e1 : (placeF x).toNat = grayP r := by
      unfold placeF grayP
      rw [eB, hr]
      dsimp only
      generalize (if r % 128 < 32 then r % 128 + 64 else if r % 128 < 95 then r % 128 - 32 else if r % 128 < 127 then r % 128 + 2 else 96) = p
      clear el eB h0 h1 h eh er hr hr9
      by_cases c1 : r > 127
      · rw [if_pos (by omega), if_pos c1]; rfl
      · rw [if_neg (by omega), if_neg c1]
        by_cases c2 : p > 1
        · rw [if_pos (by omega), if_pos c2]; rfl
        · rw [if_neg (by omega), if_neg c2]; rfl
    have e2 : shownF x = gray r := by
      unfold shownF gray
      rw [er]
      by_cases hb : r < 128
      · rw [if_neg (fun q => (eh.mp q) hb)]; simp only [hb, if_true]
      · rw [if_pos (eh.mpr hb)]; simp only [hb, if_false]
    rw [e1, e2]
    exact gray_ok ⟨r, hr9⟩
theorem texts_next : ∀ i : Fin 257, (textsL.getD i.val (Str.ofString "")).cps.toList < (textsL.getD (i.val + 1) (Str.ofString "")).cps.toList := by decide +kernel
theorem texts_lt {i j : Nat} (h : i < j) (hj : j < 258) : (textsL.getD i (Str.ofString "")).cps.toList < (textsL.getD j (Str.ofString "")).cps.toList := by
  induction j with
  | zero => omega
  | succ j ih =>
    by_cases e : i = j
    · subst e; exact texts_next ⟨i, by omega⟩
    · exact List.lt_trans (ih (by omega) (by omega)) (texts_next ⟨j, by omega⟩)
theorem texts_iff {i j : Nat} (hi : i < 258) (hj : j < 258) : (textsL.getD i (Str.ofString "")).cps.toList < (textsL.getD j (Str.ofString "")).cps.toList ↔ i < j := by
  constructor
  · intro h
    rcases Nat.lt_trichotomy i j with h1 | h1 | h1
    · exact h1
    · subst h1; exact absurd h (List.lt_irrefl _)
    · exact absurd (List.lt_trans h (texts_lt h1 hi)) (List.lt_irrefl _)
  · intro h; exact texts_lt h hj

/-- a cell of a row of the module's beside one of the law's: as the places stand -/
structure CellOk (L R : List Dat) (p q : List Int) : Prop where
  lt : ∀ k : Nat, k < 4 → ltD (L.getD k .none) (R.getD k .none) = decide (p.getD k 0 < q.getD k 0)
  gt : ∀ k : Nat, k < 4 → ltD (R.getD k .none) (L.getD k .none) = decide (q.getD k 0 < p.getD k 0)
theorem cmp_order {L R : List Dat} {p q : List Int} (h : CellOk L R p q) : ∀ ks : List (Nat × Int), (∀ k ∈ ks, k.1 < 4 ∧ (k.2 = 1 ∨ k.2 = -1)) → compareF L R ks = orderF (ks.map fun k => p.getD k.1 0 * k.2) (ks.map fun k => q.getD k.1 0 * k.2)
  | [], _ => rfl
  | (c, d) :: r, hk => by
    have ih := cmp_order h r fun k hk' => hk k (.tail _ hk')
    obtain ⟨hc, hd⟩ := hk (c, d) (.head _)
    dsimp only at hc hd
    show (if ltD (L.getD c .none) (R.getD c .none) = true then -d else if ltD (R.getD c .none) (L.getD c .none) = true then d else compareF L R r) = _
    rw [h.lt c hc, h.gt c hc, ih]
    simp only [List.map_cons]
    generalize p.getD c 0 = a
    generalize q.getD c 0 = b
    generalize (r.map fun k => p.getD k.1 0 * k.2) = u
    generalize (r.map fun k => q.getD k.1 0 * k.2) = v
    unfold orderF
    rcases Int.lt_trichotomy a b with hab | hab | hab
    · have e1 : decide (a < b) = true := decide_eq_true hab
      rcases hd with rfl | rfl
      · have hne : a * 1 ≠ b * 1 := by omega
        rw [e1, if_pos rfl, if_neg (by simp only [List.cons.injEq]; exact fun q => hne q.1), if_pos (by show (if a * 1 = b * 1 then _ else decide (a * 1 < b * 1)) = true; rw [if_neg hne]; exact decide_eq_true (by omega))]
      · have hne : a * -1 ≠ b * -1 := by omega
        rw [e1, if_pos rfl, if_neg (by simp only [List.cons.injEq]; exact fun q => hne q.1), if_neg (by show ¬ (if a * -1 = b * -1 then _ else decide (a * -1 < b * -1)) = true; rw [if_neg hne]; simp; omega)]; rfl
    · subst hab
      have e1 : decide (a < a) = false := decide_eq_false (by omega)
      rw [e1, if_neg (by decide), if_neg (by decide)]
      have e2 : lexLt (a * d :: u) (a * d :: v) = lexLt u v := by show (if a * d = a * d then _ else _) = _; rw [if_pos rfl]
      rw [e2]
      by_cases huv : u = v
      · rw [if_pos huv, if_pos (by rw [huv])]
      · have e3 : ¬ (a * d :: u = a * d :: v) := fun q => huv (List.cons.inj q).2
        rw [if_neg huv, if_neg e3]
    · have e1 : decide (a < b) = false := decide_eq_false (by omega)
      have e2 : decide (b < a) = true := decide_eq_true hab
      rcases hd with rfl | rfl
      · have hne : a * 1 ≠ b * 1 := by omega
        rw [e1, e2, if_neg (by decide), if_pos rfl, if_neg (by simp only [List.cons.injEq]; exact fun q => hne q.1), if_neg (by show ¬ (if a * 1 = b * 1 then _ else decide (a * 1 < b * 1)) = true; rw [if_neg hne]; simp; omega)]
      · have hne : a * -1 ≠ b * -1 := by omega
        rw [e1, e2, if_neg (by decide), if_pos rfl, if_neg (by simp only [List.cons.injEq]; exact fun q => hne q.1), if_pos (by show (if a * -1 = b * -1 then _ else decide (a * -1 < b * -1)) = true; rw [if_neg hne]; exact decide_eq_true (by omega))]
theorem place_lo (x : Int) : 0 ≤ placeF x := by unfold placeF placeB; (repeat' split) <;> omega
theorem place_hi (x : Int) : placeF x < 258 := by unfold placeF placeB; (repeat' split) <;> omega
theorem lt_text (x y : Int) : decide ((shownF x).cps.toList < (shownF y).cps.toList) = decide (placeF x < placeF y) := by
  rw [← text_of x, ← text_of y]
  have h1 := place_lo x
  have h2 := place_hi x
  have h3 := place_lo y
  have h4 := place_hi y
  have e := texts_iff (i := (placeF x).toNat) (j := (placeF y).toNat) (by omega) (by omega)
  by_cases h : placeF x < placeF y
  · rw [decide_eq_true h]; exact decide_eq_true (e.mpr (by omega))
  · rw [decide_eq_false h]; exact decide_eq_false fun q => h (by have := e.mp q; omega)
theorem lt_chr {a b : Int} (ha : 0 ≤ a) (hb : 0 ≤ b) : decide ((chrS a).cps.toList < (chrS b).cps.toList) = decide (a < b) := by
  have e : (chrS a).cps.toList < (chrS b).cps.toList ↔ a.toNat < b.toNat := by
    show ([a.toNat] : List Nat) < [b.toNat] ↔ _
    generalize a.toNat = i
    generalize b.toNat = j
    constructor
    · intro h
      cases h with
      | cons h => cases h
      | rel h => exact h
    · intro h; exact .rel h
  by_cases h : a < b
  · rw [decide_eq_true h]; exact decide_eq_true (e.mpr (by omega))
  · rw [decide_eq_false h]; exact decide_eq_false fun q => h (by have := e.mp q; omega)
theorem cells_int (x y : Int) : CellOk [.str (shownF x), .int (ctrlF x), .int (altF x), .int (markF x)] [.str (textsL.getD (placeF y).toNat (Str.ofString "")), .int (ctrlF y), .int (altF y), .int (markF y)] [placeF x, ctrlF x, altF x, markF x] [placeF y, ctrlF y, altF y, markF y] := by
  rw [text_of]
  refine ⟨fun k hk => ?_, fun k hk => ?_⟩
  · match k, hk with
    | 0, _ => exact lt_text x y
    | 1, _ => rfl
    | 2, _ => rfl
    | 3, _ => rfl
  · match k, hk with
    | 0, _ => exact lt_text y x
    | 1, _ => rfl
    | 2, _ => rfl
    | 3, _ => rfl
theorem cells_str {x y : Int} (hx : 0 ≤ x) (hy : 0 ≤ y) : CellOk [.str (shownF x), .str (chrS (ctrlF x)), .str (chrS (altF x)), .int (markF x)] [.str (textsL.getD (placeF y).toNat (Str.ofString "")), .str (chrS (ctrlF y)), .str (chrS (altF y)), .int (markF y)] [placeF x, ctrlF x, altF x, markF x] [placeF y, ctrlF y, altF y, markF y] := by
  rw [text_of]
  have c1 : ∀ z : Int, 0 ≤ ctrlF z := fun z => Int.emod_nonneg _ (by decide)
  have c2 : ∀ z : Int, 0 ≤ z → 0 ≤ altF z := fun z hz => by unfold altF; omega
  refine ⟨fun k hk => ?_, fun k hk => ?_⟩
  · match k, hk with
    | 0, _ => exact lt_text x y
    | 1, _ => exact lt_chr (c1 x) (c1 y)
    | 2, _ => exact lt_chr (c2 x hx) (c2 y hy)
    | 3, _ => rfl
  · match k, hk with
    | 0, _ => exact lt_text y x
    | 1, _ => exact lt_chr (c1 y) (c1 x)
    | 2, _ => exact lt_chr (c2 y hy) (c2 x hx)
    | 3, _ => rfl
end Mine

namespace Mine
theorem calm_K1 : True := by
  w_top off
  trivial
end Mine
namespace Mine
open LCg
theorem warm8 : (fun (_ : OpenLaw) => True) PySem.Challenge.rw_ny0038_01 ∧ (hd.heap_39 = hd.heap_39) := by k_fill; exact ⟨trivial, rfl⟩
local macro_rules | `(tactic| k_room) => `(tactic| ((simp only [depth_under_make, depth_under_kw, depth_in1, depth_deeper, depth_caller, recursionLimit]); omega))
local macro_rules | `(tactic| ktr_room) => `(tactic| ((simp only [depth_under_make, depth_under_kw, depth_in1, depth_deeper, depth_caller, recursionLimit]); omega))
local macro_rules | `(tactic| walk_at "eval ListComp") => `(tactic| (k_here; refine Hold.out ?_))
local macro_rules | `(tactic| walk_at "exec Assign cons ListComp") => `(tactic| (k_here; (with_reducible show wpAny _ _ (exec (Stmt.Assign [Expr.Name (Str.ofString "rows") _] _ _) _) _ _ _); refine Hold.out ?_))
local macro_rules | `(tactic| walk_at "exec Assign cons ListComp") => `(tactic| (k_here; (with_reducible show wpAny _ _ (exec (Stmt.Assign [Expr.Name (Str.ofString "owns") _] _ _) _) _ _ _); refine Hold.out ?_))
local macro_rules | `(tactic| walk_at "exec Assign cons ListComp") => `(tactic| (k_here; (with_reducible show wpAny _ _ (exec (Stmt.Assign [Expr.Name (Str.ofString "told") _] _ _) _) _ _ _); refine Hold.out ?_))
local macro_rules | `(tactic| k_all) => `(tactic| assumption)
local macro_rules | `(tactic| walk_at "subscriptTail") => `(tactic| (k_here; (with_reducible show wpAny _ _ (subscriptTail _ _ (Value.ref _) (Value.int _ _)) _ _ _); k_dflt (refine' item_list ?N ?m ?a ?b ?x ?_ ?s; (case N => k_asm); (case m => first | exact List.Mem.head _ | exact List.Mem.tail _ (List.Mem.head _) | exact List.Mem.tail _ (List.Mem.tail _ (List.Mem.head _))); (case a => omega); (case b => omega); (case x => assumption); (case s => with_unfolding_all rfl))))
local macro_rules | `(tactic| walk_at "subscriptTail") => `(tactic| (k_here; (with_reducible show wpAny _ _ (subscriptTail _ _ (Value.ref _) (Value.int _ _)) _ _ _); k_dflt (refine' item_tupleT ?t ?a ?b ?c ?d ?_; (case t => exact News.isTup (by k_asm) (List.Mem.head _)); (case a => omega); (case b => omega); (case c => assumption); (case d => assumption); k_whole)))
local macro_rules | `(tactic| walk_at "call ref") => `(tactic| (k_here; (with_reducible show wpAny _ _ (call (Value.ref 122) _) _ _ _); refine Hold.out ?_))
local macro_rules | `(tactic| walk_at "call ref") => `(tactic| (k_here; (with_reducible show wpAny _ _ (call (Value.ref 119) _) _ _ _); refine Hold.out ?_))
local macro_rules | `(tactic| walk_at "call ref") => `(tactic| (k_here; (with_reducible show wpAny _ _ (call (Value.ref 157) _) _ _ _); refine Hold.out ?_))
local macro_rules | `(tactic| walk_at "compareOp Eq ref ref") => `(tactic| (k_here; refine Hold.out ?_))
local macro_rules | `(tactic| walk_at "call ref") => `(tactic| (k_here; k_dflt (refine' unctrl_int _ _ _ _ _ _ _ _ _ _ _ _ _ _ _ _ _ _ _ _ _ _ _ _ ?kB ?kF ?kI ?kN ?kT ?kK ?kd ?ku ?_; (case kB => k_asm); (case kF => k_asm); (case kI => k_asm); (case kN => k_asm); (case kT => k_asm); (case kK => exact rfl); (case kd => ((try simp only [depth_under_make, depth_under_kw, depth_in1, depth_deeper, depth_caller]); omega)); (case ku => ((try simp only [units_deeper, units_in1]); omega)); (intro t9 h9 tk9 F9 N9; (try dsimp only)))))
local macro_rules | `(tactic| walk_at "call ref") => `(tactic| (k_here; k_dflt (refine' ctrl_int _ _ _ _ _ _ _ _ _ _ _ _ _ _ _ _ _ _ _ _ _ _ _ _ ?kB ?kF ?kI ?kN ?kT ?kK ?kd ?ku ?_; (case kB => k_asm); (case kF => k_asm); (case kI => k_asm); (case kN => k_asm); (case kT => k_asm); (case kK => exact rfl); (case kd => ((try simp only [depth_under_make, depth_under_kw, depth_in1, depth_deeper, depth_caller]); omega)); (case ku => ((try simp only [units_deeper, units_in1]); omega)); (intro t9 h9 tk9 F9 N9; (try dsimp only)))))
local macro_rules | `(tactic| walk_at "call ref") => `(tactic| (k_here; k_dflt (refine' alt_int _ _ _ _ _ _ _ _ _ _ _ _ _ _ _ _ _ _ _ _ _ _ _ _ ?kB ?kF ?kI ?kN ?kT ?kK ?kd ?ku ?_; (case kB => k_asm); (case kF => k_asm); (case kI => k_asm); (case kN => k_asm); (case kT => k_asm); (case kK => exact rfl); (case kd => ((try simp only [depth_under_make, depth_under_kw, depth_in1, depth_deeper, depth_caller]); omega)); (case ku => ((try simp only [units_deeper, units_in1]); omega)); (intro t9 h9 tk9 F9 N9; (try dsimp only)))))
local macro_rules | `(tactic| walk_at "call ref") => `(tactic| (k_here; k_dflt (refine' punct_int _ _ _ _ _ _ _ _ _ _ _ _ _ _ _ _ _ _ _ _ _ _ _ _ ?kB ?kF ?kI ?kN ?kT ?kK ?kd ?ku ?_; (case kB => k_asm); (case kF => k_asm); (case kI => k_asm); (case kN => k_asm); (case kT => k_asm); (case kK => exact rfl); (case kd => ((try simp only [depth_under_make, depth_under_kw, depth_in1, depth_deeper, depth_caller]); omega)); (case ku => ((try simp only [units_deeper, units_in1]); omega)); (intro t9 h9 tk9 F9 N9; (try dsimp only)))))
local macro_rules | `(tactic| walk_at "call ref") => `(tactic| (k_here; k_dflt (refine' own_int _ _ _ _ _ _ _ _ _ _ _ _ _ _ _ _ _ _ _ _ _ _ _ _ ?kB ?kF ?kI ?kN ?kT ?kK ?kd ?ku ?_; (case kB => k_asm); (case kF => k_asm); (case kI => k_asm); (case kN => k_asm); (case kT => k_asm); (case kK => exact rfl); (case kd => ((try simp only [depth_under_make, depth_under_kw, depth_in1, depth_deeper, depth_caller]); omega)); (case ku => ((try simp only [units_deeper, units_in1]); omega)); (intro v9 tl9 h9 tk9 F9 N9 off9 hd9; (try dsimp only)))))

abbrev ClQ (w : World) (mean : ExcName → Option Value) (mg mb : Str → Option Value) (f : Addr) (news : List (Addr × Obj)) (vs : List Value) (R : Tok → Value) : Prop :=
  ∀ (dp un : Nat) (gd : Option (List Code)) (cn : Str) (cs : Scope) (a : Addr) (ccd : Value) (cl : List (Str × Addr)) (outer : List Env) (A₀ : Around) (base h₀ : Heap) (L : Addr) (m : Str → Option Value) (s : Shared) (Q E : Value → Shared → Prop),
    Below A₀ base outer h₀ → Fr h₀ L s.heap m → (hd.heap_39 w.params).In h₀ → News h₀ L s.heap news → Top hd.view_39 (looseW hd.view_39 []) mean mg mb h₀ → cs.kind = .function →
    dp < 800 → un < 4000 → (∀ (t : Tok) (h' : Heap) (tk' : Nat), Fr h₀ L h' m → News h₀ L h' news → Q (R t) { s with heap := h', toks := tk' }) →
      wpAny (model PySem.Challenge.rw_ny0038_01.prog w) (ktrTop dp un gd cn cs L a ccd cl outer) (call (.ref f) vs) Q E s
def rowD : Dat → Dat
  | .int x => .tuple [.str (shownF x), .int (ctrlF x), .int (altF x), .int (markF x)]
  | d => d
def ownDD : Dat → Dat
  | .int x => ownD x
  | d => d
def wrD : Dat → Dat
  | .tuple [.int p, .int c, .int a, .int k] => .tuple [.str (textsL.getD p.toNat (Str.ofString "")), .int c, .int a, .int k]
  | d => d
theorem own_open {data : List (Addr × Obj)} {v : Value} {x : Int} (h : DatIn data v (ownDD (.int x))) : ∃ t n t1 t2 t3 t4, v = .ref t ∧ (t, tupO [.int (placeF x) t1, .int (ctrlF x) t2, .int (altF x) t3, .int (markF x) t4] n) ∈ data := by
  cases h with
  | tuple hm hall =>
    cases hall with
    | cons h1 hall =>
    cases h1 with
    | int _ t1 =>
    cases hall with
    | cons h2 hall =>
    cases h2 with
    | int _ t2 =>
    cases hall with
    | cons h3 hall =>
    cases h3 with
    | int _ t3 =>
    cases hall with
    | cons h4 hall =>
    cases h4 with
    | int _ t4 =>
    cases hall
    exact ⟨_, _, t1, t2, t3, t4, rfl, hm⟩
theorem texts_length : textsL.length = 258 := by decide +kernel
theorem texts_at {data : List (Addr × Obj)} {xvs : List Value} {p : Int} (h : DatAll data xvs (textsL.map .str)) (h0 : 0 ≤ p) (h1 : p < 258) : ∃ tv, xvs[p.toNat]? = some tv ∧ DatIn data tv (.str (textsL.getD p.toNat (Str.ofString ""))) := by
  have hp : p.toNat < textsL.length := by rw [texts_length]; omega
  obtain ⟨v, hv, hD⟩ := h.get (k := p.toNat) (by rw [List.length_map]; exact hp)
  refine ⟨v, hv, ?_⟩
  have e : textsL.getD p.toNat (Str.ofString "") = textsL[p.toNat] := by rw [List.getD_eq_getElem?_getD, List.getElem?_eq_getElem hp]; rfl
  rw [e]; simpa using hD
def cellsI : Dat → List Int
  | .tuple [.int p, .int c, .int a, .int k] => [p, c, a, k]
  | _ => []
def plD (ks : List (Nat × Int)) (d : Dat) : Dat := .tuple ((ks.map fun k => (cellsI d).getD k.1 0 * k.2).map .int)
def cellD (own : Dat) : Dat → Dat
  | .tuple [.int c, .int d] => .int ((cellsI own).getD c.toNat 0 * d)
  | d => d
theorem in5 {tl data : List (Addr × Obj)} {e5 e4 e3 e2 e1 : Addr × Obj} : ∀ p ∈ tl ++ data, p ∈ tl ++ (e5 :: e4 :: e3 :: e2 :: e1 :: data) := fun p hp => by
  rcases List.mem_append.mp hp with hp | hp
  · exact List.mem_append_left _ hp
  · exact List.mem_append_right _ (.tail _ (.tail _ (.tail _ (.tail _ (.tail _ hp)))))
theorem in6 {tl data : List (Addr × Obj)} {e6 e5 e4 e3 e2 e1 : Addr × Obj} : ∀ p ∈ data, p ∈ tl ++ (e6 :: e5 :: e4 :: e3 :: e2 :: e1 :: data) := fun p hp => List.mem_append_right _ (.tail _ (.tail _ (.tail _ (.tail _ (.tail _ (.tail _ hp))))))
theorem key_open {data : List (Addr × Obj)} {v : Value} {c d : Int} (h : DatIn data v (.tuple [.int c, .int d])) : ∃ t n t1 t2, v = .ref t ∧ (t, tupO [.int c t1, .int d t2] n) ∈ data := by
  cases h with
  | tuple hm hall =>
    cases hall with
    | cons h1 hall =>
    cases h1 with
    | int _ t1 =>
    cases hall with
    | cons h2 hall =>
    cases h2 with
    | int _ t2 =>
    cases hall
    exact ⟨_, _, t1, t2, rfl, hm⟩
def KeyT (data : List (Addr × Obj)) (w : Value) (m₁ : Str → Option Value) : Prop := ∃ (t : Addr) (n : Nat) (c d : Int) (t1 t2 : Tok), w = .ref t ∧ (t, tupO [.int c t1, .int d t2] n) ∈ data ∧ m₁ (Str.ofString "column") = some (.int c t1) ∧ m₁ (Str.ofString "way") = some (.int d t2)
theorem key_same {h₀ h : Heap} {L t : Addr} {led data : List (Addr × Obj)} {n : Nat} {c d c' d' : Int} {t1 t2 : Tok} (N : News h₀ L h led) (hm : (t, tupO [.int c t1, .int d t2] n) ∈ led) (hd : DatIn data (.ref t) (.tuple [.int c', .int d'])) (hs : ∀ p ∈ data, p ∈ led) : c = c' ∧ d = d' := by
  obtain ⟨t', n', u1, u2, e, hm'⟩ := key_open hd
  cases e
  have e1 := (N _ hm).1
  have e2 := (N _ (hs _ hm')).1
  rw [e1] at e2
  have e3 := Option.some.inj e2
  simp only [tupO, Obj.mk.injEq, Data.seq.injEq] at e3
  obtain ⟨_, _, ⟨e4, _⟩, _⟩ := e3
  have e5 := congrArg Array.toList e4
  simp only [List.cons.injEq, Value.int.injEq] at e5
  exact ⟨e5.1.1, e5.2.1.1⟩
theorem own_cell (x : Int) (t1 t2 t3 t4 : Tok) {k : Nat} (h : k < 4) : ∃ tc, [Value.int (placeF x) t1, Value.int (ctrlF x) t2, Value.int (altF x) t3, Value.int (markF x) t4][k]? = some (.int ((cellsI (ownDD (.int x))).getD k 0) tc) := by
  match k, h with
  | 0, _ => exact ⟨t1, rfl⟩
  | 1, _ => exact ⟨t2, rfl⟩
  | 2, _ => exact ⟨t3, rfl⟩
  | 3, _ => exact ⟨t4, rfl⟩
theorem leaf_tupOf {h₀ h' : Heap} {L : Addr} {m : Str → Option Value} {led news all : List (Addr × Obj)} {s : Shared} {tk' : Nat} {Dt D2 : Addr} {tl2 : List (Addr × Obj)} {ys : List Value} {n : Nat} {ds : List Dat} (F : Fr h₀ L h' m) (N : News h₀ L h' ((Dt, tupO ys n) :: (D2, lst ys) :: (tl2 ++ all)))
    (l1 : ∀ p ∈ (D2, lst ys) :: (tl2 ++ all), p.1 < Dt) (off2 : ∀ q ∈ all, q.1 ≠ D2 ∧ ∀ p ∈ tl2, q.1 ≠ p.1) (hsub : ∀ p ∈ led, p ∈ all) (hd : DatAll (tl2 ++ news) ys ds) : Back h₀ L m led news s (.tuple ds) (.ref Dt) { s with heap := h', toks := tk' } := by
  refine Back.intro ((Dt, tupO ys n) :: (D2, lst ys) :: tl2) F N (fun p hp => ?_) (fun q hq p hp => ?_) (.tuple (List.Mem.head _) (DatAll.mono (fun p hp => ?_) hd))
  · rcases List.mem_append.mp hp with hp | hp
    · rcases List.mem_cons.mp hp with rfl | hp
      · exact .head _
      · rcases List.mem_cons.mp hp with rfl | hp
        · exact .tail _ (.head _)
        · exact .tail _ (.tail _ (List.mem_append_left _ hp))
    · exact .tail _ (.tail _ (List.mem_append_right _ (hsub p hp)))
  · rcases List.mem_cons.mp hp with rfl | hp
    · exact Nat.ne_of_lt (l1 q (.tail _ (List.mem_append_right _ (hsub q hq))))
    · rcases List.mem_cons.mp hp with rfl | hp
      · exact (off2 q (hsub q hq)).1
      · exact (off2 q (hsub q hq)).2 p hp
  · rcases List.mem_append.mp hp with hp | hp
    · exact List.mem_append_left _ (.tail _ (.tail _ hp))
    · exact List.mem_append_right _ hp
theorem tup_of {prog : Program} {w : World} {A : Around} {E : Value → Shared → Prop} {s : Shared} {h₀ : Heap} {L l : Addr} {m : Str → Option Value} {led : List (Addr × Obj)} {vs : List Value} {n : Nat} {Q : Value → Shared → Prop} (F : Fr h₀ L s.heap m) (N : News h₀ L s.heap led) (hm : (l, listO vs n) ∈ led) (hz : vs.length ≤ 16)
    (h : ∀ D h', Fr h₀ L h' m → News h₀ L h' ((D, tupO vs 0) :: led) → (∀ p ∈ led, p.1 < D) → Q (.ref D) { s with heap := h' }) : wpAny (model prog w) A (call (.type "tuple") [.ref l]) Q E s :=
  kde_tupleOf F N ⟨_, (N _ hm).1, rfl, n, rfl⟩ (by rw [List.size_toArray]; omega) rfl h
local macro_rules | `(tactic| walk_at "call type:tuple") => `(tactic| (k_here; (with_reducible show wpAny _ _ (call (Value.type _) [Value.ref _]) _ _ _); k_dflt (refine' tup_of ?F ?N ?m ?z ?_; (case F => k_asm); (case N => k_asm); (case m => exact List.Mem.head _); (case z => omega)); intro D' h' F' N' l1))
theorem regroup2 {h₀ h : Heap} {L : Addr} {data : List (Addr × Obj)} {a b e5 e4 e3 e2 e1 : Addr × Obj} (N : News h₀ L h (a :: b :: (e5 :: e4 :: e3 :: e2 :: e1 :: data))) : News h₀ L h (e5 :: e4 :: e3 :: e2 :: e1 :: (a :: b :: data)) := fun p hp => N p (by
  simp only [List.mem_cons] at hp ⊢
  grind)
theorem apart_two {c a b : Addr} {oa ob : Obj} {data : List (Addr × Obj)} (h1 : c ≠ a ∧ c ≠ b) (h2 : ∀ p ∈ data, p.1 ≠ c) : ∀ p ∈ (a, oa) :: (b, ob) :: data, p.1 ≠ c := by
  intro p hp
  rcases List.mem_cons.mp hp with rfl | hp
  · exact Ne.symm h1.1
  · rcases List.mem_cons.mp hp with rfl | hp
    · exact Ne.symm h1.2
    · exact h2 p hp
def tupL : Dat → List Dat
  | .tuple l => l
  | _ => []
def cmpD (ks : List (Nat × Int)) (a b : Dat) : Dat := .int (compareF (tupL a) (tupL b) ks)
theorem tup_open {data : List (Addr × Obj)} {v : Value} {ds : List Dat} (h : DatIn data v (.tuple ds)) : ∃ t n vs, v = .ref t ∧ (t, tupO vs n) ∈ data ∧ DatAll data vs ds := by
  cases h with
  | tuple hm hall => exact ⟨_, _, _, rfl, hm, hall⟩
theorem rows_open {data : List (Addr × Obj)} {ns : List Int} {i j : Nat} {a b : Dat} {u v : Value} (ha : ((ns.map .int).map rowD)[i]? = some a) (hb : (((ns.map .int).map ownDD).map wrD)[j]? = some b) (hu : DatIn data u a) (hv : DatIn data v b) :
    ∃ (x y : Int) (Ls Rs : List Dat) (ta : Addr) (na : Nat) (tb : Addr) (nb : Nat) (vsa vsb : List Value), u = .ref ta ∧ v = .ref tb ∧ a = .tuple Ls ∧ b = .tuple Rs ∧ (ta, tupO vsa na) ∈ data ∧ (tb, tupO vsb nb) ∈ data ∧ DatAll data vsa Ls ∧ DatAll data vsb Rs ∧ Ls.length = 4 ∧ Rs.length = 4 ∧ ∀ k : Nat, k < 4 → kindD (Ls.getD k .none) (Rs.getD k .none) := by
  obtain ⟨a', ha', rfl⟩ := List.mem_map.mp (List.mem_of_getElem? ha)
  obtain ⟨x, _, rfl⟩ := List.mem_map.mp ha'
  obtain ⟨b', hb', rfl⟩ := List.mem_map.mp (List.mem_of_getElem? hb)
  obtain ⟨b'', hb'', rfl⟩ := List.mem_map.mp hb'
  obtain ⟨y, _, rfl⟩ := List.mem_map.mp hb''
  obtain ⟨ta, na, vsa, rfl, hta, hda⟩ := tup_open (ds := [.str (shownF x), .int (ctrlF x), .int (altF x), .int (markF x)]) hu
  obtain ⟨tb, nb, vsb, rfl, htb, hdb⟩ := tup_open (ds := [.str (textsL.getD (placeF y).toNat (Str.ofString "")), .int (ctrlF y), .int (altF y), .int (markF y)]) hv
  refine ⟨x, y, _, _, ta, na, tb, nb, vsa, vsb, rfl, rfl, rfl, rfl, hta, htb, hda, hdb, rfl, rfl, fun k hk => ?_⟩
  match k, hk with
  | 0, _ => trivial
  | 1, _ => trivial
  | 2, _ => trivial
  | 3, _ => trivial
def intsL : Dat → List Int
  | .tuple l => l.map fun d => match d with | .int i => i | _ => 0
  | _ => []
def ordD (a b : Dat) : Dat := .int (orderF (intsL a) (intsL b))
def placeL (ks : List (Nat × Int)) (x : Int) : List Int := ks.map fun k => (cellsI (ownDD (.int x))).getD k.1 0 * k.2
def toldI (ks : List (Nat × Int)) (ns : List Int) : List Int := ns.flatMap fun x => ns.map fun y => compareF (tupL (rowD (.int x))) (tupL (wrD (ownDD (.int y)))) ks
def orderI (ks : List (Nat × Int)) (ns : List Int) : List Int := ns.flatMap fun x => ns.map fun y => orderF (placeL ks x) (placeL ks y)
theorem ints_of {data : List (Addr × Obj)} : ∀ {vs : List Value} {is : List Int}, DatAll data vs (is.map .int) → IntsAre vs is
  | _, [], h => by cases h; exact .nil
  | _, i :: r, h => by
    cases h with
    | cons h1 h2 =>
      cases h1 with
      | int _ t => exact .cons i t (ints_of h2)
theorem intsL_map (is : List Int) : intsL (.tuple (is.map .int)) = is := by
  show (is.map Dat.int).map _ = is
  rw [List.map_map]
  induction is with
  | nil => rfl
  | cons i r ih => rw [List.map_cons, ih]; rfl
theorem ord_eq (is js : List Int) : ordD (.tuple (is.map .int)) (.tuple (js.map .int)) = .int (orderF is js) := by unfold ordD; rw [intsL_map, intsL_map]
theorem places_open {ks : List (Nat × Int)} {ns : List Int} {i : Nat} {a : Dat} (h : (((ns.map .int).map ownDD).map (plD ks))[i]? = some a) : ∃ x ∈ ns, a = .tuple ((placeL ks x).map .int) := by
  obtain ⟨a', ha', rfl⟩ := List.mem_map.mp (List.mem_of_getElem? h)
  obtain ⟨a'', ha'', rfl⟩ := List.mem_map.mp ha'
  obtain ⟨x, hx, rfl⟩ := List.mem_map.mp ha''
  exact ⟨x, hx, rfl⟩
theorem flat_two {ns : List Int} (p q : Int → Dat) (g : Dat → Dat → Dat) (f : Int → Int → Int) (hg : ∀ x y, g (p x) (q y) = .int (f x y)) : ((ns.map p).flatMap fun a => (ns.map q).map (g a)) = (ns.flatMap fun x => ns.map (f x)).map .int := by
  rw [List.map_flatMap, List.flatMap_map]
  congr 1
  funext x
  rw [List.map_map, List.map_map]
  congr 1
  funext y
  exact hg x y
theorem told_ints {data : List (Addr × Obj)} {ks : List (Nat × Int)} {ns : List Int} {ys : List Value} (h : DatAll data ys (((ns.map .int).map rowD).flatMap fun a => (((ns.map .int).map ownDD).map wrD).map (cmpD ks a))) : IntsAre ys (toldI ks ns) := by
  refine ints_of (data := data) ?_
  have e := flat_two (ns := ns) (fun x => rowD (.int x)) (fun y => wrD (ownDD (.int y))) (cmpD ks) (fun x y => compareF (tupL (rowD (.int x))) (tupL (wrD (ownDD (.int y)))) ks) (fun _ _ => rfl)
  simp only [List.map_map] at h
  have e' : ((ns.map (rowD ∘ Dat.int)).flatMap fun a => List.map (cmpD ks a ∘ wrD ∘ ownDD ∘ Dat.int) ns) = (ns.map fun x => rowD (.int x)).flatMap fun a => (ns.map fun y => wrD (ownDD (.int y))).map (cmpD ks a) := by
    congr 1
    funext a
    rw [List.map_map]
    rfl
  rw [e', e] at h
  exact h
theorem order_ints {data : List (Addr × Obj)} {ks : List (Nat × Int)} {ns : List Int} {ys : List Value} (h : DatAll data ys ((((ns.map .int).map ownDD).map (plD ks)).flatMap fun a => (((ns.map .int).map ownDD).map (plD ks)).map (ordD a))) : IntsAre ys (orderI ks ns) := by
  refine ints_of (data := data) ?_
  have e := flat_two (ns := ns) (fun x => plD ks (ownDD (.int x))) (fun y => plD ks (ownDD (.int y))) ordD (fun x y => orderF (placeL ks x) (placeL ks y)) (fun x y => ord_eq (placeL ks x) (placeL ks y))
  simp only [List.map_map] at h
  have e' : ((ns.map (plD ks ∘ ownDD ∘ Dat.int)).flatMap fun a => List.map (ordD a ∘ plD ks ∘ ownDD ∘ Dat.int) ns) = (ns.map fun x => plD ks (ownDD (.int x))).flatMap fun a => (ns.map fun y => plD ks (ownDD (.int y))).map (ordD a) := by
    congr 1
    funext a
    rw [List.map_map]
    rfl
  rw [e', e] at h
  exact h
theorem agree_plain (ks : List (Nat × Int)) (ns : List Int) (hks : ∀ k ∈ ks, k.1 < 4 ∧ (k.2 = 1 ∨ k.2 = -1)) : toldI ks ns = orderI ks ns := by
  unfold toldI orderI
  congr 1
  funext x
  congr 1
  funext y
  exact cmp_order (cells_int x y) ks hks
/-- the cells ahead, what a comprehension made behind them -/
theorem regroup {h₀ h : Heap} {L D : Addr} {ys : List Value} {tl data : List (Addr × Obj)} {e5 e4 e3 e2 e1 : Addr × Obj} (N : News h₀ L h ((D, lst ys) :: (tl ++ (e5 :: e4 :: e3 :: e2 :: e1 :: data)))) : News h₀ L h (e5 :: e4 :: e3 :: e2 :: e1 :: ((D, lst ys) :: (tl ++ data))) := fun p hp => N p (by
  simp only [List.mem_cons, List.mem_append] at hp ⊢
  grind)
theorem apart_more {D c : Addr} {ys : List Value} {tl data : List (Addr × Obj)} (h1 : c ≠ D ∧ ∀ p ∈ tl, c ≠ p.1) (h2 : ∀ p ∈ data, p.1 ≠ c) : ∀ p ∈ (D, lst ys) :: (tl ++ data), p.1 ≠ c := by
  intro p hp
  rcases List.mem_cons.mp hp with rfl | hp
  · exact Ne.symm h1.1
  · rcases List.mem_append.mp hp with hp | hp
    · exact Ne.symm (h1.2 p hp)
    · exact h2 p hp
theorem more_in {D : Addr} {ys : List Value} {tl data : List (Addr × Obj)} : ∀ p ∈ data, p ∈ (D, lst ys) :: (tl ++ data) := fun _ hp => .tail _ (List.mem_append_right _ hp)
theorem tl_in {D : Addr} {ys : List Value} {tl data : List (Addr × Obj)} : ∀ p ∈ tl ++ data, p ∈ (D, lst ys) :: (tl ++ data) := fun _ hp => .tail _ hp

set_option maxHeartbeats 8000000 in
theorem agrees_int (w : World) (mean : ExcName → Option Value) (mg mb : Str → Option Value) (news : List (Addr × Obj)) (nl kl xl : Addr) (nn kn xn : Nat) (nvs kvs xvs : List Value) (ns : List Int) (ks : List (Nat × Int))
    (hnm : (nl, listO nvs nn) ∈ news) (hkm : (kl, listO kvs kn) ∈ news) (hxm : (xl, listO xvs xn) ∈ news) (hnd : DatAll news nvs (ns.map .int)) (hkd : DatAll news kvs (keysD ks)) (hxd : DatAll news xvs (textsL.map .str)) (hnl : ns.length ≤ 8) (hkl : ks.length ≤ 8) (hks : ∀ k ∈ ks, k.1 < 4 ∧ (k.2 = 1 ∨ k.2 = -1)) :
    ClQ w mean mg mb 162 news [.ref nl, .ref kl, .ref xl, .bool false] (fun _ => .bool true) := by
  dsimp only [ClQ]; intros; rename_i hret
  refine wpAny_call ?_
  k_dflt (refine' code_defC ?k1 ?k2 ?k3 ?k4 ?k5 ?kA ?kF ?kK ?k6 ?k7 ?k8 ?k9 ?kB ?kD ?_ ?c2 ?c3 ?c4; (case kA => exact rfl); (case kF => exact rfl); (case kK => assumption); (case k1 => k_asm); (case k2 => k_asm); (case k3 => k_asm); (case k4 => k_asm); (case k5 => k_asm); (case k6 => k_is); (case k7 => k_is); (case k8 => ktr_room); (case k9 => exact BindsTo.of_eq rfl); (case kB => exact rfl); (case kD => decide +kernel); (case c2 => exact rfl); (case c3 => exact rfl); (case c4 => exact rfl); k_whole; intro g' L' h' tk' cells' FG' F' N' Y' B' X' T' l1)
  obtain ⟨oj, op, ow, ot, ok, hE, dj, dp, dw, dt, dk⟩ := kc_five Y'
  subst hE
  clear Y'
  replace dj : oj.data = .cell none := dj
  replace dp : op.data = .cell none := dp
  replace dw : ow.data = .cell none := dw
  replace dt : ot.data = .cell (some (.ref xl)) := dt
  replace dk : ok.data = .cell (some (.ref kl)) := dk
  replace F' : Fr g' L' h' (fun y => if y = Str.ofString "signs" then some (.bool false) else if y = Str.ofString "numbers" then some (.ref nl) else none) := F'
  simp only [List.cons_append, List.nil_append] at N'
  (try dsimp only)
  (try k_fold)
  have a1 : ∀ p ∈ news, p.1 ≠ L' + 1 := fun p hp => Nat.ne_of_lt (Nat.lt_succ_of_lt (l1 p hp))
  have a2 : ∀ p ∈ news, p.1 ≠ L' + 1 + 1 := fun p hp => Nat.ne_of_lt (Nat.lt_succ_of_lt (Nat.lt_succ_of_lt (l1 p hp)))
  have a3 : ∀ p ∈ news, p.1 ≠ L' + 1 + 1 + 1 := fun p hp => Nat.ne_of_lt (Nat.lt_succ_of_lt (Nat.lt_succ_of_lt (Nat.lt_succ_of_lt (l1 p hp))))
  have a4 : ∀ p ∈ news, p.1 ≠ L' + 1 + 1 + 1 + 1 := fun p hp => Nat.ne_of_lt (Nat.lt_succ_of_lt (Nat.lt_succ_of_lt (Nat.lt_succ_of_lt (Nat.lt_succ_of_lt (l1 p hp)))))
  have a5 : ∀ p ∈ news, p.1 ≠ L' + 1 + 1 + 1 + 1 + 1 := fun p hp => Nat.ne_of_lt (Nat.lt_succ_of_lt (Nat.lt_succ_of_lt (Nat.lt_succ_of_lt (Nat.lt_succ_of_lt (Nat.lt_succ_of_lt (l1 p hp))))))
  clear l1
  have hsub0 : ∀ p ∈ news, p ∈ news := fun _ h => h
  k_steps
  unfold Hold
  -- rows
  refine comp_assign (L := L') (ds := (ns.map .int).map rowD) (news := news) (cl := []) rfl (by with_unfolding_all rfl) rfl rfl (by with_unfolding_all rfl) (by decide) rfl (by decide) (by with_reducible assumption) (by with_reducible assumption) (.tail _ (.tail _ (.tail _ (.tail _ (.tail _ hnm))))) ?iter (runs_one rowD (fun v m₁ => m₁ (Str.ofString "thing") = some v) rfl (.tail _ (.tail _ (.tail _ (.tail _ (.tail _ hnm))))) hnd (by simp; omega) ?asg (fun p hp => .tail _ (.tail _ (.tail _ (.tail _ (.tail _ hp))))) ?elt) ?fin
  case iter =>
    intro P hP
    k_steps
    exact hP
  case asg =>
    intro i a v C oC mC Z h tk Q E' ha hv hC hC0 hCL F9 N9 hZn hZ hQ
    exact assign_one rfl rfl hC hC0 hCL F9 N9 hZ fun h₁ tk₁ oC₁ m₁ hC₁ hm₁ F₁ N₁ => hQ h₁ tk₁ oC₁ m₁ hC₁ (by rw [hm₁]; simp) F₁ N₁
  case elt =>
    intro i a v I oI C oC D m₂ ys tl h tk E' ha hv hC hT F9 N9
    obtain ⟨x, hx, rfl⟩ := List.mem_map.mp (List.mem_of_getElem? ha)
    cases hv with
    | int _ t =>
    clear hret
    k_steps
    refine leaf_tup (by k_asm) (by k_asm) (by assumption) (fun p hp => hp) ?_
    exact .cons (.str _ _) (.cons (.int _ _) (.cons (.int _ _) (.cons (.int _ _) .nil)))
  case fin =>
    intro D1 tl1 ys1 h1 tk1 F1 N1 off1 off1' hD1
    obtain ⟨data1, N1', sub1, mem1, hR1, b1, b2, b3, b4, b5⟩ : ∃ data1, News g' L' h1 ((L' + 1 + 1 + 1 + 1 + 1, oj) :: (L' + 1 + 1 + 1 + 1, op) :: (L' + 1 + 1 + 1, ow) :: (L' + 1 + 1, ot) :: (L' + 1, ok) :: data1) ∧ (∀ p ∈ news, p ∈ data1) ∧ (D1, listO ys1 ys1.length) ∈ data1 ∧ DatAll data1 ys1 ((ns.map .int).map rowD) ∧
        (∀ p ∈ data1, p.1 ≠ L' + 1) ∧ (∀ p ∈ data1, p.1 ≠ L' + 1 + 1) ∧ (∀ p ∈ data1, p.1 ≠ L' + 1 + 1 + 1) ∧ (∀ p ∈ data1, p.1 ≠ L' + 1 + 1 + 1 + 1) ∧ (∀ p ∈ data1, p.1 ≠ L' + 1 + 1 + 1 + 1 + 1) :=
      ⟨_, regroup N1, more_in, .head _, DatAll.mono tl_in hD1, apart_more (off1 _ (.tail _ (.tail _ (.tail _ (.tail _ (.head _)))))) a1, apart_more (off1 _ (.tail _ (.tail _ (.tail _ (.head _))))) a2, apart_more (off1 _ (.tail _ (.tail _ (.head _)))) a3, apart_more (off1 _ (.tail _ (.head _))) a4, apart_more (off1 _ (.head _)) a5⟩
    clear N1 off1 off1' hD1 a1 a2 a3 a4 a5
    k_steps
    unfold Hold
    -- owns
    refine comp_assign (L := L') (ds := (ns.map .int).map ownDD) (news := data1) (cl := []) rfl (by with_unfolding_all rfl) rfl rfl (by with_unfolding_all rfl) (by decide) rfl (by decide) (by with_reducible assumption) (by with_reducible assumption) (.tail _ (.tail _ (.tail _ (.tail _ (.tail _ (sub1 _ hnm)))))) ?iter (runs_one ownDD (fun v m₁ => m₁ (Str.ofString "x") = some v) rfl (.tail _ (.tail _ (.tail _ (.tail _ (.tail _ (sub1 _ hnm)))))) (DatAll.mono sub1 hnd) (by simp; omega) ?asg (fun p hp => .tail _ (.tail _ (.tail _ (.tail _ (.tail _ hp))))) ?elt) ?fin
    case iter =>
      intro P hP
      k_steps
      exact hP
    case asg =>
      intro i a v C oC mC Z h tk Q E' ha hv hC hC0 hCL F9 N9 hZn hZ hQ
      exact assign_one rfl rfl hC hC0 hCL F9 N9 hZ fun h₁ tk₁ oC₁ m₁ hC₁ hm₁ F₁ N₁ => hQ h₁ tk₁ oC₁ m₁ hC₁ (by rw [hm₁]; simp) F₁ N₁
    case elt =>
      intro i a v I oI C oC D m₂ ys tl h tk E' ha hv hC hT F9 N9
      obtain ⟨x, hx, rfl⟩ := List.mem_map.mp (List.mem_of_getElem? ha)
      cases hv with
      | int _ t =>
      clear hret
      k_steps
      exact Back.intro _ (by k_asm) (by k_asm) (fun p hp => hp) (by assumption) (DatIn.mono (fun p hp => List.mem_append_left _ hp) (by assumption))
    case fin =>
      intro D2 tl2 ys2 h2 tk2 F2 N2 off2 off2' hD2
      obtain ⟨data2, N2', sub2, mem2, hR2, c1, c2, c3, c4, c5⟩ : ∃ data2, News g' L' h2 ((L' + 1 + 1 + 1 + 1 + 1, oj) :: (L' + 1 + 1 + 1 + 1, op) :: (L' + 1 + 1 + 1, ow) :: (L' + 1 + 1, ot) :: (L' + 1, ok) :: data2) ∧ (∀ p ∈ data1, p ∈ data2) ∧ (D2, listO ys2 ys2.length) ∈ data2 ∧ DatAll data2 ys2 ((ns.map .int).map ownDD) ∧
          (∀ p ∈ data2, p.1 ≠ L' + 1) ∧ (∀ p ∈ data2, p.1 ≠ L' + 1 + 1) ∧ (∀ p ∈ data2, p.1 ≠ L' + 1 + 1 + 1) ∧ (∀ p ∈ data2, p.1 ≠ L' + 1 + 1 + 1 + 1) ∧ (∀ p ∈ data2, p.1 ≠ L' + 1 + 1 + 1 + 1 + 1) :=
        ⟨_, regroup N2, more_in, .head _, DatAll.mono tl_in hD2, apart_more (off2 _ (.tail _ (.tail _ (.tail _ (.tail _ (.head _)))))) b1, apart_more (off2 _ (.tail _ (.tail _ (.tail _ (.head _))))) b2, apart_more (off2 _ (.tail _ (.tail _ (.head _)))) b3, apart_more (off2 _ (.tail _ (.head _))) b4, apart_more (off2 _ (.head _)) b5⟩
      clear N2 off2 off2' hD2 b1 b2 b3 b4 b5
      k_steps
      unfold Hold
      -- written
      refine comp_eval (L := L') (ds := ((ns.map .int).map ownDD).map wrD) (news := data2) (cl := [(Str.ofString "texts", L' + 1 + 1)]) (by with_unfolding_all rfl) (by decide) rfl (by decide) (by with_reducible assumption) (by with_reducible assumption) (.tail _ (.tail _ (.tail _ (.tail _ (.tail _ mem2))))) ?iter (runs_one wrD (fun v m₁ => m₁ (Str.ofString "own") = some v) rfl (.tail _ (.tail _ (.tail _ (.tail _ (.tail _ mem2))))) hR2 (by simp; omega) ?asg (fun p hp => .tail _ (.tail _ (.tail _ (.tail _ (.tail _ hp))))) ?elt) ?fin
      case iter =>
        intro P hP
        k_steps
        exact hP
      case asg =>
        intro i a v C oC mC Z h tk Q E' ha hv hC hC0 hCL F9 N9 hZn hZ hQ
        exact assign_one rfl rfl hC hC0 hCL F9 N9 hZ fun h₁ tk₁ oC₁ m₁ hC₁ hm₁ F₁ N₁ => hQ h₁ tk₁ oC₁ m₁ hC₁ (by rw [hm₁]; simp) F₁ N₁
      case elt =>
        intro i a v I oI C oC D m₂ ys tl h tk E' ha hv hC hT F9 N9
        obtain ⟨a', ha', rfl⟩ := List.mem_map.mp (List.mem_of_getElem? ha)
        obtain ⟨x, hx, rfl⟩ := List.mem_map.mp ha'
        obtain ⟨t, n, t1, t2, t3, t4, rfl, ht⟩ := own_open hv
        have hp0 := place_lo x
        have hp1 := place_hi x
        obtain ⟨tv, htv, htD⟩ := texts_at (DatAll.mono sub2 (DatAll.mono sub1 hxd)) hp0 hp1
        clear hret
        have N10 := News.bring (News.bring (News.bring N9 (List.Mem.tail _ (List.Mem.tail _ (List.Mem.tail _ (List.mem_append_right _ (.tail _ (.tail _ (.tail _ (.tail _ (.tail _ (sub2 _ (sub1 _ hxm)))))))))))) (List.Mem.tail _ (List.Mem.tail _ (List.Mem.tail _ (List.Mem.tail _ (List.mem_append_right _ (.tail _ (.tail _ (.tail _ (.tail _ (.tail _ ht))))))))))) (List.Mem.tail _ (List.Mem.tail _ (List.Mem.tail _ (List.Mem.tail _ (List.Mem.tail _ (List.mem_append_right _ (.tail _ (.tail _ (.tail _ (.head _))))))))))
        clear N9
        cases htD with
        | str _ t9 =>
        k_steps
        refine leaf_tup (by k_asm) (by k_asm) (by assumption) (fun p hp => .tail _ (.tail _ (.tail _ hp))) ?_
        exact .cons (.str _ _) (.cons (.int _ _) (.cons (.int _ _) (.cons (.int _ _) .nil)))
      case fin =>
        intro D3 tl3 ys3 h3 tk3 F3 N3 off3 off3' hD3
        obtain ⟨data3, N3', sub3, mem3, hR3, d1, d2, d3, d4, d5⟩ : ∃ data3, News g' L' h3 ((L' + 1 + 1 + 1 + 1 + 1, oj) :: (L' + 1 + 1 + 1 + 1, op) :: (L' + 1 + 1 + 1, ow) :: (L' + 1 + 1, ot) :: (L' + 1, ok) :: data3) ∧ (∀ p ∈ data2, p ∈ data3) ∧ (D3, listO ys3 ys3.length) ∈ data3 ∧ DatAll data3 ys3 (((ns.map .int).map ownDD).map wrD) ∧
            (∀ p ∈ data3, p.1 ≠ L' + 1) ∧ (∀ p ∈ data3, p.1 ≠ L' + 1 + 1) ∧ (∀ p ∈ data3, p.1 ≠ L' + 1 + 1 + 1) ∧ (∀ p ∈ data3, p.1 ≠ L' + 1 + 1 + 1 + 1) ∧ (∀ p ∈ data3, p.1 ≠ L' + 1 + 1 + 1 + 1 + 1) :=
          ⟨_, regroup N3, more_in, .head _, DatAll.mono tl_in hD3, apart_more (off3 _ (.tail _ (.tail _ (.tail _ (.tail _ (.head _)))))) c1, apart_more (off3 _ (.tail _ (.tail _ (.tail _ (.head _))))) c2, apart_more (off3 _ (.tail _ (.tail _ (.head _)))) c3, apart_more (off3 _ (.tail _ (.head _))) c4, apart_more (off3 _ (.head _)) c5⟩
        clear N3 off3 off3' hD3 c1 c2 c3 c4 c5
        k_steps
        unfold Hold
        -- places
        refine comp_cell (L := L') (src := (ns.map .int).map ownDD) (news := data3) (cl := [(Str.ofString "keys", L' + 1)]) (plD ks) (by with_unfolding_all rfl) (fun _ => rfl) (fun _ => rfl) rfl (by decide) (fun _ _ => rfl) rfl (by with_reducible assumption) (by with_reducible assumption) (.tail _ (.tail _ (.tail _ (.tail _ (.tail _ (sub3 _ mem2)))))) (DatAll.mono sub3 hR2) (by simp; omega) ?iter ?elt ?fin
        case iter =>
          intro P hP
          k_steps
          exact hP
        case elt =>
          intro i a v I oI C oC D c oc ys tl h tk E' ha hv hoc F9 N9
          obtain ⟨a', ha', rfl⟩ := List.mem_map.mp (List.mem_of_getElem? ha)
          obtain ⟨x, hx, rfl⟩ := List.mem_map.mp ha'
          obtain ⟨t, n, t1, t2, t3, t4, rfl, ht⟩ := own_open hv
          clear hret
          have N10 := News.bring (News.bring N9 (List.Mem.tail _ (List.Mem.tail _ (List.Mem.tail _ (List.Mem.head _))))) (List.Mem.tail _ (List.Mem.tail _ (List.Mem.tail _ (List.Mem.tail _ (List.Mem.tail _ (List.mem_append_right _ (.tail _ (.tail _ (.tail _ (.tail _ (.head _))))))))))) 
          clear N9
          k_steps
          unfold Hold
          have hkd' : DatAll (tl ++ data3) kvs (keysD ks) := DatAll.mono (fun p hp => List.mem_append_right _ (sub3 _ (sub2 _ (sub1 _ hp)))) hkd
          have hkm' := sub3 _ (sub2 _ (sub1 _ hkm))
          refine comp_eval (L := L') (news := tl ++ data3) (ds := (keysD ks).map (cellD (ownDD (.int x)))) (cl := [(Str.ofString "own", c)]) (by with_unfolding_all rfl) (by decide) rfl (by decide) (by with_reducible assumption) (by with_reducible assumption) (.tail _ (.tail _ (.tail _ (.tail _ (.tail _ (.tail _ (in5 _ (List.mem_append_right _ hkm')))))))) ?iter2 (runs_one (cellD (ownDD (.int x))) (KeyT (tl ++ data3)) rfl (.tail _ (.tail _ (.tail _ (.tail _ (.tail _ (.tail _ (in5 _ (List.mem_append_right _ hkm')))))))) hkd' (by simp [keysD]; omega) ?asg2 (fun p hp => .tail _ (.tail _ (.tail _ (.tail _ (.tail _ (.tail _ (in5 p hp))))))) ?elt2) ?fin2
          case iter2 =>
            intro P hP
            k_steps
            exact hP
          case asg2 =>
            intro i2 b w2 C2 oC2 mC Z h2 tk2 Q2 E2 hb hw hC2 hC0 hCL F10 N11 hZn hZ hQ
            obtain ⟨k2, _, rfl⟩ := List.mem_map.mp (List.mem_of_getElem? hb)
            obtain ⟨tw, nw, u1, u2, rfl, htw⟩ := key_open hw
            exact assign_two rfl rfl rfl rfl hC2 hC0 hCL F10 N11 (hZn _ htw) hZ fun h₁ tk₁ oC₁ m₁ hC₁ hm₁ F₁ N₁ => hQ h₁ tk₁ oC₁ m₁ hC₁ ⟨tw, nw, _, _, u1, u2, rfl, htw, by rw [hm₁]; rfl, by rw [hm₁]; rfl⟩ F₁ N₁
          case elt2 =>
            intro i2 b w2 I2 oI2 C2 oC2 D2 m₂ ys2 tl2 h2 tk2 E2 hb hw hC2 hT2 F10 N11
            obtain ⟨k2, hk2, rfl⟩ := List.mem_map.mp (List.mem_of_getElem? hb)
            obtain ⟨tw, nw, j1, j2, u1, u2, rfl, htw, hm1, hm2⟩ := hT2
            obtain ⟨rfl, rfl⟩ := key_same N11 (.tail _ (.tail _ (.tail _ (List.mem_append_right _ (.tail _ (.tail _ (.tail _ (.tail _ (.tail _ (.tail _ (in5 _ htw))))))))))) hw (fun p hp => .tail _ (.tail _ (.tail _ (List.mem_append_right _ (.tail _ (.tail _ (.tail _ (.tail _ (.tail _ (.tail _ (in5 _ hp)))))))))))
            have N12 := News.bring (News.bring N11 (.tail _ (.tail _ (.tail _ (List.mem_append_right _ (.tail _ (.head _))))))) (.tail _ (.tail _ (.tail _ (.tail _ (List.mem_append_right _ (.tail _ (.tail _ (.tail _ (.tail _ (.tail _ (.tail _ (in5 _ (List.mem_append_right _ ht)))))))))))))
            clear N11
            have hk4 := (hks k2 hk2).1
            have hs1 : seqIndex? (k2.1 : Int) [Value.int (placeF x) t1, Value.int (ctrlF x) t2, Value.int (altF x) t3, Value.int (markF x) t4].length = some k2.1 := seqIdx hk4
            obtain ⟨tc, htc⟩ := own_cell x t1 t2 t3 t4 hk4
            have hwy := (hks k2 hk2).2
            k_steps
            exact Back.intro [] (by k_asm) (by k_asm) (fun p hp => .tail _ (.tail _ hp)) (fun _ _ _ hp => nomatch hp) (.int _ _)
          case fin2 =>
            intro D4 tl4 ys4 h4 tk4 F4 N4 off4 off4' hD4
            have hl4 : ys4.length ≤ 16 := by rw [hD4.length, List.length_map, keysD, List.length_map]; omega
            k_steps
            refine leaf_tupOf (by k_asm) (by k_asm) (by assumption) off4 (fun p hp => .tail _ (.tail _ hp)) ?_
            have e : (keysD ks).map (cellD (ownDD (.int x))) = (ks.map fun k => (cellsI (ownDD (.int x))).getD k.1 0 * k.2).map .int := by
              simp only [keysD, List.map_map]; rfl
            rw [← e]; exact hD4
        case fin =>
          intro D4 tl4 ys4 h4 tk4 F4 N4 off4 off4' hD4
          rename _ = Data.cell (some (Value.ref D3)) => dw'
          obtain ⟨data4, ow', dw4, N4', sub4, mem4, hR4, e1, e2, e3, e4, e5⟩ : ∃ data4 ow', ow'.data = .cell (some (.ref D3)) ∧ News g' L' h4 ((L' + 1 + 1 + 1 + 1 + 1, oj) :: (L' + 1 + 1 + 1 + 1, op) :: (L' + 1 + 1 + 1, ow') :: (L' + 1 + 1, ot) :: (L' + 1, ok) :: data4) ∧ (∀ p ∈ data3, p ∈ data4) ∧ (D4, listO ys4 ys4.length) ∈ data4 ∧ DatAll data4 ys4 (((ns.map .int).map ownDD).map (plD ks)) ∧
              (∀ p ∈ data4, p.1 ≠ L' + 1) ∧ (∀ p ∈ data4, p.1 ≠ L' + 1 + 1) ∧ (∀ p ∈ data4, p.1 ≠ L' + 1 + 1 + 1) ∧ (∀ p ∈ data4, p.1 ≠ L' + 1 + 1 + 1 + 1) ∧ (∀ p ∈ data4, p.1 ≠ L' + 1 + 1 + 1 + 1 + 1) :=
            ⟨_, _, dw', regroup N4, more_in, .head _, DatAll.mono tl_in hD4, apart_more (off4 _ (.tail _ (.tail _ (.tail _ (.tail _ (.head _)))))) d1, apart_more (off4 _ (.tail _ (.tail _ (.tail _ (.head _))))) d2, apart_more (off4 _ (.tail _ (.tail _ (.head _)))) d3, apart_more (off4 _ (.tail _ (.head _))) d4, apart_more (off4 _ (.head _)) d5⟩
          clear N4 off4 off4' hD4 d1 d2 d3 d4 d5 dw'
          k_steps
          unfold Hold
          rename _ = Data.cell (some (Value.ref D4)) => dp'
          k_dflt (refine' judge_ok _ _ _ _ _ _ _ _ _ _ _ _ _ _ _ _ _ _ _ _ _ _ _ ?kB ?kF ?kI ?kN ?kT ?kK ?kd ?ku ?_; (case kB => k_asm); (case kF => k_asm); (case kI => k_asm); (case kN => k_asm); (case kT => k_asm); (case kK => exact rfl); (case kd => ((try simp only [depth_under_make, depth_under_kw, depth_in1, depth_deeper, depth_caller]); omega)); (case ku => ((try simp only [units_deeper, units_in1]); omega)))
          intro j dj nj hsj tkj h5 tk5 F5 N5 ne5
          obtain ⟨data5, op', dp5, N5', sub5, memj, memd, q1, q2, q3, q4, q5⟩ : ∃ data5 op', op'.data = .cell (some (.ref D4)) ∧ News g' L' h5 ((L' + 1 + 1 + 1 + 1 + 1, oj) :: (L' + 1 + 1 + 1 + 1, op') :: (L' + 1 + 1 + 1, ow') :: (L' + 1 + 1, ot) :: (L' + 1, ok) :: data5) ∧ (∀ p ∈ data4, p ∈ data5) ∧ (j, instObj 122 dj) ∈ data5 ∧ (dj, dictOf [⟨hsj, .str (Str.ofString "comp_select_list") tkj, .ref kl⟩] nj) ∈ data5 ∧
              (∀ p ∈ data5, p.1 ≠ L' + 1) ∧ (∀ p ∈ data5, p.1 ≠ L' + 1 + 1) ∧ (∀ p ∈ data5, p.1 ≠ L' + 1 + 1 + 1) ∧ (∀ p ∈ data5, p.1 ≠ L' + 1 + 1 + 1 + 1) ∧ (∀ p ∈ data5, p.1 ≠ L' + 1 + 1 + 1 + 1 + 1) :=
            ⟨_, _, dp', regroup2 N5, fun p hp => .tail _ (.tail _ hp), .head _, .tail _ (.head _), apart_two (ne5 _ (.tail _ (.tail _ (.tail _ (.tail _ (.head _)))))) e1, apart_two (ne5 _ (.tail _ (.tail _ (.tail _ (.head _))))) e2, apart_two (ne5 _ (.tail _ (.tail _ (.head _)))) e3, apart_two (ne5 _ (.tail _ (.head _))) e4, apart_two (ne5 _ (.head _)) e5⟩
          clear N5 ne5 e1 e2 e3 e4 e5 dp'
          (try dsimp only)
          k_steps
          unfold Hold
          rename _ = Data.cell (some (Value.ref j)) => dj'
          have hRow : DatAll data5 ys1 ((ns.map .int).map rowD) := DatAll.mono (fun p hp => sub5 _ (sub4 _ (sub3 _ (sub2 _ hp)))) hR1
          have hWr : DatAll data5 ys3 (((ns.map .int).map ownDD).map wrD) := DatAll.mono (fun p hp => sub5 _ (sub4 _ hp)) hR3
          have hPl : DatAll data5 ys4 (((ns.map .int).map ownDD).map (plD ks)) := DatAll.mono sub5 hR4
          have hKy : DatAll data5 kvs (keysD ks) := DatAll.mono (fun p hp => sub5 _ (sub4 _ (sub3 _ (sub2 _ (sub1 _ hp))))) hkd
          have mRow := sub5 _ (sub4 _ (sub3 _ (sub2 _ mem1)))
          have mWr := sub5 _ (sub4 _ mem3)
          have mPl := sub5 _ mem4
          have mKy := sub5 _ (sub4 _ (sub3 _ (sub2 _ (sub1 _ hkm))))
          -- told
          refine comp_assign (L := L') (news := data5) (ds := ((ns.map .int).map rowD).flatMap fun a => (((ns.map .int).map ownDD).map wrD).map (cmpD ks a)) (cl := [(Str.ofString "written", L' + 1 + 1 + 1), (Str.ofString "judge", L' + 1 + 1 + 1 + 1 + 1)]) rfl (by with_unfolding_all rfl) rfl rfl (by with_unfolding_all rfl) (by decide) rfl (by decide) (by with_reducible assumption) (by with_reducible assumption) (.tail _ (.tail _ (.tail _ (.tail _ (.tail _ mRow))))) ?iter (runs_two (cmpD ks) rfl rfl rfl (by decide) rfl (.tail _ (.tail _ (.tail _ (.tail _ (.tail _ mRow))))) hRow (.tail _ (.tail _ (.tail _ (.tail _ (.tail _ mWr))))) hWr (by simp; omega) (by simp; omega) ?iter1 ?elt (fun _ _ => rfl)) ?fin
          case iter =>
            intro P hP
            k_steps
            exact hP
          case iter1 =>
            intro C oC mC Z h tk P E' hC F9 N9 hZ hP
            have N10 := News.bring N9 (.tail _ (hZ _ (.tail _ (.tail _ (.head _)))))
            clear N9 hret
            k_steps
            exact hP
          case elt =>
            intro i jj a u b v I oI I0 oI0 C oC D m₂ ys tl h tk E' ha hu hb hv hC hmx hmy F9 N9
            obtain ⟨x, y, Ls, Rs, ta, na, tb, nb, vsa, vsb, rfl, rfl, rfl, rfl, hta, htb, hda, hdb, hLl, hRl, hkn⟩ := rows_open ha hb hu hv
            have N10 := News.bring N9 (.tail _ (.tail _ (.tail _ (List.mem_append_right _ (.tail _ (.head _))))))
            have N11 := News.bring N10 (.tail _ (.tail _ (.tail _ (.tail _ (in6 _ htb)))))
            have N12 := News.bring N11 (.tail _ (.tail _ (.tail _ (.tail _ (.tail _ (in6 _ hta))))))
            have N13 := News.bring N12 (.tail _ (.tail _ (.tail _ (.tail _ (.tail _ (.tail _ (in6 _ mKy)))))))
            have N14 := News.bring N13 (.tail _ (.tail _ (.tail _ (.tail _ (.tail _ (.tail _ (.tail _ (in6 _ memd))))))))
            have N15 := News.bring N14 (.tail _ (.tail _ (.tail _ (.tail _ (.tail _ (.tail _ (.tail _ (.tail _ (in6 _ memj)))))))))
            clear N9 N10 N11 N12 N13 N14 hret
            k_steps
            unfold Hold
            k_dflt (refine' compare_ok _ _ _ _ _ j dj kl ta tb hsj tkj kn na nb nj kvs vsa vsb ks Ls Rs ?h1 ?h2 ?h3 hLl hRl (fun k hk => ⟨(hks k hk).1, hkn k.1 (hks k hk).1⟩) _ _ _ _ _ _ _ _ _ _ _ _ _ _ _ _ _ ?kB ?kF ?kI ?kN ?kT ?kK ?kd ?ku ?_; (case kB => k_asm); (case kF => k_asm); (case kI => k_asm); (case kN => k_asm); (case h1 => exact DatAll.mono (fun p hp => .tail _ (.tail _ (.tail _ (.tail _ (in6 p hp))))) hKy); (case h2 => exact DatAll.mono (fun p hp => .tail _ (.tail _ (.tail _ (.tail _ (in6 p hp))))) hda); (case h3 => exact DatAll.mono (fun p hp => .tail _ (.tail _ (.tail _ (.tail _ (in6 p hp))))) hdb); (case kT => k_asm); (case kK => exact rfl); (case kd => ((try simp only [depth_under_make, depth_under_kw, depth_in1, depth_deeper, depth_caller]); omega)); (case ku => ((try simp only [units_deeper, units_in1]); omega)))
            intro t9 h9 tk9 F9 N9
            exact Back.intro [] (by k_asm) (by k_asm) (fun p hp => .tail _ (.tail _ (.tail _ (.tail _ (.tail _ (.tail _ hp)))))) (fun _ _ _ hp => nomatch hp) (.int _ _)
          case fin =>
            intro D6 tl6 ys6 h6 tk6 F6 N6 off6 off6' hD6
            obtain ⟨data6, oj', dj6, N6', sub6, mem6, hR6⟩ : ∃ data6 oj', oj'.data = .cell (some (.ref j)) ∧ News g' L' h6 ((L' + 1 + 1 + 1 + 1 + 1, oj') :: (L' + 1 + 1 + 1 + 1, op') :: (L' + 1 + 1 + 1, ow') :: (L' + 1 + 1, ot) :: (L' + 1, ok) :: data6) ∧ (∀ p ∈ data5, p ∈ data6) ∧ (D6, listO ys6 ys6.length) ∈ data6 ∧ IntsAre ys6 (toldI ks ns) :=
              ⟨_, _, dj', regroup N6, more_in, .head _, told_ints hD6⟩
            clear N6 off6 off6' hD6 q1 q2 q3 q4 q5 dj'
            k_steps
            unfold Hold
            have hPl6 := DatAll.mono sub6 hPl
            have mPl6 := sub6 _ mPl
            refine comp_eval (L := L') (news := data6) (ds := (((ns.map .int).map ownDD).map (plD ks)).flatMap fun a => (((ns.map .int).map ownDD).map (plD ks)).map (ordD a)) (cl := [(Str.ofString "places", L' + 1 + 1 + 1 + 1)]) (by with_unfolding_all rfl) (by decide) rfl (by decide) (by with_reducible assumption) (by with_reducible assumption) (.tail _ (.tail _ (.tail _ (.tail _ (.tail _ mPl6))))) ?iter (runs_two ordD rfl rfl rfl (by decide) rfl (.tail _ (.tail _ (.tail _ (.tail _ (.tail _ mPl6))))) hPl6 (.tail _ (.tail _ (.tail _ (.tail _ (.tail _ mPl6))))) hPl6 (by simp; omega) (by simp; omega) ?iter1 ?elt (fun _ _ => rfl)) ?fin
            case iter =>
              intro P hP
              k_steps
              exact hP
            case iter1 =>
              intro C oC mC Z h tk P E' hC F9 N9 hZ hP
              have N10 := News.bring N9 (.tail _ (hZ _ (.tail _ (.head _))))
              clear N9 hret
              k_steps
              exact hP
            case elt =>
              intro i jj a u b v I oI I0 oI0 C oC D m₂ ys tl h tk E' ha hu hb hv hC hmx hmy F9 N9
              obtain ⟨x, hx, rfl⟩ := places_open ha
              obtain ⟨y, hy, rfl⟩ := places_open hb
              obtain ⟨ta, na, vsa, rfl, hta, hda⟩ := tup_open hu
              obtain ⟨tb, nb, vsb, rfl, htb, hdb⟩ := tup_open hv
              have hia := ints_of hda
              have hib := ints_of hdb
              clear hret
              k_steps
              unfold Hold
              k_dflt (refine' order_ok _ _ _ _ _ ta tb na nb vsa vsb _ _ ?h1 ?h2 hia hib ?h3 _ _ _ _ _ _ _ _ _ _ _ _ _ _ _ _ _ ?kB ?kF ?kI ?kN ?kT ?kK ?kd ?ku ?_; (case kB => k_asm); (case kF => k_asm); (case kI => k_asm); (case kN => k_asm); (case h1 => exact .tail _ (.tail _ (.tail _ (in6 _ hta)))); (case h2 => exact .tail _ (.tail _ (.tail _ (in6 _ htb)))); (case h3 => (simp only [placeL, List.length_map])); (case kT => k_asm); (case kK => exact rfl); (case kd => ((try simp only [depth_under_make, depth_under_kw, depth_in1, depth_deeper, depth_caller]); omega)); (case ku => ((try simp only [units_deeper, units_in1]); omega)))
              intro t9 h9 tk9 F9 N9
              refine Back.intro [] (by k_asm) (by k_asm) (fun p hp => hp) (fun _ _ _ hp => nomatch hp) ?_
              rw [ord_eq]
              exact .int _ _
            case fin =>
              intro D7 tl7 ys7 h7 tk7 F7 N7 off7 off7' hD7
              have hi7 := order_ints hD7
              have m6 : (D6, listO ys6 ys6.length) ∈ (D7, lst ys7) :: (tl7 ++ ((L' + 1 + 1 + 1 + 1 + 1, oj') :: (L' + 1 + 1 + 1 + 1, op') :: (L' + 1 + 1 + 1, ow') :: (L' + 1 + 1, ot) :: (L' + 1, ok) :: data6)) := .tail _ (List.mem_append_right _ (.tail _ (.tail _ (.tail _ (.tail _ (.tail _ mem6))))))
              k_steps
              unfold Hold
              k_dflt (refine ke_eq_ints ⟨_, (N7 _ m6).1, rfl, _, rfl⟩ ⟨_, (N7 _ (.head _)).1, rfl, _, rfl⟩ hR6 hi7 (by simp only [units_deeper, cLine]; omega) ?_)
              rw [decide_eq_true (agree_plain ks ns hks)]
              replace N7 : News g' L' h7 news := fun p hp => N7 p (.tail _ (List.mem_append_right _ (.tail _ (.tail _ (.tail _ (.tail _ (.tail _ (sub6 _ (sub5 _ (sub4 _ (sub3 _ (sub2 _ (sub1 _ hp)))))))))))))
              k_steps
              all_goals exact hret 0 _ _ (by k_asm) (by k_asm)
end Mine

namespace Mine
theorem calm_K2 : True := by
  w_top off
  trivial
end Mine
namespace Mine
local macro_rules | `(tactic| walk_at "mine none") => `(tactic| fail "none")
local macro_rules | `(tactic| walk_at "mine none") => `(tactic| fail "none")
local macro_rules | `(tactic| walk_at "mine none") => `(tactic| fail "none")
open LCg
theorem warm10 : (fun (_ : OpenLaw) => True) PySem.Challenge.rw_ny0038_01 ∧ (hd.heap_39 = hd.heap_39) := by k_fill; exact ⟨trivial, rfl⟩
local macro_rules | `(tactic| k_room) => `(tactic| ((simp only [depth_under_make, depth_under_kw, depth_in1, depth_deeper, depth_caller, recursionLimit]); omega))
local macro_rules | `(tactic| ktr_room) => `(tactic| ((simp only [depth_under_make, depth_under_kw, depth_in1, depth_deeper, depth_caller, recursionLimit]); omega))
local macro_rules | `(tactic| walk_at "eval ListComp") => `(tactic| (k_here; refine Hold.out ?_))
local macro_rules | `(tactic| walk_at "exec Assign cons ListComp") => `(tactic| (k_here; (with_reducible show wpAny _ _ (exec (Stmt.Assign [Expr.Name (Str.ofString "rows") _] _ _) _) _ _ _); refine Hold.out ?_))
local macro_rules | `(tactic| walk_at "exec Assign cons ListComp") => `(tactic| (k_here; (with_reducible show wpAny _ _ (exec (Stmt.Assign [Expr.Name (Str.ofString "owns") _] _ _) _) _ _ _); refine Hold.out ?_))
local macro_rules | `(tactic| walk_at "exec Assign cons ListComp") => `(tactic| (k_here; (with_reducible show wpAny _ _ (exec (Stmt.Assign [Expr.Name (Str.ofString "told") _] _ _) _) _ _ _); refine Hold.out ?_))
local macro_rules | `(tactic| k_all) => `(tactic| assumption)
local macro_rules | `(tactic| walk_at "exec Assign cons ListComp") => `(tactic| (k_here; (with_reducible show wpAny _ _ (exec (Stmt.Assign [Expr.Name (Str.ofString "written") _] _ _) _) _ _ _); k_dflt (refine wpAny_Assign_Name ?_ (by with_unfolding_all rfl))))
local macro_rules | `(tactic| walk_at "subscriptTail") => `(tactic| (k_here; (with_reducible show wpAny _ _ (subscriptTail _ _ (Value.ref _) (Value.int _ _)) _ _ _); k_dflt (refine' item_list ?N ?m ?a ?b ?x ?_ ?s; (case N => k_asm); (case m => first | exact List.Mem.head _ | exact List.Mem.tail _ (List.Mem.head _) | exact List.Mem.tail _ (List.Mem.tail _ (List.Mem.head _))); (case a => omega); (case b => omega); (case x => assumption); (case s => with_unfolding_all rfl))))
local macro_rules | `(tactic| walk_at "subscriptTail") => `(tactic| (k_here; (with_reducible show wpAny _ _ (subscriptTail _ _ (Value.ref _) (Value.int _ _)) _ _ _); k_dflt (refine' item_tupleT ?t ?a ?b ?c ?d ?_; (case t => exact News.isTup (by k_asm) (List.Mem.head _)); (case a => omega); (case b => omega); (case c => assumption); (case d => assumption); k_whole)))
local macro_rules | `(tactic| walk_at "call ref") => `(tactic| (k_here; (with_reducible show wpAny _ _ (call (Value.ref 122) _) _ _ _); refine Hold.out ?_))
local macro_rules | `(tactic| walk_at "call ref") => `(tactic| (k_here; (with_reducible show wpAny _ _ (call (Value.ref 119) _) _ _ _); refine Hold.out ?_))
local macro_rules | `(tactic| walk_at "call ref") => `(tactic| (k_here; (with_reducible show wpAny _ _ (call (Value.ref 157) _) _ _ _); refine Hold.out ?_))
local macro_rules | `(tactic| walk_at "compareOp Eq ref ref") => `(tactic| (k_here; refine Hold.out ?_))
local macro_rules | `(tactic| walk_at "call ref") => `(tactic| (k_here; k_dflt (refine' unctrl_str _ _ _ _ _ _ _ ?p0 ?p1 _ _ _ _ _ _ _ _ _ _ _ _ _ _ _ _ _ ?kB ?kF ?kI ?kN ?kT ?kK ?kd ?ku ?_; (case p0 => omega); (case p1 => omega); (case kB => k_asm); (case kF => k_asm); (case kI => k_asm); (case kN => k_asm); (case kT => k_asm); (case kK => exact rfl); (case kd => ((try simp only [depth_under_make, depth_under_kw, depth_in1, depth_deeper, depth_caller]); omega)); (case ku => ((try simp only [units_deeper, units_in1]); omega)); (intro t9 h9 tk9 F9 N9; (try dsimp only)))))
local macro_rules | `(tactic| walk_at "call ref") => `(tactic| (k_here; k_dflt (refine' ctrl_str _ _ _ _ _ _ _ ?p0 ?p1 _ _ _ _ _ _ _ _ _ _ _ _ _ _ _ _ _ ?kB ?kF ?kI ?kN ?kT ?kK ?kd ?ku ?_; (case p0 => omega); (case p1 => omega); (case kB => k_asm); (case kF => k_asm); (case kI => k_asm); (case kN => k_asm); (case kT => k_asm); (case kK => exact rfl); (case kd => ((try simp only [depth_under_make, depth_under_kw, depth_in1, depth_deeper, depth_caller]); omega)); (case ku => ((try simp only [units_deeper, units_in1]); omega)); (intro t9 h9 tk9 F9 N9; (try dsimp only)))))
local macro_rules | `(tactic| walk_at "call ref") => `(tactic| (k_here; k_dflt (refine' alt_str _ _ _ _ _ _ _ ?p0 ?p1 _ _ _ _ _ _ _ _ _ _ _ _ _ _ _ _ _ ?kB ?kF ?kI ?kN ?kT ?kK ?kd ?ku ?_; (case p0 => omega); (case p1 => omega); (case kB => k_asm); (case kF => k_asm); (case kI => k_asm); (case kN => k_asm); (case kT => k_asm); (case kK => exact rfl); (case kd => ((try simp only [depth_under_make, depth_under_kw, depth_in1, depth_deeper, depth_caller]); omega)); (case ku => ((try simp only [units_deeper, units_in1]); omega)); (intro t9 h9 tk9 F9 N9; (try dsimp only)))))
local macro_rules | `(tactic| walk_at "call ref") => `(tactic| (k_here; k_dflt (refine' punct_str _ _ _ _ _ _ _ ?p0 ?p1 _ _ _ _ _ _ _ _ _ _ _ _ _ _ _ _ _ ?kB ?kF ?kI ?kN ?kT ?kK ?kd ?ku ?_; (case p0 => omega); (case p1 => omega); (case kB => k_asm); (case kF => k_asm); (case kI => k_asm); (case kN => k_asm); (case kT => k_asm); (case kK => exact rfl); (case kd => ((try simp only [depth_under_make, depth_under_kw, depth_in1, depth_deeper, depth_caller]); omega)); (case ku => ((try simp only [units_deeper, units_in1]); omega)); (intro t9 h9 tk9 F9 N9; (try dsimp only)))))
local macro_rules | `(tactic| walk_at "call ref") => `(tactic| (k_here; k_dflt (refine' own_int _ _ _ _ _ _ _ _ _ _ _ _ _ _ _ _ _ _ _ _ _ _ _ _ ?kB ?kF ?kI ?kN ?kT ?kK ?kd ?ku ?_; (case kB => k_asm); (case kF => k_asm); (case kI => k_asm); (case kN => k_asm); (case kT => k_asm); (case kK => exact rfl); (case kd => ((try simp only [depth_under_make, depth_under_kw, depth_in1, depth_deeper, depth_caller]); omega)); (case ku => ((try simp only [units_deeper, units_in1]); omega)); (intro v9 tl9 h9 tk9 F9 N9 off9 hd9; (try dsimp only)))))
local macro_rules | `(tactic| walk_at "call type:tuple") => `(tactic| (k_here; (with_reducible show wpAny _ _ (call (Value.type _) [Value.ref _]) _ _ _); k_dflt (refine' tup_of ?F ?N ?m ?z ?_; (case F => k_asm); (case N => k_asm); (case m => exact List.Mem.head _); (case z => omega)); intro D' h' F' N' l1))

def chrD : Dat → Dat
  | .int x => .str (chrS x)
  | d => d
def codeOf : Dat → Int
  | .str s => ((s.cps.getD 0 0 : Nat) : Int)
  | _ => 0
def rowS (d : Dat) : Dat := .tuple [.str (shownF (codeOf d)), .str (chrS (ctrlF (codeOf d))), .str (chrS (altF (codeOf d))), .int (markF (codeOf d))]
theorem code_chr {x : Int} (h : 0 ≤ x) : codeOf (.str (chrS x)) = x := by
  show ((x.toNat : Nat) : Int) = x
  omega
def wr2D : Dat → Dat
  | .tuple [.str s, .int c, .int a, .int k] => .tuple [.str s, .str (chrS c), .str (chrS a), .int k]
  | d => d
theorem wr_mem {ns : List Int} {i : Nat} {a : Dat} (h : (((ns.map .int).map ownDD).map wrD)[i]? = some a) : ∃ x ∈ ns, a = wrD (ownDD (.int x)) := by
  obtain ⟨a', ha', rfl⟩ := List.mem_map.mp (List.mem_of_getElem? h)
  obtain ⟨a'', ha'', rfl⟩ := List.mem_map.mp ha'
  obtain ⟨x, hx, rfl⟩ := List.mem_map.mp ha''
  exact ⟨x, hx, rfl⟩
theorem wr_open {data : List (Addr × Obj)} {v : Value} {x : Int} (h : DatIn data v (wrD (ownDD (.int x)))) : ∃ t n t1 t2 t3 t4, v = .ref t ∧ (t, tupO [.str (textsL.getD (placeF x).toNat (Str.ofString "")) t1, .int (ctrlF x) t2, .int (altF x) t3, .int (markF x) t4] n) ∈ data := by
  cases h with
  | tuple hm hall =>
    cases hall with
    | cons h1 hall =>
    cases h1 with
    | str _ t1 =>
    cases hall with
    | cons h2 hall =>
    cases h2 with
    | int _ t2 =>
    cases hall with
    | cons h3 hall =>
    cases h3 with
    | int _ t3 =>
    cases hall with
    | cons h4 hall =>
    cases h4 with
    | int _ t4 =>
    cases hall
    exact ⟨_, _, t1, t2, t3, t4, rfl, hm⟩
def FourT (data : List (Addr × Obj)) (w : Value) (m₁ : Str → Option Value) : Prop := ∃ (t : Addr) (n : Nat) (s : Str) (c a k : Int) (t1 t2 t3 t4 : Tok), w = .ref t ∧ (t, tupO [.str s t1, .int c t2, .int a t3, .int k t4] n) ∈ data ∧ m₁ (Str.ofString "text") = some (.str s t1) ∧ m₁ (Str.ofString "low") = some (.int c t2) ∧ m₁ (Str.ofString "high") = some (.int a t3) ∧ m₁ (Str.ofString "mark") = some (.int k t4)
theorem wr_same {h₀ h : Heap} {L t : Addr} {led data : List (Addr × Obj)} {n : Nat} {x : Int} {s : Str} {c a k : Int} {t1 t2 t3 t4 : Tok} (N : News h₀ L h led) (hm : (t, tupO [.str s t1, .int c t2, .int a t3, .int k t4] n) ∈ led) (hd : DatIn data (.ref t) (wrD (ownDD (.int x)))) (hs : ∀ p ∈ data, p ∈ led) :
    s = textsL.getD (placeF x).toNat (Str.ofString "") ∧ c = ctrlF x ∧ a = altF x ∧ k = markF x := by
  obtain ⟨t', n', u1, u2, u3, u4, e, hm'⟩ := wr_open hd
  cases e
  have e1 := (N _ hm).1
  have e2 := (N _ (hs _ hm')).1
  rw [e1] at e2
  have e3 := Option.some.inj e2
  simp only [tupO, Obj.mk.injEq, Data.seq.injEq] at e3
  obtain ⟨_, _, ⟨e4, _⟩, _⟩ := e3
  have e5 := congrArg Array.toList e4
  simp only [List.cons.injEq, Value.int.injEq, Value.str.injEq] at e5
  exact ⟨e5.1.1, e5.2.1.1, e5.2.2.1.1, e5.2.2.2.1.1⟩
theorem rows_openS {data : List (Addr × Obj)} {ns : List Int} {i j : Nat} {a b : Dat} {u v : Value} (ha : (((ns.map .int).map chrD).map rowS)[i]? = some a) (hb : ((((ns.map .int).map ownDD).map wrD).map wr2D)[j]? = some b) (hu : DatIn data u a) (hv : DatIn data v b) :
    ∃ (x y : Int) (Ls Rs : List Dat) (ta : Addr) (na : Nat) (tb : Addr) (nb : Nat) (vsa vsb : List Value), u = .ref ta ∧ v = .ref tb ∧ a = .tuple Ls ∧ b = .tuple Rs ∧ (ta, tupO vsa na) ∈ data ∧ (tb, tupO vsb nb) ∈ data ∧ DatAll data vsa Ls ∧ DatAll data vsb Rs ∧ Ls.length = 4 ∧ Rs.length = 4 ∧ ∀ k : Nat, k < 4 → kindD (Ls.getD k .none) (Rs.getD k .none) := by
  obtain ⟨a', ha', rfl⟩ := List.mem_map.mp (List.mem_of_getElem? ha)
  obtain ⟨b', hb', rfl⟩ := List.mem_map.mp (List.mem_of_getElem? hb)
  obtain ⟨b'', hb'', rfl⟩ := List.mem_map.mp hb'
  obtain ⟨b3, hb3, rfl⟩ := List.mem_map.mp hb''
  obtain ⟨y, _, rfl⟩ := List.mem_map.mp hb3
  obtain ⟨ta, na, vsa, rfl, hta, hda⟩ := tup_open hu
  obtain ⟨tb, nb, vsb, rfl, htb, hdb⟩ := tup_open (ds := [.str (textsL.getD (placeF y).toNat (Str.ofString "")), .str (chrS (ctrlF y)), .str (chrS (altF y)), .int (markF y)]) hv
  refine ⟨0, y, _, _, ta, na, tb, nb, vsa, vsb, rfl, rfl, rfl, rfl, hta, htb, hda, hdb, rfl, rfl, fun k hk => ?_⟩
  match k, hk with
  | 0, _ => trivial
  | 1, _ => trivial
  | 2, _ => trivial
  | 3, _ => trivial
def toldS (ks : List (Nat × Int)) (ns : List Int) : List Int := ns.flatMap fun x => ns.map fun y => compareF (tupL (rowS (chrD (.int x)))) (tupL (wr2D (wrD (ownDD (.int y))))) ks
theorem told_intsS {data : List (Addr × Obj)} {ks : List (Nat × Int)} {ns : List Int} {ys : List Value} (h : DatAll data ys ((((ns.map .int).map chrD).map rowS).flatMap fun a => ((((ns.map .int).map ownDD).map wrD).map wr2D).map (cmpD ks a))) : IntsAre ys (toldS ks ns) := by
  refine ints_of (data := data) ?_
  have e := flat_two (ns := ns) (fun x => rowS (chrD (.int x))) (fun y => wr2D (wrD (ownDD (.int y)))) (cmpD ks) (fun x y => compareF (tupL (rowS (chrD (.int x)))) (tupL (wr2D (wrD (ownDD (.int y))))) ks) (fun _ _ => rfl)
  simp only [List.map_map] at h
  have e' : ((ns.map (rowS ∘ chrD ∘ Dat.int)).flatMap fun a => List.map (cmpD ks a ∘ wr2D ∘ wrD ∘ ownDD ∘ Dat.int) ns) = (ns.map fun x => rowS (chrD (.int x))).flatMap fun a => (ns.map fun y => wr2D (wrD (ownDD (.int y)))).map (cmpD ks a) := by
    congr 1
    funext a
    rw [List.map_map]
    rfl
  rw [e', e] at h
  exact h
theorem flat_congr {ns : List Int} {f g : Int → Int → Int} (h : ∀ x ∈ ns, ∀ y ∈ ns, f x y = g x y) : (ns.flatMap fun x => ns.map (f x)) = ns.flatMap fun x => ns.map (g x) := by
  have : ∀ l : List Int, (∀ x ∈ l, x ∈ ns) → (l.flatMap fun x => ns.map (f x)) = l.flatMap fun x => ns.map (g x) := by
    intro l
    induction l with
    | nil => intro _; rfl
    | cons a r ih =>
      intro hl
      rw [List.flatMap_cons, List.flatMap_cons, ih fun x hx => hl x (.tail _ hx)]
      congr 1
      exact List.map_congr_left fun y hy => h a (hl a (.head _)) y hy
  exact this ns fun _ h => h
theorem agree_plainS (ks : List (Nat × Int)) (ns : List Int) (hks : ∀ k ∈ ks, k.1 < 4 ∧ (k.2 = 1 ∨ k.2 = -1)) (hns : ∀ x ∈ ns, 0 ≤ x ∧ x ≤ 1114111) : toldS ks ns = orderI ks ns := by
  unfold toldS orderI
  refine flat_congr fun x hx y hy => ?_
  have e : rowS (chrD (.int x)) = .tuple [.str (shownF x), .str (chrS (ctrlF x)), .str (chrS (altF x)), .int (markF x)] := by
    show rowS (.str (chrS x)) = _
    unfold rowS
    rw [code_chr (hns x hx).1]
  rw [e]
  exact cmp_order (cells_str (hns x hx).1 (hns y hy).1) ks hks

set_option maxHeartbeats 8000000 in
theorem agrees_str (w : World) (mean : ExcName → Option Value) (mg mb : Str → Option Value) (news : List (Addr × Obj)) (nl kl xl : Addr) (nn kn xn : Nat) (nvs kvs xvs : List Value) (ns : List Int) (ks : List (Nat × Int))
    (hnm : (nl, listO nvs nn) ∈ news) (hkm : (kl, listO kvs kn) ∈ news) (hxm : (xl, listO xvs xn) ∈ news) (hnd : DatAll news nvs (ns.map .int)) (hkd : DatAll news kvs (keysD ks)) (hxd : DatAll news xvs (textsL.map .str)) (hnl : ns.length ≤ 8) (hns : ∀ x ∈ ns, 0 ≤ x ∧ x ≤ 1114111) (hkl : ks.length ≤ 8) (hks : ∀ k ∈ ks, k.1 < 4 ∧ (k.2 = 1 ∨ k.2 = -1)) :
    ClQ w mean mg mb 162 news [.ref nl, .ref kl, .ref xl, .bool true] (fun _ => .bool true) := by
  dsimp only [ClQ]; intros; rename_i hret
  refine wpAny_call ?_
  k_dflt (refine' code_defC ?k1 ?k2 ?k3 ?k4 ?k5 ?kA ?kF ?kK ?k6 ?k7 ?k8 ?k9 ?kB ?kD ?_ ?c2 ?c3 ?c4; (case kA => exact rfl); (case kF => exact rfl); (case kK => assumption); (case k1 => k_asm); (case k2 => k_asm); (case k3 => k_asm); (case k4 => k_asm); (case k5 => k_asm); (case k6 => k_is); (case k7 => k_is); (case k8 => ktr_room); (case k9 => exact BindsTo.of_eq rfl); (case kB => exact rfl); (case kD => decide +kernel); (case c2 => exact rfl); (case c3 => exact rfl); (case c4 => exact rfl); k_whole; intro g' L' h' tk' cells' FG' F' N' Y' B' X' T' l1)
  obtain ⟨oj, op, ow, ot, ok, hE, dj, dp, dw, dt, dk⟩ := kc_five Y'
  subst hE
  clear Y'
  replace dj : oj.data = .cell none := dj
  replace dp : op.data = .cell none := dp
  replace dw : ow.data = .cell none := dw
  replace dt : ot.data = .cell (some (.ref xl)) := dt
  replace dk : ok.data = .cell (some (.ref kl)) := dk
  replace F' : Fr g' L' h' (fun y => if y = Str.ofString "signs" then some (.bool true) else if y = Str.ofString "numbers" then some (.ref nl) else none) := F'
  simp only [List.cons_append, List.nil_append] at N'
  (try dsimp only)
  (try k_fold)
  have a1 : ∀ p ∈ news, p.1 ≠ L' + 1 := fun p hp => Nat.ne_of_lt (Nat.lt_succ_of_lt (l1 p hp))
  have a2 : ∀ p ∈ news, p.1 ≠ L' + 1 + 1 := fun p hp => Nat.ne_of_lt (Nat.lt_succ_of_lt (Nat.lt_succ_of_lt (l1 p hp)))
  have a3 : ∀ p ∈ news, p.1 ≠ L' + 1 + 1 + 1 := fun p hp => Nat.ne_of_lt (Nat.lt_succ_of_lt (Nat.lt_succ_of_lt (Nat.lt_succ_of_lt (l1 p hp))))
  have a4 : ∀ p ∈ news, p.1 ≠ L' + 1 + 1 + 1 + 1 := fun p hp => Nat.ne_of_lt (Nat.lt_succ_of_lt (Nat.lt_succ_of_lt (Nat.lt_succ_of_lt (Nat.lt_succ_of_lt (l1 p hp)))))
  have a5 : ∀ p ∈ news, p.1 ≠ L' + 1 + 1 + 1 + 1 + 1 := fun p hp => Nat.ne_of_lt (Nat.lt_succ_of_lt (Nat.lt_succ_of_lt (Nat.lt_succ_of_lt (Nat.lt_succ_of_lt (Nat.lt_succ_of_lt (l1 p hp))))))
  clear l1
  have hsub0 : ∀ p ∈ news, p ∈ news := fun _ h => h
  k_steps
  unfold Hold
  -- things
  refine comp_eval (L := L') (ds := (ns.map .int).map chrD) (news := news) (cl := []) (by with_unfolding_all rfl) (by decide) rfl (by decide) (by with_reducible assumption) (by with_reducible assumption) (.tail _ (.tail _ (.tail _ (.tail _ (.tail _ (hnm)))))) ?iter (runs_one chrD (fun v m₁ => m₁ (Str.ofString "x") = some v) rfl (.tail _ (.tail _ (.tail _ (.tail _ (.tail _ (hnm)))))) hnd (by simp; omega) ?asg (fun p hp => .tail _ (.tail _ (.tail _ (.tail _ (.tail _ (hp)))))) ?elt) ?fin
  case iter =>
    intro P hP
    k_steps
    exact hP
  case asg =>
    intro i a v C oC mC Z h tk Q E' ha hv hC hC0 hCL F9 N9 hZn hZ hQ
    exact assign_one rfl rfl hC hC0 hCL F9 N9 hZ fun h₁ tk₁ oC₁ m₁ hC₁ hm₁ F₁ N₁ => hQ h₁ tk₁ oC₁ m₁ hC₁ (by rw [hm₁]; simp) F₁ N₁
  case elt =>
    intro i a v I oI C oC D m₂ ys tl h tk E' ha hv hC hT F9 N9
    obtain ⟨x, hx, rfl⟩ := List.mem_map.mp (List.mem_of_getElem? ha)
    have hx0 := (hns x hx).1
    have hx1 := (hns x hx).2
    cases hv with
    | int _ t =>
    clear hret
    k_steps
    exact Back.intro [] (by k_asm) (by k_asm) (fun p hp => hp) (fun _ _ _ hp => nomatch hp) (.str _ _)
  case fin =>
    intro D0 tl0 ys0 h0 tk0 F0 N0 off0 off0' hD0
    obtain ⟨data0, N0', sub0, mem0, hR0, z1, z2, z3, z4, z5⟩ : ∃ data0, News g' L' h0 ((L' + 1 + 1 + 1 + 1 + 1, oj) :: (L' + 1 + 1 + 1 + 1, op) :: (L' + 1 + 1 + 1, ow) :: (L' + 1 + 1, ot) :: (L' + 1, ok) :: data0) ∧ (∀ p ∈ news, p ∈ data0) ∧ (D0, listO ys0 ys0.length) ∈ data0 ∧ DatAll data0 ys0 ((ns.map .int).map chrD) ∧
        (∀ p ∈ data0, p.1 ≠ L' + 1) ∧ (∀ p ∈ data0, p.1 ≠ L' + 1 + 1) ∧ (∀ p ∈ data0, p.1 ≠ L' + 1 + 1 + 1) ∧ (∀ p ∈ data0, p.1 ≠ L' + 1 + 1 + 1 + 1) ∧ (∀ p ∈ data0, p.1 ≠ L' + 1 + 1 + 1 + 1 + 1) :=
      ⟨_, regroup N0, more_in, .head _, DatAll.mono tl_in hD0, apart_more (off0 _ (.tail _ (.tail _ (.tail _ (.tail _ (.head _)))))) a1, apart_more (off0 _ (.tail _ (.tail _ (.tail _ (.head _))))) a2, apart_more (off0 _ (.tail _ (.tail _ (.head _)))) a3, apart_more (off0 _ (.tail _ (.head _))) a4, apart_more (off0 _ (.head _)) a5⟩
    clear N0 off0 off0' hD0 a1 a2 a3 a4 a5
    k_steps
    unfold Hold
    -- rows
    refine comp_assign (L := L') (ds := ((ns.map .int).map chrD).map rowS) (news := data0) (cl := []) rfl (by with_unfolding_all rfl) rfl rfl (by with_unfolding_all rfl) (by decide) rfl (by decide) (by with_reducible assumption) (by with_reducible assumption) (.tail _ (.tail _ (.tail _ (.tail _ (.tail _ mem0))))) ?iter (runs_one rowS (fun v m₁ => m₁ (Str.ofString "thing") = some v) rfl (.tail _ (.tail _ (.tail _ (.tail _ (.tail _ mem0))))) hR0 (by simp; omega) ?asg (fun p hp => .tail _ (.tail _ (.tail _ (.tail _ (.tail _ hp))))) ?elt) ?fin
    case iter =>
      intro P hP
      k_steps
      exact hP
    case asg =>
      intro i a v C oC mC Z h tk Q E' ha hv hC hC0 hCL F9 N9 hZn hZ hQ
      exact assign_one rfl rfl hC hC0 hCL F9 N9 hZ fun h₁ tk₁ oC₁ m₁ hC₁ hm₁ F₁ N₁ => hQ h₁ tk₁ oC₁ m₁ hC₁ (by rw [hm₁]; simp) F₁ N₁
    case elt =>
      intro i a v I oI C oC D m₂ ys tl h tk E' ha hv hC hT F9 N9
      obtain ⟨a', ha', rfl⟩ := List.mem_map.mp (List.mem_of_getElem? ha)
      obtain ⟨x, hx, rfl⟩ := List.mem_map.mp ha'
      have hx0 := (hns x hx).1
      have hx1 := (hns x hx).2
      have erow : rowS (chrD (.int x)) = .tuple [.str (shownF x), .str (chrS (ctrlF x)), .str (chrS (altF x)), .int (markF x)] := by
        show rowS (.str (chrS x)) = _
        unfold rowS
        rw [code_chr hx0]
      rw [erow]
      cases hv with
      | str _ t =>
      clear hret erow
      k_steps
      refine leaf_tup (by k_asm) (by k_asm) (by assumption) (fun p hp => hp) ?_
      exact .cons (.str _ _) (.cons (.str _ _) (.cons (.str _ _) (.cons (.int _ _) .nil)))
    case fin =>
      intro D1 tl1 ys1 h1 tk1 F1 N1 off1 off1' hD1
      obtain ⟨data1, N1', sub1', mem1, hR1, b1, b2, b3, b4, b5⟩ : ∃ data1, News g' L' h1 ((L' + 1 + 1 + 1 + 1 + 1, oj) :: (L' + 1 + 1 + 1 + 1, op) :: (L' + 1 + 1 + 1, ow) :: (L' + 1 + 1, ot) :: (L' + 1, ok) :: data1) ∧ (∀ p ∈ data0, p ∈ data1) ∧ (D1, listO ys1 ys1.length) ∈ data1 ∧ DatAll data1 ys1 (((ns.map .int).map chrD).map rowS) ∧
          (∀ p ∈ data1, p.1 ≠ L' + 1) ∧ (∀ p ∈ data1, p.1 ≠ L' + 1 + 1) ∧ (∀ p ∈ data1, p.1 ≠ L' + 1 + 1 + 1) ∧ (∀ p ∈ data1, p.1 ≠ L' + 1 + 1 + 1 + 1) ∧ (∀ p ∈ data1, p.1 ≠ L' + 1 + 1 + 1 + 1 + 1) :=
        ⟨_, regroup N1, more_in, .head _, DatAll.mono tl_in hD1, apart_more (off1 _ (.tail _ (.tail _ (.tail _ (.tail _ (.head _)))))) z1, apart_more (off1 _ (.tail _ (.tail _ (.tail _ (.head _))))) z2, apart_more (off1 _ (.tail _ (.tail _ (.head _)))) z3, apart_more (off1 _ (.tail _ (.head _))) z4, apart_more (off1 _ (.head _)) z5⟩
      have sub1 : ∀ p ∈ news, p ∈ data1 := fun p hp => sub1' p (sub0 p hp)
      clear N1 off1 off1' hD1 z1 z2 z3 z4 z5
      k_steps
      unfold Hold
      -- owns
      refine comp_assign (L := L') (ds := (ns.map .int).map ownDD) (news := data1) (cl := []) rfl (by with_unfolding_all rfl) rfl rfl (by with_unfolding_all rfl) (by decide) rfl (by decide) (by with_reducible assumption) (by with_reducible assumption) (.tail _ (.tail _ (.tail _ (.tail _ (.tail _ (sub1 _ hnm)))))) ?iter (runs_one ownDD (fun v m₁ => m₁ (Str.ofString "x") = some v) rfl (.tail _ (.tail _ (.tail _ (.tail _ (.tail _ (sub1 _ hnm)))))) (DatAll.mono sub1 hnd) (by simp; omega) ?asg (fun p hp => .tail _ (.tail _ (.tail _ (.tail _ (.tail _ hp))))) ?elt) ?fin
      case iter =>
        intro P hP
        k_steps
        exact hP
      case asg =>
        intro i a v C oC mC Z h tk Q E' ha hv hC hC0 hCL F9 N9 hZn hZ hQ
        exact assign_one rfl rfl hC hC0 hCL F9 N9 hZ fun h₁ tk₁ oC₁ m₁ hC₁ hm₁ F₁ N₁ => hQ h₁ tk₁ oC₁ m₁ hC₁ (by rw [hm₁]; simp) F₁ N₁
      case elt =>
        intro i a v I oI C oC D m₂ ys tl h tk E' ha hv hC hT F9 N9
        obtain ⟨x, hx, rfl⟩ := List.mem_map.mp (List.mem_of_getElem? ha)
        cases hv with
        | int _ t =>
        clear hret
        k_steps
        exact Back.intro _ (by k_asm) (by k_asm) (fun p hp => hp) (by assumption) (DatIn.mono (fun p hp => List.mem_append_left _ hp) (by assumption))
      case fin =>
        intro D2 tl2 ys2 h2 tk2 F2 N2 off2 off2' hD2
        obtain ⟨data2, N2', sub2, mem2, hR2, c1, c2, c3, c4, c5⟩ : ∃ data2, News g' L' h2 ((L' + 1 + 1 + 1 + 1 + 1, oj) :: (L' + 1 + 1 + 1 + 1, op) :: (L' + 1 + 1 + 1, ow) :: (L' + 1 + 1, ot) :: (L' + 1, ok) :: data2) ∧ (∀ p ∈ data1, p ∈ data2) ∧ (D2, listO ys2 ys2.length) ∈ data2 ∧ DatAll data2 ys2 ((ns.map .int).map ownDD) ∧
            (∀ p ∈ data2, p.1 ≠ L' + 1) ∧ (∀ p ∈ data2, p.1 ≠ L' + 1 + 1) ∧ (∀ p ∈ data2, p.1 ≠ L' + 1 + 1 + 1) ∧ (∀ p ∈ data2, p.1 ≠ L' + 1 + 1 + 1 + 1) ∧ (∀ p ∈ data2, p.1 ≠ L' + 1 + 1 + 1 + 1 + 1) :=
          ⟨_, regroup N2, more_in, .head _, DatAll.mono tl_in hD2, apart_more (off2 _ (.tail _ (.tail _ (.tail _ (.tail _ (.head _)))))) b1, apart_more (off2 _ (.tail _ (.tail _ (.tail _ (.head _))))) b2, apart_more (off2 _ (.tail _ (.tail _ (.head _)))) b3, apart_more (off2 _ (.tail _ (.head _))) b4, apart_more (off2 _ (.head _)) b5⟩
        clear N2 off2 off2' hD2 b1 b2 b3 b4 b5
        k_steps
        unfold Hold
        -- written
        refine comp_eval (L := L') (ds := ((ns.map .int).map ownDD).map wrD) (news := data2) (cl := [(Str.ofString "texts", L' + 1 + 1)]) (by with_unfolding_all rfl) (by decide) rfl (by decide) (by with_reducible assumption) (by with_reducible assumption) (.tail _ (.tail _ (.tail _ (.tail _ (.tail _ mem2))))) ?iter (runs_one wrD (fun v m₁ => m₁ (Str.ofString "own") = some v) rfl (.tail _ (.tail _ (.tail _ (.tail _ (.tail _ mem2))))) hR2 (by simp; omega) ?asg (fun p hp => .tail _ (.tail _ (.tail _ (.tail _ (.tail _ hp))))) ?elt) ?fin
        case iter =>
          intro P hP
          k_steps
          exact hP
        case asg =>
          intro i a v C oC mC Z h tk Q E' ha hv hC hC0 hCL F9 N9 hZn hZ hQ
          exact assign_one rfl rfl hC hC0 hCL F9 N9 hZ fun h₁ tk₁ oC₁ m₁ hC₁ hm₁ F₁ N₁ => hQ h₁ tk₁ oC₁ m₁ hC₁ (by rw [hm₁]; simp) F₁ N₁
        case elt =>
          intro i a v I oI C oC D m₂ ys tl h tk E' ha hv hC hT F9 N9
          obtain ⟨a', ha', rfl⟩ := List.mem_map.mp (List.mem_of_getElem? ha)
          obtain ⟨x, hx, rfl⟩ := List.mem_map.mp ha'
          obtain ⟨t, n, t1, t2, t3, t4, rfl, ht⟩ := own_open hv
          have hp0 := place_lo x
          have hp1 := place_hi x
          obtain ⟨tv, htv, htD⟩ := texts_at (DatAll.mono sub2 (DatAll.mono sub1 hxd)) hp0 hp1
          clear hret
          have N10 := News.bring (News.bring (News.bring N9 (List.Mem.tail _ (List.Mem.tail _ (List.Mem.tail _ (List.mem_append_right _ (.tail _ (.tail _ (.tail _ (.tail _ (.tail _ (sub2 _ (sub1 _ hxm)))))))))))) (List.Mem.tail _ (List.Mem.tail _ (List.Mem.tail _ (List.Mem.tail _ (List.mem_append_right _ (.tail _ (.tail _ (.tail _ (.tail _ (.tail _ ht))))))))))) (List.Mem.tail _ (List.Mem.tail _ (List.Mem.tail _ (List.Mem.tail _ (List.Mem.tail _ (List.mem_append_right _ (.tail _ (.tail _ (.tail _ (.head _))))))))))
          clear N9
          cases htD with
          | str _ t9 =>
          k_steps
          refine leaf_tup (by k_asm) (by k_asm) (by assumption) (fun p hp => .tail _ (.tail _ (.tail _ hp))) ?_
          exact .cons (.str _ _) (.cons (.int _ _) (.cons (.int _ _) (.cons (.int _ _) .nil)))
        case fin =>
          intro Dw tlw ysw hw tkw Fw Nw offw offw' hDw
          obtain ⟨dataw, Nw', subw, memw, hRw, w1, w2, w3, w4, w5⟩ : ∃ dataw, News g' L' hw ((L' + 1 + 1 + 1 + 1 + 1, oj) :: (L' + 1 + 1 + 1 + 1, op) :: (L' + 1 + 1 + 1, ow) :: (L' + 1 + 1, ot) :: (L' + 1, ok) :: dataw) ∧ (∀ p ∈ data2, p ∈ dataw) ∧ (Dw, listO ysw ysw.length) ∈ dataw ∧ DatAll dataw ysw (((ns.map .int).map ownDD).map wrD) ∧
              (∀ p ∈ dataw, p.1 ≠ L' + 1) ∧ (∀ p ∈ dataw, p.1 ≠ L' + 1 + 1) ∧ (∀ p ∈ dataw, p.1 ≠ L' + 1 + 1 + 1) ∧ (∀ p ∈ dataw, p.1 ≠ L' + 1 + 1 + 1 + 1) ∧ (∀ p ∈ dataw, p.1 ≠ L' + 1 + 1 + 1 + 1 + 1) :=
            ⟨_, regroup Nw, more_in, .head _, DatAll.mono tl_in hDw, apart_more (offw _ (.tail _ (.tail _ (.tail _ (.tail _ (.head _)))))) c1, apart_more (offw _ (.tail _ (.tail _ (.tail _ (.head _))))) c2, apart_more (offw _ (.tail _ (.tail _ (.head _)))) c3, apart_more (offw _ (.tail _ (.head _))) c4, apart_more (offw _ (.head _)) c5⟩
          clear Nw offw offw' hDw c1 c2 c3 c4 c5
          k_steps
          unfold Hold
          -- written, the second time
          refine comp_eval (L := L') (ds := (((ns.map .int).map ownDD).map wrD).map wr2D) (news := dataw) (cl := []) (by with_unfolding_all rfl) (by decide) rfl (by decide) (by with_reducible assumption) (by with_reducible assumption) (.tail _ (.tail _ (.tail _ (.tail _ (.tail _ (memw)))))) ?iter (runs_one wr2D (FourT dataw) rfl (.tail _ (.tail _ (.tail _ (.tail _ (.tail _ (memw)))))) hRw (by simp; omega) ?asg (fun p hp => .tail _ (.tail _ (.tail _ (.tail _ (.tail _ (hp)))))) ?elt) ?fin
          case iter =>
            intro P hP
            k_steps
            exact hP
          case asg =>
            intro i a v C oC mC Z h tk Q E' ha hv hC hC0 hCL F9 N9 hZn hZ hQ
            obtain ⟨x, hx, rfl⟩ := wr_mem ha
            obtain ⟨t, n, t1, t2, t3, t4, rfl, ht⟩ := wr_open hv
            exact assign_four rfl rfl rfl rfl rfl rfl hC hC0 hCL F9 N9 (hZn _ ht) hZ fun h₁ tk₁ oC₁ m₁ hC₁ hm₁ F₁ N₁ => hQ h₁ tk₁ oC₁ m₁ hC₁ ⟨t, n, _, _, _, _, t1, t2, t3, t4, rfl, ht, by rw [hm₁]; rfl, by rw [hm₁]; rfl, by rw [hm₁]; rfl, by rw [hm₁]; rfl⟩ F₁ N₁
          case elt =>
            intro i a v I oI C oC D m₂ ys tl h tk E' ha hv hC hT F9 N9
            obtain ⟨x, hx, rfl⟩ := wr_mem ha
            obtain ⟨t, n, s0, c0, a0, k0, t1, t2, t3, t4, rfl, ht, hm1, hm2, hm3, hm4⟩ := hT
            obtain ⟨rfl, rfl, rfl, rfl⟩ := wr_same N9 (.tail _ (.tail _ (.tail _ (List.mem_append_right _ (.tail _ (.tail _ (.tail _ (.tail _ (.tail _ (ht)))))))))) hv (fun p hp => .tail _ (.tail _ (.tail _ (List.mem_append_right _ (.tail _ (.tail _ (.tail _ (.tail _ (.tail _ (hp))))))))))
            have hx0 := (hns x hx).1
            have hx1 := (hns x hx).2
            have hc0 : 0 ≤ ctrlF x := Int.emod_nonneg _ (by decide)
            have hc1 : ctrlF x ≤ 31 := by have := Int.emod_lt_of_pos x (b := 32) (by decide); unfold ctrlF; omega
            have hal0 : 0 ≤ altF x := by unfold altF; omega
            have hal1 : altF x ≤ 1114111 := by unfold altF; omega
            clear hret
            k_steps
            refine leaf_tup (by k_asm) (by k_asm) (by assumption) (fun p hp => hp) ?_
            exact .cons (.str _ _) (.cons (.str _ _) (.cons (.str _ _) (.cons (.int _ _) .nil)))
          case fin =>
            intro D3 tl3 ys3 h3 tk3 F3 N3 off3 off3' hD3
            rename _ = Data.cell (some (Value.ref Dw)) => dww
            obtain ⟨data3, ow3, dw3, N3', sub3', mem3, hR3, d1, d2, d3, d4, d5⟩ : ∃ data3 ow3, ow3.data = .cell (some (.ref Dw)) ∧ News g' L' h3 ((L' + 1 + 1 + 1 + 1 + 1, oj) :: (L' + 1 + 1 + 1 + 1, op) :: (L' + 1 + 1 + 1, ow3) :: (L' + 1 + 1, ot) :: (L' + 1, ok) :: data3) ∧ (∀ p ∈ dataw, p ∈ data3) ∧ (D3, listO ys3 ys3.length) ∈ data3 ∧ DatAll data3 ys3 ((((ns.map .int).map ownDD).map wrD).map wr2D) ∧
                (∀ p ∈ data3, p.1 ≠ L' + 1) ∧ (∀ p ∈ data3, p.1 ≠ L' + 1 + 1) ∧ (∀ p ∈ data3, p.1 ≠ L' + 1 + 1 + 1) ∧ (∀ p ∈ data3, p.1 ≠ L' + 1 + 1 + 1 + 1) ∧ (∀ p ∈ data3, p.1 ≠ L' + 1 + 1 + 1 + 1 + 1) :=
              ⟨_, _, dww, regroup N3, more_in, .head _, DatAll.mono tl_in hD3, apart_more (off3 _ (.tail _ (.tail _ (.tail _ (.tail _ (.head _)))))) w1, apart_more (off3 _ (.tail _ (.tail _ (.tail _ (.head _))))) w2, apart_more (off3 _ (.tail _ (.tail _ (.head _)))) w3, apart_more (off3 _ (.tail _ (.head _))) w4, apart_more (off3 _ (.head _)) w5⟩
            have sub3 : ∀ p ∈ data2, p ∈ data3 := fun p hp => sub3' p (subw p hp)
            clear N3 off3 off3' hD3 w1 w2 w3 w4 w5 dww
            k_steps
            unfold Hold
            -- places
            refine comp_cell (L := L') (src := (ns.map .int).map ownDD) (news := data3) (cl := [(Str.ofString "keys", L' + 1)]) (plD ks) (by with_unfolding_all rfl) (fun _ => rfl) (fun _ => rfl) rfl (by decide) (fun _ _ => rfl) rfl (by with_reducible assumption) (by with_reducible assumption) (.tail _ (.tail _ (.tail _ (.tail _ (.tail _ (sub3 _ mem2)))))) (DatAll.mono sub3 hR2) (by simp; omega) ?iter ?elt ?fin
            case iter =>
              intro P hP
              k_steps
              exact hP
            case elt =>
              intro i a v I oI C oC D c oc ys tl h tk E' ha hv hoc F9 N9
              obtain ⟨a', ha', rfl⟩ := List.mem_map.mp (List.mem_of_getElem? ha)
              obtain ⟨x, hx, rfl⟩ := List.mem_map.mp ha'
              obtain ⟨t, n, t1, t2, t3, t4, rfl, ht⟩ := own_open hv
              clear hret
              have N10 := News.bring (News.bring N9 (List.Mem.tail _ (List.Mem.tail _ (List.Mem.tail _ (List.Mem.head _))))) (List.Mem.tail _ (List.Mem.tail _ (List.Mem.tail _ (List.Mem.tail _ (List.Mem.tail _ (List.mem_append_right _ (.tail _ (.tail _ (.tail _ (.tail _ (.head _))))))))))) 
              clear N9
              k_steps
              unfold Hold
              have hkd' : DatAll (tl ++ data3) kvs (keysD ks) := DatAll.mono (fun p hp => List.mem_append_right _ (sub3 _ (sub2 _ (sub1 _ hp)))) hkd
              have hkm' := sub3 _ (sub2 _ (sub1 _ hkm))
              refine comp_eval (L := L') (news := tl ++ data3) (ds := (keysD ks).map (cellD (ownDD (.int x)))) (cl := [(Str.ofString "own", c)]) (by with_unfolding_all rfl) (by decide) rfl (by decide) (by with_reducible assumption) (by with_reducible assumption) (.tail _ (.tail _ (.tail _ (.tail _ (.tail _ (.tail _ (in5 _ (List.mem_append_right _ hkm')))))))) ?iter2 (runs_one (cellD (ownDD (.int x))) (KeyT (tl ++ data3)) rfl (.tail _ (.tail _ (.tail _ (.tail _ (.tail _ (.tail _ (in5 _ (List.mem_append_right _ hkm')))))))) hkd' (by simp [keysD]; omega) ?asg2 (fun p hp => .tail _ (.tail _ (.tail _ (.tail _ (.tail _ (.tail _ (in5 p hp))))))) ?elt2) ?fin2
              case iter2 =>
                intro P hP
                k_steps
                exact hP
              case asg2 =>
                intro i2 b w2 C2 oC2 mC Z h2 tk2 Q2 E2 hb hw hC2 hC0 hCL F10 N11 hZn hZ hQ
                obtain ⟨k2, _, rfl⟩ := List.mem_map.mp (List.mem_of_getElem? hb)
                obtain ⟨tw, nw, u1, u2, rfl, htw⟩ := key_open hw
                exact assign_two rfl rfl rfl rfl hC2 hC0 hCL F10 N11 (hZn _ htw) hZ fun h₁ tk₁ oC₁ m₁ hC₁ hm₁ F₁ N₁ => hQ h₁ tk₁ oC₁ m₁ hC₁ ⟨tw, nw, _, _, u1, u2, rfl, htw, by rw [hm₁]; rfl, by rw [hm₁]; rfl⟩ F₁ N₁
              case elt2 =>
                intro i2 b w2 I2 oI2 C2 oC2 D2 m₂ ys2 tl2 h2 tk2 E2 hb hw hC2 hT2 F10 N11
                obtain ⟨k2, hk2, rfl⟩ := List.mem_map.mp (List.mem_of_getElem? hb)
                obtain ⟨tw, nw, j1, j2, u1, u2, rfl, htw, hm1, hm2⟩ := hT2
                obtain ⟨rfl, rfl⟩ := key_same N11 (.tail _ (.tail _ (.tail _ (List.mem_append_right _ (.tail _ (.tail _ (.tail _ (.tail _ (.tail _ (.tail _ (in5 _ htw))))))))))) hw (fun p hp => .tail _ (.tail _ (.tail _ (List.mem_append_right _ (.tail _ (.tail _ (.tail _ (.tail _ (.tail _ (.tail _ (in5 _ hp)))))))))))
                have N12 := News.bring (News.bring N11 (.tail _ (.tail _ (.tail _ (List.mem_append_right _ (.tail _ (.head _))))))) (.tail _ (.tail _ (.tail _ (.tail _ (List.mem_append_right _ (.tail _ (.tail _ (.tail _ (.tail _ (.tail _ (.tail _ (in5 _ (List.mem_append_right _ ht)))))))))))))
                clear N11
                have hk4 := (hks k2 hk2).1
                have hs1 : seqIndex? (k2.1 : Int) [Value.int (placeF x) t1, Value.int (ctrlF x) t2, Value.int (altF x) t3, Value.int (markF x) t4].length = some k2.1 := seqIdx hk4
                obtain ⟨tc, htc⟩ := own_cell x t1 t2 t3 t4 hk4
                have hwy := (hks k2 hk2).2
                k_steps
                exact Back.intro [] (by k_asm) (by k_asm) (fun p hp => .tail _ (.tail _ hp)) (fun _ _ _ hp => nomatch hp) (.int _ _)
              case fin2 =>
                intro D4 tl4 ys4 h4 tk4 F4 N4 off4 off4' hD4
                have hl4 : ys4.length ≤ 16 := by rw [hD4.length, List.length_map, keysD, List.length_map]; omega
                k_steps
                refine leaf_tupOf (by k_asm) (by k_asm) (by assumption) off4 (fun p hp => .tail _ (.tail _ hp)) ?_
                have e : (keysD ks).map (cellD (ownDD (.int x))) = (ks.map fun k => (cellsI (ownDD (.int x))).getD k.1 0 * k.2).map .int := by
                  simp only [keysD, List.map_map]; rfl
                rw [← e]; exact hD4
            case fin =>
              intro D4 tl4 ys4 h4 tk4 F4 N4 off4 off4' hD4
              rename _ = Data.cell (some (Value.ref D3)) => dw'
              obtain ⟨data4, ow', dw4, N4', sub4, mem4, hR4, e1, e2, e3, e4, e5⟩ : ∃ data4 ow', ow'.data = .cell (some (.ref D3)) ∧ News g' L' h4 ((L' + 1 + 1 + 1 + 1 + 1, oj) :: (L' + 1 + 1 + 1 + 1, op) :: (L' + 1 + 1 + 1, ow') :: (L' + 1 + 1, ot) :: (L' + 1, ok) :: data4) ∧ (∀ p ∈ data3, p ∈ data4) ∧ (D4, listO ys4 ys4.length) ∈ data4 ∧ DatAll data4 ys4 (((ns.map .int).map ownDD).map (plD ks)) ∧
                  (∀ p ∈ data4, p.1 ≠ L' + 1) ∧ (∀ p ∈ data4, p.1 ≠ L' + 1 + 1) ∧ (∀ p ∈ data4, p.1 ≠ L' + 1 + 1 + 1) ∧ (∀ p ∈ data4, p.1 ≠ L' + 1 + 1 + 1 + 1) ∧ (∀ p ∈ data4, p.1 ≠ L' + 1 + 1 + 1 + 1 + 1) :=
                ⟨_, _, dw', regroup N4, more_in, .head _, DatAll.mono tl_in hD4, apart_more (off4 _ (.tail _ (.tail _ (.tail _ (.tail _ (.head _)))))) d1, apart_more (off4 _ (.tail _ (.tail _ (.tail _ (.head _))))) d2, apart_more (off4 _ (.tail _ (.tail _ (.head _)))) d3, apart_more (off4 _ (.tail _ (.head _))) d4, apart_more (off4 _ (.head _)) d5⟩
              clear N4 off4 off4' hD4 d1 d2 d3 d4 d5 dw'
              k_steps
              unfold Hold
              rename _ = Data.cell (some (Value.ref D4)) => dp'
              k_dflt (refine' judge_ok _ _ _ _ _ _ _ _ _ _ _ _ _ _ _ _ _ _ _ _ _ _ _ ?kB ?kF ?kI ?kN ?kT ?kK ?kd ?ku ?_; (case kB => k_asm); (case kF => k_asm); (case kI => k_asm); (case kN => k_asm); (case kT => k_asm); (case kK => exact rfl); (case kd => ((try simp only [depth_under_make, depth_under_kw, depth_in1, depth_deeper, depth_caller]); omega)); (case ku => ((try simp only [units_deeper, units_in1]); omega)))
              intro j dj nj hsj tkj h5 tk5 F5 N5 ne5
              obtain ⟨data5, op', dp5, N5', sub5, memj, memd, q1, q2, q3, q4, q5⟩ : ∃ data5 op', op'.data = .cell (some (.ref D4)) ∧ News g' L' h5 ((L' + 1 + 1 + 1 + 1 + 1, oj) :: (L' + 1 + 1 + 1 + 1, op') :: (L' + 1 + 1 + 1, ow') :: (L' + 1 + 1, ot) :: (L' + 1, ok) :: data5) ∧ (∀ p ∈ data4, p ∈ data5) ∧ (j, instObj 122 dj) ∈ data5 ∧ (dj, dictOf [⟨hsj, .str (Str.ofString "comp_select_list") tkj, .ref kl⟩] nj) ∈ data5 ∧
                  (∀ p ∈ data5, p.1 ≠ L' + 1) ∧ (∀ p ∈ data5, p.1 ≠ L' + 1 + 1) ∧ (∀ p ∈ data5, p.1 ≠ L' + 1 + 1 + 1) ∧ (∀ p ∈ data5, p.1 ≠ L' + 1 + 1 + 1 + 1) ∧ (∀ p ∈ data5, p.1 ≠ L' + 1 + 1 + 1 + 1 + 1) :=
                ⟨_, _, dp', regroup2 N5, fun p hp => .tail _ (.tail _ hp), .head _, .tail _ (.head _), apart_two (ne5 _ (.tail _ (.tail _ (.tail _ (.tail _ (.head _)))))) e1, apart_two (ne5 _ (.tail _ (.tail _ (.tail _ (.head _))))) e2, apart_two (ne5 _ (.tail _ (.tail _ (.head _)))) e3, apart_two (ne5 _ (.tail _ (.head _))) e4, apart_two (ne5 _ (.head _)) e5⟩
              clear N5 ne5 e1 e2 e3 e4 e5 dp'
              (try dsimp only)
              k_steps
              unfold Hold
              rename _ = Data.cell (some (Value.ref j)) => dj'
              have hRow : DatAll data5 ys1 (((ns.map .int).map chrD).map rowS) := DatAll.mono (fun p hp => sub5 _ (sub4 _ (sub3 _ (sub2 _ hp)))) hR1
              have hWr : DatAll data5 ys3 ((((ns.map .int).map ownDD).map wrD).map wr2D) := DatAll.mono (fun p hp => sub5 _ (sub4 _ hp)) hR3
              have hPl : DatAll data5 ys4 (((ns.map .int).map ownDD).map (plD ks)) := DatAll.mono sub5 hR4
              have hKy : DatAll data5 kvs (keysD ks) := DatAll.mono (fun p hp => sub5 _ (sub4 _ (sub3 _ (sub2 _ (sub1 _ hp))))) hkd
              have mRow := sub5 _ (sub4 _ (sub3 _ (sub2 _ mem1)))
              have mWr := sub5 _ (sub4 _ mem3)
              have mPl := sub5 _ mem4
              have mKy := sub5 _ (sub4 _ (sub3 _ (sub2 _ (sub1 _ hkm))))
              -- told
              refine comp_assign (L := L') (news := data5) (ds := (((ns.map .int).map chrD).map rowS).flatMap fun a => ((((ns.map .int).map ownDD).map wrD).map wr2D).map (cmpD ks a)) (cl := [(Str.ofString "written", L' + 1 + 1 + 1), (Str.ofString "judge", L' + 1 + 1 + 1 + 1 + 1)]) rfl (by with_unfolding_all rfl) rfl rfl (by with_unfolding_all rfl) (by decide) rfl (by decide) (by with_reducible assumption) (by with_reducible assumption) (.tail _ (.tail _ (.tail _ (.tail _ (.tail _ mRow))))) ?iter (runs_two (cmpD ks) rfl rfl rfl (by decide) rfl (.tail _ (.tail _ (.tail _ (.tail _ (.tail _ mRow))))) hRow (.tail _ (.tail _ (.tail _ (.tail _ (.tail _ mWr))))) hWr (by simp; omega) (by simp; omega) ?iter1 ?elt (fun _ _ => rfl)) ?fin
              case iter =>
                intro P hP
                k_steps
                exact hP
              case iter1 =>
                intro C oC mC Z h tk P E' hC F9 N9 hZ hP
                have N10 := News.bring N9 (.tail _ (hZ _ (.tail _ (.tail _ (.head _)))))
                clear N9 hret
                k_steps
                exact hP
              case elt =>
                intro i jj a u b v I oI I0 oI0 C oC D m₂ ys tl h tk E' ha hu hb hv hC hmx hmy F9 N9
                obtain ⟨x, y, Ls, Rs, ta, na, tb, nb, vsa, vsb, rfl, rfl, rfl, rfl, hta, htb, hda, hdb, hLl, hRl, hkn⟩ := rows_openS ha hb hu hv
                have N10 := News.bring N9 (.tail _ (.tail _ (.tail _ (List.mem_append_right _ (.tail _ (.head _))))))
                have N11 := News.bring N10 (.tail _ (.tail _ (.tail _ (.tail _ (in6 _ htb)))))
                have N12 := News.bring N11 (.tail _ (.tail _ (.tail _ (.tail _ (.tail _ (in6 _ hta))))))
                have N13 := News.bring N12 (.tail _ (.tail _ (.tail _ (.tail _ (.tail _ (.tail _ (in6 _ mKy)))))))
                have N14 := News.bring N13 (.tail _ (.tail _ (.tail _ (.tail _ (.tail _ (.tail _ (.tail _ (in6 _ memd))))))))
                have N15 := News.bring N14 (.tail _ (.tail _ (.tail _ (.tail _ (.tail _ (.tail _ (.tail _ (.tail _ (in6 _ memj)))))))))
                clear N9 N10 N11 N12 N13 N14 hret
                k_steps
                unfold Hold
                k_dflt (refine' compare_ok _ _ _ _ _ j dj kl ta tb hsj tkj kn na nb nj kvs vsa vsb ks Ls Rs ?h1 ?h2 ?h3 hLl hRl (fun k hk => ⟨(hks k hk).1, hkn k.1 (hks k hk).1⟩) _ _ _ _ _ _ _ _ _ _ _ _ _ _ _ _ _ ?kB ?kF ?kI ?kN ?kT ?kK ?kd ?ku ?_; (case kB => k_asm); (case kF => k_asm); (case kI => k_asm); (case kN => k_asm); (case h1 => exact DatAll.mono (fun p hp => .tail _ (.tail _ (.tail _ (.tail _ (in6 p hp))))) hKy); (case h2 => exact DatAll.mono (fun p hp => .tail _ (.tail _ (.tail _ (.tail _ (in6 p hp))))) hda); (case h3 => exact DatAll.mono (fun p hp => .tail _ (.tail _ (.tail _ (.tail _ (in6 p hp))))) hdb); (case kT => k_asm); (case kK => exact rfl); (case kd => ((try simp only [depth_under_make, depth_under_kw, depth_in1, depth_deeper, depth_caller]); omega)); (case ku => ((try simp only [units_deeper, units_in1]); omega)))
                intro t9 h9 tk9 F9 N9
                exact Back.intro [] (by k_asm) (by k_asm) (fun p hp => .tail _ (.tail _ (.tail _ (.tail _ (.tail _ (.tail _ hp)))))) (fun _ _ _ hp => nomatch hp) (.int _ _)
              case fin =>
                intro D6 tl6 ys6 h6 tk6 F6 N6 off6 off6' hD6
                obtain ⟨data6, oj', dj6, N6', sub6, mem6, hR6⟩ : ∃ data6 oj', oj'.data = .cell (some (.ref j)) ∧ News g' L' h6 ((L' + 1 + 1 + 1 + 1 + 1, oj') :: (L' + 1 + 1 + 1 + 1, op') :: (L' + 1 + 1 + 1, ow') :: (L' + 1 + 1, ot) :: (L' + 1, ok) :: data6) ∧ (∀ p ∈ data5, p ∈ data6) ∧ (D6, listO ys6 ys6.length) ∈ data6 ∧ IntsAre ys6 (toldS ks ns) :=
                  ⟨_, _, dj', regroup N6, more_in, .head _, told_intsS hD6⟩
                clear N6 off6 off6' hD6 q1 q2 q3 q4 q5 dj'
                k_steps
                unfold Hold
                have hPl6 := DatAll.mono sub6 hPl
                have mPl6 := sub6 _ mPl
                refine comp_eval (L := L') (news := data6) (ds := (((ns.map .int).map ownDD).map (plD ks)).flatMap fun a => (((ns.map .int).map ownDD).map (plD ks)).map (ordD a)) (cl := [(Str.ofString "places", L' + 1 + 1 + 1 + 1)]) (by with_unfolding_all rfl) (by decide) rfl (by decide) (by with_reducible assumption) (by with_reducible assumption) (.tail _ (.tail _ (.tail _ (.tail _ (.tail _ mPl6))))) ?iter (runs_two ordD rfl rfl rfl (by decide) rfl (.tail _ (.tail _ (.tail _ (.tail _ (.tail _ mPl6))))) hPl6 (.tail _ (.tail _ (.tail _ (.tail _ (.tail _ mPl6))))) hPl6 (by simp; omega) (by simp; omega) ?iter1 ?elt (fun _ _ => rfl)) ?fin
                case iter =>
                  intro P hP
                  k_steps
                  exact hP
                case iter1 =>
                  intro C oC mC Z h tk P E' hC F9 N9 hZ hP
                  have N10 := News.bring N9 (.tail _ (hZ _ (.tail _ (.head _))))
                  clear N9 hret
                  k_steps
                  exact hP
                case elt =>
                  intro i jj a u b v I oI I0 oI0 C oC D m₂ ys tl h tk E' ha hu hb hv hC hmx hmy F9 N9
                  obtain ⟨x, hx, rfl⟩ := places_open ha
                  obtain ⟨y, hy, rfl⟩ := places_open hb
                  obtain ⟨ta, na, vsa, rfl, hta, hda⟩ := tup_open hu
                  obtain ⟨tb, nb, vsb, rfl, htb, hdb⟩ := tup_open hv
                  have hia := ints_of hda
                  have hib := ints_of hdb
                  clear hret
                  k_steps
                  unfold Hold
                  k_dflt (refine' order_ok _ _ _ _ _ ta tb na nb vsa vsb _ _ ?h1 ?h2 hia hib ?h3 _ _ _ _ _ _ _ _ _ _ _ _ _ _ _ _ _ ?kB ?kF ?kI ?kN ?kT ?kK ?kd ?ku ?_; (case kB => k_asm); (case kF => k_asm); (case kI => k_asm); (case kN => k_asm); (case h1 => exact .tail _ (.tail _ (.tail _ (in6 _ hta)))); (case h2 => exact .tail _ (.tail _ (.tail _ (in6 _ htb)))); (case h3 => (simp only [placeL, List.length_map])); (case kT => k_asm); (case kK => exact rfl); (case kd => ((try simp only [depth_under_make, depth_under_kw, depth_in1, depth_deeper, depth_caller]); omega)); (case ku => ((try simp only [units_deeper, units_in1]); omega)))
                  intro t9 h9 tk9 F9 N9
                  refine Back.intro [] (by k_asm) (by k_asm) (fun p hp => hp) (fun _ _ _ hp => nomatch hp) ?_
                  rw [ord_eq]
                  exact .int _ _
                case fin =>
                  intro D7 tl7 ys7 h7 tk7 F7 N7 off7 off7' hD7
                  have hi7 := order_ints hD7
                  have m6 : (D6, listO ys6 ys6.length) ∈ (D7, lst ys7) :: (tl7 ++ ((L' + 1 + 1 + 1 + 1 + 1, oj') :: (L' + 1 + 1 + 1 + 1, op') :: (L' + 1 + 1 + 1, ow') :: (L' + 1 + 1, ot) :: (L' + 1, ok) :: data6)) := .tail _ (List.mem_append_right _ (.tail _ (.tail _ (.tail _ (.tail _ (.tail _ mem6))))))
                  k_steps
                  unfold Hold
                  k_dflt (refine ke_eq_ints ⟨_, (N7 _ m6).1, rfl, _, rfl⟩ ⟨_, (N7 _ (.head _)).1, rfl, _, rfl⟩ hR6 hi7 (by simp only [units_deeper, cLine]; omega) ?_)
                  rw [decide_eq_true (agree_plainS ks ns hks hns)]
                  replace N7 : News g' L' h7 news := fun p hp => N7 p (.tail _ (List.mem_append_right _ (.tail _ (.tail _ (.tail _ (.tail _ (.tail _ (sub6 _ (sub5 _ (sub4 _ (sub3 _ (sub2 _ (sub1 _ hp)))))))))))))
                  k_steps
                  all_goals exact hret 0 _ _ (by k_asm) (by k_asm)
end Mine

namespace Mine
open LCg
end Mine
namespace Mine
open LCg
theorem list_open {data : List (Addr × Obj)} {v : Value} {ds : List Dat} (h : DatIn data v (.list ds)) : ∃ l n vs, v = .ref l ∧ (l, listO vs n) ∈ data ∧ DatAll data vs ds := by
  cases h with
  | list hm hall => exact ⟨_, _, _, rfl, hm, hall⟩
def modD : Dat → Dat
  | .int x => .int (x.fmod 256)
  | d => d
def codeD : Dat → Dat
  | .int x => .int (codeF x)
  | d => d
theorem opening_dat {data : List (Addr × Obj)} {ws : List Value} {ms : List Int} {a : Int} {t : Tok} (h : IntsAre ws ms) : DatAll data (ws ++ [.int a t]) ((ms ++ [a]).map .int) := by
  rw [List.map_append]
  refine DatAll.append ?_ (.cons (.int _ _) .nil)
  induction h with
  | nil => exact .nil
  | cons i t r ih => exact .cons (.int _ _) ih
theorem mod_flat (l : List Int) : ∀ d ∈ (l.map Dat.int).map modD, flatD d = true := by
  intro d hd
  obtain ⟨e, he, rfl⟩ := List.mem_map.mp hd
  obtain ⟨x, _, rfl⟩ := List.mem_map.mp he
  rfl
def drawnL (ns : List Int) : List Int := (ns.take 2 ++ [ns.sum]) ++ (ns.take 2 ++ [ns.sum]).map fun x => x.fmod 256
theorem drawn_len (ns : List Int) : (drawnL ns).length ≤ 8 := by simp [drawnL]; omega
theorem drawn_dat {data : List (Addr × Obj)} {ws ys : List Value} {ns : List Int} {t : Tok} (h : IntsAre ws (ns.take 2)) (h2 : DatAll [] ys (((ns.take 2 ++ [ns.sum]).map .int).map modD)) : DatAll data (ws ++ [.int ns.sum t] ++ ys) ((drawnL ns).map .int) := by
  have e : (drawnL ns).map Dat.int = (ns.take 2 ++ [ns.sum]).map .int ++ ((ns.take 2 ++ [ns.sum]).map .int).map modD := by
    unfold drawnL
    rw [List.map_append, List.map_map, List.map_map]
    rfl
  rw [e]
  exact DatAll.append (opening_dat h) (DatAll.mono (fun _ h => absurd h List.not_mem_nil) h2)
theorem code_flat (l : List Int) : ∀ d ∈ (l.map Dat.int).map codeD, flatD d = true := by
  intro d hd
  obtain ⟨e, he, rfl⟩ := List.mem_map.mp hd
  obtain ⟨x, _, rfl⟩ := List.mem_map.mp he
  rfl
theorem code_dat {data : List (Addr × Obj)} {ys : List Value} {l : List Int} (h : DatAll data ys ((l.map .int).map codeD)) : DatAll data ys ((l.map codeF).map .int) := by
  have e : (l.map codeF).map Dat.int = (l.map .int).map codeD := by rw [List.map_map, List.map_map]; rfl
  rw [e]; exact h
theorem code_fit (ns : List Int) : ∀ x ∈ (drawnL ns).map codeF, 0 ≤ x ∧ x ≤ 1114111 := by
  intro x hx
  obtain ⟨y, _, rfl⟩ := List.mem_map.mp hx
  have h0 : 0 ≤ y % 1112064 := Int.emod_nonneg _ (by decide)
  have h1 : y % 1112064 < 1112064 := Int.emod_lt_of_pos _ (by decide)
  unfold codeF
  split <;> omega
def keysL (total : Int) : List (Nat × Int) := (rangeKs 0 (colsF total).length).map fun k => (((colsF total).getD k.toNat 0).toNat, wayF total k)
theorem cols_fit (total : Int) (j : Nat) : 0 ≤ (colsF total).getD j 0 ∧ (colsF total).getD j 0 < 4 := by
  have all : ∀ c ∈ colsF total, 0 ≤ c ∧ c < 4 := by
    intro c hc
    unfold colsF at hc
    rcases List.mem_append.mp hc with hc | hc
    · obtain ⟨k, _, rfl⟩ := List.mem_map.mp hc
      unfold colF
      rw [fm4]
      exact ⟨Int.emod_nonneg _ (by decide), Int.emod_lt_of_pos _ (by decide)⟩
    · simp only [List.mem_cons, List.not_mem_nil, or_false] at hc
      omega
  rw [List.getD_eq_getElem?_getD]
  cases h : (colsF total)[j]? with
  | none => exact ⟨by decide, by decide⟩
  | some c => exact all c (List.mem_of_getElem? h)
theorem keys_eq (total : Int) : (rangeKs 0 (colsF total).length).map (keyD total) = keysD (keysL total) := by
  unfold keysD keysL
  rw [List.map_map]
  refine List.map_congr_left fun k _ => ?_
  have h := (cols_fit total k.toNat).1
  show Dat.tuple [.int _, .int _] = Dat.tuple [.int _, .int _]
  rw [Int.toNat_of_nonneg h]
theorem keys_len (total : Int) : (keysL total).length ≤ 8 := by
  unfold keysL
  rw [List.length_map, rangeKs_length]
  have := cols_len total
  omega
theorem keys_fit (total : Int) : ∀ k ∈ keysL total, k.1 < 4 ∧ (k.2 = 1 ∨ k.2 = -1) := by
  intro k hk
  obtain ⟨j, _, rfl⟩ := List.mem_map.mp hk
  have h := cols_fit total j.toNat
  refine ⟨by show Int.toNat _ < 4; omega, ?_⟩
  show wayF total j = 1 ∨ wayF total j = -1
  unfold wayF
  rw [fm2]
  have h0 := Int.emod_nonneg (total.fdiv (3 ^ (j + 1).toNat)) (b := 2) (by decide)
  have h1 := Int.emod_lt_of_pos (total.fdiv (3 ^ (j + 1).toNat)) (b := 2) (by decide)
  omega
theorem cut0 {h₀ h : Heap} {L D : Addr} {ys : List Value} {tl data : List (Addr × Obj)} (N : News h₀ L h ((D, lst ys) :: (tl ++ data))) : News h₀ L h ((D, listO ys ys.length) :: data) := fun p hp => N p (by
  rcases List.mem_cons.mp hp with rfl | hp
  · exact .head _
  · exact .tail _ (List.mem_append_right _ hp))
theorem cut3 {h₀ h : Heap} {L D : Addr} {ys : List Value} {tl data : List (Addr × Obj)} {a b c : Addr × Obj} (N : News h₀ L h ((D, lst ys) :: (tl ++ (a :: b :: c :: data)))) : News h₀ L h (a :: (D, listO ys ys.length) :: data) := fun p hp => N p (by
  simp only [List.mem_cons, List.mem_append] at hp ⊢
  rcases hp with hp | hp | hp
  · exact .inr (.inr (.inl hp))
  · exact .inl hp
  · exact .inr (.inr (.inr (.inr (.inr hp)))))
theorem see_one {h₀ h : Heap} {L D : Addr} {nv : List Value} {n : Nat} {tl data : List (Addr × Obj)} (_ : News h₀ L h (tl ++ (D, listO nv n) :: data)) : ∃ nv', nv' = nv := ⟨_, rfl⟩
end Mine
open Mine LCg
local macro_rules | `(tactic| walk_at "eval ListComp") => `(tactic| (k_here; refine Hold.out ?_))
local macro_rules | `(tactic| walk_at "binaryOp Add ref ref") => `(tactic| (k_here; k_dflt (refine' add_cat ?F ?N ?a ?b ?z ?_; (case F => k_asm); (case N => k_asm); (case a => k_mem); (case b => k_mem); (case z => first | ((try simp only [List.length_append, List.length_cons, List.length_nil]); omega) | ((have h9 := IntsAre.length (by with_reducible assumption)); (simp only [List.length_append, List.length_cons, List.length_nil, List.length_take] at *); omega)); intro D' h' F' N' l1)))
local macro_rules | `(tactic| walk_at "call ref") => `(tactic| (k_here; refine Hold.out ?_))
set_option maxHeartbeats 8000000 in
theorem PySem.Challenge.cw_ny0038_01_holds : PySem.Challenge.rw_ny0038_01.Holds :=
  Mine.hd (by
  w_strict (
    k_go0
    (all_goals try k_fold)
    repeat' (first | (k_unfold; (try dsimp only)) | walk1 | (dsimp only; walk1) | (leave1; (try dsimp only)) | fail "no step")
    unfold Hold
    k_dflt (refine' keys_ok _ _ _ _ _ _ _ _ _ _ _ _ _ _ _ _ _ _ _ _ _ _ _ _ ?kB ?kF ?kI ?kN ?kT ?kK ?kd ?ku ?_; (case kB => k_asm); (case kF => k_asm); (case kI => k_asm); (case kN => k_asm); (case kT => k_asm); (case kK => exact rfl); (case kd => first | decide | (show (_ : Nat) < _; decide) | omega); (case ku => first | decide | (show (_ : Nat) < _; decide) | omega))
    intro vk tlk hk tkk Fk Nk offk hdk
    obtain ⟨kl, kn, kvs, rfl, hkm, hkd⟩ := list_open hdk
    rw [List.append_nil] at Nk
    clear offk hdk
    (try dsimp only)
    repeat' (first | (k_unfold; (try dsimp only)) | walk1 | (dsimp only; walk1) | (leave1; (try dsimp only)) | fail "no step")
    unfold Hold
    rename List Int => ns
    rename IntsAre _ (List.take 2 _) => hI2
    have hw2 := hI2.length
    rw [List.length_take] at hw2
    refine comp_eval (news := []) (ds := ((ns.take 2 ++ [ns.sum]).map .int).map modD) (cl := []) (by with_unfolding_all rfl) (by decide) rfl (by decide) (by with_reducible assumption) (by with_reducible assumption) (.head _) ?iter (runs_one modD (fun v m₁ => m₁ (Str.ofString "n") = some v) rfl (.head _) (opening_dat hI2) (by simp; omega) ?asg (fun _ hp => nomatch hp) ?elt) ?fin
    case iter =>
      intro P hP
      repeat' (first | (k_unfold; (try dsimp only)) | walk1 | (dsimp only; walk1) | (leave1; (try dsimp only)) | fail "no step")
      exact hP
    case asg =>
      intro i a v C oC mC Z h tk Q E' ha hv hC hC0 hCL F9 N9 hZn hZ hQ
      exact assign_one rfl rfl hC hC0 hCL F9 N9 hZ fun h₁ tk₁ oC₁ m₁ hC₁ hm₁ F₁ N₁ => hQ h₁ tk₁ oC₁ m₁ hC₁ (by rw [hm₁]; simp) F₁ N₁
    case elt =>
      intro i a v I oI C oC D m₂ ys tl h tk E' ha hv hC hT F9 N9
      obtain ⟨x, hx, rfl⟩ := List.mem_map.mp (List.mem_of_getElem? ha)
      cases hv with
      | int _ t =>
      repeat' (first | (k_unfold; (try dsimp only)) | walk1 | (dsimp only; walk1) | (leave1; (try dsimp only)) | fail "no step")
      exact Back.intro [] (by k_asm) (by k_asm) (fun p hp => hp) (fun _ _ _ hp => nomatch hp) (.int _ _)
    case fin =>
      intro Dm tlm ysm hm tkm Fm Nm offm offm' hDm
      have hDm' := datAll_flat hDm (mod_flat _)
      have hlm := hDm'.length
      simp only [List.length_map, List.length_append, List.length_take, List.length_cons, List.length_nil] at hlm
      have Nm2 := cut3 Nm
      clear Nm offm offm' hDm
      repeat' (first | (k_unfold; (try dsimp only)) | walk1 | (dsimp only; walk1) | (leave1; (try dsimp only)) | fail "no step")
      unfold Hold
      k_dflt (refine' texts_ok _ _ _ _ _ _ _ _ _ _ _ _ _ _ _ _ _ _ _ _ _ _ ?kB ?kF ?kI ?kN ?kT ?kK ?kd ?ku ?_; (case kB => k_asm); (case kF => k_asm); (case kI => k_asm); (case kN => k_asm); (case kT => k_asm); (case kK => exact rfl); (case kd => first | decide | (show (_ : Nat) < _; decide) | omega); (case ku => first | decide | (show (_ : Nat) < _; decide) | omega))
      intro vt tlt ht tkt Ft Nt offt hdt
      obtain ⟨xl, xn, xvs, rfl, hxm, hxd⟩ := list_open hdt
      obtain ⟨nv, hnv⟩ := see_one Nt
      clear offt hdt
      (try dsimp only)
      repeat' (first | (k_unfold; (try dsimp only)) | walk1 | (dsimp only; walk1) | (leave1; (try dsimp only)) | fail "no step")
      unfold Hold
      k_dflt (refine' agrees_int _ _ _ _ _ _ _ _ 0 kn xn nv kvs xvs (drawnL ns) (keysL ns.sum) ?h1 ?h2 ?h3 ?h4 ?h5 ?h6 ?h7 ?h8 ?h9 _ _ _ _ _ _ _ _ _ _ _ _ _ _ _ _ _ ?kB ?kF ?kI ?kN ?kT ?kK ?kd ?ku ?_; (case kB => k_asm); (case kF => k_asm); (case kI => k_asm); (case kN => k_asm); (case kT => k_asm); (case kK => exact rfl); (case kd => first | decide | (show (_ : Nat) < _; decide) | omega); (case ku => first | decide | (show (_ : Nat) < _; decide) | omega); (case h1 => (rw [hnv]; exact List.mem_append_right _ (.head _))); (case h2 => exact List.mem_append_right _ (.tail _ (.tail _ (.tail _ hkm)))); (case h3 => exact List.mem_append_left _ hxm); (case h4 => (rw [hnv]; exact drawn_dat hI2 hDm')); (case h5 => exact keys_eq _ ▸ DatAll.mono (fun p hp => List.mem_append_right _ (.tail _ (.tail _ (.tail _ hp)))) hkd); (case h6 => exact DatAll.mono (fun p hp => List.mem_append_left _ hp) hxd); (case h7 => exact drawn_len ns); (case h8 => exact keys_len _); (case h9 => exact keys_fit _))
      intro t9 h9 tk9 F9 N9
      (try dsimp only)
      repeat' (first | (k_unfold; (try dsimp only)) | walk1 | (dsimp only; walk1) | (leave1; (try dsimp only)) | fail "no step")
      unfold Hold
      refine comp_eval (news := []) (ds := ((drawnL ns).map .int).map codeD) (cl := []) (by with_unfolding_all rfl) (by decide) rfl (by decide) (by with_reducible assumption) (by with_reducible assumption) (List.mem_append_right _ (.head _)) ?iter (runs_one codeD (fun v m₁ => m₁ (Str.ofString "number") = some v) rfl (List.mem_append_right _ (.head _)) (drawn_dat hI2 hDm') (by have := drawn_len ns; simp; omega) ?asg (fun _ hp => nomatch hp) ?elt) ?fin
      case iter =>
        intro P hP
        repeat' (first | (k_unfold; (try dsimp only)) | walk1 | (dsimp only; walk1) | (leave1; (try dsimp only)) | fail "no step")
        exact hP
      case asg =>
        intro i a v C oC mC Z h tk Q E' ha hv hC hC0 hCL F9 N9 hZn hZ hQ
        exact assign_one rfl rfl hC hC0 hCL F9 N9 hZ fun h₁ tk₁ oC₁ m₁ hC₁ hm₁ F₁ N₁ => hQ h₁ tk₁ oC₁ m₁ hC₁ (by rw [hm₁]; simp) F₁ N₁
      case elt =>
        intro i a v I oI C oC D m₂ ys tl h tk E' ha hv hC hT F9 N9
        obtain ⟨x, hx, rfl⟩ := List.mem_map.mp (List.mem_of_getElem? ha)
        cases hv with
        | int _ t =>
        repeat' (first | (k_unfold; (try dsimp only)) | walk1 | (dsimp only; walk1) | (leave1; (try dsimp only)) | fail "no step")
        unfold Hold
        k_dflt (refine' code_int _ _ _ _ _ _ _ _ _ _ _ _ _ _ _ _ _ _ _ _ _ _ _ _ ?kB ?kF ?kI ?kN ?kT ?kK ?kd ?ku ?_; (case kB => k_asm); (case kF => k_asm); (case kI => k_asm); (case kN => k_asm); (case kT => k_asm); (case kK => exact rfl); (case kd => first | decide | (show (_ : Nat) < _; decide) | omega); (case ku => first | decide | (show (_ : Nat) < _; decide) | omega))
        intro t9 h9 tk9 F9 N9
        exact Back.intro [] (by k_asm) (by k_asm) (fun p hp => hp) (fun _ _ _ hp => nomatch hp) (.int _ _)
      case fin =>
        intro Dc tlc ysc hc tkc Fc Nc offc offc' hDc
        have hDc' := datAll_flat hDc (code_flat _)
        have Nc2 := cut0 Nc
        clear Nc offc offc' hDc
        repeat' (first | (k_unfold; (try dsimp only)) | walk1 | (dsimp only; walk1) | (leave1; (try dsimp only)) | fail "no step")
        unfold Hold
        k_dflt (refine' agrees_str _ _ _ _ _ _ _ _ ysc.length kn xn ysc kvs xvs ((drawnL ns).map codeF) (keysL ns.sum) ?h1 ?h2 ?h3 ?h4 ?h5 ?h6 ?h7 ?h10 ?h8 ?h9 _ _ _ _ _ _ _ _ _ _ _ _ _ _ _ _ _ ?kB ?kF ?kI ?kN ?kT ?kK ?kd ?ku ?_; (case kB => k_asm); (case kF => k_asm); (case kI => k_asm); (case kN => k_asm); (case kT => k_asm); (case kK => exact rfl); (case kd => first | decide | (show (_ : Nat) < _; decide) | omega); (case ku => first | decide | (show (_ : Nat) < _; decide) | omega); (case h1 => exact .head _); (case h2 => exact .tail _ (List.mem_append_right _ (.tail _ (.tail _ (.tail _ hkm))))); (case h3 => exact .tail _ (List.mem_append_left _ hxm)); (case h4 => exact DatAll.mono (fun _ h => absurd h List.not_mem_nil) (code_dat hDc')); (case h5 => exact keys_eq _ ▸ DatAll.mono (fun p hp => .tail _ (List.mem_append_right _ (.tail _ (.tail _ (.tail _ hp))))) hkd); (case h6 => exact DatAll.mono (fun p hp => .tail _ (List.mem_append_left _ hp)) hxd); (case h7 => (rw [List.length_map]; exact drawn_len ns)); (case h10 => exact code_fit ns); (case h8 => exact keys_len _); (case h9 => exact keys_fit _))
        intro t9 h9 tk9 F9 N9
        (try dsimp only)
        repeat' (first | (k_unfold; (try dsimp only)) | walk1 | (dsimp only; walk1) | (leave1; (try dsimp only)) | fail "no step")
        wrow_close))
