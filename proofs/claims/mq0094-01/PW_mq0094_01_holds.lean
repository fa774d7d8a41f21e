import PyProof.Rows.All
import Wide.All
import OpenK.AllK
import Wide.FinOn
import PySem.Challenge.RW_mq0094_01
open PySem PySem.W PySem.Calls PyProof.Rows PyProof.V PySem.Spec
set_option Elab.async false
set_option maxRecDepth 100000
set_option maxHeartbeats 8000000
set_option linter.unusedVariables false
set_option linter.unusedSimpArgs false
namespace Mine
open_top hd for PySem.Challenge.rw_mq0094_01
end Mine

namespace Mine
section PartP1

/-- a text by its signs -/
def S (l : List Nat) : Str := ⟨l.toArray⟩
theorem S_append (a b : List Nat) : S a ++ S b = S (a ++ b) := by
  refine PySem.Str.ext' (Array.toList_inj.mp ?_)
  rw [PySem.Str.cps_append, Array.toList_append]
  simp [S]
theorem S_length (l : List Nat) : (S l).length = l.length := by simp [S, Str.length]
theorem S_inj {a b : List Nat} (h : S a = S b) : a = b := by
  have := congrArg (fun x => x.cps.toList) h
  simpa [S] using this

def label (c : Int) : Int := if c % 256 = 127 ∧ c ≠ 127 then 256 else c % 256
def drawn (l : Int) : List Nat :=
  if l = 127 then [94, 63] else if l = 255 then [33, 94, 159] else if l = 256 then [94, 159]
  else (if 127 < l then [33] else []) ++ (if l % 128 < 32 then [94, 64 + (l % 128).toNat] else [(l % 128).toNat])

theorem or32 {x : Int} (h0 : 0 ≤ x) (h1 : x < 128) : Builtin.bitOr x 32 = if x % 64 < 32 then x + 32 else x := by
  have h : ∀ k : Fin 128, Builtin.bitOr ((k.val : Nat) : Int) 32 = if ((k.val : Nat) : Int) % 64 < 32 then ((k.val : Nat) : Int) + 32 else ((k.val : Nat) : Int) := by decide +kernel
  have e := h ⟨x.toNat, by omega⟩
  have ex : ((x.toNat : Nat) : Int) = x := Int.toNat_of_nonneg h0
  simpa [ex] using e
theorem and128 (x : Int) : Builtin.bitAnd x 128 = x / 128 % 2 * 128 := by
  have := kbt_bit x 7
  simpa using this
theorem and127 (x : Int) : Builtin.bitAnd x 127 = x % 128 := bitAnd_m7 x

theorem lit_bang : Str.ofString "!" = S [33] := by decide +kernel
theorem lit_caret : Str.ofString "^" = S [94] := by decide +kernel
theorem lit_caretq : Str.ofString "^?" = S [94, 63] := by decide +kernel
theorem one_S (k : Nat) : ({ cps := #[k] } : Str) = S [k] := rfl

theorem un_p {n : Int} (h1 : 32 ≤ n % 128) (h2 : n % 128 ≤ 126) : drawn (label n) = (if n / 128 % 2 = 1 then [33] else []) ++ [(n % 128).toNat] := by
  have e : label n = n % 256 := by unfold label; rw [if_neg (by omega)]
  rw [e]; unfold drawn
  rw [if_neg (by omega), if_neg (by omega), if_neg (by omega), if_neg (by omega : ¬ n % 256 % 128 < 32)]
  have e2 : n % 256 % 128 = n % 128 := by omega
  rw [e2]
  by_cases h : n / 128 % 2 = 1
  · rw [if_pos h, if_pos (by omega)]
  · rw [if_neg h, if_neg (by omega)]
theorem un_c {n : Int} (h0 : n ≠ 127) (h1 : ¬ (32 ≤ n % 128 ∧ n % 128 ≤ 126)) : drawn (label n) = (if n / 128 % 2 = 1 then [33] else []) ++ [94, (Builtin.bitOr (n % 128) 32 + 32).toNat] := by
  rw [or32 (by omega) (by omega)]
  by_cases h2 : n % 128 = 127
  · by_cases h3 : n / 128 % 2 = 1
    · have e : label n = 255 := by unfold label; rw [if_neg (by omega)]; omega
      rw [e, if_pos h3, h2]; decide
    · have e : label n = 256 := by unfold label; rw [if_pos (by omega)]
      rw [e, if_neg h3, h2]; decide
  · have e : label n = n % 256 := by unfold label; rw [if_neg (by omega)]
    rw [e]; unfold drawn
    rw [if_neg (by omega), if_neg (by omega), if_neg (by omega), if_pos (by omega : n % 256 % 128 < 32), if_pos (by omega : n % 128 % 64 < 32)]
    have e2 : (n % 128 + 32 + 32).toNat = 64 + (n % 256 % 128).toNat := by omega
    rw [e2]
    by_cases h : n / 128 % 2 = 1
    · rw [if_pos h, if_pos (by omega)]
    · rw [if_neg h, if_neg (by omega)]
theorem un_1 {n : Int} {r : Str} (h : n = 127) (hb : Builtin.bitAnd n 128 ≠ 0) : r = S (drawn (label n)) := by
  rw [and128] at hb; omega
theorem un_2 {n : Int} (h : n = 127) : Str.ofString "^?" = S (drawn (label n)) := by
  subst h; decide +kernel
theorem un_3 {n : Int} (h : 32 ≤ Builtin.bitAnd n 127 ∧ Builtin.bitAnd n 127 ≤ 126) (hb : Builtin.bitAnd n 128 ≠ 0) : Str.ofString "!" ++ ({ cps := #[(Builtin.bitAnd n 127).toNat] } : Str) = S (drawn (label n)) := by
  rw [and127] at h ⊢; rw [and128] at hb
  rw [un_p h.1 h.2, lit_bang, one_S, S_append, if_pos (by omega)]
theorem un_4 {n : Int} (h : 32 ≤ Builtin.bitAnd n 127 ∧ Builtin.bitAnd n 127 ≤ 126) (hb : Builtin.bitAnd n 128 = 0) : ({ cps := #[(Builtin.bitAnd n 127).toNat] } : Str) = S (drawn (label n)) := by
  rw [and127] at h ⊢; rw [and128] at hb
  rw [un_p h.1 h.2, one_S, if_neg (by omega)]; rfl
theorem un_5 {n : Int} (h0 : n ≠ 127) (h : ¬ (32 ≤ Builtin.bitAnd n 127 ∧ Builtin.bitAnd n 127 ≤ 126)) (hb : Builtin.bitAnd n 128 ≠ 0) :
    Str.ofString "!" ++ (Str.ofString "^" ++ ({ cps := #[(Builtin.bitOr (Builtin.bitAnd n 127) 32 + 32).toNat] } : Str)) = S (drawn (label n)) := by
  rw [and127] at h ⊢; rw [and128] at hb
  rw [un_c h0 h, lit_bang, lit_caret, one_S, S_append, S_append, if_pos (by omega)]; rfl
theorem un_6 {n : Int} (h0 : n ≠ 127) (h : ¬ (32 ≤ Builtin.bitAnd n 127 ∧ Builtin.bitAnd n 127 ≤ 126)) (hb : Builtin.bitAnd n 128 = 0) :
    Str.ofString "^" ++ ({ cps := #[(Builtin.bitOr (Builtin.bitAnd n 127) 32 + 32).toNat] } : Str) = S (drawn (label n)) := by
  rw [and127] at h ⊢; rw [and128] at hb
  rw [un_c h0 h, lit_caret, one_S, S_append, if_neg (by omega)]; rfl

theorem lab_1 {n : Int} (h : n.fmod 256 = 127) (h2 : n ≠ 127) : 256 = label n := by
  rw [Int.fmod_eq_emod_of_nonneg _ (by decide)] at h; unfold label; rw [if_pos ⟨h, h2⟩]
theorem lab_2 {n : Int} (h2 : n = 127) : n.fmod 256 = label n := by
  subst h2; decide
theorem lab_3 {n : Int} (h : n.fmod 256 ≠ 127) : n.fmod 256 = label n := by
  rw [Int.fmod_eq_emod_of_nonneg _ (by decide)] at h ⊢; unfold label; rw [if_neg (by omega)]

theorem dr_ofFin (p : Int → Str) (c : Int → Bool) (h : ∀ k : Fin 257, c ((k.val : Nat) : Int) = true → p ((k.val : Nat) : Int) = S (drawn ((k.val : Nat) : Int))) {n : Int} (h0 : 0 ≤ n) (h1 : n ≤ 256) (hc : c n = true) : p n = S (drawn n) := by
  have ex : ((n.toNat : Nat) : Int) = n := Int.toNat_of_nonneg h0
  have e := h ⟨n.toNat, by omega⟩
  simp only [ex] at e
  exact e hc
theorem dr_5 {n : Int} (h0 : 0 ≤ n) (h1 : n ≤ 256) (h2 : n.fmod 128 ≠ 127) (h3 : n ≠ 256) (h4 : 127 < n) (h5 : n.fmod 128 < 32) :
    Str.ofString "!" ++ (Str.ofString "^" ++ Txt.item (Str.ofString "@ABCDEFGHIJKLMNOPQRSTUVWXYZ[\\]^_") (n.fmod 128)) = S (drawn n) :=
  dr_ofFin (fun n => Str.ofString "!" ++ (Str.ofString "^" ++ Txt.item (Str.ofString "@ABCDEFGHIJKLMNOPQRSTUVWXYZ[\\]^_") (n.fmod 128)))
    (fun n => decide (n.fmod 128 ≠ 127 ∧ n ≠ 256 ∧ 127 < n ∧ n.fmod 128 < 32)) (by decide +kernel) h0 h1 (by simp [*])
theorem dr_6 {n : Int} (h0 : 0 ≤ n) (h1 : n ≤ 256) (h2 : n.fmod 128 ≠ 127) (h3 : n ≠ 256) (h4 : 127 < n) (h5 : ¬ n.fmod 128 < 32) :
    Str.ofString "!" ++ ({ cps := #[(n.fmod 128).toNat] } : Str) = S (drawn n) :=
  dr_ofFin (fun n => Str.ofString "!" ++ ({ cps := #[(n.fmod 128).toNat] } : Str))
    (fun n => decide (n.fmod 128 ≠ 127 ∧ n ≠ 256 ∧ 127 < n ∧ ¬ n.fmod 128 < 32)) (by decide +kernel) h0 h1 (by simp [*])
theorem dr_7 {n : Int} (h0 : 0 ≤ n) (h1 : n ≤ 256) (h2 : n.fmod 128 ≠ 127) (h3 : n ≠ 256) (h4 : ¬ 127 < n) (h5 : n.fmod 128 < 32) :
    Str.ofString "" ++ (Str.ofString "^" ++ Txt.item (Str.ofString "@ABCDEFGHIJKLMNOPQRSTUVWXYZ[\\]^_") (n.fmod 128)) = S (drawn n) :=
  dr_ofFin (fun n => Str.ofString "" ++ (Str.ofString "^" ++ Txt.item (Str.ofString "@ABCDEFGHIJKLMNOPQRSTUVWXYZ[\\]^_") (n.fmod 128)))
    (fun n => decide (n.fmod 128 ≠ 127 ∧ n ≠ 256 ∧ ¬ 127 < n ∧ n.fmod 128 < 32)) (by decide +kernel) h0 h1 (by simp [*])
theorem dr_8 {n : Int} (h0 : 0 ≤ n) (h1 : n ≤ 256) (h2 : n.fmod 128 ≠ 127) (h3 : n ≠ 256) (h4 : ¬ 127 < n) (h5 : ¬ n.fmod 128 < 32) :
    Str.ofString "" ++ ({ cps := #[(n.fmod 128).toNat] } : Str) = S (drawn n) :=
  dr_ofFin (fun n => Str.ofString "" ++ ({ cps := #[(n.fmod 128).toNat] } : Str))
    (fun n => decide (n.fmod 128 ≠ 127 ∧ n ≠ 256 ∧ ¬ 127 < n ∧ ¬ n.fmod 128 < 32)) (by decide +kernel) h0 h1 (by simp [*])
theorem dr_0 {n : Int} (h0 : 0 ≤ n) (h1 : n ≤ 256) (h2 : n.fmod 128 = 127) (h3 : ¬ n = 127) (h4 : ¬ n = 255) (h5 : ¬ n = 256) : False := by
  rw [Int.fmod_eq_emod_of_nonneg _ (by decide)] at h2; omega
theorem dr_1 {n : Int} (h : n = 127) : Str.ofString "^?" = S (drawn n) := by subst h; decide +kernel
theorem dr_2 {n : Int} (h : n = 255) : Str.ofString "!^\x9f" = S (drawn n) := by subst h; decide +kernel
theorem dr_3 {n : Int} (h : n = 256) : Str.ofString "^\x9f" = S (drawn n) := by subst h; decide +kernel

/-- is the code behind this stretch shielded -/
def escStep (sure : List Int) (e : Bool) (l : Int) : Bool := if l = 92 then !e else sure.any (· == l)
def escAt (sure seg : List Int) : Bool := seg.foldl (escStep sure) false
def shield (sure row : List Int) (first place : Nat) : Bool := escAt sure ((row.take place).drop first)
theorem shield_self (sure row : List Int) (first : Nat) : shield sure row first first = false := by
  unfold shield escAt; rw [List.drop_eq_nil_of_le (by simp; omega)]; rfl
theorem shield_succ {sure row : List Int} {first p : Nat} {l : Int} (h : first ≤ p) (hl : row[p]? = some l) : shield sure row first (p + 1) = escStep sure (shield sure row first p) l := by
  unfold shield escAt
  rw [List.take_add_one, hl]
  have hp : p ≤ row.length := by have := List.getElem?_eq_some_iff.mp hl; obtain ⟨h1, _⟩ := this; omega
  rw [List.drop_append_of_le_length (by rw [List.length_take]; omega), List.foldl_append]
  rfl
theorem shield_run {sure row : List Int} {first : Nat} : ∀ (k b : Nat), first ≤ b → (∀ j, b ≤ j → j < b + k → row[j]? = some 92) → shield sure row first (b + k) = (if k % 2 = 1 then !(shield sure row first b) else shield sure row first b) := by
  intro k
  induction k with
  | zero => intro b _ _; simp
  | succ k ih =>
    intro b hb h
    have e := ih b hb fun j h1 h2 => h j h1 (by omega)
    have e2 := shield_succ (sure := sure) (p := b + k) (by omega : first ≤ b + k) (h (b + k) (by omega) (by omega))
    rw [show b + (k + 1) = b + k + 1 by omega, e2, e]
    unfold escStep
    rw [if_pos rfl]
    by_cases hk : k % 2 = 1
    · rw [if_pos hk, if_neg (by omega), Bool.not_not]
    · rw [if_neg hk, if_pos (by omega)]
theorem fmod2 (x : Int) : x.fmod 2 = x % 2 := Int.fmod_eq_emod_of_nonneg _ (by decide)
theorem sh_first {sure row : List Int} {first b place : Nat} (h1 : first ≤ b) (h2 : b ≤ place) (h3 : ∀ j, b ≤ j → j < place → row[j]? = some 92) (h4 : ¬ (first : Int) < (b : Int)) :
    (((place : Int) - (b : Int)).fmod 2 == 1) = shield sure row first place := by
  have eb : b = first := by omega
  obtain ⟨k, rfl⟩ : ∃ k, place = b + k := ⟨place - b, by omega⟩
  rw [shield_run k b h1 h3, eb, shield_self, fmod2]
  by_cases hk : k % 2 = 1
  · rw [if_pos hk]; simp; omega
  · rw [if_neg hk]; simp; omega
theorem sh_prev {sure row : List Int} {first b : Nat} (h4 : (first : Int) < (b : Int)) (hb : b ≤ row.length) (h5 : row.getD ((b : Int) - 1).toNat 0 ≠ 92) : shield sure row first b = sure.any (· == row.getD ((b : Int) - 1).toNat 0) := by
  obtain ⟨c, rfl⟩ : ∃ c, b = c + 1 := ⟨b - 1, by omega⟩
  have e : ((c + 1 : Nat) : Int) - 1 = (c : Int) := by omega
  rw [e, Int.toNat_natCast] at h5 ⊢
  have hl : row[c]? = some (row.getD c 0) := by
    rw [List.getD_eq_getElem?_getD, List.getElem?_eq_getElem (by omega)]; rfl
  rw [shield_succ (by omega) hl]
  unfold escStep
  rw [if_neg h5]
theorem sh_in {sure row : List Int} {first b place : Nat} (h1 : first ≤ b) (h2 : b ≤ place) (hp : place ≤ row.length) (h3 : ∀ j, b ≤ j → j < place → row[j]? = some 92) (h4 : (first : Int) < (b : Int)) (h5 : row.getD ((b : Int) - 1).toNat 0 ≠ 92)
    (h6 : (sure.any (· == row.getD ((b : Int) - 1).toNat 0)) = true) : (((place : Int) - (b : Int) + 1).fmod 2 == 1) = shield sure row first place := by
  have e := sh_prev (sure := sure) h4 (by omega) h5
  obtain ⟨k, rfl⟩ : ∃ k, place = b + k := ⟨place - b, by omega⟩
  rw [shield_run k b h1 h3, e, h6, fmod2]
  by_cases hk : k % 2 = 1
  · rw [if_pos hk]; simp; omega
  · rw [if_neg hk]; simp; omega
theorem sh_out {sure row : List Int} {first b place : Nat} (h1 : first ≤ b) (h2 : b ≤ place) (hp : place ≤ row.length) (h3 : ∀ j, b ≤ j → j < place → row[j]? = some 92) (h4 : (first : Int) < (b : Int)) (h5 : row.getD ((b : Int) - 1).toNat 0 ≠ 92)
    (h6 : ¬ (sure.any (· == row.getD ((b : Int) - 1).toNat 0)) = true) : (((place : Int) - (b : Int)).fmod 2 == 1) = shield sure row first place := by
  have e := sh_prev (sure := sure) h4 (by omega) h5
  obtain ⟨k, rfl⟩ : ∃ k, place = b + k := ⟨place - b, by omega⟩
  rw [shield_run k b h1 h3, e, fmod2, Bool.eq_false_iff.mpr h6]
  by_cases hk : k % 2 = 1
  · rw [if_pos hk]; simp; omega
  · rw [if_neg hk]; simp; omega

end PartP1
end Mine

namespace Mine
section PartC1

/-- what a call's contract asks of its place -/
structure Cx (w : World) (mean : ExcName → Option Value) (mg mb : Str → Option Value) (cs : Scope) (outer : List Env) (A₀ : Around) (base h₀ : Heap) (L : Addr) (h : Heap) (m : Str → Option Value) (news : List (Addr × Obj)) : Prop where
  B : Below A₀ base outer h₀
  F : Fr h₀ L h m
  X : (hd.heap_39 w.params).In h₀
  N : News h₀ L h news
  T : Top hd.view_39 (looseW hd.view_39 []) mean mg mb h₀
  hk : cs.kind = .function

abbrev PR : Program := PySem.Challenge.rw_mq0094_01.row.prog

section
variable {w : World} {mean : ExcName → Option Value} {mg mb : Str → Option Value} {dp un : Nat} {gd : Option (List Code)} {cn : Str} {cs : Scope} {a : Addr} {ccd : Value} {cl : List (Str × Addr)} {outer : List Env} {A₀ : Around} {base h₀ : Heap} {L : Addr} {m : Str → Option Value} {news : List (Addr × Obj)} {s : Shared} {Q E : Value → Shared → Prop}

theorem c_ctoi {n : Int} {t : Tok} (C : Cx w mean mg mb cs outer A₀ base h₀ L s.heap m news) (hdp : dp + 1 < recursionLimit)
  (ret : ∀ t' h' tk', Fr h₀ L h' m → News h₀ L h' news → Q (.int n t') { s with heap := h', toks := tk' }) :
  wpAny (model PySem.Challenge.rw_mq0094_01.row.prog w) (ktrTop dp un gd cn cs L a ccd cl outer) (call (.ref 26) [.int n t]) Q E s := by
  obtain ⟨B, F, X, N, T, hk⟩ := C
  revert X
  w_on
  k_fill
  intro X
  w_strict (
    refine wpAny_call ?_
    k_dflt ktr_enter
    k_steps)
  all_goals exact ret _ _ _ (by k_asm) (by k_asm)

theorem c_ctoi_str {n : Nat} {t : Tok} (C : Cx w mean mg mb cs outer A₀ base h₀ L s.heap m news) (hdp : dp + 1 < recursionLimit)
  (ret : ∀ t' h' tk', Fr h₀ L h' m → News h₀ L h' news → Q (.int n t') { s with heap := h', toks := tk' }) :
  wpAny (model PySem.Challenge.rw_mq0094_01.row.prog w) (ktrTop dp un gd cn cs L a ccd cl outer) (call (.ref 26) [.str (Str.mk #[n]) t]) Q E s := by
  obtain ⟨B, F, X, N, T, hk⟩ := C
  revert X
  w_on
  k_fill
  intro X
  w_strict (
    refine wpAny_call ?_
    k_dflt ktr_enter
    k_steps)
  all_goals exact ret _ _ _ (by k_asm) (by k_asm)

local macro_rules | `(tactic| walk_at "call ref") => `(tactic| (k_here; k_dflt (refine' c_ctoi ⟨?k1, ?k2, ?k3, ?k4, ?k5, ?k6⟩ ?k7 ?_; (case k1 => k_asm); (case k2 => k_asm); (case k3 => k_asm); (case k4 => k_asm); (case k5 => k_asm); (case k6 => first | exact rfl | assumption); (case k7 => ktr_room)); intro t' h' tk' F' N'))

theorem c_isprint {n : Int} {t : Tok} (C : Cx w mean mg mb cs outer A₀ base h₀ L s.heap m news) (hdp : dp + 2 < recursionLimit)
  (ret : ∀ b h' tk', b = decide (32 ≤ n ∧ n ≤ 126) → Fr h₀ L h' m → News h₀ L h' news → Q (.bool b) { s with heap := h', toks := tk' }) :
  wpAny (model PySem.Challenge.rw_mq0094_01.row.prog w) (ktrTop dp un gd cn cs L a ccd cl outer) (call (.ref 33) [.int n t]) Q E s := by
  obtain ⟨B, F, X, N, T, hk⟩ := C
  revert X
  w_on
  k_fill
  intro X
  w_strict (
    refine wpAny_call ?_
    k_dflt ktr_enter
    k_steps)
  · exact ret _ _ _ (by simp [*]) (by k_asm) (by k_asm)
  · exact ret _ _ _ (by simp [*]) (by k_asm) (by k_asm)

local macro_rules | `(tactic| walk_at "call ref") => `(tactic| (k_here; k_dflt (refine' c_ctoi_str ⟨?k1, ?k2, ?k3, ?k4, ?k5, ?k6⟩ ?k7 ?_; (case k1 => k_asm); (case k2 => k_asm); (case k3 => k_asm); (case k4 => k_asm); (case k5 => k_asm); (case k6 => first | exact rfl | assumption); (case k7 => ktr_room)); intro t' h' tk' F' N'))

local macro_rules | `(tactic| walk_at "call ref") => `(tactic| (k_here; k_dflt (refine' c_isprint ⟨?k1, ?k2, ?k3, ?k4, ?k5, ?k6⟩ ?k7 ?_; (case k1 => k_asm); (case k2 => k_asm); (case k3 => k_asm); (case k4 => k_asm); (case k5 => k_asm); (case k6 => first | exact rfl | assumption); (case k7 => ktr_room)); intro b' h' tk' hb' F' N'; subst hb'))

theorem c_unctrl {n : Int} {t : Tok} (C : Cx w mean mg mb cs outer A₀ base h₀ L s.heap m news) (hdp : dp + 3 < recursionLimit)
  (ret : ∀ r t' h' tk', r = S (drawn (label n)) → Fr h₀ L h' m → News h₀ L h' news → Q (.str r t') { s with heap := h', toks := tk' }) :
  wpAny (model PySem.Challenge.rw_mq0094_01.row.prog w) (ktrTop dp un gd cn cs L a ccd cl outer) (call (.ref 40) [.int n t]) Q E s := by
  obtain ⟨B, F, X, N, T, hk⟩ := C
  revert X
  w_on
  k_fill
  intro X
  have hb1 := and127 n
  have hb2 := and128 n
  have hb3 : 0 ≤ Builtin.bitOr (Builtin.bitAnd n 127) 32 ∧ Builtin.bitOr (Builtin.bitAnd n 127) 32 ≤ 127 := by
    rw [hb1, or32 (by omega) (by omega)]; split <;> omega
  w_strict (
    refine wpAny_call ?_
    k_dflt ktr_enter
    k_steps)
  all_goals refine ret _ _ _ _ ?_ (by k_asm) (by k_asm)
  · exact un_1 (by assumption) (by assumption)
  · exact un_2 (by assumption)
  · exact un_3 (by assumption) (by assumption)
  · exact un_4 (by assumption) (by assumption)
  · exact un_5 (by assumption) (by assumption) (by assumption)
  · exact un_6 (by assumption) (by assumption) (by assumption)

theorem c_unctrl_str {n : Nat} {t : Tok} (C : Cx w mean mg mb cs outer A₀ base h₀ L s.heap m news) (hdp : dp + 3 < recursionLimit)
  (ret : ∀ r t' h' tk', r = S (drawn (label n)) → Fr h₀ L h' m → News h₀ L h' news → Q (.str r t') { s with heap := h', toks := tk' }) :
  wpAny (model PySem.Challenge.rw_mq0094_01.row.prog w) (ktrTop dp un gd cn cs L a ccd cl outer) (call (.ref 40) [.str (Str.mk #[n]) t]) Q E s := by
  obtain ⟨B, F, X, N, T, hk⟩ := C
  revert X
  w_on
  k_fill
  intro X
  have hb1 := and127 n
  have hb2 := and128 n
  have hb3 : 0 ≤ Builtin.bitOr (Builtin.bitAnd n 127) 32 ∧ Builtin.bitOr (Builtin.bitAnd n 127) 32 ≤ 127 := by
    rw [hb1, or32 (by omega) (by omega)]; split <;> omega
  w_strict (
    refine wpAny_call ?_
    k_dflt ktr_enter
    k_steps)
  all_goals refine ret _ _ _ _ ?_ (by k_asm) (by k_asm)
  · exact un_1 (by assumption) (by assumption)
  · exact un_2 (by assumption)
  · exact un_3 (by assumption) (by assumption)
  · exact un_4 (by assumption) (by assumption)
  · exact un_5 (by assumption) (by assumption) (by assumption)
  · exact un_6 (by assumption) (by assumption) (by assumption)
end
end PartC1
end Mine

namespace Mine
section PartC2
section
variable {w : World} {mean : ExcName → Option Value} {mg mb : Str → Option Value} {dp un : Nat} {gd : Option (List Code)} {cn : Str} {cs : Scope} {a : Addr} {ccd : Value} {cl : List (Str × Addr)} {outer : List Env} {A₀ : Around} {base h₀ : Heap} {L : Addr} {m : Str → Option Value} {news : List (Addr × Obj)} {s : Shared} {Q E : Value → Shared → Prop}

theorem kN_tail {h : Heap} {p : Addr × Obj} (N : News h₀ L h (p :: news)) : News h₀ L h news := fun q hq => N q (.tail _ hq)

theorem c_label {n : Int} {t : Tok} (C : Cx w mean mg mb cs outer A₀ base h₀ L s.heap m news) (hdp : dp + 1 < recursionLimit)
  (ret : ∀ r t' h' tk', r = label n → Fr h₀ L h' m → News h₀ L h' news → Q (.int r t') { s with heap := h', toks := tk' }) :
  wpAny (model PySem.Challenge.rw_mq0094_01.row.prog w) (ktrTop dp un gd cn cs L a ccd cl outer) (call (.ref 54) [.int n t]) Q E s := by
  obtain ⟨B, F, X, N, T, hk⟩ := C
  revert X
  w_on
  k_fill
  intro X
  w_strict (
    refine wpAny_call ?_
    k_dflt ktr_enter
    k_steps)
  · exact ret _ _ _ _ (lab_1 (by assumption) (by assumption)) (by k_asm) (by k_asm)
  · exact ret _ _ _ _ (lab_2 (by assumption)) (by k_asm) (by k_asm)
  · exact ret _ _ _ _ (lab_3 (by assumption)) (by k_asm) (by k_asm)

theorem c_drawn {n : Int} {t : Tok} (h0 : 0 ≤ n) (h1 : n ≤ 256) (C : Cx w mean mg mb cs outer A₀ base h₀ L s.heap m news) (hdp : dp + 1 < recursionLimit)
  (ret : ∀ r t' h' tk', r = S (drawn n) → Fr h₀ L h' m → News h₀ L h' news → Q (.str r t') { s with heap := h', toks := tk' }) :
  wpAny (model PySem.Challenge.rw_mq0094_01.row.prog w) (ktrTop dp un gd cn cs L a ccd cl outer) (call (.ref 61) [.int n t]) Q E s := by
  obtain ⟨B, F, X, N, T, hk⟩ := C
  revert X
  w_on
  k_fill
  intro X
  w_strict (
    refine wpAny_call ?_
    k_dflt ktr_enter
    k_steps)
  · exact ret _ _ _ _ (dr_1 (by assumption)) (by k_asm) (kN_tail (by assumption))
  · exact ret _ _ _ _ (dr_2 (by assumption)) (by k_asm) (kN_tail (by assumption))
  · exact ret _ _ _ _ (dr_3 (by assumption)) (by k_asm) (kN_tail (by assumption))
  · exact dr_0 h0 h1 (by assumption) (by assumption) (by assumption) (by assumption)
  · exact ret _ _ _ _ (dr_3 (by assumption)) (by k_asm) (kN_tail (by assumption))
  · exact ret _ _ _ _ (dr_5 h0 h1 (by assumption) (by assumption) (by assumption) (by assumption)) (by k_asm) (by k_asm)
  · exact ret _ _ _ _ (dr_6 h0 h1 (by assumption) (by assumption) (by assumption) (by assumption)) (by k_asm) (by k_asm)
  · exact ret _ _ _ _ (dr_7 h0 h1 (by assumption) (by assumption) (by assumption) (by assumption)) (by k_asm) (by k_asm)
  · exact ret _ _ _ _ (dr_8 h0 h1 (by assumption) (by assumption) (by assumption) (by assumption)) (by k_asm) (by k_asm)

end
end PartC2
end Mine

namespace Mine
section PartC4
section
variable {w : World} {mean : ExcName → Option Value} {mg mb : Str → Option Value} {dp un : Nat} {gd : Option (List Code)} {cn : Str} {cs : Scope} {a : Addr} {ccd : Value} {cl : List (Str × Addr)} {outer : List Env} {A₀ : Around} {base h₀ : Heap} {L : Addr} {m : Str → Option Value} {news : List (Addr × Obj)} {s : Shared} {Q E : Value → Shared → Prop}

abbrev tupOf (vs : List Value) (k : Nat) : Obj := { cls := .type "tuple", data := .seq vs.toArray k }

/-- a halt of the walk -/
def Halt (P : Prop) : Prop := P
theorem Halt.out {P : Prop} (h : Halt P) : P := h
theorem Halt.mk {P : Prop} (h : P) : Halt P := h

theorem in_tup {w : World} {A : Around} {E : Value → Shared → Prop} {tA : Addr} {vs : List Value} {ns : List Int} {k : Nat} {x : Int} {u : Tok} {Q : Value → Shared → Prop} (N : News h₀ L s.heap news) (hm : (tA, tupOf vs k) ∈ news) (hi : IntsAre vs ns)
    (h : Q (.bool (ns.any (· == x))) s) : wpAny (model PySem.Challenge.rw_mq0094_01.row.prog w) A (compareOp .In (.int x u) (.ref tA)) Q E s :=
  in_tuple_ints (News.isTup N hm) hi h

local macro_rules | `(tactic| walk_at "compareOp In int ref") => `(tactic| (k_here; (with_reducible refine' in_tup ?k1 ?k2 ?k3 ?_; (case k1 => assumption); (case k2 => assumption); (case k3 => assumption))))
local macro_rules | `(tactic| walk_at "exec While BoolOp cons nil") => `(tactic| (refine Halt.out ?_))
local macro_rules | `(tactic| walk_at "KswEnd") => `(tactic| (refine Halt.out ?_))

theorem c_shielded {rowA sureA : Addr} {vr vsu : List Value} {row sure : List Int} {kr ks : Nat} {first place : Nat} {t1 t2 : Tok} (C : Cx w mean mg mb cs outer A₀ base h₀ L s.heap m news)
  (hr : (rowA, listOf vr.toArray kr) ∈ news) (hrI : IntsAre vr row) (hsu : (sureA, tupOf vsu ks) ∈ news) (hsI : IntsAre vsu sure) (hlen : row.length ≤ 100) (hf : first ≤ place) (hp : place ≤ row.length) (hdp : dp + 1 < recursionLimit)
  (ret : ∀ r h' tk', r = shield sure row first place → Fr h₀ L h' m → News h₀ L h' news → Q (.bool r) { s with heap := h', toks := tk' }) :
  wpAny (model PySem.Challenge.rw_mq0094_01.row.prog w) (ktrTop dp un gd cn cs L a ccd cl outer) (call (.ref 68) [.ref rowA, .int first t1, .int place t2, .ref sureA]) Q E s := by
  obtain ⟨B, F, X, N, T, hk⟩ := C
  revert X
  w_on
  k_fill
  intro X
  w_strict (
    refine wpAny_call ?_
    k_dflt ktr_enter
    k_steps)
  refine Halt.mk ?_
  rename Fr _ _ _ _ => lF
  rename News _ _ _ _ => lN
  with_unfolding_all refine' ksw_while (σ := Nat × Tok) (fun _ => news) (fun c => [(Str.ofString "back", .int c.1 c.2)]) (fun _ => True) [] (fun c => first ≤ c.1 ∧ c.1 ≤ place ∧ ∀ j, c.1 ≤ j → j < place → row[j]? = some 92) (fun c => c.1) (place, t2) lF lN True.intro ?k1 ?k2 ?_
  case k1 => intro p hp; rw [List.mem_singleton.mp hp]; with_unfolding_all rfl
  case k2 => exact ⟨hf, Nat.le_refl _, fun j h1 h2 => absurd h1 (by omega)⟩
  clear lF lN
  rintro ⟨b, tb⟩ u h tk _ ⟨i1, i2, i3⟩ F1 N1
  dsimp only at i1 i2 i3 F1 ⊢
  w_strict (
    (try k_fold)
    k_steps)
  · refine Halt.mk ?_
    rename Fr _ _ _ _ => F2
    rename row.getD _ _ = 92 => hv
    have eb : ((b : Int) - 1) = ((b - 1 : Nat) : Int) := by omega
    rw [eb] at F2 hv
    rw [Int.toNat_natCast] at hv
    refine ksw_end (b - 1, _) F2 (by assumption) (fun p hp => hp) True.intro (List.forall_mem_cons.mpr ⟨by with_unfolding_all rfl, List.forall_mem_nil _⟩) (fun z h2 _ => by have hz : z ≠ Str.ofString "back" := h2 _ (List.Mem.head _); simp only [kstB, if_neg hz]; rfl) ⟨?_, ?_, ?_⟩ ?_
    · show first ≤ b - 1
      omega
    · show b - 1 ≤ place
      omega
    · intro j h1 h2
      by_cases hj : j = b - 1
      · subst hj
        rw [← hv, List.getD_eq_getElem?_getD, List.getElem?_eq_getElem (by omega)]; rfl
      · exact i3 j (by show b ≤ j; have : b - 1 ≤ j := h1; omega) h2
    · show b - 1 < b
      omega
  · exact ret _ _ _ (sh_in i1 i2 hp i3 (by assumption) (by assumption) (by assumption)) (by k_asm) (by k_asm)
  · exact ret _ _ _ (sh_out i1 i2 hp i3 (by assumption) (by assumption) (ne_true_of_eq_false (by assumption))) (by k_asm) (by k_asm)
  · exact ret _ _ _ (sh_first i1 i2 i3 (by assumption)) (by k_asm) (by k_asm)
end
end PartC4
end Mine

namespace Mine
section PartP2
def menu (rest : Int) : List Int := [34, 92, 44, 28, 162, 32, 220, 97, 172, 156, 34, 92, 160, 127, 255, rest.fmod 256]
def code1 (x : Int) : Int := (menu (x.fdiv 256)).getD (x.fmod 16).toNat 0 + 256 * ((x.fdiv 256).fmod 7 - 3)
def code2 (x : Int) : Int := (menu (x.fdiv 256)).getD ((x.fdiv 16).fmod 16).toNat 0 + 256 * (x.fdiv 256).fmod 5
theorem menu_range (r : Int) (k : Nat) : 0 ≤ (menu r).getD k 0 ∧ (menu r).getD k 0 ≤ 255 := by
  have hr : 0 ≤ r.fmod 256 ∧ r.fmod 256 ≤ 255 := by rw [Int.fmod_eq_emod_of_nonneg _ (by decide)]; omega
  by_cases h : k < 16
  · unfold menu
    match k, h with
    | 0, _ | 1, _ | 2, _ | 3, _ | 4, _ | 5, _ | 6, _ | 7, _ | 8, _ | 9, _ | 10, _ | 11, _ | 12, _ | 13, _ | 14, _ => exact ⟨(by simp), (by simp)⟩
    | 15, _ => exact hr
    | k + 16, h => omega
  · have e : (menu r).getD k 0 = 0 := by
      rw [List.getD_eq_getElem?_getD, List.getElem?_eq_none (by unfold menu; simp; omega)]; rfl
    rw [e]; exact ⟨by decide, by decide⟩
theorem code2_range (x : Int) : 0 ≤ code2 x ∧ code2 x ≤ 1279 := by
  have h1 := menu_range (x.fdiv 256) ((x.fdiv 16).fmod 16).toNat
  have h2 : 0 ≤ (x.fdiv 256).fmod 5 ∧ (x.fdiv 256).fmod 5 ≤ 4 := by rw [Int.fmod_eq_emod_of_nonneg _ (by decide)]; omega
  unfold code2
  omega
end PartP2
end Mine

namespace Mine
section PartC3
section
variable {w : World} {mean : ExcName → Option Value} {mg mb : Str → Option Value} {dp un : Nat} {gd : Option (List Code)} {cn : Str} {cs : Scope} {a : Addr} {ccd : Value} {cl : List (Str × Addr)} {outer : List Env} {A₀ : Around} {base h₀ : Heap} {L : Addr} {m : Str → Option Value} {news : List (Addr × Obj)} {s : Shared} {Q E : Value → Shared → Prop}

theorem tup_item {w : World} {A : Around} {E : Value → Shared → Prop} {value slice : PySem.Expr} {tA : Addr} {vs : List Value} {k : Nat} {j : Int} {u : Tok} {Q : Value → Shared → Prop} (ns : List Int) (N : News h₀ L s.heap news) (hm : (tA, tupOf vs k) ∈ news) (hi : IntsAre vs ns)
    (h0 : 0 ≤ j) (h1 : j < ns.length) (h2 : ns.length < 1000) (h : ∀ t, Q (.int (ns.getD j.toNat 0) t) s)
    (hs : subscripted slice false (.ref tA) (.int j u) = operate [.ref tA, .int j u] (getItem (.ref tA) (.int j u)) := by with_unfolding_all rfl) :
    wpAny (model PySem.Challenge.rw_mq0094_01.row.prog w) A (subscriptTail value slice (.ref tA) (.int j u)) Q E s := by
  have hl : j.toNat < ns.length := by omega
  obtain ⟨t, ht⟩ := hi.get j.toNat (ns.getD j.toNat 0) (by rw [List.getD_eq_getElem?_getD, List.getElem?_eq_getElem hl]; rfl)
  exact item_tupleT (News.isTup N hm) (by omega) (by omega) (by rw [hi.length]; exact seqIndex_of h0 h1) ht (h t) hs
local macro_rules | `(tactic| walk_at "subscriptTail Name BinOp ref int") => `(tactic| (refine Halt.out ?_))
theorem kN_drop2 {h : Heap} {p q : Addr × Obj} (N : News h₀ L h (p :: q :: news)) : News h₀ L h (p :: news) := fun r hr => N r (by rcases List.mem_cons.mp hr with rfl | hr; exact .head _; exact .tail _ (.tail _ hr))

theorem c_codes {n : Int} {t : Tok} (h0 : 0 ≤ n) (h1 : n < 1000000) (C : Cx w mean mg mb cs outer A₀ base h₀ L s.heap m news) (hdp : dp + 1 < recursionLimit)
  (ret : ∀ l c1 c2 t1 t2 k h' tk', c1 = code1 n → c2 = code2 n → Fr h₀ L h' m → News h₀ L h' ((l, listOf #[.int c1 t1, .int c2 t2] k) :: news) → (∀ p ∈ news, p.1 < l) → Q (.ref l) { s with heap := h', toks := tk' }) :
  wpAny (model PySem.Challenge.rw_mq0094_01.row.prog w) (ktrTop dp un gd cn cs L a ccd cl outer) (call (.ref 47) [.int n t]) Q E s := by
  obtain ⟨B, F, X, N, T, hk⟩ := C
  revert X
  w_on
  k_fill
  intro X
  w_strict (
    refine wpAny_call ?_
    k_dflt ktr_enter
    k_steps)
  refine Halt.mk ?_
  k_dflt (refine' tup_item (menu (n.fdiv 256)) ?k1 ?k2 ?k3 ?k4 ?k5 ?k6 ?_ ?k7)
  (case k1 => k_asm)
  (case k2 => k_mem)
  (case k3 => exact (.cons _ _ (.cons _ _ (.cons _ _ (.cons _ _ (.cons _ _ (.cons _ _ (.cons _ _ (.cons _ _ (.cons _ _ (.cons _ _ (.cons _ _ (.cons _ _ (.cons _ _ (.cons _ _ (.cons _ _ (.cons _ _ .nil)))))))))))))))))
  (case k4 => (rw [Int.fmod_eq_emod_of_nonneg _ (by decide)]; omega))
  (case k5 => (rw [Int.fmod_eq_emod_of_nonneg _ (by decide)]; simp only [menu, List.length_cons, List.length_nil]; omega))
  (case k6 => (simp only [menu, List.length_cons, List.length_nil]; omega))
  (case k7 => with_unfolding_all rfl)
  intro t'
  have mr1 := menu_range (n.fdiv 256) (n.fmod 16).toNat
  w_strict (
    (try k_fold)
    k_steps)
  refine Halt.mk ?_
  k_dflt (refine' tup_item (menu (n.fdiv 256)) ?k1 ?k2 ?k3 ?k4 ?k5 ?k6 ?_ ?k7)
  (case k1 => k_asm)
  (case k2 => k_mem)
  (case k3 => exact (.cons _ _ (.cons _ _ (.cons _ _ (.cons _ _ (.cons _ _ (.cons _ _ (.cons _ _ (.cons _ _ (.cons _ _ (.cons _ _ (.cons _ _ (.cons _ _ (.cons _ _ (.cons _ _ (.cons _ _ (.cons _ _ .nil)))))))))))))))))
  (case k4 => (rw [Int.fmod_eq_emod_of_nonneg _ (by decide)]; omega))
  (case k5 => (rw [Int.fmod_eq_emod_of_nonneg _ (by decide)]; simp only [menu, List.length_cons, List.length_nil]; omega))
  (case k6 => (simp only [menu, List.length_cons, List.length_nil]; omega))
  (case k7 => with_unfolding_all rfl)
  intro t'
  have mr2 := menu_range (n.fdiv 256) ((n.fdiv 16).fmod 16).toNat
  w_strict (
    (try k_fold)
    k_steps)
  rename News _ _ _ _ => kN
  rename _ < _ ∧ AllLt _ _ => l9
  exact ret _ _ _ _ _ _ _ _ rfl rfl (by k_asm) (kN_drop2 kN) (ktn_ltOf l9.2)
end
end PartC3
end Mine

namespace Mine
section PartP3
/-- the reader's state -/
structure PS where
  res : List (List Nat)
  part : List Nat
  esc : Bool
  quote : Bool
def PS.init : PS := ⟨[], [], false, false⟩
/-- parse_http_list's turn -/
def pstep (st : PS) (cur : List Nat) : PS :=
  if st.esc = true then ⟨st.res, st.part ++ cur, false, st.quote⟩
  else if st.quote = true then
    if cur = [92] then ⟨st.res, st.part, true, st.quote⟩
    else if cur = [34] then ⟨st.res, st.part ++ cur, st.esc, false⟩
    else ⟨st.res, st.part ++ cur, st.esc, st.quote⟩
  else if cur = [44] then ⟨st.res ++ [st.part], [], st.esc, st.quote⟩
  else if cur = [34] then ⟨st.res, st.part ++ cur, st.esc, true⟩
  else ⟨st.res, st.part ++ cur, st.esc, st.quote⟩
def prun (xs : List (List Nat)) : PS := xs.foldl pstep PS.init
def pend (st : PS) : List (List Nat) := if st.part = [] then st.res else st.res ++ [st.part]
def total (xs : List (List Nat)) : Nat := (xs.map List.length).sum
theorem prun_snoc (xs : List (List Nat)) (x : List Nat) : prun (xs ++ [x]) = pstep (prun xs) x := by
  unfold prun; rw [List.foldl_append]; rfl
theorem total_snoc (xs : List (List Nat)) (x : List Nat) : total (xs ++ [x]) = total xs + x.length := by
  unfold total; simp
theorem pstep_part (st : PS) (x : List Nat) : (pstep st x).part.length ≤ st.part.length + x.length := by
  unfold pstep; repeat' split
  all_goals simp
theorem pstep_res (st : PS) (x : List Nat) : (pstep st x).res.length ≤ st.res.length + 1 := by
  unfold pstep; repeat' split
  all_goals simp
theorem prun_part : ∀ (xs : List (List Nat)), (prun xs).part.length ≤ total xs := by
  suffices h : ∀ (xs : List (List Nat)) (st : PS), (xs.foldl pstep st).part.length ≤ st.part.length + total xs by
    intro xs; have := h xs PS.init; simpa [PS.init, prun] using this
  intro xs
  induction xs with
  | nil => intro st; simp [total]
  | cons x r ih =>
    intro st
    have h1 := ih (pstep st x)
    have h2 := pstep_part st x
    simp only [List.foldl_cons, total, List.map_cons, List.sum_cons] at h1 ⊢
    omega
theorem prun_res : ∀ (xs : List (List Nat)), (prun xs).res.length ≤ xs.length := by
  suffices h : ∀ (xs : List (List Nat)) (st : PS), (xs.foldl pstep st).res.length ≤ st.res.length + xs.length by
    intro xs; have := h xs PS.init; simpa [PS.init, prun] using this
  intro xs
  induction xs with
  | nil => intro st; simp
  | cons x r ih =>
    intro st
    have h1 := ih (pstep st x)
    have h2 := pstep_res st x
    simp only [List.foldl_cons, List.length_cons] at h1 ⊢
    omega
def ones (pre : List Int) : List (List Nat) := pre.map fun c => [c.toNat]
theorem ones_snoc (pre : List Int) (n : Nat) : ones (pre ++ [(n : Int)]) = ones pre ++ [[n]] := by simp [ones]
theorem ones_total (pre : List Int) : total (ones pre) = pre.length := by
  induction pre with
  | nil => rfl
  | cons c r ih => simp only [ones, total, List.map_cons, List.sum_cons, List.length_cons, List.length_nil] at ih ⊢; omega
theorem ones_length (pre : List Int) : (ones pre).length = pre.length := by simp [ones]
end PartP3
end Mine
namespace Mine
section PartP3
theorem prun_parts : ∀ (xs : List (List Nat)), ∀ p ∈ (prun xs).res, p.length ≤ total xs := by
  suffices h : ∀ (xs : List (List Nat)) (st : PS) (B : Nat), (∀ p ∈ st.res, p.length ≤ B) → st.part.length ≤ B → ∀ p ∈ (xs.foldl pstep st).res, p.length ≤ B + total xs by
    intro xs p hp
    have := h xs PS.init 0 (by simp [PS.init]) (by simp [PS.init]) p hp
    omega
  intro xs
  induction xs with
  | nil => intro st B h1 h2 p hp; have := h1 p hp; simp [total]; omega
  | cons x r ih =>
    intro st B h1 h2 p hp
    have h3 : ∀ p ∈ (pstep st x).res, p.length ≤ B + x.length := by
      intro q hq
      have hq' : q ∈ st.res ∨ q = st.part := by
        unfold pstep at hq
        repeat' split at hq
        all_goals first | exact .inl hq | exact (List.mem_append.mp hq).imp id List.mem_singleton.mp
      rcases hq' with hq' | rfl
      · have := h1 q hq'; omega
      · omega
    have h4 := pstep_part st x
    have := ih (pstep st x) (B + x.length) h3 (by omega) p hp
    simp only [total, List.map_cons, List.sum_cons] at this ⊢
    omega
theorem pend_parts (xs : List (List Nat)) : ∀ p ∈ pend (prun xs), p.length ≤ total xs := by
  intro p hp
  unfold pend at hp
  split at hp
  · exact prun_parts xs p hp
  · rcases List.mem_append.mp hp with hp | hp
    · exact prun_parts xs p hp
    · rw [List.mem_singleton.mp hp]; exact prun_part xs
theorem range_getD {α β : Type} (d : α) (f : α → β) : ∀ (R : List α), (List.range R.length).map (fun i => f (R.getD i d)) = R.map f
  | [] => rfl
  | x :: r => by
    rw [List.length_cons, List.range_succ_eq_map, List.map_cons, List.map_map, List.map_cons]
    exact congrArg (f x :: ·) (range_getD d f r)
theorem ones_codes (x : List Nat) : ones (KStt.codes (S x)) = x.map fun c => [c] := by
  unfold ones KStt.codes S
  simp
end PartP3
end Mine

namespace Mine
section PartP4
def isIn (ms : List Int) (l : Int) : Bool := ms.any (· == l)
/-- the labels' machine -/
def lstep (marks commas sure : List Int) (st : PS) (l : Int) : PS :=
  if st.quote = true then
    if isIn marks l = true ∧ (l ≠ 34 ∨ st.esc = false) then ⟨st.res, st.part ++ drawn l, false, false⟩
    else if isIn sure l = true ∨ (l = 92 ∧ st.esc = false) then ⟨st.res, st.part ++ (drawn l).dropLast, true, true⟩
    else ⟨st.res, st.part ++ drawn l, false, true⟩
  else if isIn marks l = true then ⟨st.res, st.part ++ drawn l, false, true⟩
  else if isIn commas l = true then ⟨st.res ++ [st.part ++ (drawn l).dropLast], [], false, false⟩
  else ⟨st.res, st.part ++ drawn l, false, false⟩
def lrun (marks commas sure row : List Int) : PS := row.foldl (lstep marks commas sure) PS.init
theorem drawn_len (l : Int) : (drawn l).length ≤ 3 := by
  unfold drawn
  repeat' split
  all_goals simp
theorem drawn_ne (l : Int) : drawn l ≠ [] := by
  unfold drawn
  repeat' split
  all_goals simp
theorem lrun_succ {marks commas sure row : List Int} {k : Nat} {l : Int} (h : row[k]? = some l) : lrun marks commas sure (row.take (k + 1)) = lstep marks commas sure (lrun marks commas sure (row.take k)) l := by
  unfold lrun
  rw [List.take_add_one, h, List.foldl_append]
  rfl
theorem lstep_part (marks commas sure : List Int) (st : PS) (l : Int) : (lstep marks commas sure st l).part.length ≤ st.part.length + 3 := by
  have h := drawn_len l
  unfold lstep
  repeat' split
  all_goals simp
  all_goals omega
theorem lstep_res (marks commas sure : List Int) (st : PS) (l : Int) : (lstep marks commas sure st l).res.length ≤ st.res.length + 1 := by
  unfold lstep
  repeat' split
  all_goals simp
theorem lrun_part (marks commas sure : List Int) (row : List Int) : (lrun marks commas sure row).part.length ≤ 3 * row.length := by
  suffices h : ∀ (xs : List Int) (st : PS), (xs.foldl (lstep marks commas sure) st).part.length ≤ st.part.length + 3 * xs.length by
    have := h row PS.init; simpa [PS.init, lrun] using this
  intro xs
  induction xs with
  | nil => intro st; simp
  | cons x r ih =>
    intro st
    have h1 := ih (lstep marks commas sure st x)
    have h2 := lstep_part marks commas sure st x
    simp only [List.foldl_cons, List.length_cons] at h1 ⊢
    omega
theorem lrun_res (marks commas sure : List Int) (row : List Int) : (lrun marks commas sure row).res.length ≤ row.length := by
  suffices h : ∀ (xs : List Int) (st : PS), (xs.foldl (lstep marks commas sure) st).res.length ≤ st.res.length + xs.length by
    have := h row PS.init; simpa [PS.init, lrun] using this
  intro xs
  induction xs with
  | nil => intro st; simp
  | cons x r ih =>
    intro st
    have h1 := ih (lstep marks commas sure st x)
    have h2 := lstep_res marks commas sure st x
    simp only [List.foldl_cons, List.length_cons] at h1 ⊢
    omega
theorem lrun_parts (marks commas sure : List Int) : ∀ (row : List Int), ∀ p ∈ (lrun marks commas sure row).res, p.length ≤ 3 * row.length := by
  suffices h : ∀ (xs : List Int) (st : PS) (B : Nat), (∀ p ∈ st.res, p.length ≤ B) → st.part.length ≤ B → ∀ p ∈ (xs.foldl (lstep marks commas sure) st).res, p.length ≤ B + 3 * xs.length by
    intro xs p hp
    have := h xs PS.init 0 (by simp [PS.init]) (by simp [PS.init]) p hp
    omega
  intro xs
  induction xs with
  | nil => intro st B h1 h2 p hp; have := h1 p hp; simp; omega
  | cons x r ih =>
    intro st B h1 h2 p hp
    have h3 : ∀ p ∈ (lstep marks commas sure st x).res, p.length ≤ B + 3 := by
      intro q hq
      have hq' : q ∈ st.res ∨ q = st.part ++ (drawn x).dropLast := by
        unfold lstep at hq
        repeat' split at hq
        all_goals first | exact .inl hq | exact (List.mem_append.mp hq).imp id List.mem_singleton.mp
      have hd := drawn_len x
      rcases hq' with hq' | rfl
      · have := h1 q hq'; omega
      · rw [List.length_append, List.length_dropLast]; omega
    have h4 := lstep_part marks commas sure st x
    have := ih (lstep marks commas sure st x) (B + 3) h3 (by omega) p hp
    simp only [List.length_cons] at this ⊢
    omega
theorem first_of (b : Nat → Bool) (a n : Nat) : ∃ o, a ≤ o ∧ o ≤ a + n ∧ (∀ j, a ≤ j → j < o → b (j - a) = false) ∧ (o < a + n → b (o - a) = true) ∧
    ((((List.range n).filter b).map fun (i : Nat) => (a : Int) + (i : Int)) ++ [((a + n : Nat) : Int)])[0]? = some (o : Int) := by
  cases h : (List.range n).filter b with
  | nil =>
    refine ⟨a + n, by omega, Nat.le_refl _, fun j h1 h2 => ?_, fun h => absurd h (Nat.lt_irrefl _), rfl⟩
    have := List.filter_eq_nil_iff.mp h (j - a) (List.mem_range.mpr (by omega))
    simpa using this
  | cons i r =>
    have hm : i ∈ (List.range n).filter b := by rw [h]; exact .head _
    have hi := List.mem_filter.mp hm
    have hin := List.mem_range.mp hi.1
    refine ⟨a + i, by omega, by omega, fun j h1 h2 => ?_, fun _ => by rw [Nat.add_sub_cancel_left]; exact hi.2, by simp⟩
    cases hb : b (j - a) with
    | false => rfl
    | true =>
      exfalso
      have hj : j - a ∈ (List.range n).filter b := List.mem_filter.mpr ⟨List.mem_range.mpr (by omega), hb⟩
      have hp : ((List.range n).filter b).Pairwise (· < ·) := List.Pairwise.filter _ List.pairwise_lt_range
      rw [h] at hj hp
      rcases List.mem_cons.mp hj with e | e
      · omega
      · have := (List.pairwise_cons.mp hp).1 _ e
        omega
end PartP4
end Mine

namespace Mine
section PartP5
theorem drawn_fin (c : Int → Bool) (h : ∀ k : Fin 257, c ((k.val : Nat) : Int) = true) {n : Int} (h0 : 0 ≤ n) (h1 : n ≤ 256) : c n = true := by
  have ex : ((n.toNat : Nat) : Int) = n := Int.toNat_of_nonneg h0
  have e := h ⟨n.toNat, by omega⟩
  simp only [ex] at e
  exact e
theorem slice_dr {n : Int} (h0 : 0 ≤ n) (h1 : n ≤ 256) : Txt.slice (S (drawn n)) none (some (-1)) = S (drawn n).dropLast :=
  of_decide_eq_true (drawn_fin (fun n => decide (Txt.slice (S (drawn n)) none (some (-1)) = S (drawn n).dropLast)) (by decide +kernel) h0 h1)
def isBs (n : Int) : Bool := n == 28 || n == 92 || n == 156 || n == 220
theorem item_dr {n : Int} (h0 : 0 ≤ n) (h1 : n ≤ 256) : (Txt.item (S (drawn n)) (-1) == Str.ofString "\\") = isBs n :=
  of_decide_eq_true (drawn_fin (fun n => decide ((Txt.item (S (drawn n)) (-1) == Str.ofString "\\") = isBs n)) (by decide +kernel) h0 h1)
end PartP5
end Mine
namespace Mine
section PartP5
theorem ls_comma {marks commas sure : List Int} {st : PS} {l : Int} (h1 : st.quote = false) (h2 : isIn marks l = false) (h3 : isIn commas l = true) : lstep marks commas sure st l = ⟨st.res ++ [st.part ++ (drawn l).dropLast], [], false, false⟩ := by
  unfold lstep; simp [h1, h2, h3]
theorem ls_plain {marks commas sure : List Int} {st : PS} {l : Int} (h1 : st.quote = false) (h2 : isIn marks l = false) (h3 : isIn commas l = false) : lstep marks commas sure st l = ⟨st.res, st.part ++ drawn l, false, false⟩ := by
  unfold lstep; simp [h1, h2, h3]
theorem seg_at {row pre post : List Int} {l : Int} {p o : Nat} (h : (row.drop p).take (o - p) = pre ++ l :: post) : row[p + pre.length]? = some l ∧ p + pre.length < o := by
  have e : ((row.drop p).take (o - p))[pre.length]? = some l := by rw [h]; simp
  have hl : pre.length < o - p := by
    have := congrArg List.length h
    simp only [List.length_take, List.length_append, List.length_cons] at this
    omega
  rw [List.getElem?_take, if_pos hl, List.getElem?_drop] at e
  exact ⟨e, by omega⟩
theorem getD_of {row : List Int} {k : Nat} {l : Int} (h : row[k]? = some l) : row.getD k 0 = l := by
  rw [List.getD_eq_getElem?_getD, h]; rfl
theorem in_own {α : Type} {own news : List α} {p : α} (l1 : List α) (h : p ∈ l1 ++ news) : p ∈ l1 ++ (news ++ own) := by
  rw [← List.append_assoc]; exact List.mem_append.mpr (.inl h)
theorem own_in {α : Type} {own news : List α} {p : α} (l1 : List α) (h : p ∈ own) : p ∈ l1 ++ (news ++ own) := by
  rw [← List.append_assoc]; exact List.mem_append.mpr (.inr h)
end PartP5
end Mine

namespace Mine
section PartP6
def closes (marks sure row : List Int) (first p : Nat) : Prop := marks.any (· == row.getD p 0) = true ∧ (row.getD p 0 ≠ 34 ∨ shield sure row first p = false)
def StopAt (marks sure row : List Int) (first r : Nat) : Prop := r ≤ row.length ∧ (∀ j, first ≤ j → j < r → ¬ closes marks sure row first j) ∧ (r < row.length → first ≤ r ∧ closes marks sure row first r)
def L2 (sure row : List Int) (o r k : Nat) (st : PS) : Prop :=
  (k = o → st.quote = false ∧ st.esc = false) ∧ (o < k → k ≤ r → st.quote = true ∧ st.esc = shield sure row (o + 1) k) ∧ (r < k → st.quote = false ∧ st.esc = false)
section
variable {marks commas sure row : List Int} {o r k : Nat} {st : PS} {l : Int}
theorem l2_open (hk : k = o) (hl : row[k]? = some l) (hm : isIn marks l = true) (hs : StopAt marks sure row (o + 1) r) (I : L2 sure row o r k st) :
    (lstep marks commas sure st l).part = st.part ++ drawn l ∧ (lstep marks commas sure st l).res = st.res ∧ L2 sure row o r (k + 1) (lstep marks commas sure st l) := by
  subst hk
  have hlt : k < row.length := (List.getElem?_eq_some_iff.mp hl).1
  have hr : k + 1 ≤ r := by
    by_cases h : r < row.length
    · exact (hs.2.2 h).1
    · have := hs.1; omega
  obtain ⟨q, e⟩ := I.1 rfl
  have e2 : lstep marks commas sure st l = ⟨st.res, st.part ++ drawn l, false, true⟩ := by unfold lstep; simp [q, hm]
  rw [e2]
  refine ⟨rfl, rfl, fun h => absurd h (by omega), fun _ _ => ⟨rfl, ?_⟩, fun h => absurd h (by omega)⟩
  rw [shield_self]
theorem l2_close (ho : o < k) (hk : k = r) (hl : row[k]? = some l) (hs : StopAt marks sure row (o + 1) r) (I : L2 sure row o r k st) :
    (lstep marks commas sure st l).part = st.part ++ drawn l ∧ (lstep marks commas sure st l).res = st.res ∧ L2 sure row o r (k + 1) (lstep marks commas sure st l) := by
  subst hk
  have hlt : k < row.length := (List.getElem?_eq_some_iff.mp hl).1
  obtain ⟨_, c1, c2⟩ := hs.2.2 hlt
  obtain ⟨q, e⟩ := I.2.1 ho (Nat.le_refl _)
  rw [getD_of hl] at c1 c2
  rw [← e] at c2
  change isIn marks l = true at c1
  have e2 : lstep marks commas sure st l = ⟨st.res, st.part ++ drawn l, false, false⟩ := by
    unfold lstep; rw [if_pos q, if_pos ⟨c1, c2⟩]
  rw [e2]
  exact ⟨rfl, rfl, fun h => absurd h (by omega), fun _ h => absurd h (by omega), fun _ => ⟨rfl, rfl⟩⟩
theorem l2_mid (ho : o < k) (hk : k < r) (hl : row[k]? = some l) (hs : StopAt marks sure row (o + 1) r) (h92 : isIn sure 92 = false) (I : L2 sure row o r k st) :
    ((isIn sure l = true ∨ (l = 92 ∧ shield sure row (o + 1) k = false)) → lstep marks commas sure st l = ⟨st.res, st.part ++ (drawn l).dropLast, true, true⟩ ∧ L2 sure row o r (k + 1) (lstep marks commas sure st l)) ∧
    (¬ (isIn sure l = true ∨ (l = 92 ∧ shield sure row (o + 1) k = false)) → lstep marks commas sure st l = ⟨st.res, st.part ++ drawn l, false, true⟩ ∧ L2 sure row o r (k + 1) (lstep marks commas sure st l)) := by
  have hnc := hs.2.1 k (by omega) hk
  obtain ⟨q, e⟩ := I.2.1 ho (by omega)
  unfold closes at hnc
  rw [getD_of hl, ← e] at hnc
  change ¬ (isIn marks l = true ∧ (l ≠ 34 ∨ st.esc = false)) at hnc
  have hsh := shield_succ (sure := sure) (first := o + 1) (p := k) (by omega) hl
  rw [← e] at hsh ⊢
  unfold escStep at hsh
  constructor
  · intro hd
    have e2 : lstep marks commas sure st l = ⟨st.res, st.part ++ (drawn l).dropLast, true, true⟩ := by
      unfold lstep; rw [if_pos q, if_neg hnc, if_pos hd]
    rw [e2]
    refine ⟨rfl, fun h => absurd h (by omega), fun _ _ => ⟨rfl, ?_⟩, fun h => absurd h (by omega)⟩
    rw [hsh]
    show true = _
    rcases hd with h | ⟨h, h2⟩
    · have hne : l ≠ 92 := fun h3 => by rw [h3, h92] at h; cases h
      rw [if_neg hne]; exact h.symm
    · rw [if_pos h, h2]; rfl
  · intro hd
    have e2 : lstep marks commas sure st l = ⟨st.res, st.part ++ drawn l, false, true⟩ := by
      unfold lstep; rw [if_pos q, if_neg hnc, if_neg hd]
    rw [e2]
    refine ⟨rfl, fun h => absurd h (by omega), fun _ _ => ⟨rfl, ?_⟩, fun h => absurd h (by omega)⟩
    rw [hsh]
    show false = _
    by_cases h : l = 92
    · rw [if_pos h]
      cases he : st.esc with
      | true => rfl
      | false => exact absurd (.inr ⟨h, he⟩) hd
    · rw [if_neg h]
      cases hb : isIn sure l with
      | true => exact absurd (.inl hb) hd
      | false => exact hb.symm
end
end PartP6
end Mine

namespace Mine
section PartC5
theorem stop_ret {marks sure row : List Int} {first : Nat} {pre : List Int} (hP : ∀ j, first ≤ j → j < first + pre.length → ¬ closes marks sure row first j) (hk : pre.length < row.length - first)
    (e1 : marks.any (· == row.getD (first + pre.length) 0) = true) (e2 : row.getD (first + pre.length) 0 ≠ 34 ∨ shield sure row first (first + pre.length) = false) : StopAt marks sure row first (first + pre.length) :=
  ⟨by omega, hP, fun _ => ⟨by omega, e1, e2⟩⟩
theorem stop_next {marks sure row : List Int} {first : Nat} {pre : List Int} {k : Int} (hP : ∀ j, first ≤ j → j < first + pre.length → ¬ closes marks sure row first j) (h : ¬ closes marks sure row first (first + pre.length)) :
    ∀ j, first ≤ j → j < first + (pre ++ [k]).length → ¬ closes marks sure row first j := by
  intro j h1 h2
  rw [List.length_append, List.length_singleton] at h2
  by_cases hj : j = first + pre.length
  · rw [hj]; exact h
  · exact hP j h1 (by omega)
theorem stop_end {marks sure row : List Int} {first : Nat} (hP : ∀ j, first ≤ j → j < first + (rangeKs (first : Int) (row.length - first)).length → ¬ closes marks sure row first j) : StopAt marks sure row first row.length := by
  rw [rangeKs_length] at hP
  exact ⟨Nat.le_refl _, fun j h1 h2 => hP j h1 (by omega), fun h => absurd h (Nat.lt_irrefl _)⟩
theorem news_sub {h₀ h : Heap} {L : Addr} {l l' : List (Addr × Obj)} (N : News h₀ L h l) (hs : ∀ p ∈ l', p ∈ l) : News h₀ L h l' := fun p hp => N p (hs p hp)

section
variable {w : World} {mean : ExcName → Option Value} {mg mb : Str → Option Value} {dp un : Nat} {gd : Option (List Code)} {cn : Str} {cs : Scope} {a : Addr} {ccd : Value} {cl : List (Str × Addr)} {outer : List Env} {A₀ : Around} {base h₀ : Heap} {L : Addr} {m : Str → Option Value} {news : List (Addr × Obj)} {s : Shared} {Q E : Value → Shared → Prop}

theorem len_led {w : World} {A : Around} {E : Value → Shared → Prop} {lA : Addr} {vs : List Value} {k n : Nat} {Q : Value → Shared → Prop} (N : News h₀ L s.heap news) (hm : (lA, listOf vs.toArray k) ∈ news) (hn : vs.length = n) (hl : n ≤ 1000000)
    (h : ∀ t tk, Q (.int n t) { s with toks := tk }) : wpAny (model PySem.Challenge.rw_mq0094_01.row.prog w) A (call (.builtin "len") [.ref lA]) Q E s :=
  call_len_list (items := vs.toArray) ⟨_, (N _ hm).1, rfl, k, rfl⟩ (by rw [List.size_toArray, hn]; omega) (by rw [List.size_toArray, hn]; exact h _ _)

local macro_rules | `(tactic| walk_at "call builtin:len") => `(tactic| (k_here; k_dflt (refine' len_led ?k1 ?k2 (IntsAre.length ?k3) ?k4 ?_; (case k1 => k_asm); (case k2 => k_mem); (case k3 => assumption); (case k4 => omega)); intro tl tkl))
local macro_rules | `(tactic| walk_at "compareOp In int ref") => `(tactic| (k_here; k_dflt (refine' in_tup ?k1 ?k2 ?k3 ?_; (case k1 => k_asm); (case k2 => k_mem); (case k3 => assumption))))
local macro_rules | `(tactic| walk_at "exec For Name Call cons nil") => `(tactic| (refine Halt.out ?_))
local macro_rules | `(tactic| walk_at "pyIter ref") => `(tactic| (refine Halt.out ?_))
local macro_rules | `(tactic| walk_at "InvEndN") => `(tactic| (refine Halt.out ?_))

local macro_rules | `(tactic| walk_at "call ref") => `(tactic| (k_here; k_dflt (refine' c_shielded ⟨?k1, ?k2, ?k3, ?k4, ?k5, ?k6⟩ ?r1 ?r2 ?r3 ?r4 ?r5 ?r6 ?r7 ?k7 ?_; (case k1 => k_asm); (case k2 => k_asm); (case k3 => k_asm); (case k4 => k_asm); (case k5 => k_asm); (case k6 => first | exact rfl | assumption); (case r1 => k_mem); (case r2 => assumption); (case r3 => k_mem); (case r4 => assumption); (case r5 => assumption); (case r6 => omega); (case r7 => omega); (case k7 => ktr_room)); intro b' h' tk' hb' F' N'; subst hb'))

theorem c_stop {rowA marksA sureA : Addr} {vr vm vsu : List Value} {row marks sure : List Int} {kr km ks : Nat} {first : Nat} {t1 : Tok} (C : Cx w mean mg mb cs outer A₀ base h₀ L s.heap m news)
  (hr : (rowA, listOf vr.toArray kr) ∈ news) (hrI : IntsAre vr row) (hma : (marksA, tupOf vm km) ∈ news) (hmI : IntsAre vm marks) (hsu : (sureA, tupOf vsu ks) ∈ news) (hsI : IntsAre vsu sure) (hlen : row.length ≤ 100) (hf : first ≤ row.length + 1) (hdp : dp + 2 < recursionLimit)
  (ret : ∀ (r : Nat) t h' tk', StopAt marks sure row first r → Fr h₀ L h' m → News h₀ L h' news → Q (.int r t) { s with heap := h', toks := tk' }) :
  wpAny (model PySem.Challenge.rw_mq0094_01.row.prog w) (ktrTop dp un gd cn cs L a ccd cl outer) (call (.ref 75) [.ref rowA, .int first t1, .ref marksA, .ref sureA]) Q E s := by
  obtain ⟨B, F, X, N, T, hk⟩ := C
  revert X
  w_on
  k_fill
  intro X
  w_strict (
    refine wpAny_call ?_
    k_dflt ktr_enter
    k_steps)
  refine Halt.mk ?_
  rename Fr _ _ _ _ => lF
  k_dflt (refine' For_invVF lF ?k1 ?k2 ?_; (case k1 => exact rfl); (case k2 => exact rfl))
  w_strict (
    (try k_fold)
    k_steps)
  refine Halt.mk ?_
  rename IsRange _ _ _ _ _ _ _ _ => hR
  rename News _ _ _ _ => lN
  rename Fr _ _ _ _ => lF2
  k_dflt (refine' kst_range (σ := Unit) (n := row.length - first) (fun _ => news) (fun _ => []) (fun _ => True) [] (fun pre _ => ∀ j, first ≤ j → j < first + pre.length → ¬ closes marks sure row first j) () rfl hR (small_one (by omega) (by omega) (by omega) (by omega)) ?k1 lF2 lN True.intro (List.forall_mem_nil _) ?k2 ?_ ?_)
  case k1 => rw [rangeSize_one]; split <;> omega
  case k2 => intro j h1 h2; exact absurd h2 (by simp; omega)
  · intro _ pre k t' u h tk own hk1 hk2 hoff _ hP F1 N1
    clear lF2 lN
    have hk3 : k = ((first + pre.length : Nat) : Int) := by omega
    subst hk3
    clear hk1
    w_strict (
      (try k_fold)
      k_steps)
    · rename (marks.any _) = true => e1
      rename row.getD _ _ ≠ 34 => e2
      rw [Int.toNat_natCast] at e1 e2
      exact ret _ _ _ _ (stop_ret hP hk2 e1 (.inl e2)) (by k_asm) (news_sub (by k_asm) fun p hp => List.mem_append.mpr (.inl hp))
    · refine Halt.mk ?_
      rename row.getD _ _ = 34 => e2
      rename shield _ _ _ _ = true => e3
      rw [Int.toNat_natCast] at e2
      refine kst_end () (by k_asm) (by k_asm) (fun p hp => List.mem_append.mpr (.inl hp)) (fun p hp => List.mem_append.mpr (.inr hp)) rfl True.intro (List.forall_mem_nil _) (fun z hz _ _ => by simp only [kstB, if_neg hz]; rfl) ?_
      exact stop_next hP fun hc => hc.2.elim (fun h => h e2) fun h => by rw [e3] at h; cases h
    · rename (marks.any _) = true => e1
      rename shield _ _ _ _ = false => e3
      rw [Int.toNat_natCast] at e1
      exact ret _ _ _ _ (stop_ret hP hk2 e1 (.inr e3)) (by k_asm) (news_sub (by k_asm) fun p hp => List.mem_append.mpr (.inl hp))
    · refine Halt.mk ?_
      rename (marks.any _) = false => e1
      rw [Int.toNat_natCast] at e1
      refine kst_end () (by k_asm) (by k_asm) (fun p hp => List.mem_append.mpr (.inl hp)) (fun p hp => List.mem_append.mpr (.inr hp)) rfl True.intro (List.forall_mem_nil _) (fun z hz _ _ => by simp only [kstB, if_neg hz]; rfl) ?_
      exact stop_next hP fun hc => by rw [hc.1] at e1; cases e1
  · intro _ u h tk _ hP F1 N1
    clear lF2 lN
    w_strict (
      k_steps)
    exact ret _ _ _ _ (stop_end hP) (by k_asm) (by k_asm)
end
end PartC5
end Mine

namespace Mine
section PartC6
section
variable {w : World} {mean : ExcName → Option Value} {mg mb : Str → Option Value} {dp un : Nat} {gd : Option (List Code)} {cn : Str} {cs : Scope} {a : Addr} {ccd : Value} {cl : List (Str × Addr)} {outer : List Env} {A₀ : Around} {base h₀ : Heap} {L : Addr} {m : Str → Option Value} {news : List (Addr × Obj)} {s : Shared} {Q E : Value → Shared → Prop}

local macro_rules | `(tactic| walk_at "exec For Name Name cons nil") => `(tactic| (refine Halt.out ?_))
local macro_rules | `(tactic| walk_at "pyIter str") => `(tactic| (refine Halt.out ?_))
local macro_rules | `(tactic| walk_at "eval ListComp") => `(tactic| (refine Halt.out ?_))
local macro_rules | `(tactic| walk_at "CompEnd") => `(tactic| (refine Halt.out ?_))
local macro_rules | `(tactic| walk_at "InvEndN") => `(tactic| (refine Halt.out ?_))

theorem iadd_S {w : World} {A : Around} {E : Value → Shared → Prop} {x y : List Nat} {t u : Tok} {Q : Value → Shared → Prop} (hx : x.length ≤ 100000) (hy : y.length ≤ 100000)
    (h : ∀ t' k, Q (.str (S (x ++ y)) t') { s with toks := k }) : wpAny (model PySem.Challenge.rw_mq0094_01.row.prog w) A (inplaceOp .Add (.str (S x) t) (.str (S y) u)) Q E s :=
  iadd_str (fun t' k => by rw [S_append]; exact h t' k) (by rw [S_length, S_length, sizeLine_eq]; omega)
theorem truthy_S {w : World} {A : Around} {E : Value → Shared → Prop} {x : List Nat} {t : Tok} {Q : Bool → Shared → Prop} (hx : x.length ≤ 100000) (h : ∀ k, Q (decide (x ≠ [])) { s with toks := k }) :
    wpAny (model PySem.Challenge.rw_mq0094_01.row.prog w) A (truthy (.str (S x) t)) Q E s :=
  P.truthy_str (by rw [S_length]; omega) (by
    have e : (((S x).length : Int) != 0) = decide (x ≠ []) := by
      rw [S_length]
      cases x with
      | nil => rfl
      | cons c r => simp; omega
    rw [e]; exact h _)
theorem append_led {w : World} {A : Around} {E : Value → Shared → Prop} {rA : Addr} {vs : List Value} {n : Nat} {tl : List (Addr × Obj)} {v : Value} {Q : Value → Shared → Prop} (F : Fr h₀ L s.heap m) (N : News h₀ L s.heap ((rA, listOf vs.toArray n) :: tl)) (off : ∀ p ∈ tl, p.1 ≠ rA) (hz : vs.length ≤ 100000)
    (h : ∀ h', Fr h₀ L h' m → News h₀ L h' ((rA, listOf (vs ++ [v]).toArray (n + 1)) :: tl) → Q .none { s with heap := h' }) : wpAny (model PySem.Challenge.rw_mq0094_01.row.prog w) A (call (.builtin "list.append") [.ref rA, v]) Q E s :=
  append_K (news' := (rA, listOf (vs.toArray.push v) (n + 1)) :: tl) F N (Upd.head off) (fun h' F' N' => h h' F' (by rw [List.push_toArray] at N'; exact N')) (by rw [List.size_toArray, sizeLine_eq]; omega)

local macro_rules | `(tactic| walk_at "inplaceOp Add str str") => `(tactic| (k_here; k_dflt (refine' iadd_S ?k1 ?k2 ?_; (case k1 => omega); (case k2 => omega)); intro t9 k9))
local macro_rules | `(tactic| walk_at "truthy str") => `(tactic| (k_here; k_dflt (refine' truthy_S ?k1 ?_; (case k1 => omega)); intro k9))
local macro_rules | `(tactic| walk_at "call builtin:list.append") => `(tactic| (k_here; k_dflt (refine' append_led ?k1 ?k2 ?k3 ?k4 ?_; (case k1 => k_asm); (case k2 => k_asm); (case k3 => assumption); (case k4 => omega)); intro h' F' N'))

theorem strip_S {w : World} {A : Around} {E : Value → Shared → Prop} {x : List Nat} {t : Tok} {Q : Value → Shared → Prop} (hx : x.length ≤ 100000) (h : ∀ t' k, Q (.str (Txt.strip (S x)) t') { s with toks := k }) :
    wpAny (model PySem.Challenge.rw_mq0094_01.row.prog w) A (call (.builtin "str.strip") [.str (S x) t]) Q E s :=
  SCL.strip (fun t' k _ => h t' k) (by rw [S_length, sizeLine_eq]; omega)
local macro_rules | `(tactic| walk_at "call builtin:str.strip") => `(tactic| (k_here; k_dflt (refine' strip_S ?k1 ?_; (case k1 => omega)); intro t9 k9))

/-- a comprehension whose turns leave the ledger as it is -/
theorem comp_gen {w : World} {A : Around} {env : Env} {elt : PySem.Expr} {x : Str} {scope : Scope} {cl : List (Str × Addr)} {S : List (Addr × Obj) → Prop} {P : Nat → Value → Prop} {Fin : List Value → List (Addr × Obj) → Prop} {n : Nat} (Y : Nat → Value → Prop) (hS : S news)
    (turn : ∀ i v ys I oI C oC D m₂ h tk (E' : Value → Shared → Prop), i < n → P i v → LCg.NsObj oC m₂ → m₂ x = some v → Fr h₀ L h m → News h₀ L h ((I, oI) :: (C, oC) :: (D, LCg.lst ys) :: news) → LCg.Off3 I C D news → ((@Ne Nat I C) ∧ (@Ne Nat I D) ∧ (@Ne Nat C D)) →
      wpAny (model PySem.Challenge.rw_mq0094_01.row.prog w) A (eval elt (compEnvC scope cl C env)) (LCg.CompEnd h₀ L m { s with heap := h, toks := tk } I oI C oC D (LCg.lst ys) S (fun y news' => news' = news ∧ Y i y)) E' { s with heap := h, toks := tk })
    (fin : ∀ ys : List Value, ys.length = n → (∀ i y, ys[i]? = some y → Y i y) → Fin ys news) : LCg.CompRest PySem.Challenge.rw_mq0094_01.row.prog w A h₀ L m env elt x scope cl s S P Fin n 0 [] news := by
  have key : ∀ (j i : Nat) (ys : List Value), i + j = n → ys.length = i → (∀ i y, ys[i]? = some y → Y i y) → LCg.CompRest PySem.Challenge.rw_mq0094_01.row.prog w A h₀ L m env elt x scope cl s S P Fin j i ys news := by
    intro j
    induction j with
    | zero =>
      intro i ys hi hl hy
      exact LCg.CompRest.zero (fin ys (by omega) hy)
    | succ j ih =>
      intro i ys hi hl hy
      refine LCg.CompRest.succ ?_
      intro v I oI C oC D m₂ h tk E' hv hC hx F N off ne
      refine wpAny_mono (turn i v ys I oI C oC D m₂ h tk E' (by omega) hv hC hx F N off ne) (fun y s₂ hq => ?_) fun _ _ e => e
      obtain ⟨h', tk', nw, e, F', N', off', hS', hn, hy'⟩ := hq
      subst hn
      refine ⟨h', tk', nw, e, F', N', off', hS', ?_⟩
      refine ih (i + 1) (ys ++ [y]) (by omega) (by rw [List.length_append, List.length_singleton, hl]) fun q z hz => ?_
      by_cases hq : q < ys.length
      · rw [List.getElem?_append_left hq] at hz; exact hy q z hz
      · rw [List.getElem?_append_right (by omega)] at hz
        have h0 : q - ys.length = 0 := by
          by_cases h1 : q - ys.length = 0
          · exact h1
          · rw [List.getElem?_eq_none (by simp; omega)] at hz; cases hz
        rw [h0] at hz
        have ez : y = z := Option.some.inj hz
        have eq : q = i := by omega
        rw [← ez, eq]; exact hy'
  exact key n 0 [] (by omega) rfl (fun i y h => by simp at h)
theorem strs_of {g : Nat → Str} : ∀ {ys : List Value}, (∀ i y, ys[i]? = some y → ∃ t, y = Value.str (g i) t) → StrsAre ys ((List.range ys.length).map g)
  | [], _ => .nil
  | y :: r, h => by
    obtain ⟨t, rfl⟩ := h 0 y rfl
    have := strs_of (g := fun i => g (i + 1)) (ys := r) fun i y hy => h (i + 1) y hy
    rw [List.length_cons, List.range_succ_eq_map, List.map_cons, List.map_map]
    exact .cons _ t this

theorem map_at {α β : Type} {f : α → β} {R : List α} {i : Nat} {y : β} (h : (R.map f)[i]? = some y) : ∃ r, R[i]? = some r ∧ y = f r := by
  rw [List.getElem?_map, Option.map_eq_some_iff] at h
  obtain ⟨r, h1, h2⟩ := h
  exact ⟨r, h1, h2.symm⟩
theorem off1_mem {D : Addr} : ∀ {l : List (Addr × Obj)}, LCg.Off1 D l → ∀ p ∈ l, p.1 ≠ D
  | [], _, _, h => nomatch h
  | _ :: _, x, p, h => by
    rcases List.mem_cons.mp h with rfl | h
    · exact x.1
    · exact off1_mem x.2 p h
theorem off1_ne {D : Addr} {q : Addr × Obj} (h : LCg.Off1 D (q :: news)) : ∀ p ∈ news, p.1 ≠ D := fun p hp => off1_mem h p (.tail _ hp)

structure PC where
  st : PS
  vs : List Value
  n : Nat
  t : Tok
def pcLed (rA : Addr) (news : List (Addr × Obj)) (c : PC) : List (Addr × Obj) := (rA, listOf c.vs.toArray c.n) :: news
def pcPs (c : PC) : List (Str × Value) := [(Str.ofString "part", .str (S c.st.part) c.t), (Str.ofString "escape", .bool c.st.esc), (Str.ofString "quote", .bool c.st.quote)]
def pcFacts (c : PC) : Prop := StrsAre c.vs (c.st.res.map S)

theorem lit_bs : Str.ofString "\\" = S [92] := by decide +kernel
theorem lit_dq : Str.ofString "\"" = S [34] := by decide +kernel
theorem lit_co : Str.ofString "," = S [44] := by decide +kernel
theorem S_beq {x y : List Nat} {b : Bool} (h : (S x == S y) = b) : (x = y) = (b = true) := by
  subst h
  apply propext
  rw [beq_iff_eq]
  exact ⟨fun e => by rw [e], S_inj⟩
section
variable {res : List (List Nat)} {part x : List Nat} {esc quote : Bool}
theorem pe_1 (h1 : esc = true) : pstep ⟨res, part, esc, quote⟩ x = ⟨res, part ++ x, false, quote⟩ := by unfold pstep; rw [if_pos h1]
theorem pe_2 (h1 : esc = false) (h2 : quote = true) (h3 : (S x == Str.ofString "\\") = true) : pstep ⟨res, part, esc, quote⟩ x = ⟨res, part, true, quote⟩ := by
  rw [lit_bs] at h3; have := S_beq h3; unfold pstep; simp_all
theorem pe_3 (h1 : esc = false) (h2 : quote = true) (h3 : (S x == Str.ofString "\\") = false) (h4 : (S x == Str.ofString "\"") = true) : pstep ⟨res, part, esc, quote⟩ x = ⟨res, part ++ x, esc, false⟩ := by
  rw [lit_bs] at h3; rw [lit_dq] at h4; have := S_beq h3; have := S_beq h4; unfold pstep; simp_all
theorem pe_4 (h1 : esc = false) (h2 : quote = true) (h3 : (S x == Str.ofString "\\") = false) (h4 : (S x == Str.ofString "\"") = false) : pstep ⟨res, part, esc, quote⟩ x = ⟨res, part ++ x, esc, quote⟩ := by
  rw [lit_bs] at h3; rw [lit_dq] at h4; have := S_beq h3; have := S_beq h4; unfold pstep; simp_all
theorem pe_5 (h1 : esc = false) (h2 : quote = false) (h3 : (S x == Str.ofString ",") = true) : pstep ⟨res, part, esc, quote⟩ x = ⟨res ++ [part], [], esc, quote⟩ := by
  rw [lit_co] at h3; have := S_beq h3; unfold pstep; simp_all
theorem pe_6 (h1 : esc = false) (h2 : quote = false) (h3 : (S x == Str.ofString ",") = false) (h4 : (S x == Str.ofString "\"") = true) : pstep ⟨res, part, esc, quote⟩ x = ⟨res, part ++ x, esc, true⟩ := by
  rw [lit_co] at h3; rw [lit_dq] at h4; have := S_beq h3; have := S_beq h4; unfold pstep; simp_all
theorem pe_7 (h1 : esc = false) (h2 : quote = false) (h3 : (S x == Str.ofString ",") = false) (h4 : (S x == Str.ofString "\"") = false) : pstep ⟨res, part, esc, quote⟩ x = ⟨res, part ++ x, esc, quote⟩ := by
  rw [lit_co] at h3; rw [lit_dq] at h4; have := S_beq h3; have := S_beq h4; unfold pstep; simp_all
end
theorem all3 {α : Type} {P : α → Prop} {a b c : α} (ha : P a) (hb : P b) (hc : P c) : ∀ p ∈ [a, b, c], P p :=
  List.forall_mem_cons.mpr ⟨ha, List.forall_mem_cons.mpr ⟨hb, List.forall_mem_cons.mpr ⟨hc, List.forall_mem_nil _⟩⟩⟩
theorem off_of {rA : Addr} {own : List (Addr × Obj)} {adr : List Addr} (lt : ∀ p ∈ news, p.1 < rA) (h : OwnOff own adr) (hm : rA ∈ adr) : ∀ p ∈ news ++ own, p.1 ≠ rA := fun p hp =>
  (List.mem_append.mp hp).elim (fun q => Nat.ne_of_lt (lt p q)) fun q => h p q _ hm

theorem pc_in {own : List (Addr × Obj)} {q p : Addr × Obj} (hp : p ∈ q :: news) : p ∈ q :: (news ++ own) := by
  rcases List.mem_cons.mp hp with rfl | hp
  · exact .head _
  · exact .tail _ (List.mem_append.mpr (.inl hp))

theorem c_parse_str {xt : List Nat} {t : Tok} (C : Cx w mean mg mb cs outer A₀ base h₀ L s.heap m news) (hlen : xt.length ≤ 1000) (hdp : dp + 1 < recursionLimit)
  (ret : ∀ l vs k h' tk', StrsAre vs ((pend (prun (xt.map fun c => [c]))).map fun x => Txt.strip (S x)) → Fr h₀ L h' m → News h₀ L h' ((l, listOf vs.toArray k) :: news) → (∀ p ∈ news, p.1 ≠ l) → Q (.ref l) { s with heap := h', toks := tk' }) :
  wpAny (model PySem.Challenge.rw_mq0094_01.row.prog w) (ktrTop dp un gd cn cs L a ccd cl outer) (call (.ref 19) [.str (S xt) t]) Q E s := by
  obtain ⟨B, F, X, N, T, hk⟩ := C
  revert X
  w_on
  k_fill
  intro X
  w_strict (
    refine wpAny_call ?_
    k_dflt ktr_enter
    k_steps)
  refine Halt.mk ?_
  rename Fr _ _ _ _ => lF
  k_dflt (refine' For_invVF lF ?k1 ?k2 ?_; (case k1 => exact rfl); (case k2 => exact rfl))
  w_strict (
    (try k_fold)
    k_steps)
  refine Halt.mk ?_
  rename News _ _ _ _ => lN
  rename Fr _ _ _ _ => lF2
  rename ∀ (p : Addr × Obj), p ∈ news → p.fst < _ => lt1
  rename_i rA _ _ _
  k_dflt (refine' KStt.kst_text (xt := S xt) (σ := PC) (pcLed _ news) pcPs pcFacts [] (fun pre c => c.st = prun (ones pre)) ⟨PS.init, [], 0, _⟩ rfl lF2 lN StrsAre.nil ?k1 rfl ?_ ?_)
  case k1 => exact List.forall_mem_cons.mpr ⟨by with_unfolding_all rfl, List.forall_mem_cons.mpr ⟨by with_unfolding_all rfl, List.forall_mem_cons.mpr ⟨by with_unfolding_all rfl, List.forall_mem_nil _⟩⟩⟩
  · rintro ⟨⟨res, part, esc, quote⟩, vs, kn, tp⟩ pre post c t' u h tk own hcod hoff hfa hP F1 N1
    clear lF2 lN
    obtain ⟨hb1, hb2⟩ : part.length ≤ 1000 ∧ vs.length ≤ 1000 := by
      have e1 := prun_part (ones pre)
      have e2 := prun_res (ones pre)
      have e3 : (KStt.codes (S xt)).length = xt.length := by rw [KStt.codes_length, S_length]
      rw [hcod, List.length_append, List.length_cons] at e3
      rw [ones_total] at e1
      rw [ones_length] at e2
      have e4 := StrsAre.length hfa
      rw [List.length_map] at e4
      rw [← hP] at e1 e2
      dsimp only at e1 e2 e4
      omega
    have hoff2 := off_of lt1 hoff (List.Mem.head _)
    obtain ⟨x, hx⟩ : ∃ x, x = [c] := ⟨_, rfl⟩
    have hb3 : x.length ≤ 1000 := by rw [hx]; simp
    change Fr _ _ _ (fun y => if y = Str.ofString "cur" then some (.str (S [c]) t') else _) at F1
    rw [← hx] at F1
    dsimp only [pcLed, pcPs, pcFacts] at F1 N1 hfa hP hoff
    simp only [List.cons_append] at N1
    have hP2 : prun (ones (pre ++ [(c : Int)])) = pstep ⟨res, part, esc, quote⟩ x := by rw [ones_snoc, prun_snoc, ← hP, ← hx]
    w_strict (
      (try k_fold)
      k_steps)
    · refine Halt.mk ?_
      exact kst_end (σ := PC) ⟨⟨res, part ++ x, false, quote⟩, vs, kn, _⟩ (by k_asm) (by k_asm) (fun p hp => pc_in hp) (fun p hp => List.Mem.tail _ (List.mem_append.mpr (.inr hp))) rfl (by exact hfa) (all3 (by with_unfolding_all rfl) (by with_unfolding_all rfl) (by with_unfolding_all rfl)) (fun z hz hp _ => by have h1 : z ≠ Str.ofString "part" := hp _ (.head _); have h2 : z ≠ Str.ofString "escape" := hp _ (.tail _ (.head _)); have h3 : z ≠ Str.ofString "quote" := hp _ (.tail _ (.tail _ (.head _))); simp only [kstB, if_neg hz, if_neg h1, if_neg h2, if_neg h3]; rfl) (by show _ = prun _; rw [hP2]; exact (pe_1 (by assumption)).symm)
    · refine Halt.mk ?_
      exact kst_end (σ := PC) ⟨⟨res, part, true, quote⟩, vs, kn, _⟩ (by k_asm) (by k_asm) (fun p hp => pc_in hp) (fun p hp => List.Mem.tail _ (List.mem_append.mpr (.inr hp))) rfl (by exact hfa) (all3 (by with_unfolding_all rfl) (by with_unfolding_all rfl) (by with_unfolding_all rfl)) (fun z hz hp _ => by have h1 : z ≠ Str.ofString "part" := hp _ (.head _); have h2 : z ≠ Str.ofString "escape" := hp _ (.tail _ (.head _)); have h3 : z ≠ Str.ofString "quote" := hp _ (.tail _ (.tail _ (.head _))); simp only [kstB, if_neg hz, if_neg h1, if_neg h2, if_neg h3]; rfl) (by show _ = prun _; rw [hP2]; exact (pe_2 (by assumption) (by assumption) (by assumption)).symm)
    · refine Halt.mk ?_
      exact kst_end (σ := PC) ⟨⟨res, part ++ x, esc, false⟩, vs, kn, _⟩ (by k_asm) (by k_asm) (fun p hp => pc_in hp) (fun p hp => List.Mem.tail _ (List.mem_append.mpr (.inr hp))) rfl (by exact hfa) (all3 (by with_unfolding_all rfl) (by with_unfolding_all rfl) (by with_unfolding_all rfl)) (fun z hz hp _ => by have h1 : z ≠ Str.ofString "part" := hp _ (.head _); have h2 : z ≠ Str.ofString "escape" := hp _ (.tail _ (.head _)); have h3 : z ≠ Str.ofString "quote" := hp _ (.tail _ (.tail _ (.head _))); simp only [kstB, if_neg hz, if_neg h1, if_neg h2, if_neg h3]; rfl) (by show _ = prun _; rw [hP2]; exact (pe_3 (by assumption) (by assumption) (by assumption) (by assumption)).symm)
    · refine Halt.mk ?_
      exact kst_end (σ := PC) ⟨⟨res, part ++ x, esc, quote⟩, vs, kn, _⟩ (by k_asm) (by k_asm) (fun p hp => pc_in hp) (fun p hp => List.Mem.tail _ (List.mem_append.mpr (.inr hp))) rfl (by exact hfa) (all3 (by with_unfolding_all rfl) (by with_unfolding_all rfl) (by with_unfolding_all rfl)) (fun z hz hp _ => by have h1 : z ≠ Str.ofString "part" := hp _ (.head _); have h2 : z ≠ Str.ofString "escape" := hp _ (.tail _ (.head _)); have h3 : z ≠ Str.ofString "quote" := hp _ (.tail _ (.tail _ (.head _))); simp only [kstB, if_neg hz, if_neg h1, if_neg h2, if_neg h3]; rfl) (by show _ = prun _; rw [hP2]; exact (pe_4 (by assumption) (by assumption) (by assumption) (by assumption)).symm)
    · refine Halt.mk ?_
      exact kst_end (σ := PC) ⟨⟨res ++ [part], [], esc, quote⟩, vs ++ [.str (S part) tp], kn + 1, _⟩ (by k_asm) (by k_asm) (fun p hp => pc_in hp) (fun p hp => List.Mem.tail _ (List.mem_append.mpr (.inr hp))) rfl (by show StrsAre _ _; rw [List.map_append]; exact hfa.append' (.cons _ _ .nil)) (all3 (by with_unfolding_all rfl) (by with_unfolding_all rfl) (by with_unfolding_all rfl)) (fun z hz hp _ => by have h1 : z ≠ Str.ofString "part" := hp _ (.head _); have h2 : z ≠ Str.ofString "escape" := hp _ (.tail _ (.head _)); have h3 : z ≠ Str.ofString "quote" := hp _ (.tail _ (.tail _ (.head _))); simp only [kstB, if_neg hz, if_neg h1, if_neg h2, if_neg h3]; rfl) (by show _ = prun _; rw [hP2]; exact (pe_5 (by assumption) (by assumption) (by assumption)).symm)
    · refine Halt.mk ?_
      exact kst_end (σ := PC) ⟨⟨res, part ++ x, esc, true⟩, vs, kn, _⟩ (by k_asm) (by k_asm) (fun p hp => pc_in hp) (fun p hp => List.Mem.tail _ (List.mem_append.mpr (.inr hp))) rfl (by exact hfa) (all3 (by with_unfolding_all rfl) (by with_unfolding_all rfl) (by with_unfolding_all rfl)) (fun z hz hp _ => by have h1 : z ≠ Str.ofString "part" := hp _ (.head _); have h2 : z ≠ Str.ofString "escape" := hp _ (.tail _ (.head _)); have h3 : z ≠ Str.ofString "quote" := hp _ (.tail _ (.tail _ (.head _))); simp only [kstB, if_neg hz, if_neg h1, if_neg h2, if_neg h3]; rfl) (by show _ = prun _; rw [hP2]; exact (pe_6 (by assumption) (by assumption) (by assumption) (by assumption)).symm)
    · refine Halt.mk ?_
      exact kst_end (σ := PC) ⟨⟨res, part ++ x, esc, quote⟩, vs, kn, _⟩ (by k_asm) (by k_asm) (fun p hp => pc_in hp) (fun p hp => List.Mem.tail _ (List.mem_append.mpr (.inr hp))) rfl (by exact hfa) (all3 (by with_unfolding_all rfl) (by with_unfolding_all rfl) (by with_unfolding_all rfl)) (fun z hz hp _ => by have h1 : z ≠ Str.ofString "part" := hp _ (.head _); have h2 : z ≠ Str.ofString "escape" := hp _ (.tail _ (.head _)); have h3 : z ≠ Str.ofString "quote" := hp _ (.tail _ (.tail _ (.head _))); simp only [kstB, if_neg hz, if_neg h1, if_neg h2, if_neg h3]; rfl) (by show _ = prun _; rw [hP2]; exact (pe_7 (by assumption) (by assumption) (by assumption) (by assumption)).symm)
  · rintro ⟨⟨res, part, esc, quote⟩, vs, kn, tp⟩ u h tk hfa hP F1 N1
    clear lF2 lN
    obtain ⟨hb1, hb2⟩ : part.length ≤ 1000 ∧ vs.length ≤ 1000 := by
      have e1 := prun_part (ones (KStt.codes (S xt)))
      have e2 := prun_res (ones (KStt.codes (S xt)))
      have e3 : (KStt.codes (S xt)).length = xt.length := by rw [KStt.codes_length, S_length]
      rw [ones_total] at e1
      rw [ones_length] at e2
      have e4 := StrsAre.length hfa
      rw [List.length_map] at e4
      rw [← hP] at e1 e2
      dsimp only at e1 e2 e4
      omega
    have hoff2 : ∀ p ∈ news, p.1 ≠ _ := fun p hp => Nat.ne_of_lt (lt1 p hp)
    dsimp only [pcLed, pcPs, pcFacts] at F1 N1 hfa hP
    w_strict (
      k_steps)
    · refine Halt.mk ?_
      rename Fr _ _ _ _ => lF
      rename News _ _ _ _ => lN0
      obtain ⟨all, hall⟩ : ∃ all, all = vs ++ [Value.str (S part) tp] := ⟨_, rfl⟩
      change News _ _ _ ((_, listOf (vs ++ [Value.str (S part) tp]).toArray (kn + 1)) :: news) at lN0
      rw [← hall] at lN0
      have lN := lN0
      clear lN0
      obtain ⟨R, hR⟩ : ∃ R, R = pend (prun (xt.map fun c => [c])) := ⟨_, rfl⟩
      have hRl : ∀ p ∈ R, p.length ≤ 1000 := fun p hp => by
        have := pend_parts (xt.map fun c => [c]) p (hR ▸ hp)
        rw [← ones_codes, ones_total, KStt.codes_length, S_length] at this
        omega
      have hst : StrsAre all (R.map S) := by
        rw [ones_codes] at hP
        rw [hall, hR, ← hP]
        rename part ≠ [] => hne; show StrsAre _ (List.map S (if part = [] then res else res ++ [part])); rw [if_neg hne, List.map_append]; exact hfa.append' (.cons _ _ .nil)
      rw [← hR] at ret
      have hln := StrsAre.length hst
      have hal : all.length ≤ 1001 := by rw [hall]; simp only [List.length_append, List.length_singleton]; omega
      rw [List.length_map] at hln
      clear hall hR hP
      k_dflt (refine' LCg.ListComp_U (cl := []) lF ?c1 ?c2 ?c3 ?c4 ?c5 ?_)
      case c1 => with_unfolding_all rfl
      case c2 => decide
      case c3 => rfl
      case c4 => decide
      case c5 => rfl
      w_strict walk1
      refine LCg.CompSrc.ledger rfl lF lN (List.Mem.head _) (by rw [List.size_toArray, sizeLine_eq]; omega) fun g => ?_
      refine comp_gen (fun i y => ∃ t, y = Value.str (Txt.strip (S (R.getD i []))) t) (.inr ⟨_, List.Mem.head _, rfl, _, rfl⟩) ?_ ?_
      · intro i v ys I oI C oC D m₂ h tk E' hi hv hC hx F3 N3 off3 ne3
        obtain ⟨y, ty, rfl, hy⟩ := StrsAre.item hst i v (by simpa using hv)
        obtain ⟨r, hr, rfl⟩ := map_at hy
        have hrl := hRl r (List.mem_of_getElem? hr)
        w_strict (
          (try k_fold)
          k_steps)
        refine Halt.mk ?_
        refine LCg.CompEnd.intro F3 N3 _ (fun p hp => hp) off3 (.inr ⟨_, List.Mem.head _, rfl, _, rfl⟩) ⟨rfl, by rw [List.getD_eq_getElem?_getD, hr]; exact ⟨_, rfl⟩⟩
      · intro ys hl hy D h tk F3 N3 off3
        have hS := strs_of hy
        rw [hl, List.size_toArray, hln, range_getD [] (fun x => Txt.strip (S x))] at hS
        clear hy
        w_strict (
          dsimp only
          k_steps)
        exact ret D ys _ _ _ hS (by k_asm) (kN_drop2 (by k_asm)) (off1_ne off3)
    · refine Halt.mk ?_
      rename Fr _ _ _ _ => lF
      rename News _ _ _ _ => lN0
      obtain ⟨all, hall⟩ : ∃ all, all = vs := ⟨_, rfl⟩
      rw [← hall] at lN0
      have lN := lN0
      clear lN0
      obtain ⟨R, hR⟩ : ∃ R, R = pend (prun (xt.map fun c => [c])) := ⟨_, rfl⟩
      have hRl : ∀ p ∈ R, p.length ≤ 1000 := fun p hp => by
        have := pend_parts (xt.map fun c => [c]) p (hR ▸ hp)
        rw [← ones_codes, ones_total, KStt.codes_length, S_length] at this
        omega
      have hst : StrsAre all (R.map S) := by
        rw [ones_codes] at hP
        rw [hall, hR, ← hP]
        rename ¬ part ≠ [] => hne; show StrsAre _ (List.map S (if part = [] then res else res ++ [part])); rw [if_pos (Decidable.of_not_not hne)]; exact hfa
      rw [← hR] at ret
      have hln := StrsAre.length hst
      have hal : all.length ≤ 1001 := by rw [hall]; omega
      rw [List.length_map] at hln
      clear hall hR hP
      k_dflt (refine' LCg.ListComp_U (cl := []) lF ?c1 ?c2 ?c3 ?c4 ?c5 ?_)
      case c1 => with_unfolding_all rfl
      case c2 => decide
      case c3 => rfl
      case c4 => decide
      case c5 => rfl
      w_strict walk1
      refine LCg.CompSrc.ledger rfl lF lN (List.Mem.head _) (by rw [List.size_toArray, sizeLine_eq]; omega) fun g => ?_
      refine comp_gen (fun i y => ∃ t, y = Value.str (Txt.strip (S (R.getD i []))) t) (.inr ⟨_, List.Mem.head _, rfl, _, rfl⟩) ?_ ?_
      · intro i v ys I oI C oC D m₂ h tk E' hi hv hC hx F3 N3 off3 ne3
        obtain ⟨y, ty, rfl, hy⟩ := StrsAre.item hst i v (by simpa using hv)
        obtain ⟨r, hr, rfl⟩ := map_at hy
        have hrl := hRl r (List.mem_of_getElem? hr)
        w_strict (
          (try k_fold)
          k_steps)
        refine Halt.mk ?_
        refine LCg.CompEnd.intro F3 N3 _ (fun p hp => hp) off3 (.inr ⟨_, List.Mem.head _, rfl, _, rfl⟩) ⟨rfl, by rw [List.getD_eq_getElem?_getD, hr]; exact ⟨_, rfl⟩⟩
      · intro ys hl hy D h tk F3 N3 off3
        have hS := strs_of hy
        rw [hl, List.size_toArray, hln, range_getD [] (fun x => Txt.strip (S x))] at hS
        clear hy
        w_strict (
          dsimp only
          k_steps)
        exact ret D ys _ _ _ hS (by k_asm) (kN_drop2 (by k_asm)) (off1_ne off3)
end
end PartC6
end Mine

namespace Mine
section PartC7
local macro_rules | `(tactic| walk_at "pad 0") => `(tactic| (refine Halt.out ?_))
section
variable {prog : Program} {w : World} {A : Around} {E : Value → Shared → Prop} {s : Shared} {env : Env} {h₀ : Heap} {x : Str} {body : List Stmt} {Q : Flow → Shared → Prop}
theorem kst_vals {σ : Type} {l : Addr} {vs : List Value} {nn : Nat} {m₀ : Str → Option Value} (Led : σ → List (Addr × Obj)) (ps : σ → List (Str × Value)) (stored : List Str) (P : Nat → σ → Prop) (c₀ : σ)
    (hh : A.handled = none) (hl : ∀ c, (l, listOf vs.toArray nn) ∈ Led c) (F : Fr h₀ env.locals s.heap m₀) (N : News h₀ env.locals s.heap (Led c₀)) (hk : ∀ p ∈ ps c₀, m₀ p.1 = some p.2) (hp : P 0 c₀)
    (turn : ∀ (c : σ) i v (u : Str → Option Value) h tk own, vs[i]? = some v → OwnOff own ((Led c).map (·.1)) → P i c →
      Fr h₀ env.locals h (fun y => if y = x then some v else kstB (fun z => if stored.contains z then u z else m₀ z) (ps c) y) → News h₀ env.locals h (Led c ++ own) →
      wpAny (model prog w) A (execs body env) (InvPostG h₀ env.locals (fun m' nx => (l, listOf vs.toArray nn) ∈ nx ∧ KstS Led ps (fun _ => True) x stored m₀ (fun _ c => P (i + 1) c) [] m' nx) own { s with heap := h, toks := tk } Q) E { s with heap := h, toks := tk })
    (done : ∀ (c : σ) (u : Str → Option Value) h tk, P vs.length c → Fr h₀ env.locals h (fun y => if y = x then u y else kstB (fun z => if stored.contains z then u z else m₀ z) (ps c) y) → News h₀ env.locals h (Led c) → Q .next { s with heap := h, toks := tk }) :
    wpAny (model prog w) A (pyIter (.ref l)) (fun it s₂ => LoopAtV prog w A h₀ env x body Q E it s₂) E s := by
  refine kdl_iter (fun i m nx => KstS Led ps (fun _ => True) x stored m₀ (fun _ c => P i c) [] m nx) hh (hl c₀) F N ⟨c₀, rfl, True.intro, hk, fun _ _ _ _ => rfl, hp⟩ ?_ ?_
  · rintro i v m₁ nx h tk own hv hoff hin ⟨c, rfl, _, h1, h2, hp'⟩ F₁ N₁
    exact turn c i v m₁ h tk own hv hoff hp' (kst_fr h1 h2 F₁) N₁
  · rintro m₁ nx h tk ⟨c, rfl, _, h1, h2, hp'⟩ F₁ N₁
    exact done c m₁ h tk hp' (kst_frOut h1 h2 F₁) N₁
theorem kst_endV {σ : Type} {Led : σ → List (Addr × Obj)} {ps : σ → List (Str × Value)} {stored : List Str} {m₀ : Str → Option Value} {P : σ → Prop} {e : Addr × Obj} (c : σ) {L : Addr} {m' : Str → Option Value} {own news' : List (Addr × Obj)} {s₁ : Shared} {h' : Heap} {tk : Nat}
    (F : Fr h₀ L h' m') (N : News h₀ L h' news') (hn : ∀ p ∈ Led c, p ∈ news') (ho : ∀ p ∈ own, p ∈ news') (hoff : OwnOff own ((Led c).map (·.1))) (hl : e ∈ Led c) (hk : ∀ p ∈ ps c, m' p.1 = some p.2) (hr : ∀ z, z ≠ x → (∀ p ∈ ps c, z ≠ p.1) → stored.contains z = false → m' z = m₀ z) (hp : P c) :
    InvEndG h₀ L (fun m' nx => e ∈ nx ∧ KstS Led ps (fun _ => True) x stored m₀ (fun _ c => P c) [] m' nx) own s₁ { s₁ with heap := h', toks := tk } :=
  InvEndG.intro F N ⟨hl, c, rfl, True.intro, hk, hr, hp⟩ hoff hn ho
end
section
variable {w : World} {mean : ExcName → Option Value} {mg mb : Str → Option Value} {dp un : Nat} {gd : Option (List Code)} {cn : Str} {cs : Scope} {a : Addr} {ccd : Value} {cl : List (Str × Addr)} {outer : List Env} {A₀ : Around} {base h₀ : Heap} {L : Addr} {m : Str → Option Value} {news : List (Addr × Obj)} {s : Shared} {Q E : Value → Shared → Prop}

local macro_rules | `(tactic| walk_at "exec For Name Name cons nil") => `(tactic| (refine Halt.out ?_))
local macro_rules | `(tactic| walk_at "pyIter ref") => `(tactic| (refine Halt.out ?_))
local macro_rules | `(tactic| walk_at "eval ListComp") => `(tactic| (refine Halt.out ?_))
local macro_rules | `(tactic| walk_at "CompEnd") => `(tactic| (refine Halt.out ?_))
local macro_rules | `(tactic| walk_at "InvEndG") => `(tactic| (refine Halt.out ?_))
local macro_rules | `(tactic| walk_at "inplaceOp Add str str") => `(tactic| (k_here; k_dflt (refine' iadd_S ?k1 ?k2 ?_; (case k1 => omega); (case k2 => omega)); intro t9 k9))
local macro_rules | `(tactic| walk_at "truthy str") => `(tactic| (k_here; k_dflt (refine' truthy_S ?k1 ?_; (case k1 => omega)); intro k9))
local macro_rules | `(tactic| walk_at "call builtin:list.append") => `(tactic| (k_here; k_dflt (refine' append_led ?k1 ?k2 ?k3 ?k4 ?_; (case k1 => k_asm); (case k2 => k_asm); (case k3 => assumption); (case k4 => omega)); intro h' F' N'))
local macro_rules | `(tactic| walk_at "call builtin:str.strip") => `(tactic| (k_here; k_dflt (refine' strip_S ?k1 ?_; (case k1 => omega)); intro t9 k9))
theorem total_take (W : List (List Nat)) (k : Nat) : total (W.take k) ≤ total W := by
  induction W generalizing k with
  | nil => simp
  | cons x r ih =>
    cases k with
    | zero => simp [total]
    | succ k => have := ih k; simp only [total, List.take_succ_cons, List.map_cons, List.sum_cons] at this ⊢; omega

theorem c_parse_list {W : List (List Nat)} {sA : Addr} {vw : List Value} {kw : Nat} (hs : (sA, listOf vw.toArray kw) ∈ news) (hW : StrsAre vw (W.map S)) (hlen : total W ≤ 1000) (hlen2 : W.length ≤ 1000) (C : Cx w mean mg mb cs outer A₀ base h₀ L s.heap m news) (hdp : dp + 1 < recursionLimit)
  (ret : ∀ l vs k h' tk', StrsAre vs ((pend (prun W)).map fun x => Txt.strip (S x)) → Fr h₀ L h' m → News h₀ L h' ((l, listOf vs.toArray k) :: news) → (∀ p ∈ news, p.1 ≠ l) → Q (.ref l) { s with heap := h', toks := tk' }) :
  wpAny (model PySem.Challenge.rw_mq0094_01.row.prog w) (ktrTop dp un gd cn cs L a ccd cl outer) (call (.ref 19) [.ref sA]) Q E s := by
  obtain ⟨B, F, X, N, T, hk⟩ := C
  revert X
  w_on
  k_fill
  intro X
  w_strict (
    refine wpAny_call ?_
    k_dflt ktr_enter
    k_steps)
  refine Halt.mk ?_
  rename Fr _ _ _ _ => lF
  k_dflt (refine' For_invVF lF ?k1 ?k2 ?_; (case k1 => exact rfl); (case k2 => exact rfl))
  w_strict (
    (try k_fold)
    k_steps)
  refine Halt.mk ?_
  rename News _ _ _ _ => lN
  rename Fr _ _ _ _ => lF2
  rename ∀ (p : Addr × Obj), p ∈ news → p.fst < _ => lt1
  rename_i rA _ _ _
  k_dflt (refine' kst_vals (σ := PC) (pcLed _ news) pcPs [] (fun i c => pcFacts c ∧ c.st = prun (W.take i)) ⟨PS.init, [], 0, _⟩ rfl (fun c => List.Mem.tail _ hs) lF2 lN ?k1 ⟨StrsAre.nil, rfl⟩ ?_ ?_)
  case k1 => exact List.forall_mem_cons.mpr ⟨by with_unfolding_all rfl, List.forall_mem_cons.mpr ⟨by with_unfolding_all rfl, List.forall_mem_cons.mpr ⟨by with_unfolding_all rfl, List.forall_mem_nil _⟩⟩⟩
  · rintro ⟨⟨res, part, esc, quote⟩, vs, kn, tp⟩ i v u h tk own hv hoff ⟨hfa, hP⟩ F1 N1
    clear lF2 lN
    obtain ⟨y, t', rfl, hy⟩ := StrsAre.item hW i v hv
    obtain ⟨x, hx, rfl⟩ := map_at hy
    have htk : W.take (i + 1) = W.take i ++ [x] := by rw [List.take_add_one, hx]; rfl
    have htot : total (W.take i) + x.length ≤ total W := by
      rw [← total_snoc, ← htk]; exact total_take W _
    obtain ⟨hb1, hb2⟩ : part.length ≤ 1000 ∧ vs.length ≤ 1000 := by
      have e1 := prun_part (W.take i)
      have e2 := prun_res (W.take i)
      have e4 := StrsAre.length hfa
      rw [List.length_map] at e4
      rw [List.length_take] at e2
      rw [← hP] at e1 e2
      dsimp only at e1 e2 e4
      omega
    have hb3 : x.length ≤ 1000 := by omega
    have hoff2 := off_of lt1 (adr := (pcLed _ news ⟨⟨res, part, esc, quote⟩, vs, kn, tp⟩).map (·.1)) hoff (List.Mem.head _)
    dsimp only [pcLed, pcPs, pcFacts] at F1 N1 hfa hP hoff
    simp only [List.cons_append] at N1
    have hP2 : prun (W.take (i + 1)) = pstep ⟨res, part, esc, quote⟩ x := by rw [htk, prun_snoc, ← hP]
    w_strict (
      (try k_fold)
      k_steps)
    · refine Halt.mk ?_
      exact kst_endV (σ := PC) ⟨⟨res, part ++ x, false, quote⟩, vs, kn, _⟩ (by k_asm) (by k_asm) (fun p hp => pc_in hp) (fun p hp => List.Mem.tail _ (List.mem_append.mpr (.inr hp))) hoff (List.Mem.tail _ hs) (all3 (by with_unfolding_all rfl) (by with_unfolding_all rfl) (by with_unfolding_all rfl)) (fun z hz hp _ => by have h1 : z ≠ Str.ofString "part" := hp _ (.head _); have h2 : z ≠ Str.ofString "escape" := hp _ (.tail _ (.head _)); have h3 : z ≠ Str.ofString "quote" := hp _ (.tail _ (.tail _ (.head _))); simp only [kstB, if_neg hz, if_neg h1, if_neg h2, if_neg h3]; rfl) ⟨(by exact hfa), by show _ = prun _; rw [hP2]; exact (pe_1 (by assumption)).symm⟩
    · refine Halt.mk ?_
      exact kst_endV (σ := PC) ⟨⟨res, part, true, quote⟩, vs, kn, _⟩ (by k_asm) (by k_asm) (fun p hp => pc_in hp) (fun p hp => List.Mem.tail _ (List.mem_append.mpr (.inr hp))) hoff (List.Mem.tail _ hs) (all3 (by with_unfolding_all rfl) (by with_unfolding_all rfl) (by with_unfolding_all rfl)) (fun z hz hp _ => by have h1 : z ≠ Str.ofString "part" := hp _ (.head _); have h2 : z ≠ Str.ofString "escape" := hp _ (.tail _ (.head _)); have h3 : z ≠ Str.ofString "quote" := hp _ (.tail _ (.tail _ (.head _))); simp only [kstB, if_neg hz, if_neg h1, if_neg h2, if_neg h3]; rfl) ⟨(by exact hfa), by show _ = prun _; rw [hP2]; exact (pe_2 (by assumption) (by assumption) (by assumption)).symm⟩
    · refine Halt.mk ?_
      exact kst_endV (σ := PC) ⟨⟨res, part ++ x, esc, false⟩, vs, kn, _⟩ (by k_asm) (by k_asm) (fun p hp => pc_in hp) (fun p hp => List.Mem.tail _ (List.mem_append.mpr (.inr hp))) hoff (List.Mem.tail _ hs) (all3 (by with_unfolding_all rfl) (by with_unfolding_all rfl) (by with_unfolding_all rfl)) (fun z hz hp _ => by have h1 : z ≠ Str.ofString "part" := hp _ (.head _); have h2 : z ≠ Str.ofString "escape" := hp _ (.tail _ (.head _)); have h3 : z ≠ Str.ofString "quote" := hp _ (.tail _ (.tail _ (.head _))); simp only [kstB, if_neg hz, if_neg h1, if_neg h2, if_neg h3]; rfl) ⟨(by exact hfa), by show _ = prun _; rw [hP2]; exact (pe_3 (by assumption) (by assumption) (by assumption) (by assumption)).symm⟩
    · refine Halt.mk ?_
      exact kst_endV (σ := PC) ⟨⟨res, part ++ x, esc, quote⟩, vs, kn, _⟩ (by k_asm) (by k_asm) (fun p hp => pc_in hp) (fun p hp => List.Mem.tail _ (List.mem_append.mpr (.inr hp))) hoff (List.Mem.tail _ hs) (all3 (by with_unfolding_all rfl) (by with_unfolding_all rfl) (by with_unfolding_all rfl)) (fun z hz hp _ => by have h1 : z ≠ Str.ofString "part" := hp _ (.head _); have h2 : z ≠ Str.ofString "escape" := hp _ (.tail _ (.head _)); have h3 : z ≠ Str.ofString "quote" := hp _ (.tail _ (.tail _ (.head _))); simp only [kstB, if_neg hz, if_neg h1, if_neg h2, if_neg h3]; rfl) ⟨(by exact hfa), by show _ = prun _; rw [hP2]; exact (pe_4 (by assumption) (by assumption) (by assumption) (by assumption)).symm⟩
    · refine Halt.mk ?_
      exact kst_endV (σ := PC) ⟨⟨res ++ [part], [], esc, quote⟩, vs ++ [.str (S part) tp], kn + 1, _⟩ (by k_asm) (by k_asm) (fun p hp => pc_in hp) (fun p hp => List.Mem.tail _ (List.mem_append.mpr (.inr hp))) hoff (List.Mem.tail _ hs) (all3 (by with_unfolding_all rfl) (by with_unfolding_all rfl) (by with_unfolding_all rfl)) (fun z hz hp _ => by have h1 : z ≠ Str.ofString "part" := hp _ (.head _); have h2 : z ≠ Str.ofString "escape" := hp _ (.tail _ (.head _)); have h3 : z ≠ Str.ofString "quote" := hp _ (.tail _ (.tail _ (.head _))); simp only [kstB, if_neg hz, if_neg h1, if_neg h2, if_neg h3]; rfl) ⟨(by show StrsAre _ _; rw [List.map_append]; exact hfa.append' (.cons _ _ .nil)), by show _ = prun _; rw [hP2]; exact (pe_5 (by assumption) (by assumption) (by assumption)).symm⟩
    · refine Halt.mk ?_
      exact kst_endV (σ := PC) ⟨⟨res, part ++ x, esc, true⟩, vs, kn, _⟩ (by k_asm) (by k_asm) (fun p hp => pc_in hp) (fun p hp => List.Mem.tail _ (List.mem_append.mpr (.inr hp))) hoff (List.Mem.tail _ hs) (all3 (by with_unfolding_all rfl) (by with_unfolding_all rfl) (by with_unfolding_all rfl)) (fun z hz hp _ => by have h1 : z ≠ Str.ofString "part" := hp _ (.head _); have h2 : z ≠ Str.ofString "escape" := hp _ (.tail _ (.head _)); have h3 : z ≠ Str.ofString "quote" := hp _ (.tail _ (.tail _ (.head _))); simp only [kstB, if_neg hz, if_neg h1, if_neg h2, if_neg h3]; rfl) ⟨(by exact hfa), by show _ = prun _; rw [hP2]; exact (pe_6 (by assumption) (by assumption) (by assumption) (by assumption)).symm⟩
    · refine Halt.mk ?_
      exact kst_endV (σ := PC) ⟨⟨res, part ++ x, esc, quote⟩, vs, kn, _⟩ (by k_asm) (by k_asm) (fun p hp => pc_in hp) (fun p hp => List.Mem.tail _ (List.mem_append.mpr (.inr hp))) hoff (List.Mem.tail _ hs) (all3 (by with_unfolding_all rfl) (by with_unfolding_all rfl) (by with_unfolding_all rfl)) (fun z hz hp _ => by have h1 : z ≠ Str.ofString "part" := hp _ (.head _); have h2 : z ≠ Str.ofString "escape" := hp _ (.tail _ (.head _)); have h3 : z ≠ Str.ofString "quote" := hp _ (.tail _ (.tail _ (.head _))); simp only [kstB, if_neg hz, if_neg h1, if_neg h2, if_neg h3]; rfl) ⟨(by exact hfa), by show _ = prun _; rw [hP2]; exact (pe_7 (by assumption) (by assumption) (by assumption) (by assumption)).symm⟩
  · rintro ⟨⟨res, part, esc, quote⟩, vs, kn, tp⟩ u h tk ⟨hfa, hP⟩ F1 N1
    clear lF2 lN
    obtain ⟨hb1, hb2⟩ : part.length ≤ 1000 ∧ vs.length ≤ 1000 := by
      have e0 := StrsAre.length hW
      rw [List.length_map] at e0
      rw [e0, List.take_length] at hP
      have e1 := prun_part W
      have e2 := prun_res W
      have e4 := StrsAre.length hfa
      rw [List.length_map] at e4
      rw [← hP] at e1 e2
      dsimp only at e1 e2 e4
      omega
    have hoff2 : ∀ p ∈ news, p.1 ≠ _ := fun p hp => Nat.ne_of_lt (lt1 p hp)
    dsimp only [pcLed, pcPs, pcFacts] at F1 N1 hfa hP
    w_strict (
      k_steps)
    · refine Halt.mk ?_
      rename Fr _ _ _ _ => lF
      rename News _ _ _ _ => lN0
      obtain ⟨all, hall⟩ : ∃ all, all = vs ++ [Value.str (S part) tp] := ⟨_, rfl⟩
      change News _ _ _ ((_, listOf (vs ++ [Value.str (S part) tp]).toArray (kn + 1)) :: news) at lN0
      rw [← hall] at lN0
      have lN := lN0
      clear lN0
      obtain ⟨R, hR⟩ : ∃ R, R = pend (prun W) := ⟨_, rfl⟩
      have hRl : ∀ p ∈ R, p.length ≤ 1000 := fun p hp => by
        have := pend_parts W p (hR ▸ hp)
        omega
      have hst : StrsAre all (R.map S) := by
        have e0 := StrsAre.length hW
        rw [List.length_map] at e0
        rw [e0, List.take_length] at hP
        rw [hall, hR, ← hP]
        rename part ≠ [] => hne; show StrsAre _ (List.map S (if part = [] then res else res ++ [part])); rw [if_neg hne, List.map_append]; exact hfa.append' (.cons _ _ .nil)
      rw [← hR] at ret
      have hln := StrsAre.length hst
      have hal : all.length ≤ 1001 := by rw [hall]; simp only [List.length_append, List.length_singleton]; omega
      rw [List.length_map] at hln
      clear hall hR hP
      k_dflt (refine' LCg.ListComp_U (cl := []) lF ?c1 ?c2 ?c3 ?c4 ?c5 ?_)
      case c1 => with_unfolding_all rfl
      case c2 => decide
      case c3 => rfl
      case c4 => decide
      case c5 => rfl
      w_strict walk1
      refine LCg.CompSrc.ledger rfl lF lN (List.Mem.head _) (by rw [List.size_toArray, sizeLine_eq]; omega) fun g => ?_
      refine comp_gen (fun i y => ∃ t, y = Value.str (Txt.strip (S (R.getD i []))) t) (.inr ⟨_, List.Mem.head _, rfl, _, rfl⟩) ?_ ?_
      · intro i v ys I oI C oC D m₂ h tk E' hi hv hC hx F3 N3 off3 ne3
        obtain ⟨y, ty, rfl, hy⟩ := StrsAre.item hst i v (by simpa using hv)
        obtain ⟨r, hr, rfl⟩ := map_at hy
        have hrl := hRl r (List.mem_of_getElem? hr)
        w_strict (
          (try k_fold)
          k_steps)
        refine Halt.mk ?_
        refine LCg.CompEnd.intro F3 N3 _ (fun p hp => hp) off3 (.inr ⟨_, List.Mem.head _, rfl, _, rfl⟩) ⟨rfl, by rw [List.getD_eq_getElem?_getD, hr]; exact ⟨_, rfl⟩⟩
      · intro ys hl hy D h tk F3 N3 off3
        have hS := strs_of hy
        rw [hl, List.size_toArray, hln, range_getD [] (fun x => Txt.strip (S x))] at hS
        clear hy
        w_strict (
          dsimp only
          k_steps)
        exact ret D ys _ _ _ hS (by k_asm) (kN_drop2 (by k_asm)) (off1_ne off3)
    · refine Halt.mk ?_
      rename Fr _ _ _ _ => lF
      rename News _ _ _ _ => lN0
      obtain ⟨all, hall⟩ : ∃ all, all = vs := ⟨_, rfl⟩
      rw [← hall] at lN0
      have lN := lN0
      clear lN0
      obtain ⟨R, hR⟩ : ∃ R, R = pend (prun W) := ⟨_, rfl⟩
      have hRl : ∀ p ∈ R, p.length ≤ 1000 := fun p hp => by
        have := pend_parts W p (hR ▸ hp)
        omega
      have hst : StrsAre all (R.map S) := by
        have e0 := StrsAre.length hW
        rw [List.length_map] at e0
        rw [e0, List.take_length] at hP
        rw [hall, hR, ← hP]
        rename ¬ part ≠ [] => hne; show StrsAre _ (List.map S (if part = [] then res else res ++ [part])); rw [if_pos (Decidable.of_not_not hne)]; exact hfa
      rw [← hR] at ret
      have hln := StrsAre.length hst
      have hal : all.length ≤ 1001 := by rw [hall]; omega
      rw [List.length_map] at hln
      clear hall hR hP
      k_dflt (refine' LCg.ListComp_U (cl := []) lF ?c1 ?c2 ?c3 ?c4 ?c5 ?_)
      case c1 => with_unfolding_all rfl
      case c2 => decide
      case c3 => rfl
      case c4 => decide
      case c5 => rfl
      w_strict walk1
      refine LCg.CompSrc.ledger rfl lF lN (List.Mem.head _) (by rw [List.size_toArray, sizeLine_eq]; omega) fun g => ?_
      refine comp_gen (fun i y => ∃ t, y = Value.str (Txt.strip (S (R.getD i []))) t) (.inr ⟨_, List.Mem.head _, rfl, _, rfl⟩) ?_ ?_
      · intro i v ys I oI C oC D m₂ h tk E' hi hv hC hx F3 N3 off3 ne3
        obtain ⟨y, ty, rfl, hy⟩ := StrsAre.item hst i v (by simpa using hv)
        obtain ⟨r, hr, rfl⟩ := map_at hy
        have hrl := hRl r (List.mem_of_getElem? hr)
        w_strict (
          (try k_fold)
          k_steps)
        refine Halt.mk ?_
        refine LCg.CompEnd.intro F3 N3 _ (fun p hp => hp) off3 (.inr ⟨_, List.Mem.head _, rfl, _, rfl⟩) ⟨rfl, by rw [List.getD_eq_getElem?_getD, hr]; exact ⟨_, rfl⟩⟩
      · intro ys hl hy D h tk F3 N3 off3
        have hS := strs_of hy
        rw [hl, List.size_toArray, hln, range_getD [] (fun x => Txt.strip (S x))] at hS
        clear hy
        w_strict (
          dsimp only
          k_steps)
        exact ret D ys _ _ _ hS (by k_asm) (kN_drop2 (by k_asm)) (off1_ne off3)
end
end PartC7
end Mine

namespace Mine
section PartC8
section
variable {w : World} {mean : ExcName → Option Value} {mg mb : Str → Option Value} {dp un : Nat} {gd : Option (List Code)} {cn : Str} {cs : Scope} {a : Addr} {ccd : Value} {cl : List (Str × Addr)} {outer : List Env} {A₀ : Around} {base h₀ : Heap} {L : Addr} {m : Str → Option Value} {news : List (Addr × Obj)} {s : Shared} {Q E : Value → Shared → Prop}
local macro_rules | `(tactic| walk_at "exec While Compare cons nil") => `(tactic| (refine Halt.out ?_))
local macro_rules | `(tactic| walk_at "eval ListComp") => `(tactic| (refine Halt.out ?_))
local macro_rules | `(tactic| walk_at "exec For Name Call cons nil") => `(tactic| (refine Halt.out ?_))
local macro_rules | `(tactic| walk_at "exec For Name Subscript cons nil") => `(tactic| (refine Halt.out ?_))
local macro_rules | `(tactic| walk_at "pyIter ref") => `(tactic| (refine Halt.out ?_))
local macro_rules | `(tactic| walk_at "InvEndN") => `(tactic| (refine Halt.out ?_))
local macro_rules | `(tactic| walk_at "InvEndG") => `(tactic| (refine Halt.out ?_))
local macro_rules | `(tactic| walk_at "KswEnd") => `(tactic| (refine Halt.out ?_))
local macro_rules | `(tactic| walk_at "CompEnd") => `(tactic| (refine Halt.out ?_))
local macro_rules | `(tactic| walk_at "call builtin:len") => `(tactic| (k_here; k_dflt (refine' len_led ?k1 ?k2 (IntsAre.length ?k3) ?k4 ?_; (case k1 => k_asm); (case k2 => first | k_mem | kst_mem); (case k3 => assumption); (case k4 => omega)); intro tl tkl))

local macro_rules | `(tactic| walk_at "CompSrcT") => `(tactic| (refine Halt.out ?_))
local macro_rules | `(tactic| walk_at "CompSrc") => `(tactic| (refine Halt.out ?_))
local macro_rules | `(tactic| walk_at "compareOp In int ref") => `(tactic| (k_here; k_dflt (refine' in_tup ?k1 ?k2 ?k3 ?_; (case k1 => k_asm); (case k2 => first | k_mem | kst_mem); (case k3 => assumption))))

theorem led_item {w : World} {A : Around} {E : Value → Shared → Prop} {value slice : PySem.Expr} {lA : Addr} {vs : List Value} {k : Nat} {j : Int} {u : Tok} {Q : Value → Shared → Prop} {ns : List Int} (N : News h₀ L s.heap news) (hm : (lA, listOf vs.toArray k) ∈ news) (hi : IntsAre vs ns)
    (h0 : 0 ≤ j) (h1 : j < ns.length) (h2 : ns.length < 1000) (h : ∀ t, Q (.int (ns.getD j.toNat 0) t) s)
    (hs : subscripted slice false (.ref lA) (.int j u) = operate [.ref lA, .int j u] (getItem (.ref lA) (.int j u)) := by with_unfolding_all rfl) :
    wpAny (model PySem.Challenge.rw_mq0094_01.row.prog w) A (subscriptTail value slice (.ref lA) (.int j u)) Q E s := by
  have hl : j.toNat < ns.length := by omega
  obtain ⟨t, ht⟩ := hi.get j.toNat (ns.getD j.toNat 0) (by rw [List.getD_eq_getElem?_getD, List.getElem?_eq_getElem hl]; rfl)
  have hL : s.heap.IsList lA vs.toArray := ⟨_, (N _ hm).1, rfl, k, rfl⟩
  exact tail_any hL.typeIs slot_list_getitem.lookup (wpAny_getItem_list hL h0 (by omega) (by simpa using ht) (h t)) hs
local macro_rules | `(tactic| walk_at "subscriptTail Name Name ref int") => `(tactic| (k_here; k_dflt (refine' led_item ?k1 ?k2 ?k3 ?k4 ?k5 ?k6 ?_ ?k7; (case k1 => k_asm); (case k2 => first | k_mem | kst_mem); (case k3 => assumption); (case k4 => omega); (case k5 => omega); (case k6 => omega); (case k7 => with_unfolding_all rfl)); intro t9))

theorem led_itemN {w : World} {A : Around} {E : Value → Shared → Prop} {value slice : PySem.Expr} {lA : Addr} {vs : List Value} {k j : Nat} {l : Int} {u : Tok} {Q : Value → Shared → Prop} {ns : List Int} (N : News h₀ L s.heap news) (hm : (lA, listOf vs.toArray k) ∈ news) (hi : IntsAre vs ns)
    (h1 : ns[j]? = some l) (h2 : ns.length < 1000) (h : ∀ t, Q (.int l t) s)
    (hs : subscripted slice false (.ref lA) (.int (j : Int) u) = operate [.ref lA, .int (j : Int) u] (getItem (.ref lA) (.int (j : Int) u))) :
    wpAny (model PySem.Challenge.rw_mq0094_01.row.prog w) A (subscriptTail value slice (.ref lA) (.int (j : Int) u)) Q E s := by
  have hj : j < ns.length := (List.getElem?_eq_some_iff.mp h1).1
  refine led_item N hm hi (by omega) (by omega) h2 (fun t => ?_) hs
  rw [Int.toNat_natCast, getD_of h1]
  exact h t
local macro_rules | `(tactic| walk_at "subscriptTail Name Name ref int") => `(tactic| (k_here; k_dflt (refine' led_itemN ?k1 ?k2 ?k3 ?k4 ?k6 ?_ ?k7; (case k1 => k_asm); (case k2 => first | k_mem | kst_mem); (case k3 => assumption); (case k4 => assumption); (case k6 => omega); (case k7 => with_unfolding_all rfl)); intro t9))
theorem item_drawn {w : World} {A : Around} {E : Value → Shared → Prop} {value slice : PySem.Expr} {l : Int} {t u : Tok} {Q : Value → Shared → Prop}
    (h : Q (.str (Txt.item (S (drawn l)) (-1)) s.toks) { s with toks := s.toks + 1 })
    (hs : subscripted slice false (.str (S (drawn l)) t) (.int (-1) u) = operate [.str (S (drawn l)) t, .int (-1) u] (getItem (.str (S (drawn l)) t) (.int (-1) u))) (ht : ∀ r, letTemporaryGo value (.str (S (drawn l)) t) r = pure ()) :
    wpAny (model PySem.Challenge.rw_mq0094_01.row.prog w) A (subscriptTail value slice (.str (S (drawn l)) t) (.int (-1) u)) Q E s :=
  KXi.item (n := (drawn l).length) (S_length _) (by have := drawn_len l; have h2 := List.length_pos_iff.mpr (drawn_ne l); omega) (by omega) (by have := drawn_len l; omega) (fun _ => h) hs ht
local macro_rules | `(tactic| walk_at "subscriptTail") => `(tactic| (k_here; (with_reducible show wpAny _ _ (subscriptTail _ _ (Value.str (S (drawn _)) _) (Value.int _ _)) _ _ _); k_dflt (refine' item_drawn ?_ ?k7 ?k8; (case k7 => with_unfolding_all rfl); (case k8 => (intro _; with_unfolding_all rfl)))))

theorem cat_led {w : World} {A : Around} {E : Value → Shared → Prop} {a1 a2 : Addr} {xs ys : List Value} {k1 k2 : Nat} {Q : Value → Shared → Prop} (F : Fr h₀ L s.heap m) (N : News h₀ L s.heap news) (h1 : (a1, listOf xs.toArray k1) ∈ news) (h2 : (a2, listOf ys.toArray k2) ∈ news) (hz : xs.length + ys.length ≤ 100000)
    (h : ∀ D h', Fr h₀ L h' m → News h₀ L h' ((D, listOf (xs ++ ys).toArray 0) :: news) → (∀ p ∈ news, p.1 < D) → Q (.ref D) { s with heap := h' }) : wpAny (model PySem.Challenge.rw_mq0094_01.row.prog w) A (binaryOp .Add (.ref a1) (.ref a2)) Q E s :=
  kmk_add_lit F N ⟨_, (N _ h1).1, rfl, k1, rfl⟩ ⟨_, (N _ h2).1, rfl, k2, rfl⟩ rfl h (by rw [sizeLine_eq]; exact Nat.le_trans hz (by decide))
local macro_rules | `(tactic| walk_at "binaryOp Add ref ref") => `(tactic| (k_here; k_dflt (refine' cat_led ?k1 ?k2 ?k3 ?k4 ?k5 ?_; (case k1 => k_asm); (case k2 => k_asm); (case k3 => first | k_mem | kst_mem); (case k4 => first | k_mem | kst_mem); (case k5 => (simp only [List.length_cons, List.length_nil]; omega))); intro D' h' F' N' l1; (try k_lt l1)))
local macro_rules | `(tactic| walk_at "subscriptTail BinOp") => `(tactic| (refine Halt.out ?_))
local macro_rules | `(tactic| walk_at "subscriptTail BinOp ListComp Add List Constant ref int") => `(tactic| (refine Halt.out ?_))

theorem slice_led {w : World} {A : Around} {E : Value → Shared → Prop} {value slice : PySem.Expr} {lA : Addr} {vs : List Value} {k lo hi : Nat} {t u : Tok} {Q : Value → Shared → Prop} (F : Fr h₀ L s.heap m) (N : News h₀ L s.heap news) (hm : (lA, listOf vs.toArray k) ∈ news) (h1 : lo ≤ hi) (h2 : hi ≤ vs.length) (hz : vs.length ≤ 100000)
    (h : ∀ D h', Fr h₀ L h' m → News h₀ L h' ((D, listOf ((vs.drop lo).take (hi - lo)).toArray 0) :: news) → (∀ p ∈ news, p.1 < D) → Q (.ref D) { s with heap := h' })
    (hs : subscripted slice false (.ref lA) (.ref s.heap.objs.size) = operate [.ref s.heap.objs.size, .ref lA] (getItem (.ref lA) (.ref s.heap.objs.size))) (ht : ∀ r, letTemporaryGo value (.ref lA) r = pure ()) :
    wpAny (model PySem.Challenge.rw_mq0094_01.row.prog w) A (subscriptTail value slice (.ref lA) (.ref s.heap.objs.size)) Q E { s with heap := s.heap.push { cls := .type "slice", data := .fields #[.int lo t, .int hi u, .none] } } :=
  kmk_slice F N ⟨_, (N _ hm).1, rfl, k, rfl⟩ (.int _ _) (.int _ _) (fun D h' F' N' l1 => h D h' F' (by rw [slicePick_run vs.toArray lo hi (by rw [List.size_toArray]; exact h2) h1] at N'; exact N') l1) hs ht (by rw [List.size_toArray, sizeLine_eq]; omega)
local macro_rules | `(tactic| walk_at "subscriptTail Name Slice ref ref") => `(tactic| (k_here; k_dflt (refine' slice_led ?k1 ?k2 ?k3 ?k4 ?k5 ?k6 ?_ ?k7 ?k8; (case k1 => k_asm); (case k2 => k_asm); (case k3 => first | k_mem | kst_mem); (case k4 => omega); (case k5 => omega); (case k6 => omega); (case k7 => with_unfolding_all rfl); (case k8 => (intro _; with_unfolding_all rfl))); intro D' h' F' N' l1; (try k_lt l1)))

local macro_rules | `(tactic| walk_at "call ref") => `(tactic| (k_here; k_dflt (refine' c_drawn ?d1 ?d2 ⟨?k1, ?k2, ?k3, ?k4, ?k5, ?k6⟩ ?k7 ?_; (case k1 => k_asm); (case k2 => k_asm); (case k3 => k_asm); (case k4 => k_asm); (case k5 => k_asm); (case k6 => first | exact rfl | assumption); (case k7 => ktr_room); (case d1 => assumption); (case d2 => assumption)); intro r' t' h' tk' hr' F' N'; subst hr'))

theorem comp_filt {w : World} {A : Around} {env : Env} {ct elt : PySem.Expr} {x : Str} {scope : Scope} {cl : List (Str × Addr)} {S : List (Addr × Obj) → Prop} {Fin : List Value → List (Addr × Obj) → Prop} {n : Nat} {a : Int} (b : Nat → Bool) (hS : S news)
    (turn : ∀ (i : Nat) t ys I oI C oC D m₂ h tk (E' : Value → Shared → Prop), i < n → LCg.NsObj oC m₂ → m₂ x = some (.int (a + (i : Int)) t) → Fr h₀ L h m → News h₀ L h ((I, oI) :: (C, oC) :: (D, LCg.lst ys) :: news) → LCg.Off3 I C D news → ((@Ne Nat I C) ∧ (@Ne Nat I D) ∧ (@Ne Nat C D)) →
      wpAny (model PySem.Challenge.rw_mq0094_01.row.prog w) A (isTrue ct (compEnvC scope cl C env) (eval ct (compEnvC scope cl C env))) (fun ok s' => if ok = true then
        wpAny (model PySem.Challenge.rw_mq0094_01.row.prog w) A (eval elt (compEnvC scope cl C env)) (LCg.CompEnd h₀ L m { s with heap := h, toks := tk } I oI C oC D (LCg.lst ys) S (fun y news' => news' = news ∧ b i = true ∧ ∃ t, y = .int (a + (i : Int)) t)) E' s'
        else LCg.CompEnd h₀ L m { s with heap := h, toks := tk } I oI C oC D (LCg.lst ys) S (fun _ news' => news' = news ∧ b i = false) Value.none s') E' { s with heap := h, toks := tk })
    (fin : ∀ ys : List Value, IntsAre ys (((List.range n).filter b).map fun (i : Nat) => a + (i : Int)) → Fin ys news) : LCt.CompRestT PySem.Challenge.rw_mq0094_01.row.prog w A h₀ L m env ct elt x scope cl s S (fun i v => ∃ t, v = .int (a + (i : Int)) t) Fin n 0 [] news := by
  have key : ∀ (j i : Nat) (ys : List Value), i + j = n → IntsAre ys (((List.range i).filter b).map fun (i : Nat) => a + (i : Int)) → LCt.CompRestT PySem.Challenge.rw_mq0094_01.row.prog w A h₀ L m env ct elt x scope cl s S (fun i v => ∃ t, v = .int (a + (i : Int)) t) Fin j i ys news := by
    intro j
    induction j with
    | zero =>
      intro i ys hi hy
      have e : i = n := by omega
      subst e
      exact LCt.CompRestT.zero (fin ys hy)
    | succ j ih =>
      intro i ys hi hy
      refine LCt.CompRestT.succ ?_
      intro v I oI C oC D m₂ h tk E' hv hC hx F N off ne
      obtain ⟨t, rfl⟩ := hv
      refine wpAny_mono (turn i t ys I oI C oC D m₂ h tk E' (by omega) hC hx F N off ne) (fun ok s₂ hq => ?_) fun _ _ e => e
      cases ok with
      | true =>
        simp only [if_true] at hq ⊢
        refine wpAny_mono hq (fun y s₃ hq => ?_) fun _ _ e => e
        obtain ⟨h', tk', nw, e, F', N', off', hS', hn, hb, t', rfl⟩ := hq
        subst hn
        refine ⟨h', tk', nw, e, F', N', off', hS', ih (i + 1) _ (by omega) ?_⟩
        rw [List.range_succ, List.filter_append, List.map_append]
        simp only [List.filter_cons, List.filter_nil, hb, if_true, List.map_cons, List.map_nil]
        exact hy.append (.cons _ _ .nil)
      | false =>
        simp only [Bool.false_eq_true, if_false] at hq ⊢
        obtain ⟨h', tk', nw, e, F', N', off', hS', hn, hb⟩ := hq
        subst hn
        refine ⟨h', tk', nw, e, F', N', off', hS', ih (i + 1) _ (by omega) ?_⟩
        rw [List.range_succ, List.filter_append, List.map_append]
        simp only [List.filter_cons, List.filter_nil, hb, Bool.false_eq_true, if_false, List.map_nil, List.append_nil]
        exact hy
  exact key n 0 [] (by omega) .nil

theorem setL_last (v0 v : Value) : ∀ vi : List Value, ki_setL (vi ++ [v0]) vi.length v = some (vi ++ [v])
  | [] => rfl
  | x :: r => by simp only [List.cons_append, List.length_cons, ki_setL, setL_last v0 v r]
theorem last_get {w : World} {A : Around} {E : Value → Shared → Prop} {pA : Addr} {vi : List Value} {v : Value} {k : Nat} {t : Tok} {Q : Value → Shared → Prop} (N : News h₀ L s.heap news) (hm : (pA, listOf (vi ++ [v]).toArray k) ∈ news) (h : Q v s) :
    wpAny (model PySem.Challenge.rw_mq0094_01.row.prog w) A (getItem (.ref pA) (.int (-1) t)) Q E s :=
  wpAny_getItem_list_neg (items := (vi ++ [v]).toArray) (x := v) ⟨_, (N _ hm).1, rfl, k, rfl⟩ (by decide) (by simp only [List.size_toArray, List.length_append, List.length_singleton]; omega) (by decide)
    (by
      have e : (-1 + (((vi ++ [v]).toArray.size : Nat) : Int)).toNat = vi.length := by simp only [List.size_toArray, List.length_append, List.length_singleton]; omega
      rw [e]; simp) h
theorem last_set {w : World} {A : Around} {E : Value → Shared → Prop} {pA : Addr} {vi : List Value} {v0 v : Value} {k : Nat} {t : Tok} {tl : List (Addr × Obj)} {Q : Unit → Shared → Prop} (F : Fr h₀ L s.heap m) (N : News h₀ L s.heap ((pA, listOf (vi ++ [v0]).toArray k) :: tl)) (off : ∀ p ∈ tl, p.1 ≠ pA)
    (h : ∀ h', Fr h₀ L h' m → News h₀ L h' ((pA, listOf (vi ++ [v]).toArray k) :: tl) → Q () { s with heap := h' }) :
    wpAny (model PySem.Challenge.rw_mq0094_01.row.prog w) A (setItem (.ref pA) (.int (-1) t) v) Q E s :=
  ki_setNeg (j := vi.length) (q := vi ++ [v]) F N (by decide) (by decide)
    (by
      have := seqIndex_neg (k := -1) (n := (vi ++ [v0]).toArray.size) (by decide) (by simp only [List.size_toArray, List.length_append, List.length_singleton]; omega)
      rw [this]
      simp only [List.size_toArray, List.length_append, List.length_singleton]
      congr 1; omega)
    (setL_last v0 v vi) (Upd.head off) h
theorem slice_drawn {w : World} {A : Around} {E : Value → Shared → Prop} {value slice : PySem.Expr} {l : Int} {t u : Tok} {Q : Value → Shared → Prop} (F : Fr h₀ L s.heap m) (N : News h₀ L s.heap news) (h0 : 0 ≤ l) (h1 : l ≤ 256)
    (h : ∀ h' t' k, Fr h₀ L h' m → News h₀ L h' news → Q (.str (S (drawn l).dropLast) t') { s with heap := h', toks := k })
    (hs : subscripted slice false (.str (S (drawn l)) t) (.ref s.heap.objs.size) = operate [.ref s.heap.objs.size, .str (S (drawn l)) t] (getItem (.str (S (drawn l)) t) (.ref s.heap.objs.size)))
    (ht : ∀ r, letTemporaryGo value (.str (S (drawn l)) t) r = pure ()) :
    wpAny (model PySem.Challenge.rw_mq0094_01.row.prog w) A (subscriptTail value slice (.str (S (drawn l)) t) (.ref s.heap.objs.size)) Q E { s with heap := s.heap.push { cls := .type "slice", data := .fields #[.none, .int (-1) u, .none] } } :=
  slice_strN_ns F N (fun h' t' k F' N' => by rw [slice_dr h0 h1]; exact h h' t' k F' N') hs ht (by rw [S_length, sizeLine_eq]; have := drawn_len l; omega)
local macro_rules | `(tactic| walk_at "subscriptTail") => `(tactic| (k_here; (with_reducible show wpAny _ _ (subscriptTail _ _ (Value.str (S (drawn _)) _) (Value.ref _)) _ _ _); k_dflt (refine' slice_drawn ?k1 ?k2 ?k3 ?k4 ?_ ?k7 ?k8; (case k1 => k_asm); (case k2 => k_asm); (case k3 => assumption); (case k4 => assumption); (case k7 => with_unfolding_all rfl); (case k8 => (intro _; with_unfolding_all rfl))); intro h' t' k' F' N'))
local macro_rules | `(tactic| walk_at "getItem ref int") => `(tactic| (k_here; k_dflt (refine' last_get ?k1 ?k2 ?_; (case k1 => k_asm); (case k2 => first | exact List.Mem.head _ | kst_mem))))
local macro_rules | `(tactic| walk_at "setItem ref int") => `(tactic| (k_here; k_dflt (refine' last_set ?k1 ?k2 ?k3 ?_; (case k1 => k_asm); (case k2 => k_asm); (case k3 => assumption)); intro h' F' N'))
local macro_rules | `(tactic| walk_at "inplaceOp Add str str") => `(tactic| (k_here; k_dflt (refine' iadd_S ?k1 ?k2 ?_; (case k1 => omega); (case k2 => omega)); intro t9 k9))
local macro_rules | `(tactic| walk_at "call builtin:list.append") => `(tactic| (k_here; k_dflt (refine' append_led ?k1 ?k2 ?k3 ?k4 ?_; (case k1 => k_asm); (case k2 => k_asm); (case k3 => assumption); (case k4 => (simp only [List.length_append, List.length_singleton]; omega))); intro h' F' N'))

theorem c_stopI {rowA marksA sureA : Addr} {vr vm vsu : List Value} {row marks sure : List Int} {kr km ks : Nat} {first : Nat} {fi : Int} {t1 : Tok} (C : Cx w mean mg mb cs outer A₀ base h₀ L s.heap m news) (hfi : fi = (first : Int))
  (hr : (rowA, listOf vr.toArray kr) ∈ news) (hrI : IntsAre vr row) (hma : (marksA, tupOf vm km) ∈ news) (hmI : IntsAre vm marks) (hsu : (sureA, tupOf vsu ks) ∈ news) (hsI : IntsAre vsu sure) (hlen : row.length ≤ 100) (hf : first ≤ row.length + 1) (hdp : dp + 2 < recursionLimit)
  (ret : ∀ (r : Nat) t h' tk', StopAt marks sure row first r → Fr h₀ L h' m → News h₀ L h' news → Q (.int r t) { s with heap := h', toks := tk' }) :
  wpAny (model PySem.Challenge.rw_mq0094_01.row.prog w) (ktrTop dp un gd cn cs L a ccd cl outer) (call (.ref 75) [.ref rowA, .int fi t1, .ref marksA, .ref sureA]) Q E s := by
  subst hfi; exact c_stop C hr hrI hma hmI hsu hsI hlen hf hdp ret
theorem c_shieldedI {rowA sureA : Addr} {vr vsu : List Value} {row sure : List Int} {kr ks : Nat} {first place : Nat} {fi : Int} {t1 t2 : Tok} (C : Cx w mean mg mb cs outer A₀ base h₀ L s.heap m news) (hfi : fi = (first : Int))
  (hr : (rowA, listOf vr.toArray kr) ∈ news) (hrI : IntsAre vr row) (hsu : (sureA, tupOf vsu ks) ∈ news) (hsI : IntsAre vsu sure) (hlen : row.length ≤ 100) (hf : first ≤ place) (hp : place ≤ row.length) (hdp : dp + 1 < recursionLimit)
  (ret : ∀ r h' tk', r = shield sure row first place → Fr h₀ L h' m → News h₀ L h' news → Q (.bool r) { s with heap := h', toks := tk' }) :
  wpAny (model PySem.Challenge.rw_mq0094_01.row.prog w) (ktrTop dp un gd cn cs L a ccd cl outer) (call (.ref 68) [.ref rowA, .int fi t1, .int place t2, .ref sureA]) Q E s := by
  subst hfi; exact c_shielded C hr hrI hsu hsI hlen hf hp hdp ret
local macro_rules | `(tactic| walk_at "call ref") => `(tactic| (k_here; k_dflt (refine' c_stopI ⟨?k1, ?k2, ?k3, ?k4, ?k5, ?k6⟩ ?r0 ?r1 ?r2 ?r3 ?r4 ?r5 ?r6 ?r7 ?r8 ?k7 ?_; (case k1 => k_asm); (case k2 => k_asm); (case k3 => k_asm); (case k4 => k_asm); (case k5 => k_asm); (case k6 => first | exact rfl | assumption); (case r0 => exact (Int.natCast_succ _).symm); (case r1 => first | k_mem | kst_mem); (case r2 => assumption); (case r3 => first | k_mem | kst_mem); (case r4 => assumption); (case r5 => first | k_mem | kst_mem); (case r6 => assumption); (case r7 => assumption); (case r8 => omega); (case k7 => ktr_room)); intro r' t' h' tk' hr' F' N'))
local macro_rules | `(tactic| walk_at "call ref") => `(tactic| (k_here; k_dflt (refine' c_shieldedI ⟨?k1, ?k2, ?k3, ?k4, ?k5, ?k6⟩ ?r0 ?r1 ?r2 ?r3 ?r4 ?r5 ?r6 ?r7 ?k7 ?_; (case k1 => k_asm); (case k2 => k_asm); (case k3 => k_asm); (case k4 => k_asm); (case k5 => k_asm); (case k6 => first | exact rfl | assumption); (case r0 => exact (Int.natCast_succ _).symm); (case r1 => first | k_mem | kst_mem); (case r2 => assumption); (case r3 => first | k_mem | kst_mem); (case r4 => assumption); (case r5 => assumption); (case r6 => omega); (case r7 => omega); (case k7 => ktr_room)); intro b' h' tk' hb' F' N'; subst hb'))

theorem last_item {w : World} {A : Around} {E : Value → Shared → Prop} {value slice : PySem.Expr} {pA : Addr} {vi : List Value} {v : Value} {k : Nat} {t : Tok} {Q : Value → Shared → Prop} (N : News h₀ L s.heap news) (hm : (pA, listOf (vi ++ [v]).toArray k) ∈ news) (h : Q v s)
    (hs : subscripted slice false (.ref pA) (.int (-1) t) = operate [.ref pA, .int (-1) t] (getItem (.ref pA) (.int (-1) t))) :
    wpAny (model PySem.Challenge.rw_mq0094_01.row.prog w) A (subscriptTail value slice (.ref pA) (.int (-1) t)) Q E s := by
  have hL : s.heap.IsList pA (vi ++ [v]).toArray := ⟨_, (N _ hm).1, rfl, k, rfl⟩
  exact tail_any hL.typeIs slot_list_getitem.lookup (last_get N hm h) hs
theorem init_slice {w : World} {A : Around} {E : Value → Shared → Prop} {value slice : PySem.Expr} {lA : Addr} {vi : List Value} {v : Value} {k : Nat} {u : Tok} {Q : Value → Shared → Prop} (F : Fr h₀ L s.heap m) (N : News h₀ L s.heap news) (hm : (lA, listOf (vi ++ [v]).toArray k) ∈ news) (hz : vi.length ≤ 100000)
    (h : ∀ D h', Fr h₀ L h' m → News h₀ L h' ((D, listOf vi.toArray 0) :: news) → (∀ p ∈ news, p.1 < D) → Q (.ref D) { s with heap := h' })
    (hs : subscripted slice false (.ref lA) (.ref s.heap.objs.size) = operate [.ref s.heap.objs.size, .ref lA] (getItem (.ref lA) (.ref s.heap.objs.size))) (ht : ∀ r, letTemporaryGo value (.ref lA) r = pure ()) :
    wpAny (model PySem.Challenge.rw_mq0094_01.row.prog w) A (subscriptTail value slice (.ref lA) (.ref s.heap.objs.size)) Q E { s with heap := s.heap.push { cls := .type "slice", data := .fields #[.none, .int (-1) u, .none] } } :=
  kmk_slice F N ⟨_, (N _ hm).1, rfl, k, rfl⟩ .none (.int _ _) (fun D h' F' N' l1 => h D h' F' (by
    have e : slicePick (vi ++ [v]).toArray none (some (-1)) none = vi.toArray := by
      have e1 : sliceBounds none (some (-1)) none (vi ++ [v]).toArray.size = (((0 : Nat) : Int), ((vi.length : Nat) : Int), 1) := by
        simp only [sliceBounds, Option.getD_none, show (1 : Int) > 0 by decide, if_true, show (-1 : Int) < 0 by decide, List.size_toArray, List.length_append, List.length_singleton]
        congr 1
        congr 1
        omega
      rw [kmk_pick_nat _ e1]
      simp
    rw [e] at N'; exact N') l1) hs ht (by rw [List.size_toArray, sizeLine_eq]; simp only [List.length_append, List.length_singleton]; omega)
theorem stripC_S {w : World} {A : Around} {E : Value → Shared → Prop} {x : List Nat} {y : Str} {t u : Tok} {Q : Value → Shared → Prop} (hx : x.length ≤ 100000) (h : ∀ t' k, Q (.str (Txt.stripChars (S x) y) t') { s with toks := k }) :
    wpAny (model PySem.Challenge.rw_mq0094_01.row.prog w) A (call (.builtin "str.strip") [.str (S x) t, .str y u]) Q E s :=
  SCL.stripChars (fun t' k _ => h t' k) (by rw [S_length, sizeLine_eq]; omega)
local macro_rules | `(tactic| walk_at "call builtin:str.strip") => `(tactic| (k_here; k_dflt (refine' stripC_S ?k1 ?_; (case k1 => omega)); intro t9 k9))
local macro_rules | `(tactic| walk_at "truthy str") => `(tactic| (k_here; k_dflt (refine' truthy_S ?k1 ?_; (case k1 => omega)); intro k9))
local macro_rules | `(tactic| walk_at "subscriptTail Name UnaryOp") => `(tactic| (k_here; (with_reducible show wpAny _ _ (subscriptTail _ _ (Value.ref _) (Value.int _ _)) _ _ _); k_dflt (refine' last_item ?k1 ?k2 ?_ ?k7; (case k1 => k_asm); (case k2 => exact List.Mem.head _); (case k7 => with_unfolding_all rfl))))
local macro_rules | `(tactic| walk_at "subscriptTail Name Slice ref ref") => `(tactic| (k_here; (with_reducible show wpAny _ _ (subscriptTail _ _ (Value.ref _) (Value.ref _)) _ _ _); k_dflt (refine' init_slice ?k1 ?k2 ?k3 ?k4 ?_ ?k7 ?k8; (case k1 => k_asm); (case k2 => k_asm); (case k3 => exact List.Mem.head _); (case k4 => omega); (case k7 => with_unfolding_all rfl); (case k8 => (intro _; with_unfolding_all rfl))); intro D' h' F' N' l1; (try k_lt l1)))

structure LC where
  st : PS
  vi : List Value
  t : Tok
  n : Nat
def lcList (c : LC) : List Value := c.vi ++ [.str (S c.st.part) c.t]
def lcLed (pA dA cA : Addr) (vr : List Value) (kd : Nat) (o1 o2 : Obj) (news : List (Addr × Obj)) (c : LC) : List (Addr × Obj) := (pA, listOf (c.vi ++ [Value.str (S c.st.part) c.t]).toArray c.n) :: (dA, listOf vr.toArray kd) :: (cA + 1, o1) :: (cA, o2) :: news
def lcP (marks commas sure row : List Int) (p : Nat) (pre : List Int) (c : LC) : Prop := c.st = lrun marks commas sure (row.take (p + pre.length)) ∧ c.st.quote = false ∧ c.st.esc = false ∧ StrsAre c.vi (c.st.res.map S)
def lc2P (marks commas sure row : List Int) (o r : Nat) (pre : List Int) (c : LC) : Prop := c.st = lrun marks commas sure (row.take (o + pre.length)) ∧ StrsAre c.vi (c.st.res.map S) ∧ L2 sure row o r (o + pre.length) c.st
theorem lc_off2 {own : List (Addr × Obj)} {cA pA : Addr} {x y : Obj} {adr : List Addr} (lt : cA + 1 < pA ∧ cA < pA ∧ AllLt pA news) (h : OwnOff own adr) (hm : pA ∈ adr) : ∀ q ∈ (cA + 1, x) :: (cA, y) :: (news ++ own), q.1 ≠ pA := by
  intro q hq
  rcases List.mem_cons.mp hq with rfl | hq
  · exact Nat.ne_of_lt lt.1
  · rcases List.mem_cons.mp hq with rfl | hq
    · exact Nat.ne_of_lt lt.2.1
    · rcases List.mem_append.mp hq with hq | hq
      · exact Nat.ne_of_lt (ktn_ltOf lt.2.2 q hq)
      · exact h q hq _ hm
theorem ne_of_contains {z x : Str} (h : [x].contains z = false) : z ≠ x := by
  intro e; subst e; simp at h
theorem contains_of_ne {z x : Str} (h : z ≠ x) : [x].contains z = false := by
  simp [h]
theorem ne_of_contains5 {z a b c d e : Str} (h : [a, b, c, d, e].contains z = false) : z ≠ a ∧ z ≠ b ∧ z ≠ c ∧ z ≠ d ∧ z ≠ e := by
  simp only [List.contains_cons, List.contains_nil, Bool.or_false, Bool.or_eq_false_iff, beq_eq_false_iff_ne, ne_eq] at h
  exact h
theorem take_min' {row : List Int} {k : Nat} : row.take (min k row.length) = row.take k := by
  by_cases h : k ≤ row.length
  · rw [Nat.min_eq_left h]
  · rw [Nat.min_eq_right (by omega), List.take_of_length_le (Nat.le_refl _), List.take_of_length_le (by omega)]
section
variable {marks commas sure row : List Int} {o r k : Nat} {st : PS} {l : Int}
theorem l2_drop (ho : o < k) (hk : k < r) (hl : row[k]? = some l) (hs : StopAt marks sure row (o + 1) r) (h92 : isIn sure 92 = false) (I : L2 sure row o r k st) (hd : isIn sure l = true ∨ (l = 92 ∧ shield sure row (o + 1) k = false)) :
    (lstep marks commas sure st l).part = st.part ++ (drawn l).dropLast ∧ (lstep marks commas sure st l).res = st.res ∧ L2 sure row o r (k + 1) (lstep marks commas sure st l) := by
  obtain ⟨e, h⟩ := (l2_mid (commas := commas) ho hk hl hs h92 I).1 hd
  exact ⟨by rw [e], by rw [e], h⟩
theorem l2_keep (ho : o < k) (hk : k < r) (hl : row[k]? = some l) (hs : StopAt marks sure row (o + 1) r) (h92 : isIn sure 92 = false) (I : L2 sure row o r k st) (hd : ¬ (isIn sure l = true ∨ (l = 92 ∧ shield sure row (o + 1) k = false))) :
    (lstep marks commas sure st l).part = st.part ++ drawn l ∧ (lstep marks commas sure st l).res = st.res ∧ L2 sure row o r (k + 1) (lstep marks commas sure st l) := by
  obtain ⟨e, h⟩ := (l2_mid (commas := commas) ho hk hl hs h92 I).2 hd
  exact ⟨by rw [e], by rw [e], h⟩
theorem keep_sh (h1 : isIn sure l = false) (h2 : shield sure row (o + 1) k = true) : ¬ (isIn sure l = true ∨ (l = 92 ∧ shield sure row (o + 1) k = false)) := by
  rw [h1, h2]; simp
theorem keep_ne (h1 : isIn sure l = false) (h2 : l ≠ 92) : ¬ (isIn sure l = true ∨ (l = 92 ∧ shield sure row (o + 1) k = false)) := by
  rw [h1]; simp [h2]
theorem keep_bs {b : Bool} (hB : ∀ l, isIn sure l = true → isBs l = true) (e : b = isBs l) (h : b = false) : ¬ (isIn sure l = true ∨ (l = 92 ∧ shield sure row (o + 1) k = false)) := by
  rw [h] at e
  rintro (h1 | ⟨rfl, _⟩)
  · rw [hB l h1] at e; cases e
  · cases e
theorem l2_end {vi : List Value} {t : Tok} {n : Nat} {pre : List Int} {x : Int} (hl : row[o + pre.length]? = some l) (m1 : st = lrun marks commas sure (row.take (o + pre.length))) (m2 : StrsAre vi (st.res.map S)) (e2 : (lstep marks commas sure st l).res = st.res)
    (e3 : L2 sure row o r (o + pre.length + 1) (lstep marks commas sure st l)) : lc2P marks commas sure row o r (pre ++ [x]) ⟨lstep marks commas sure st l, vi, t, n⟩ := by
  have el : o + (pre ++ [x]).length = o + pre.length + 1 := by rw [List.length_append, List.length_singleton]; omega
  refine ⟨?_, ?_, ?_⟩
  · show lstep marks commas sure st l = lrun marks commas sure (row.take (o + (pre ++ [x]).length))
    rw [el, lrun_succ hl, ← m1]
  · show StrsAre vi ((lstep marks commas sure st l).res.map S)
    rw [e2]; exact m2
  · show L2 sure row o r (o + (pre ++ [x]).length) (lstep marks commas sure st l)
    rw [el]; exact e3
end
structure RC where
  p : Nat
  t : Tok
  c : LC
def rcP (marks commas sure row : List Int) (c : RC) : Prop := c.p ≤ row.length + 1 ∧ c.c.st = lrun marks commas sure (row.take c.p) ∧ (c.p ≤ row.length → c.c.st.quote = false ∧ c.c.st.esc = false) ∧ StrsAre c.c.vi (c.c.st.res.map S)
theorem lc_off {own : List (Addr × Obj)} {cA pA dA : Addr} {d x y : Obj} {adr : List Addr} (lt : cA + 1 < pA ∧ cA < pA ∧ AllLt pA news) (lt2 : pA < dA) (h : OwnOff own adr) (hm : pA ∈ adr) : ∀ q ∈ (dA, d) :: (cA + 1, x) :: (cA, y) :: (news ++ own), q.1 ≠ pA := by
  intro q hq
  rcases List.mem_cons.mp hq with rfl | hq
  · exact Nat.ne_of_gt lt2
  · rcases List.mem_cons.mp hq with rfl | hq
    · exact Nat.ne_of_lt lt.1
    · rcases List.mem_cons.mp hq with rfl | hq
      · exact Nat.ne_of_lt lt.2.1
      · rcases List.mem_append.mp hq with hq | hq
        · exact Nat.ne_of_lt (ktn_ltOf lt.2.2 q hq)
        · exact h q hq _ hm
theorem kN_dropc {h : Heap} {a b c d : Addr × Obj} (N : News h₀ L h (a :: b :: c :: d :: news)) : News h₀ L h (a :: news) := fun r hr => N r (by rcases List.mem_cons.mp hr with rfl | hr; exact .head _; exact .tail _ (.tail _ (.tail _ (.tail _ hr))))
theorem kN_dropd {h : Heap} {a b c d e : Addr × Obj} (N : News h₀ L h (a :: b :: c :: d :: e :: news)) : News h₀ L h (a :: news) := fun r hr => N r (by rcases List.mem_cons.mp hr with rfl | hr; exact .head _; exact .tail _ (.tail _ (.tail _ (.tail _ (.tail _ hr)))))
theorem pendl_parts (marks commas sure row : List Int) : ∀ p ∈ pend (lrun marks commas sure row), p.length ≤ 3 * row.length := by
  intro p hp
  unfold pend at hp
  split at hp
  · exact lrun_parts marks commas sure row p hp
  · rcases List.mem_append.mp hp with hp | hp
    · exact lrun_parts marks commas sure row p hp
    · rw [List.mem_singleton.mp hp]; exact lrun_part marks commas sure row
theorem kN_swap {h : Heap} {p q : Addr × Obj} (N : News h₀ L h (p :: q :: news)) : News h₀ L h (q :: p :: news) := fun r hr => N r (by
  rcases List.mem_cons.mp hr with rfl | hr
  · exact .tail _ (.head _)
  · rcases List.mem_cons.mp hr with rfl | hr
    · exact .head _
    · exact .tail _ (.tail _ hr))

theorem c_read {rowA marksA commasA sureA : Addr} {vr vm vc vsu : List Value} {row marks commas sure : List Int} {kr km kc ks : Nat} (C : Cx w mean mg mb cs outer A₀ base h₀ L s.heap m news)
  (hr : (rowA, listOf vr.toArray kr) ∈ news) (hrI : IntsAre vr row) (hma : (marksA, tupOf vm km) ∈ news) (hmI : IntsAre vm marks) (hco : (commasA, tupOf vc kc) ∈ news) (hcI : IntsAre vc commas) (hsu : (sureA, tupOf vsu ks) ∈ news) (hsI : IntsAre vsu sure) (hrow : ∀ l ∈ row, 0 ≤ l ∧ l ≤ 256) (h92 : isIn sure 92 = false) (hsB : ∀ l, isIn sure l = true → isBs l = true) (hlen : row.length ≤ 100) (hdp : dp + 3 < recursionLimit)
  (ret : ∀ l vs k h' tk', StrsAre vs ((pend (lrun marks commas sure row)).map fun x => Txt.stripChars (S x) (Str.ofString " ")) → Fr h₀ L h' m → News h₀ L h' ((l, listOf vs.toArray k) :: news) → (∀ p ∈ news, p.1 ≠ l) → Q (.ref l) { s with heap := h', toks := tk' }) :
  wpAny (model PySem.Challenge.rw_mq0094_01.row.prog w) (ktrTop dp un gd cn cs L a ccd cl outer) (call (.ref 80) [.ref rowA, .ref marksA, .ref commasA, .ref sureA]) Q E s := by
  obtain ⟨B, F, X, N, T, hk⟩ := C
  revert X
  w_on
  k_fill
  intro X
  refine wpAny_call ?_
  w_strict (k_dflt (refine' code_defC ?k1 ?k2 ?k3 ?k4 ?k5 ?kA ?kF ?kK ?k6 ?k7 ?k8 ?k9 ?kB ?kD ?_ ?c2 ?c3 ?c4; (case kA => exact rfl); (case kF => exact rfl); (case kK => assumption); (case k1 => k_asm); (case k2 => k_asm); (case k3 => k_asm); (case k4 => k_asm); (case k5 => k_asm); (case k6 => k_is); (case k7 => k_is); (case k8 => ktr_room); (case k9 => exact BindsTo.of_eq rfl); (case kB => exact rfl); (case kD => decide +kernel); (case c2 => exact rfl); (case c3 => exact rfl); (case c4 => exact rfl); k_whole; intro g' L' h' tk' cells' FG' F' N' Y' B' X' T' l1; k_cells Y'; (try simp only [List.cons_append, List.nil_append] at N'); (try dsimp only); (try k_lift B'); (try k_fold)))
  w_strict k_steps
  refine Halt.mk ?_
  rename Fr _ _ _ _ => lF
  rename News _ _ _ _ => lN
  rename_i o1 o2 d1 d2 pA _ ltA _ _
  replace d1 : o1.data = .cell (some (.ref marksA)) := d1
  replace d2 : o2.data = .cell (some (.ref rowA)) := d2
  with_unfolding_all refine' ksw_while (σ := RC) (fun c => (pA, listOf (c.c.vi ++ [Value.str (S c.c.st.part) c.c.t]).toArray c.c.n) :: (L' + 1 + 1, o1) :: (L' + 1, o2) :: news) (fun c => [(Str.ofString "place", .int c.p c.t)]) (fun _ => True) [Str.ofString "opening", Str.ofString "label", Str.ofString "stop", Str.ofString "spot", Str.ofString "word"] (rcP marks commas sure row) (fun c => row.length + 1 - c.p) ⟨0, _, ⟨PS.init, [], _, 0⟩⟩ lF lN True.intro ?k1 ?k2 ?_
  case k1 => exact List.forall_mem_cons.mpr ⟨by with_unfolding_all rfl, List.forall_mem_nil _⟩
  case k2 => exact ⟨Nat.zero_le _, rfl, fun _ => ⟨rfl, rfl⟩, .nil⟩
  clear lF lN
  rintro ⟨p, tp, ⟨st, vi, tq, n⟩⟩ u h tk _ ⟨i1, i2, i3, i4⟩ F1 N1
  dsimp only at i1 i2 i3 i4 F1 N1 ⊢
  w_strict (
    (try k_fold)
    k_steps)
  · refine Halt.mk ?_
    rename Fr _ _ _ _ => lF
    rename News _ _ _ _ => lN
    rename (p : Int) < (row.length : Int) => hpl
    k_dflt (refine' LCt.ListComp_T lF ?c1 ?c2 ?c3 ?c4 ?c5 ?_)
    case c1 => with_unfolding_all rfl
    case c2 => decide
    case c3 => rfl
    case c4 => decide
    case c5 => rfl
    w_strict k_steps
    refine Halt.mk ?_
    rename IsRange _ _ _ _ _ _ _ _ => hR
    rename Fr _ _ _ _ => lF2
    rename News _ _ _ _ => lN2
    refine LCt.CompSrcT.range rfl lF2 lN2 hR (small_one (by omega) (by omega) (by omega) (by omega)) (n := row.length - p) (by rw [rangeSize_one]; split <;> omega) (by rw [sizeLine_eq]; omega) fun g => ?_
    refine comp_filt (fun i => isIn marks (row.getD (p + i) 0)) True.intro ?_ ?_
    · intro i t ys I oI C oC D m₂ h tk E' hi hC hx F3 N3 off3 ne3
      have hk3 : (p : Int) + (i : Int) = ((p + i : Nat) : Int) := by omega
      rw [hk3] at hx ⊢
      clear hk3
      w_strict (
        (try k_fold)
        k_steps)
      · refine Halt.mk ?_
        rename (marks.any _) = true => hb
        rw [Int.toNat_natCast] at hb
        exact LCg.CompEnd.intro F3 N3 _ (fun p hp => hp) off3 True.intro ⟨rfl, hb, _, rfl⟩
      · refine Halt.mk ?_
        rename (marks.any _) = false => hb
        rw [Int.toNat_natCast] at hb
        exact LCg.CompEnd.intro F3 N3 _ (fun p hp => hp) off3 True.intro ⟨rfl, hb⟩
    · intro ys hy D h tk F3 N3 off3
      have hyl : ys.length ≤ 100 := by
        rw [hy.length, List.length_map]
        exact Nat.le_trans (List.length_filter_le _ _) (by rw [List.length_range]; omega)
      w_strict (
        (try dsimp only)
        (try k_fold)
        k_steps)
      k_unmd
      w_strict k_steps
      refine Halt.mk ?_
      obtain ⟨o, ho1, ho2, ho3, ho4, ho5⟩ := first_of (fun i => isIn marks (row.getD (p + i) 0)) p (row.length - p)
      rw [show p + (row.length - p) = row.length by omega] at ho2 ho4 ho5
      rename News _ _ _ _ => lN3
      k_dflt (refine' led_item (ns := (((List.range (row.length - p)).filter (fun i => isIn marks (row.getD (p + i) 0))).map fun (i : Nat) => (p : Int) + (i : Int)) ++ [((row.length : Nat) : Int)]) lN3 (List.Mem.head _) (hy.append (.cons _ _ .nil)) (Int.le_refl 0) ?k5 ?k6 ?_ ?k7)
      case k5 => simp only [List.length_append, List.length_singleton]; omega
      case k6 =>
        have e := hy.length
        simp only [List.length_append, List.length_singleton]
        rw [← e]; omega
      case k7 => with_unfolding_all rfl
      intro to
      rw [show (0 : Int).toNat = 0 from rfl, List.getD_eq_getElem?_getD, ho5, Option.getD_some]
      have lN4 := kN_tail (kN_tail (kN_tail lN3))
      clear lN3 hy
      have hvl := IntsAre.length hrI
      w_strict (
        (try k_fold)
        k_steps)
      refine Halt.mk ?_
      rename Fr _ _ _ _ => lF5
      rename News _ _ _ _ => lN5
      k_dflt (refine' For_invVF lF5 ?k1 ?k2 ?_; (case k1 => exact rfl); (case k2 => exact rfl))
      w_strict (
        (try k_fold)
        k_steps)
      refine Halt.mk ?_
      (try k_unmd)
      k_unfold
      dsimp only
      rename Fr _ _ _ _ => lF6
      rename News _ _ _ _ => lN6
      rename_i dA _ ltD
      have hsl : IntsAre ((vr.drop p).take (o - p)) ((row.drop p).take (o - p)) := (hrI.drop p).take (o - p)
      k_dflt (refine' kst_listL (σ := LC) (lcLed pA dA (L' + 1) ((vr.drop p).take (o - p)) 0 o1 o2 news) (fun _ => []) (fun _ => True) [] (lcP marks commas sure row p) ⟨st, vi, tq, n⟩ rfl (fun _ => List.Mem.tail _ (List.Mem.head _)) hsl lF6 (kN_swap lN6) True.intro (List.forall_mem_nil _) ?k1 ?_ ?_)
      case k1 => exact ⟨i2, (i3 (by omega)).1, (i3 (by omega)).2, i4⟩
      · rintro ⟨st2, vi2, tq2, n2⟩ pre post l tl u6 h6 tk6 own hns hmem hoff _ ⟨j1, j2, j3, j4⟩ F6 N6
        clear lF6 lN6
        have hoffP : ∀ q ∈ (dA, listOf ((vr.drop p).take (o - p)).toArray 0) :: (L' + 1 + 1, o1) :: (L' + 1, o2) :: (news ++ own), q.1 ≠ pA := by
          intro q hq
          exact lc_off ltA ltD.1 hoff (List.Mem.head _) q hq
        dsimp only [lcLed] at j1 j2 j3 j4 F6 N6
        simp only [List.cons_append] at N6
        obtain ⟨hlr, hlo⟩ := seg_at hns
        have hnm : isIn marks l = false := by
          have := ho3 (p + pre.length) (by omega) hlo
          rw [Nat.add_sub_cancel_left, getD_of hlr] at this
          exact this
        have hl2 := hrow l (List.mem_of_getElem? hlr)
        obtain ⟨hl3, hl4⟩ := hl2
        have hdl := drawn_len l
        have hdl2 : (drawn l).dropLast.length ≤ 3 := by rw [List.length_dropLast]; omega
        have hb1 : st2.part.length ≤ 1000 := by
          have e := lrun_part marks commas sure (row.take (p + pre.length))
          rw [← j1, List.length_take] at e
          omega
        have hb2 : vi2.length ≤ 1000 := by
          have e := lrun_res marks commas sure (row.take (p + pre.length))
          have e2 := StrsAre.length j4
          rw [← j1, List.length_take] at e
          rw [List.length_map] at e2
          omega
        w_strict (
          (try k_fold)
          k_steps)
        · refine Halt.mk ?_
          exact kst_end (σ := LC) ⟨⟨st2.res ++ [st2.part ++ (drawn l).dropLast], [], false, false⟩, vi2 ++ [Value.str (S (st2.part ++ (drawn l).dropLast)) _], _, n2 + 1⟩ (by k_asm) (by k_asm) (fun q hq => in_own [_, _, _, _] hq) (fun q hq => own_in [_, _, _, _] hq) rfl True.intro (List.forall_mem_nil _) (fun z hz _ _ => by simp only [kstB, if_neg hz]; rfl)
            ⟨by
              show _ = lrun marks commas sure (row.take (p + (pre ++ [l]).length))
              rw [List.length_append, List.length_singleton, ← Nat.add_assoc, lrun_succ hlr, ← j1, ls_comma j2 hnm (by assumption)], rfl, rfl, by
              show StrsAre _ (List.map S (st2.res ++ [_]))
              rw [List.map_append]
              exact j4.append' (.cons _ _ .nil)⟩
        · refine Halt.mk ?_
          exact kst_end (σ := LC) ⟨⟨st2.res, st2.part ++ drawn l, false, false⟩, vi2, _, n2⟩ (by k_asm) (by k_asm) (fun q hq => in_own [_, _, _, _] hq) (fun q hq => own_in [_, _, _, _] hq) rfl True.intro (List.forall_mem_nil _) (fun z hz _ _ => by simp only [kstB, if_neg hz]; rfl)
            ⟨by
              show _ = lrun marks commas sure (row.take (p + (pre ++ [l]).length))
              rw [List.length_append, List.length_singleton, ← Nat.add_assoc, lrun_succ hlr, ← j1, ls_plain j2 hnm (by assumption)], rfl, rfl, j4⟩
      · rintro ⟨st2, vi2, tq2, n2⟩ u6 h6 tk6 _ ⟨j1, j2, j3, j4⟩ F6 N6
        clear lF6 lN6
        dsimp only [lcLed] at j1 j2 j3 j4 F6 N6
        replace j1 : st2 = lrun marks commas sure (row.take o) := by
          rw [j1, List.length_take, List.length_drop]
          congr 2; omega
        have N7 := kN_drop2 N6
        clear N6
        w_strict (
          (try dsimp only)
          (try k_fold)
          k_steps)
        refine Halt.mk ?_
        rename StopAt _ _ _ _ _ => hS
        rename Fr _ _ _ _ => lF8
        rename_i r _ _ _ _ _
        replace hS : StopAt marks sure row (o + 1) r := hS
        k_dflt (refine' For_invVF lF8 ?k1 ?k2 ?_; (case k1 => exact rfl); (case k2 => exact rfl))
        w_strict (
          (try k_fold)
          k_steps)
        refine Halt.mk ?_
        rename IsRange _ _ _ _ _ _ _ _ => hR8
        rename Fr _ _ _ _ => lF9
        rename News _ _ _ _ => lN9
        have hrl := hS.1
        k_dflt (refine' kst_range (σ := LC) (n := min (r + 1) row.length - o) (fun c => (pA, listOf (c.vi ++ [Value.str (S c.st.part) c.t]).toArray c.n) :: (L' + 1 + 1, o1) :: (L' + 1, o2) :: news) (fun _ => []) (fun _ => True) [Str.ofString "word"] (lc2P marks commas sure row o r) ⟨st2, vi2, tq2, n2⟩ rfl hR8 (small_one (by omega) (by omega) (by split <;> omega) (by split <;> omega)) ?k1 lF9 lN9 True.intro (List.forall_mem_nil _) ?k2 ?_ ?_)
        case k1 => rw [rangeSize_one]; split <;> split <;> omega
        case k2 => exact ⟨j1, j4, fun _ => ⟨j2, j3⟩, fun h => absurd h (by simp), fun h => absurd h (by have := hS.2.2; simp; omega)⟩
        · rintro ⟨st3, vi3, tq3, n3⟩ pre k tk3 u9 h9 tk9 own hk1 hk2 hoff _ ⟨m1, m2, m3⟩ F9 N9
          clear lF9 lN9
          have hoffP : ∀ q ∈ (L' + 1 + 1, o1) :: (L' + 1, o2) :: (news ++ own), q.1 ≠ pA := lc_off2 ltA hoff (List.Mem.head _)
          dsimp only at m1 m2 m3 F9 N9
          simp only [List.cons_append] at N9
          have hk3 : k = ((o + pre.length : Nat) : Int) := by omega
          subst hk3
          clear hk1
          have hkl : o + pre.length < row.length := by omega
          obtain ⟨l, hlr⟩ : ∃ l, row[o + pre.length]? = some l := ⟨_, List.getElem?_eq_getElem hkl⟩
          have hlg := getD_of hlr
          obtain ⟨hl3, hl4⟩ := hrow l (List.mem_of_getElem? hlr)
          have hdl := drawn_len l
          have hdl2 : (drawn l).dropLast.length ≤ 3 := by rw [List.length_dropLast]; omega
          have hb1 : st3.part.length ≤ 1000 := by
            have e := lrun_part marks commas sure (row.take (o + pre.length))
            rw [← m1, List.length_take] at e
            omega
          have hb2 : vi3.length ≤ 1000 := by
            have e := lrun_res marks commas sure (row.take (o + pre.length))
            have e2 := StrsAre.length m2
            rw [← m1, List.length_take] at e
            rw [List.length_map] at e2
            omega
          w_strict (
            (try k_fold)
            k_steps)
          · refine Halt.mk ?_
            obtain ⟨e1, e2, e3⟩ := l2_drop (by omega) (by omega) hlr hS h92 m3 (.inl (by assumption))
            rename News _ _ _ _ => lNx
            rw [← e1] at lNx
            exact kst_end (σ := LC) ⟨lstep marks commas sure st3 l, vi3, _, n3⟩ (by k_asm) lNx (fun q hq => in_own [_, _, _] hq) (fun q hq => own_in [_, _, _] hq) rfl True.intro (List.forall_mem_nil _)
              (fun z hz _ hc => by have hw := ne_of_contains hc; simp only [kstB, if_neg hz, if_neg hw, hc]; rfl) (l2_end hlr m1 m2 e2 e3)
          · refine Halt.mk ?_
            obtain ⟨e1, e2, e3⟩ := l2_keep (by omega) (by omega) hlr hS h92 m3 (keep_sh (by assumption) (by assumption))
            rename News _ _ _ _ => lNx
            rw [← e1] at lNx
            exact kst_end (σ := LC) ⟨lstep marks commas sure st3 l, vi3, _, n3⟩ (by k_asm) lNx (fun q hq => in_own [_, _, _] hq) (fun q hq => own_in [_, _, _] hq) rfl True.intro (List.forall_mem_nil _)
              (fun z hz _ hc => by have hw := ne_of_contains hc; simp only [kstB, if_neg hz, if_neg hw, hc]; rfl) (l2_end hlr m1 m2 e2 e3)
          · refine Halt.mk ?_
            obtain ⟨e1, e2, e3⟩ := l2_drop (by omega) (by omega) hlr hS h92 m3 (.inr ⟨(by assumption), (by assumption)⟩)
            rename News _ _ _ _ => lNx
            rw [← e1] at lNx
            exact kst_end (σ := LC) ⟨lstep marks commas sure st3 l, vi3, _, n3⟩ (by k_asm) lNx (fun q hq => in_own [_, _, _] hq) (fun q hq => own_in [_, _, _] hq) rfl True.intro (List.forall_mem_nil _)
              (fun z hz _ hc => by have hw := ne_of_contains hc; simp only [kstB, if_neg hz, if_neg hw, hc]; rfl) (l2_end hlr m1 m2 e2 e3)
          · refine Halt.mk ?_
            obtain ⟨e1, e2, e3⟩ := l2_keep (by omega) (by omega) hlr hS h92 m3 (keep_ne (by assumption) (by assumption))
            rename News _ _ _ _ => lNx
            rw [← e1] at lNx
            exact kst_end (σ := LC) ⟨lstep marks commas sure st3 l, vi3, _, n3⟩ (by k_asm) lNx (fun q hq => in_own [_, _, _] hq) (fun q hq => own_in [_, _, _] hq) rfl True.intro (List.forall_mem_nil _)
              (fun z hz _ hc => by have hw := ne_of_contains hc; simp only [kstB, if_neg hz, if_neg hw, hc]; rfl) (l2_end hlr m1 m2 e2 e3)
          · refine Halt.mk ?_
            obtain ⟨e1, e2, e3⟩ := l2_keep (by omega) (by omega) hlr hS h92 m3 (keep_bs hsB (item_dr hl3 hl4) (by assumption))
            rename News _ _ _ _ => lNx
            rw [← e1] at lNx
            exact kst_end (σ := LC) ⟨lstep marks commas sure st3 l, vi3, _, n3⟩ (by k_asm) lNx (fun q hq => in_own [_, _, _] hq) (fun q hq => own_in [_, _, _] hq) rfl True.intro (List.forall_mem_nil _)
              (fun z hz _ hc => by have hw := ne_of_contains hc; simp only [kstB, if_neg hz, if_neg hw, hc]; rfl) (l2_end hlr m1 m2 e2 e3)
          · refine Halt.mk ?_
            obtain ⟨e1, e2, e3⟩ := l2_close (commas := commas) (by omega) (by omega) hlr hS m3
            rename News _ _ _ _ => lNx
            rw [← e1] at lNx
            exact kst_end (σ := LC) ⟨lstep marks commas sure st3 l, vi3, _, n3⟩ (by k_asm) lNx (fun q hq => in_own [_, _, _] hq) (fun q hq => own_in [_, _, _] hq) rfl True.intro (List.forall_mem_nil _)
              (fun z hz _ hc => by have hw := ne_of_contains hc; simp only [kstB, if_neg hz, if_neg hw, hc]; rfl) (l2_end hlr m1 m2 e2 e3)
          · refine Halt.mk ?_
            obtain ⟨e1, e2, e3⟩ := l2_open (commas := commas) (by omega) hlr (by have := ho4 (by omega); rw [show p + (o - p) = o + pre.length by omega, hlg] at this; exact this) hS m3
            rename News _ _ _ _ => lNx
            rw [← e1] at lNx
            exact kst_end (σ := LC) ⟨lstep marks commas sure st3 l, vi3, _, n3⟩ (by k_asm) lNx (fun q hq => in_own [_, _, _] hq) (fun q hq => own_in [_, _, _] hq) rfl True.intro (List.forall_mem_nil _)
              (fun z hz _ hc => by have hw := ne_of_contains hc; simp only [kstB, if_neg hz, if_neg hw, hc]; rfl) (l2_end hlr m1 m2 e2 e3)
        · rintro ⟨st3, vi3, tq3, n3⟩ u9 h9 tk9 _ ⟨m1, m2, m3⟩ F9 N9
          clear lF9 lN9
          dsimp only at m1 m2 m3 F9 N9
          rw [rangeKs_length] at m1 m3
          have hro : o + (min (r + 1) row.length - o) = min (r + 1) row.length := by
            have := hS.2.2
            by_cases hrr : r < row.length
            · have := (hS.2.2 hrr).1; omega
            · omega
          rw [hro] at m1 m3
          w_strict (
            (try dsimp only)
            (try k_fold)
            k_steps)
          refine Halt.mk ?_
          exact ksw_end (σ := RC) ⟨r + 1, _, ⟨st3, vi3, tq3, n3⟩⟩ (by k_asm) (by k_asm) (fun q hq => hq) True.intro (List.forall_mem_cons.mpr ⟨by with_unfolding_all rfl, List.forall_mem_nil _⟩)
            (fun z hp hc => by
              have h1 : z ≠ Str.ofString "place" := hp _ (.head _)
              obtain ⟨c1, c2, c3, c4, c5⟩ := ne_of_contains5 hc
              have hw := contains_of_ne c5
              simp only [kstB, if_neg h1, if_neg c1, if_neg c2, if_neg c3, if_neg c4, if_neg c5, hc, hw]
              rfl)
            ⟨by show r + 1 ≤ row.length + 1; omega, by
              show st3 = lrun marks commas sure (row.take (r + 1))
              rw [m1, take_min'], fun hle => m3.2.2 (by have : r + 1 ≤ row.length := hle; omega), m2⟩
            (by
              show row.length + 1 - (r + 1) < row.length + 1 - p
              by_cases hrr : r < row.length
              · have := (hS.2.2 hrr).1; omega
              · omega)
  · refine Halt.mk ?_
    rename Fr _ _ _ _ => lF
    rename News _ _ _ _ => lN
    have hpl : row.length ≤ p := by omega
    rw [List.take_of_length_le hpl] at i2
    have hb1 : st.part.length ≤ 1000 := by
      have e := lrun_part marks commas sure row
      rw [← i2] at e
      omega
    have hb2 : vi.length ≤ 1000 := by
      have e := lrun_res marks commas sure row
      have e2 := StrsAre.length i4
      rw [← i2] at e
      rw [List.length_map] at e2
      omega
    k_dflt (refine' LCg.ListComp_U (cl := []) lF ?c1 ?c2 ?c3 ?c4 ?c5 ?_)
    case c1 => with_unfolding_all rfl
    case c2 => decide
    case c3 => rfl
    case c4 => decide
    case c5 => rfl
    w_strict k_steps
    · refine Halt.mk ?_
      have lN2 := lN
      clear lN
      obtain ⟨all, hall⟩ : ∃ all, all = vi ++ [Value.str (S st.part) tq] := ⟨_, rfl⟩
      rw [← hall] at lN2
      obtain ⟨R, hR⟩ : ∃ R, R = pend (lrun marks commas sure row) := ⟨_, rfl⟩
      have hRl : ∀ q ∈ R, q.length ≤ 1000 := fun q hq => by
        have := pendl_parts marks commas sure row q (hR ▸ hq)
        omega
      have hst : StrsAre all (R.map S) := by
        rw [hall, hR, ← i2]
        rename st.part ≠ [] => hne; show StrsAre _ (List.map S (if st.part = [] then st.res else st.res ++ [st.part])); rw [if_neg hne, List.map_append]; exact i4.append' (.cons _ _ .nil)
      rw [← hR] at ret
      have hln := StrsAre.length hst
      have hal : all.length ≤ 1001 := by rw [hall]; simp only [List.length_append, List.length_singleton]; omega
      rw [List.length_map] at hln
      clear hall hR
      refine LCg.CompSrc.ledger rfl (by k_asm) lN2 (List.Mem.head _) (by rw [List.size_toArray, sizeLine_eq]; omega) fun g => ?_
      refine comp_gen (fun i y => ∃ t, y = Value.str (Txt.stripChars (S (R.getD i [])) (Str.ofString " ")) t) (.inr ⟨_, List.Mem.head _, rfl, _, rfl⟩) ?_ ?_
      · intro i v ys I oI C oC D m₂ h tk E' hi hv hC hx F3 N3 off3 ne3
        obtain ⟨y, ty, rfl, hy⟩ := StrsAre.item hst i v (by simpa using hv)
        obtain ⟨r, hr, rfl⟩ := map_at hy
        have hrl := hRl r (List.mem_of_getElem? hr)
        w_strict (
          (try k_fold)
          k_steps)
        refine Halt.mk ?_
        refine LCg.CompEnd.intro F3 N3 _ (fun p hp => hp) off3 (.inr ⟨_, List.Mem.head _, rfl, _, rfl⟩) ⟨rfl, by rw [List.getD_eq_getElem?_getD, hr]; exact ⟨_, rfl⟩⟩
      · intro ys hl hy D h tk F3 N3 off3
        have hS := strs_of hy
        rw [hl, List.size_toArray, hln, range_getD [] (fun x => Txt.stripChars (S x) (Str.ofString " "))] at hS
        clear hy
        w_strict (
          (try dsimp only)
          k_steps)
        exact ret D ys _ _ _ hS (by k_asm) (kN_dropc (by k_asm)) (fun q hq => off1_mem off3 q (.tail _ (.tail _ (.tail _ hq))))
    · refine Halt.mk ?_
      rename News _ _ _ _ => lN2
      obtain ⟨all, hall⟩ : ∃ all, all = vi := ⟨_, rfl⟩
      rw [← hall] at lN2
      obtain ⟨R, hR⟩ : ∃ R, R = pend (lrun marks commas sure row) := ⟨_, rfl⟩
      have hRl : ∀ q ∈ R, q.length ≤ 1000 := fun q hq => by
        have := pendl_parts marks commas sure row q (hR ▸ hq)
        omega
      have hst : StrsAre all (R.map S) := by
        rw [hall, hR, ← i2]
        rename ¬ st.part ≠ [] => hne; show StrsAre _ (List.map S (if st.part = [] then st.res else st.res ++ [st.part])); rw [if_pos (Decidable.of_not_not hne)]; exact i4
      rw [← hR] at ret
      have hln := StrsAre.length hst
      have hal : all.length ≤ 1001 := by rw [hall]; omega
      rw [List.length_map] at hln
      clear hall hR
      refine LCg.CompSrc.ledger rfl (by k_asm) lN2 (List.Mem.head _) (by rw [List.size_toArray, sizeLine_eq]; omega) fun g => ?_
      refine comp_gen (fun i y => ∃ t, y = Value.str (Txt.stripChars (S (R.getD i [])) (Str.ofString " ")) t) (.inr ⟨_, List.Mem.head _, rfl, _, rfl⟩) ?_ ?_
      · intro i v ys I oI C oC D m₂ h tk E' hi hv hC hx F3 N3 off3 ne3
        obtain ⟨y, ty, rfl, hy⟩ := StrsAre.item hst i v (by simpa using hv)
        obtain ⟨r, hr, rfl⟩ := map_at hy
        have hrl := hRl r (List.mem_of_getElem? hr)
        w_strict (
          (try k_fold)
          k_steps)
        refine Halt.mk ?_
        refine LCg.CompEnd.intro F3 N3 _ (fun p hp => hp) off3 (.inr ⟨_, List.Mem.head _, rfl, _, rfl⟩) ⟨rfl, by rw [List.getD_eq_getElem?_getD, hr]; exact ⟨_, rfl⟩⟩
      · intro ys hl hy D h tk F3 N3 off3
        have hS := strs_of hy
        rw [hl, List.size_toArray, hln, range_getD [] (fun x => Txt.stripChars (S x) (Str.ofString " "))] at hS
        clear hy
        w_strict (
          (try dsimp only)
          k_steps)
        exact ret D ys _ _ _ hS (by k_asm) (kN_dropd (by k_asm)) (fun q hq => off1_mem off3 q (.tail _ (.tail _ (.tail _ (.tail _ hq)))))
end
end PartC8
end Mine

namespace Mine
section PartP7
theorem es_canLay : ∀ ss : List Str, (∀ x ∈ ss, PyData.strOk x = true) → PyData.canLayAll0 (ss.map PyData.str) = true
  | [], _ => rfl
  | x :: r, h => by simp [PyData.canLayAll0, PyData.canLay0, es_canLay r fun y hy => h y (.tail _ hy), h x (.head _)]
theorem es_depth : ∀ ss : List Str, PyData.depthAll (ss.map PyData.str) = 0
  | [] => rfl
  | _ :: r => by simp [PyData.depthAll, PyData.depth, es_depth r]
theorem es_shaped (ss : List Str) (h : ∀ x ∈ ss, PyData.strOk x = true) : SeqAt.shaped (.list (ss.map PyData.str)) = true := by
  simp [SeqAt.shaped, PyData.canLay0, PyData.depth, es_canLay ss h, es_depth]
theorem es_sameAll : ∀ ns ms : List Str, PySem.Spec.sameAll (ns.map PyData.str) (ms.map PyData.str) = decide (ns = ms)
  | [], [] => by simp [PySem.Spec.sameAll]
  | [], _ :: _ => by simp [PySem.Spec.sameAll]
  | _ :: _, [] => by simp [PySem.Spec.sameAll]
  | a :: r, b :: t => by
    simp only [List.map_cons, PySem.Spec.sameAll, PySem.Spec.same, es_sameAll r t]
    by_cases h : a = b <;> by_cases h' : r = t <;> simp [h, h']
theorem es_same (ns ms : List Str) : PySem.Spec.same (.list (ns.map PyData.str)) (.list (ms.map PyData.str)) = decide (ns = ms) := by
  simp only [PySem.Spec.same]; exact es_sameAll ns ms
section
variable {prog : Program} {w : World} {A : Around} {E : Value → Shared → Prop} {s : Shared} {a b : Addr} {xs ys : List Value} {ns ms : List Str} {Q : Value → Shared → Prop}
theorem es_eq (ha : s.heap.IsList a xs.toArray) (hb : s.heap.IsList b ys.toArray) (hi : StrsAre xs ns) (hj : StrsAre ys ms) (oi : ∀ x ∈ ns, PyData.strOk x = true) (oj : ∀ x ∈ ms, PyData.strOk x = true) (hu : A.units + 64 < cLine) (h : Q (.bool (decide (ns = ms))) s) :
    wpAny (model prog w) A (compareOp .Eq (.ref a) (.ref b)) Q E s :=
  eq_dataH_same (reads_newData ha hi.carried) (reads_newData hb hj.carried) (es_shaped _ oi) (es_shaped _ oj) hu (SeqAt.noMix_of_shape (.list .str) rfl _ _ (list_map_has fun _ => rfl) (list_map_has fun _ => rfl)) (by rw [es_same]; exact h)
theorem es_ne (ha : s.heap.IsList a xs.toArray) (hb : s.heap.IsList b ys.toArray) (hi : StrsAre xs ns) (hj : StrsAre ys ms) (oi : ∀ x ∈ ns, PyData.strOk x = true) (oj : ∀ x ∈ ms, PyData.strOk x = true) (hu : A.units + 64 < cLine) (h : Q (.bool (!decide (ns = ms))) s) :
    wpAny (model prog w) A (compareOp .NotEq (.ref a) (.ref b)) Q E s :=
  ne_dataH_same (reads_newData ha hi.carried) (reads_newData hb hj.carried) (es_shaped _ oi) (es_shaped _ oj) hu (SeqAt.noMix_of_shape (.list .str) rfl _ _ (list_map_has fun _ => rfl) (list_map_has fun _ => rfl)) (by rw [es_same]; exact h)
end
theorem glue_S : ∀ (r : List (List Nat)) (x : List Nat), ((r.map S).foldl (fun acc p => acc ++ (Str.ofString "").cps ++ p.cps) x.toArray) = (x ++ r.flatten).toArray
  | [], x => by simp
  | y :: r, x => by
    have e : (Str.ofString "").cps = #[] := by decide +kernel
    have e2 : x.toArray ++ (Str.ofString "").cps ++ (S y).cps = (x ++ y).toArray := by rw [e]; simp [S]
    rw [List.map_cons, List.foldl_cons, e2, glue_S r (x ++ y), List.flatten_cons, List.append_assoc]
theorem join_S (W : List (List Nat)) : Txt.join (Str.ofString "") (W.map S) = S W.flatten := by
  cases W with
  | nil => rfl
  | cons x r =>
    have := glue_S r x
    unfold Txt.join
    show Str.mk ((r.map S).foldl _ (S x).cps) = S (x ++ r.flatten)
    unfold S at this ⊢
    rw [this]
end PartP7
end Mine

namespace Mine
section PartP8
theorem tw_congr {p q : Nat → Bool} : ∀ {l : List Nat}, (∀ c ∈ l, p c = q c) → l.takeWhile p = l.takeWhile q
  | [], _ => rfl
  | c :: r, h => by
    rw [List.takeWhile_cons, List.takeWhile_cons, h c (.head _), tw_congr fun d hd => h d (.tail _ hd)]
theorem strip_congr {p q : Nat → Bool} {x : Str} (h : ∀ c ∈ x.cps.toList, p c = q c) : Txt.stripBy p true true x = Txt.stripBy q true true x := by
  have e1 : stripLo p true x = stripLo q true x := by
    unfold stripLo; rw [tw_congr h]
  have e2 : ∀ lo, stripHi p true x lo = stripHi q true x lo := by
    intro lo
    unfold stripHi
    rw [tw_congr (p := p) (q := q) (l := (x.cps.toList.drop lo).reverse)]
    intro c hc
    exact h c (List.mem_of_mem_drop (List.mem_reverse.mp hc))
  rw [PyProof.Rows.stripBy_eq, PyProof.Rows.stripBy_eq, e1, e2]
/-- a sign that the words bear -/
def okc (c : Nat) : Bool := (Unicode.isSpace c == (c == 32)) && decide (c < 1114112)
theorem drawn_ok {n : Int} (h0 : 0 ≤ n) (h1 : n ≤ 256) : ∀ c ∈ drawn n, okc c = true := by
  have := drawn_fin (fun n => (drawn n).all okc) (by decide +kernel) h0 h1
  exact List.all_eq_true.mp this
theorem strip_ok {x : List Nat} (h : ∀ c ∈ x, okc c = true) : Txt.strip (S x) = Txt.stripChars (S x) (Str.ofString " ") := by
  unfold Txt.strip Txt.stripChars
  refine strip_congr ?_
  intro c hc
  have hc' : c ∈ x := by simpa [S] using hc
  have e := h c hc'
  unfold okc at e
  rw [Bool.and_eq_true, beq_iff_eq] at e
  rw [e.1]
  have e2 : (Str.ofString " ").cps = #[32] := by decide +kernel
  rw [e2]
  simp
  rfl
theorem stripC_ok {x : List Nat} {y : Str} (h : ∀ c ∈ x, okc c = true) : PyData.strOk (Txt.stripChars (S x) y) = true := by
  unfold Txt.stripChars
  rw [PyProof.Rows.stripBy_eq]
  unfold PyData.strOk
  rw [← Array.all_toList, List.all_eq_true, StrLaws.strSub_toList]
  intro c hc
  have hc' : c ∈ x := by simpa [S] using List.mem_of_mem_drop (List.mem_of_mem_take hc)
  have e := h c hc'
  unfold okc at e
  rw [Bool.and_eq_true] at e
  simpa using e.2
def stOk (st : PS) : Prop := (∀ p ∈ st.res, ∀ c ∈ p, okc c = true) ∧ ∀ c ∈ st.part, okc c = true
theorem app_ok {a b : List Nat} (ha : ∀ c ∈ a, okc c = true) (hb : ∀ c ∈ b, okc c = true) : ∀ c ∈ a ++ b, okc c = true :=
  fun c hc => (List.mem_append.mp hc).elim (ha c) (hb c)
theorem lstep_ok {marks commas sure : List Int} {st : PS} {l : Int} (h0 : 0 ≤ l) (h1 : l ≤ 256) (h : stOk st) : stOk (lstep marks commas sure st l) := by
  have hd := drawn_ok h0 h1
  have hd2 : ∀ c ∈ (drawn l).dropLast, okc c = true := fun c hc => hd c ((List.dropLast_sublist _).subset hc)
  have a1 := app_ok h.2 hd
  have a2 := app_ok h.2 hd2
  unfold lstep
  repeat' split
  all_goals first
    | exact ⟨h.1, a1⟩
    | exact ⟨h.1, a2⟩
    | exact ⟨fun p hp => (List.mem_append.mp hp).elim (h.1 p) fun hq => by rw [List.mem_singleton.mp hq]; exact a2, fun c hc => nomatch hc⟩
theorem lrun_ok (marks commas sure : List Int) : ∀ (row : List Int) (st : PS), (∀ l ∈ row, 0 ≤ l ∧ l ≤ 256) → stOk st → stOk (row.foldl (lstep marks commas sure) st)
  | [], _, _, h => h
  | l :: r, st, hr, h => lrun_ok marks commas sure r _ (fun x hx => hr x (.tail _ hx)) (lstep_ok (hr l (.head _)).1 (hr l (.head _)).2 h)
theorem pendl_ok (marks commas sure row : List Int) (hr : ∀ l ∈ row, 0 ≤ l ∧ l ≤ 256) : ∀ p ∈ pend (lrun marks commas sure row), ∀ c ∈ p, okc c = true := by
  have h := lrun_ok marks commas sure row PS.init hr ⟨fun p hp => (nomatch hp), fun c hc => (nomatch hc)⟩
  intro p hp
  unfold pend at hp
  split at hp
  · exact h.1 p hp
  · rcases List.mem_append.mp hp with hp | hp
    · exact h.1 p hp
    · rw [List.mem_singleton.mp hp]; exact h.2
def esq (st : PS) : Prop := st.esc = true → st.quote = true
theorem lstep_esq {marks commas sure : List Int} {st : PS} {l : Int} : esq (lstep marks commas sure st l) := by
  unfold esq lstep
  repeat' split
  all_goals simp
/-- the list's turn -/
theorem dr_is (k : Nat) (hk : k = 34 ∨ k = 92 ∨ k = 44) {l : Int} (h0 : 0 ≤ l) (h1 : l ≤ 256) : (drawn l = [k]) = (l = (k : Int)) := by
  have h : ∀ k, k = 34 ∨ k = 92 ∨ k = 44 → decide ((drawn l = [k]) ↔ (l = (k : Int))) = true := by
    intro k hk
    rcases hk with rfl | rfl | rfl
    · exact drawn_fin (fun l => decide ((drawn l = [34]) ↔ (l = ((34 : Nat) : Int)))) (by decide +kernel) h0 h1
    · exact drawn_fin (fun l => decide ((drawn l = [92]) ↔ (l = ((92 : Nat) : Int)))) (by decide +kernel) h0 h1
    · exact drawn_fin (fun l => decide ((drawn l = [44]) ↔ (l = ((44 : Nat) : Int)))) (by decide +kernel) h0 h1
  exact propext (of_decide_eq_true (h k hk))
theorem list_turn {st : PS} {l : Int} (h0 : 0 ≤ l) (h1 : l ≤ 256) (hq : esq st) : pstep st (drawn l) = lstep [34] [44] [] st l := by
  obtain ⟨res, part, esc, quote⟩ := st
  have e34 := dr_is 34 (.inl rfl) h0 h1
  have e92 := dr_is 92 (.inr (.inl rfl)) h0 h1
  have e44 := dr_is 44 (.inr (.inr rfl)) h0 h1
  have d92 : l = 92 → (drawn l).dropLast = [] := by intro h; subst h; decide
  have d44 : l = 44 → (drawn l).dropLast = [] := by intro h; subst h; decide
  unfold esq at hq
  unfold pstep lstep isIn
  simp only [e34, e92, e44]
  by_cases c34 : l = 34
  · subst c34; cases esc <;> cases quote <;> simp_all
  · by_cases c92 : l = 92
    · subst c92; cases esc <;> cases quote <;> simp_all
    · by_cases c44 : l = 44
      · subst c44; cases esc <;> cases quote <;> simp_all
      · have b34 : ((34 : Int) == l) = false := by simpa using fun h => c34 h.symm
        have b44 : ((44 : Int) == l) = false := by simpa using fun h => c44 h.symm
        clear d92 d44
        cases esc <;> cases quote <;> simp [b34, b44, c34, c92, c44] at hq ⊢
theorem list_run : ∀ (row : List Int) (st : PS), (∀ l ∈ row, 0 ≤ l ∧ l ≤ 256) → esq st → (row.map drawn).foldl pstep st = row.foldl (lstep [34] [44] []) st
  | [], _, _, _ => rfl
  | l :: r, st, hr, hq => by
    rw [List.map_cons, List.foldl_cons, List.foldl_cons, list_turn (hr l (.head _)).1 (hr l (.head _)).2 hq]
    exact list_run r _ (fun x hx => hr x (.tail _ hx)) lstep_esq
/-- the joined text's turn: a word's signs -/
def pword (st : PS) (w : List Nat) : PS := (w.map fun c => [c]).foldl pstep st
def plainC (c : Nat) : Bool := !(c == 34 || c == 92 || c == 44)
theorem plain_step {res : List (List Nat)} {part : List Nat} {quote : Bool} {c : Nat} (h : plainC c = true) : pstep ⟨res, part, false, quote⟩ [c] = ⟨res, part ++ [c], false, quote⟩ := by
  unfold plainC at h
  simp only [Bool.not_eq_true', Bool.or_eq_false_iff, beq_eq_false_iff_ne] at h
  unfold pstep
  cases quote <;> simp [h.1.1, h.1.2, h.2]
theorem plain_word {res : List (List Nat)} {quote : Bool} : ∀ (w : List Nat) (part : List Nat), (∀ c ∈ w, plainC c = true) → pword ⟨res, part, false, quote⟩ w = ⟨res, part ++ w, false, quote⟩
  | [], part, _ => by simp [pword]
  | c :: r, part, h => by
    have ih := plain_word (res := res) (quote := quote) r (part ++ [c]) fun d hd => h d (.tail _ hd)
    unfold pword at ih ⊢
    rw [List.map_cons, List.foldl_cons, plain_step (h c (.head _)), ih, List.append_assoc]
    rfl
theorem esc_word {res : List (List Nat)} {part : List Nat} {quote : Bool} {c : Nat} {r : List Nat} : pword ⟨res, part, true, quote⟩ (c :: r) = pword ⟨res, part ++ [c], false, quote⟩ r := by
  unfold pword
  rw [List.map_cons, List.foldl_cons]
  rfl
def special (l : Int) : Bool := l == 34 || l == 162 || l == 92 || l == 220 || l == 44 || l == 172 || l == 28 || l == 156
theorem drawn_plain {l : Int} (h0 : 0 ≤ l) (h1 : l ≤ 256) (hs : special l = false) : ∀ c ∈ drawn l, plainC c = true := by
  have := drawn_fin (fun l => special l || (drawn l).all plainC) (by decide +kernel) h0 h1
  rw [hs, Bool.false_or] at this
  exact List.all_eq_true.mp this
theorem join_plain {st : PS} {l : Int} (h0 : 0 ≤ l) (h1 : l ≤ 256) (hs : special l = false) (hq : esq st) : pword st (drawn l) = lstep [34, 162] [44, 172] [28, 156, 220] st l := by
  obtain ⟨res, part, esc, quote⟩ := st
  have hp := drawn_plain h0 h1 hs
  have e1 : pword ⟨res, part, esc, quote⟩ (drawn l) = ⟨res, part ++ drawn l, false, quote⟩ := by
    cases esc with
    | false => exact plain_word _ _ hp
    | true =>
      cases hd : drawn l with
      | nil => exact absurd hd (drawn_ne l)
      | cons c r =>
        rw [hd] at hp
        rw [esc_word, plain_word r _ fun d hd => hp d (.tail _ hd), List.append_assoc]
        rfl
  rw [e1]
  unfold special at hs
  simp only [Bool.or_eq_false_iff, beq_eq_false_iff_ne] at hs
  obtain ⟨⟨⟨⟨⟨⟨⟨a1, a2⟩, a3⟩, a4⟩, a5⟩, a6⟩, a7⟩, a8⟩ := hs
  have m1 : isIn [34, 162] l = false := by simp [isIn, Ne.symm a1, Ne.symm a2]
  have m2 : isIn [44, 172] l = false := by simp [isIn, Ne.symm a5, Ne.symm a6]
  have m3 : isIn [28, 156, 220] l = false := by simp [isIn, Ne.symm a7, Ne.symm a8, Ne.symm a4]
  unfold esq at hq
  unfold lstep
  cases quote <;> cases esc <;> simp [m1, m2, m3, a3] at hq ⊢
theorem join_turn {st : PS} {l : Int} (h0 : 0 ≤ l) (h1 : l ≤ 256) (hq : esq st) : pword st (drawn l) = lstep [34, 162] [44, 172] [28, 156, 220] st l := by
  cases hs : special l with
  | false => exact join_plain h0 h1 hs hq
  | true =>
    obtain ⟨res, part, esc, quote⟩ := st
    unfold special at hs
    simp only [Bool.or_eq_true, beq_iff_eq] at hs
    unfold esq at hq
    rcases hs with ((((((rfl | rfl) | rfl) | rfl) | rfl) | rfl) | rfl) | rfl
    all_goals (cases esc <;> cases quote <;> simp at hq ⊢ <;> simp [pword, pstep, lstep, isIn, drawn])
theorem join_run : ∀ (row : List Int) (st : PS), (∀ l ∈ row, 0 ≤ l ∧ l ≤ 256) → esq st → (((row.map drawn).flatten).map fun c => [c]).foldl pstep st = row.foldl (lstep [34, 162] [44, 172] [28, 156, 220]) st
  | [], _, _, _ => rfl
  | l :: r, st, hr, hq => by
    rw [List.map_cons, List.flatten_cons, List.map_append, List.foldl_append, List.foldl_cons]
    have e := join_turn (hr l (.head _)).1 (hr l (.head _)).2 hq
    unfold pword at e
    rw [e]
    exact join_run r _ (fun x hx => hr x (.tail _ hx)) lstep_esq
theorem init_esq : esq PS.init := fun h => by cases h
theorem strips (marks commas sure row : List Int) (h : ∀ l ∈ row, 0 ≤ l ∧ l ≤ 256) : (pend (lrun marks commas sure row)).map (fun x => Txt.strip (S x)) = (pend (lrun marks commas sure row)).map (fun x => Txt.stripChars (S x) (Str.ofString " ")) :=
  List.map_congr_left fun x hx => strip_ok (pendl_ok marks commas sure row h x hx)
theorem law_join (row : List Int) (h : ∀ l ∈ row, 0 ≤ l ∧ l ≤ 256) : (pend (prun (((row.map drawn).flatten).map fun c => [c]))).map (fun x => Txt.strip (S x)) = (pend (lrun [34, 162] [44, 172] [28, 156, 220] row)).map (fun x => Txt.stripChars (S x) (Str.ofString " ")) := by
  rw [← strips _ _ _ row h]
  unfold prun lrun
  rw [join_run row PS.init h init_esq]
theorem law_list (row : List Int) (h : ∀ l ∈ row, 0 ≤ l ∧ l ≤ 256) : (pend (prun (row.map drawn))).map (fun x => Txt.strip (S x)) = (pend (lrun [34] [44] [] row)).map (fun x => Txt.stripChars (S x) (Str.ofString " ")) := by
  rw [← strips _ _ _ row h]
  unfold prun lrun
  rw [list_run row PS.init h init_esq]
theorem law_ok (marks commas sure row : List Int) (h : ∀ l ∈ row, 0 ≤ l ∧ l ≤ 256) : ∀ x ∈ (pend (lrun marks commas sure row)).map (fun x => Txt.stripChars (S x) (Str.ofString " ")), PyData.strOk x = true := by
  intro x hx
  obtain ⟨p, hp, rfl⟩ := List.mem_map.mp hx
  exact stripC_ok (pendl_ok marks commas sure row h p hp)
end PartP8
end Mine

namespace Mine
section PartC9
def codes0 : List Int := [44, 32, 97, 34, 28, 34, 92, 162, 44, 220, 34, 92, 34, 156, 92, 44, 34, 160, 172, 127, 383, 44]
def codesOf (scr : List Int) : List Int := codes0 ++ scr.flatMap fun x => [code1 (x.fmod 1000000), code2 (x.fmod 1000000)]
structure GC where
  a : Addr
  vs : List Value
  k : Nat
  o : Obj
def gcLed (cA dA : Addr) (ws : List Value) (c : GC) : List (Addr × Obj) := [(cA, c.o), (c.a, listOf c.vs.toArray c.k), (dA, listOf ws.toArray 0)]
def gcP (cA : Addr) (scr : List Int) (i : Nat) (c : GC) : Prop := c.o.data = .cell (some (.ref c.a)) ∧ IntsAre c.vs (codesOf (scr.take i)) ∧ cA < c.a

theorem news3 {h₀ h : Heap} {L : Addr} {a b c : Addr × Obj} (N : News h₀ L h [a, b, c]) : News h₀ L h [c, b, a] := fun p hp => N p (by
  simp only [List.mem_cons, List.not_mem_nil, or_false] at hp ⊢
  rcases hp with h | h | h
  · exact .inr (.inr h)
  · exact .inr (.inl h)
  · exact .inl h)
theorem fm_lo (x : Int) : 0 ≤ x.fmod 1000000 := by rw [Int.fmod_eq_emod_of_nonneg _ (by decide)]; omega
theorem fm_hi (x : Int) : x.fmod 1000000 < 1000000 := by rw [Int.fmod_eq_emod_of_nonneg _ (by decide)]; omega
theorem codes_nil {vs : List Value} {scr : List Int} (h : IntsAre vs codes0) : IntsAre vs (codesOf (scr.take 0)) := by
  unfold codesOf; simpa using h
theorem codes_len (l : List Int) : (codesOf l).length = 22 + 2 * l.length := by
  unfold codesOf
  rw [List.length_append, List.length_flatMap]
  induction l with
  | nil => rfl
  | cons x r ih => simp only [List.map_cons, List.sum_cons, List.length_cons, List.length_nil] at ih ⊢; omega
theorem codes_snoc {l : List Int} {i : Nat} {x : Int} (h : l[i]? = some x) : codesOf (l.take (i + 1)) = codesOf (l.take i) ++ [code1 (x.fmod 1000000), code2 (x.fmod 1000000)] := by
  unfold codesOf
  rw [List.take_add_one, h, List.flatMap_append, List.append_assoc]
  rfl
theorem codes_odd (l : List Int) : ∀ i c, i % 2 = 1 → (codesOf l)[i]? = some c → 0 ≤ c ∧ c ≤ 1279 := by
  have h0 : ∀ i : Fin 22, i.val % 2 = 1 → 0 ≤ codes0.getD i.val 0 ∧ codes0.getD i.val 0 ≤ 1279 := by decide
  have h1 : ∀ (l : List Int) (i : Nat) (c : Int), i % 2 = 1 → (l.flatMap fun x => [code1 (x.fmod 1000000), code2 (x.fmod 1000000)])[i]? = some c → 0 ≤ c ∧ c ≤ 1279 := by
    intro l
    induction l with
    | nil => intro i c _ h; simp at h
    | cons x r ih =>
      intro i c hi h
      rw [List.flatMap_cons] at h
      by_cases h2 : i < 2
      · have e : i = 1 := by omega
        subst e
        have : c = code2 (x.fmod 1000000) := by simpa using h.symm
        rw [this]; exact code2_range _
      · rw [List.getElem?_append_right (by simp; omega)] at h
        exact ih (i - 2) c (by omega) (by simpa using h)
  intro i c hi h
  unfold codesOf at h
  by_cases h2 : i < 22
  · rw [List.getElem?_append_left (by show i < 22; exact h2)] at h
    have := h0 ⟨i, h2⟩ hi
    rw [List.getD_eq_getElem?_getD] at this
    simp only [h] at this
    exact this
  · rw [List.getElem?_append_right (by show 22 ≤ i; omega)] at h
    exact h1 l _ c (by show (i - 22) % 2 = 1; omega) h
theorem kN_head2 {h₀ h : Heap} {L : Addr} {a b c : Addr × Obj} (N : News h₀ L h [a, b, c]) : News h₀ L h [a, b] := fun p hp => N p (by
  simp only [List.mem_cons, List.not_mem_nil, or_false] at hp ⊢
  rcases hp with h | h
  · exact .inl h
  · exact .inr (.inl h))
theorem ints_of {g : Nat → Int} : ∀ {ys : List Value}, (∀ i y, ys[i]? = some y → ∃ t, y = Value.int (g i) t) → IntsAre ys ((List.range ys.length).map g)
  | [], _ => .nil
  | y :: r, h => by
    obtain ⟨t, rfl⟩ := h 0 y rfl
    have := ints_of (g := fun i => g (i + 1)) (ys := r) fun i y hy => h (i + 1) y hy
    rw [List.length_cons, List.range_succ_eq_map, List.map_cons, List.map_map]
    exact .cons _ t this
theorem label_range (c : Int) : 0 ≤ label c ∧ label c ≤ 256 := by
  unfold label
  split <;> omega
theorem total_drawn (row : List Int) : total (row.map drawn) ≤ 3 * row.length := by
  induction row with
  | nil => simp [total]
  | cons x r ih =>
    have := drawn_len x
    simp only [total, List.map_cons, List.sum_cons, List.length_cons] at ih ⊢
    omega
theorem total_flatten (W : List (List Nat)) : W.flatten.length = total W := by
  rw [List.length_flatten]; rfl
theorem join_led {w : World} {A : Around} {E : Value → Shared → Prop} {s : Shared} {h₀ : Heap} {L : Addr} {news : List (Addr × Obj)} {lA : Addr} {vs : List Value} {W : List (List Nat)} {k : Nat} {t : Tok} {Q : Value → Shared → Prop} (N : News h₀ L s.heap news) (hm : (lA, listOf vs.toArray k) ∈ news) (hi : StrsAre vs (W.map S)) (hz : total W ≤ 1000)
    (h : ∀ t' k, Q (.str (S W.flatten) t') { s with toks := k }) : wpAny (model PySem.Challenge.rw_mq0094_01.row.prog w) A (call (.builtin "str.join") [.str (Str.ofString "") t, .ref lA]) Q E s :=
  join_list (items := vs.toArray) ⟨_, (N _ hm).1, rfl, k, rfl⟩ hi (by
    have e : (Str.ofString "").length = 0 := by decide +kernel
    have e2 : ((W.map S).map (·.length)).sum = total W := by
      unfold total
      rw [List.map_map]
      exact congrArg List.sum (List.map_congr_left fun x _ => S_length x)
    rw [e, e2]; omega) (fun t' k => by rw [join_S]; exact h t' k)
theorem sure_bs : ∀ l, isIn [28, 156, 220] l = true → isBs l = true := by
  intro l h
  simp only [isIn, List.any_cons, List.any_nil, Bool.or_false, Bool.or_eq_true, beq_iff_eq] at h
  rcases h with h | h | h <;> subst h <;> rfl
theorem nil_bs : ∀ l, isIn [] l = true → isBs l = true := by
  intro l h; simp [isIn] at h
local macro_rules | `(tactic| walk_at "compareOp NotEq ref ref") => `(tactic| (refine Halt.out ?_))
local macro_rules | `(tactic| walk_at "compareOp Eq ref ref") => `(tactic| (refine Halt.out ?_))
local macro_rules | `(tactic| walk_at "call builtin:str.join") => `(tactic| (k_here; k_dflt (refine' join_led ?k1 ?k2 ?k3 ?k4 ?_; (case k1 => k_asm); (case k2 => first | k_mem | kst_mem); (case k3 => assumption); (case k4 => omega)); intro tl tkl))
local macro_rules | `(tactic| walk_at "call builtin:len") => `(tactic| (k_here; k_dflt (refine' len_led ?k1 ?k2 (IntsAre.length ?k3) ?k4 ?_; (case k1 => k_asm); (case k2 => first | k_mem | kst_mem); (case k3 => assumption); (case k4 => omega)); intro tl tkl))
local macro_rules | `(tactic| walk_at "subscriptTail Name Name ref int") => `(tactic| (k_here; k_dflt (refine' led_itemN ?k1 ?k2 ?k3 ?k4 ?k6 ?_ ?k7; (case k1 => k_asm); (case k2 => first | k_mem | kst_mem); (case k3 => assumption); (case k4 => assumption); (case k6 => omega); (case k7 => with_unfolding_all rfl)); intro t9))
local macro_rules | `(tactic| walk_at "CompSrc") => `(tactic| (refine Halt.out ?_))
local macro_rules | `(tactic| walk_at "CompEnd") => `(tactic| (refine Halt.out ?_))
local macro_rules | `(tactic| walk_at "exec Assign cons ListComp") => `(tactic| (refine Halt.out ?_))
local macro_rules | `(tactic| walk_at "exec For Name Subscript cons nil") => `(tactic| (refine Halt.out ?_))
local macro_rules | `(tactic| walk_at "pyIter ref") => `(tactic| (refine Halt.out ?_))
local macro_rules | `(tactic| walk_at "InvEndG") => `(tactic| (refine Halt.out ?_))
local macro_rules | `(tactic| walk_at "call ref") => `(tactic| (refine Halt.out ?_))
local macro_rules | `(tactic| walk_at "binaryOp Add ref ref") => `(tactic| (k_here; k_dflt (refine' cat_led ?k1 ?k2 ?k3 ?k4 ?k5 ?_; (case k1 => k_asm); (case k2 => k_asm); (case k3 => first | k_mem | kst_mem); (case k4 => first | k_mem | kst_mem); (case k5 => (simp only [List.length_cons, List.length_nil]; omega))); intro D' h' F' N' l1))
theorem law_holds : PySem.Challenge.rw_mq0094_01.Holds := hd (by
  w_strict (k_go0; (all_goals try k_fold); k_steps)
  refine Halt.mk ?_
  rename Fr _ _ _ _ => lF
  rename News _ _ _ _ => lN
  k_dflt (refine' For_invVF lF ?k1 ?k2 ?_; (case k1 => exact rfl); (case k2 => exact rfl))
  w_strict (
    (try k_fold)
    k_steps)
  refine Halt.mk ?_
  (try k_unmd)
  k_unfold
  dsimp only
  rename Fr _ _ _ _ => lF2
  rename News _ _ _ _ => lN2
  rename IntsAre _ (List.take 6 _) => hI6
  rename List Int => scr
  rename Shared => s1
  rename_i cA _ ltc _ oc dc dA ws _ hC6 hL6 ltd
  rename Below _ _ _ _ => K0
  replace K0 : Below callerA s1.heap [] s1.heap := K0
  k_dflt (refine' kst_vals (σ := GC) (gcLed (s1.heap.objs.size + 1) dA ws) (fun _ => []) [] (gcP (s1.heap.objs.size + 1) (scr.take 6)) ⟨cA, _, _, oc⟩ rfl (fun c => List.Mem.tail _ (List.Mem.tail _ (List.Mem.head _))) lF2 (news3 lN2) (List.forall_mem_nil _) ?k1 ?_ ?_)
  case k1 => exact ⟨dc, codes_nil (.cons _ _ (.cons _ _ (.cons _ _ (.cons _ _ (.cons _ _ (.cons _ _ (.cons _ _ (.cons _ _ (.cons _ _ (.cons _ _ (.cons _ _ (.cons _ _ (.cons _ _ (.cons _ _ (.cons _ _ (.cons _ _ (.cons _ _ (.cons _ _ (.cons _ _ (.cons _ _ (.cons _ _ (.cons _ _ .nil)))))))))))))))))))))), ltc⟩
  · rintro ⟨ca, cvs, ck, co⟩ i v u h tk own hv hoff ⟨g1, g2, g3⟩ F1 N1
    clear lF2 lN2
    obtain ⟨x, tx, rfl, hx⟩ := IntsAre.at hI6 i v hv
    dsimp only [gcLed] at g1 g2 g3 F1 N1 hoff
    have hlen := g2.length
    w_strict (
      (try k_fold)
      k_steps)
    refine Halt.mk ?_
    k_dflt (refine' c_codes ?d1 ?d2 ⟨?k1, ?k2, ?k3, ?k4, ?k5, ?k6⟩ ?k7 ?_)
    case k1 => k_asm
    case k2 => k_asm
    case k3 => k_asm
    case k4 => k_asm
    case k5 => k_asm
    case k6 => first | exact rfl | assumption
    case k7 => (try simp only [depth_under_make, depth_under_kw, depth_in1, depth_deeper, depth_caller]); decide
    case d1 => exact fm_lo _
    case d2 => exact fm_hi _
    intro l' c1 c2 t1 t2 k' h' tk' e1 e2 F' N' lt'
    change c1 = code1 (x.fmod 1000000) at e1
    change c2 = code2 (x.fmod 1000000) at e2
    have hlen2 : cvs.length ≤ 1000 := by rw [hlen, codes_len, List.length_take, List.length_take]; omega
    have lt1 := lt' _ (List.Mem.head _)
    dsimp only at lt1
    clear F1 N1
    w_strict (
      (try k_fold)
      k_steps)
    rename Fr _ _ _ _ => lF3
    rename News _ _ _ _ => lN3
    rename_i D' _ lD
    have hcD := lD _ (List.Mem.tail _ (List.Mem.head _))
    dsimp only at hcD
    have hoc : ∀ q ∈ own, q.1 ≠ s1.heap.objs.size + 1 := fun q hq => hoff q hq _ (List.Mem.head _)
    have hoff3 : ∀ q ∈ (ca, listOf cvs.toArray ck) :: (dA, listOf ws.toArray 0) :: own, q.1 ≠ s1.heap.objs.size + 1 := by
      intro q hq
      rcases List.mem_cons.mp hq with rfl | hq
      · exact Nat.ne_of_gt g3
      · rcases List.mem_cons.mp hq with rfl | hq
        · exact Nat.ne_of_gt ltd.2
        · exact hoc q hq
    k_dflt (refine' storeX_C lF3 lN3 ?q1 (UpdF.tail (Nat.ne_of_gt hcD) (UpdF.tail (Nat.ne_of_gt lt1) (UpdF.head hoff3))) g1 ?_ ?q2 ?q3)
    case q1 => rfl
    case q2 => rfl
    case q3 => rfl
    intro h5 o5 F5 N5 d5
    clear lF3 lN3 F' N'
    w_strict (
      (try dsimp only)
      (try k_fold)
      k_steps)
    refine Halt.mk ?_
    refine kst_endV (σ := GC) ⟨D', cvs ++ [Value.int c1 t1, Value.int c2 t2], 0, o5⟩ F5 N5 ?_ ?_ ?_ (List.Mem.tail _ (List.Mem.tail _ (List.Mem.head _))) (List.forall_mem_nil _) (fun z hz _ _ => by simp only [kstB, if_neg hz]; rfl) ⟨d5, ?_, hcD⟩
    · intro q hq
      rcases List.mem_cons.mp hq with rfl | hq
      · exact .tail _ (.tail _ (.head _))
      · rcases List.mem_cons.mp hq with rfl | hq
        · exact .head _
        · rw [List.mem_singleton.mp hq]
          exact .tail _ (.tail _ (.tail _ (.tail _ (.head _))))
    · intro q hq
      exact .tail _ (.tail _ (.tail _ (.tail _ (.tail _ hq))))
    · intro q hq b hb
      rcases List.mem_cons.mp hb with rfl | hb
      · exact hoc q hq
      · rcases List.mem_cons.mp hb with rfl | hb
        · exact Nat.ne_of_lt (lD q (.tail _ (.tail _ (.tail _ (.tail _ hq)))))
        · rw [List.mem_singleton.mp hb]
          exact hoff q hq _ (.tail _ (.tail _ (.head _)))
    · rw [codes_snoc hx, ← e1, ← e2]
      exact g2.append (.cons _ _ (.cons _ _ .nil))
  · rintro ⟨ca, cvs, ck, co⟩ u h tk ⟨g1, g2, g3⟩ F1 N1
    clear lF2 lN2
    dsimp only [gcLed] at g1 g2 g3 F1 N1
    rw [IntsAre.length hI6, List.take_length] at g2
    obtain ⟨cd, hcd⟩ : ∃ cd, cd = codesOf (scr.take 6) := ⟨_, rfl⟩
    have hcl : cd.length ≤ 34 := by rw [hcd, codes_len, List.length_take]; omega
    have hodd := codes_odd (scr.take 6)
    rw [← hcd] at g2 hodd
    have hvl := g2.length
    have N2 := kN_head2 N1
    clear N1
    w_strict (
      (try dsimp only)
      (try k_fold)
      k_steps)
    refine Halt.mk ?_
    rename Fr _ _ _ _ => lF3
    rename News _ _ _ _ => lN3
    k_dflt (refine' LCg.Assign_ListComp_U lF3 rfl ?c0 ?c1 ?c2 ?c3 ?c4 ?c5 ?c6 ?c7 ?_)
    case c0 => with_unfolding_all rfl
    case c1 => with_unfolding_all rfl
    case c2 => decide
    case c3 => rfl
    case c4 => decide
    case c5 => rfl
    case c6 => rfl
    case c7 => rfl
    w_strict k_steps
    refine Halt.mk ?_
    refine LCg.CompSrc.ledger rfl lF3 lN3 (List.Mem.tail _ (List.Mem.head _)) (by rw [List.size_toArray, sizeLine_eq]; omega) fun g => ?_
    refine comp_gen (fun i y => ∃ t, y = Value.int (label (cd.getD i 0)) t) (.inr ⟨_, List.Mem.tail _ (List.Mem.head _), rfl, _, rfl⟩) ?_ ?_
    · intro i v ys I oI C oC D m₂ h tk E' hi hv hC hx F3 N3 off3 ne3
      obtain ⟨y, ty, rfl, hy⟩ := IntsAre.at g2 i v (by simpa using hv)
      w_strict (
        (try k_fold)
        k_steps)
      refine Halt.mk ?_
      k_dflt (refine' c_label ⟨?k1, ?k2, ?k3, ?k4, ?k5, ?k6⟩ ?k7 ?_)
      case k1 => k_asm
      case k2 => k_asm
      case k3 => k_asm
      case k4 => k_asm
      case k5 => k_asm
      case k6 => exact rfl
      case k7 => decide
      intro r t' h' tk' hr F' N'
      w_strict (
        (try dsimp only)
        k_steps)
      refine Halt.mk ?_
      refine LCg.CompEnd.intro F' N' _ (fun p hp => hp) off3 (.inr ⟨_, List.Mem.tail _ (List.Mem.head _), rfl, _, rfl⟩) ⟨rfl, by rw [List.getD_eq_getElem?_getD, hy, hr]; exact ⟨_, rfl⟩⟩
    · intro ys hl hy D h tk F3 N3 off3
      have hR := ints_of hy
      rw [hl, List.size_toArray, hvl, range_getD 0 label] at hR
      clear hy
      w_strict (
        (try dsimp only)
        k_steps)
      refine Halt.mk ?_
      clear lF3 lN3
      rename Fr _ _ _ _ => lF4
      rename News _ _ _ _ => lN4
      k_dflt (refine' LCg.Assign_ListComp_U lF4 rfl ?c0 ?c1 ?c2 ?c3 ?c4 ?c5 ?c6 ?c7 ?_)
      case c0 => with_unfolding_all rfl
      case c1 => with_unfolding_all rfl
      case c2 => decide
      case c3 => rfl
      case c4 => decide
      case c5 => rfl
      case c6 => rfl
      case c7 => rfl
      w_strict k_steps
      refine Halt.mk ?_
      rename IsRange _ _ _ _ _ _ _ _ => hR4
      rename Fr _ _ _ _ => lF5
      rename News _ _ _ _ => lN5
      refine LCg.CompSrc.range rfl lF5 lN5 hR4 (small_one (by omega) (by omega) (by omega) (by omega)) (n := cd.length) (by rw [rangeSize_one]; split <;> omega) (by rw [sizeLine_eq]; omega) fun g => ?_
      refine comp_gen (fun i y => ∃ t, y = Value.str (S (drawn (label (cd.getD i 0)))) t) True.intro ?_ ?_
      · intro i v ws I oI C oC D' m₂ h tk E' hi hv hC hx F6 N6 off6 ne6
        obtain ⟨tv, rfl⟩ := hv
        rw [Int.zero_add] at hx
        obtain ⟨c, hc⟩ : ∃ c, cd[i]? = some c := ⟨_, List.getElem?_eq_getElem hi⟩
        have hpar : (i : Int).fmod 2 = ((i % 2 : Nat) : Int) := by rw [fmod2]; omega
        by_cases hp : i % 2 = 1
        · obtain ⟨hc0, hc1⟩ := hodd i c hp hc
          w_strict (
            (try k_fold)
            k_steps)
          · refine Halt.mk ?_
            k_dflt (refine' c_unctrl_str ⟨?k1, ?k2, ?k3, ?k4, ?k5, ?k6⟩ ?k7 ?_)
            case k1 => k_asm
            case k2 => k_asm
            case k3 => k_asm
            case k4 => k_asm
            case k5 => k_asm
            case k6 => exact rfl
            case k7 => decide
            intro r t' h' tk' hr F' N'
            w_strict (
              (try dsimp only)
              k_steps)
            refine Halt.mk ?_
            refine LCg.CompEnd.intro F' N' _ (fun p hp => hp) off6 True.intro ⟨rfl, by rw [List.getD_eq_getElem?_getD, hc, hr, Int.toNat_of_nonneg hc0]; exact ⟨_, rfl⟩⟩
          · refine Halt.mk ?_
            k_dflt (refine' c_unctrl ⟨?k1, ?k2, ?k3, ?k4, ?k5, ?k6⟩ ?k7 ?_)
            case k1 => k_asm
            case k2 => k_asm
            case k3 => k_asm
            case k4 => k_asm
            case k5 => k_asm
            case k6 => exact rfl
            case k7 => decide
            intro r t' h' tk' hr F' N'
            w_strict (
              (try dsimp only)
              k_steps)
            refine Halt.mk ?_
            refine LCg.CompEnd.intro F' N' _ (fun p hp => hp) off6 True.intro ⟨rfl, by rw [List.getD_eq_getElem?_getD, hc, hr]; exact ⟨_, rfl⟩⟩
        · w_strict (
            (try k_fold)
            k_steps)
          · exfalso
            rename (i : Int).fmod 2 ≠ 0 => hne
            rw [hpar] at hne
            omega
          · refine Halt.mk ?_
            k_dflt (refine' c_unctrl ⟨?k1, ?k2, ?k3, ?k4, ?k5, ?k6⟩ ?k7 ?_)
            case k1 => k_asm
            case k2 => k_asm
            case k3 => k_asm
            case k4 => k_asm
            case k5 => k_asm
            case k6 => exact rfl
            case k7 => decide
            intro r t' h' tk' hr F' N'
            w_strict (
              (try dsimp only)
              k_steps)
            refine Halt.mk ?_
            refine LCg.CompEnd.intro F' N' _ (fun p hp => hp) off6 True.intro ⟨rfl, by rw [List.getD_eq_getElem?_getD, hc, hr]; exact ⟨_, rfl⟩⟩
      · intro ws hl hy D' h tk F6 N6 off6
        have hW0 := strs_of hy
        rw [hl, range_getD 0 (fun c => S (drawn (label c)))] at hW0
        obtain ⟨row, hrow⟩ : ∃ row, row = cd.map label := ⟨_, rfl⟩
        obtain ⟨W, hW⟩ : ∃ W, W = row.map drawn := ⟨_, rfl⟩
        have hWS : StrsAre ws (W.map S) := by
          rw [hW, hrow, List.map_map, List.map_map]; exact hW0
        rw [← hrow] at hR
        have hrl : row.length ≤ 34 := by rw [hrow, List.length_map]; exact hcl
        have hrr : ∀ l ∈ row, 0 ≤ l ∧ l ≤ 256 := by
          intro l hl
          rw [hrow] at hl
          obtain ⟨c, _, rfl⟩ := List.mem_map.mp hl
          exact label_range c
        have hWt : total W ≤ 102 := by
          rw [hW]
          have := total_drawn row
          omega
        have hWl : W.length ≤ 34 := by rw [hW, List.length_map]; exact hrl
        have hWf : W.flatten.length ≤ 1000 := by rw [total_flatten]; omega
        clear hy hW0 hrow
        w_strict (
          (try dsimp only)
          k_steps)
        refine Halt.mk ?_
        k_dflt (refine' c_parse_str (xt := W.flatten) ⟨?k1, ?k2, ?k3, ?k4, ?k5, ?k6⟩ hWf ?k7 ?_)
        case k1 => k_asm
        case k2 => k_asm
        case k3 => k_asm
        case k4 => k_asm
        case k5 => k_asm
        case k6 => exact rfl
        case k7 => decide
        intro pA1 pv1 pk1 h7 tk7 hp1 F7 N7 ne7
        clear F6 N6
        w_strict (
          (try dsimp only)
          (try k_fold)
          k_steps)
        refine Halt.mk ?_
        rename Fr _ _ _ _ => lF8
        rename News _ _ _ _ => lN8
        k_dflt (refine' c_read (row := row) (marks := [34, 162]) (commas := [44, 172]) (sure := [28, 156, 220]) ⟨?k1, ?k2, ?k3, lN8, ?k5, ?k6⟩ (List.Mem.tail _ (List.Mem.tail _ (List.Mem.tail _ (List.Mem.tail _ (List.Mem.tail _ (List.Mem.head _)))))) hR (List.Mem.tail _ (List.Mem.tail _ (List.Mem.head _))) (.cons _ _ (.cons _ _ .nil)) (List.Mem.tail _ (List.Mem.head _)) (.cons _ _ (.cons _ _ .nil)) (List.Mem.head _) (.cons _ _ (.cons _ _ (.cons _ _ .nil))) hrr (by decide) sure_bs (by omega) ?k7 ?_)
        case k1 => k_asm
        case k2 => exact lF8
        case k3 => k_asm
        case k5 => k_asm
        case k6 => exact rfl
        case k7 => decide
        intro qA1 qv1 qk1 h8 tk8 hq1 F8 N8 ne8
        rw [hW, law_join row hrr] at hp1
        clear lF8
        have N9 := news_sub N8 (l' := [(qA1, listOf qv1.toArray qk1), (pA1, listOf pv1.toArray pk1), (D', LCg.lst ws), (D, LCg.lst ys)]) (by
          intro q hq
          simp only [List.mem_cons, List.not_mem_nil, or_false] at hq ⊢
          rcases hq with h | h | h | h <;> simp [h])
        clear N8 lN8
        w_strict (
          (try dsimp only)
          (try k_fold)
          k_steps)
        refine Halt.mk ?_
        (try k_unmd)
        k_unfold
        (try dsimp only)
        have ok1 := law_ok [34, 162] [44, 172] [28, 156, 220] row hrr
        k_dflt (refine' es_ne ⟨_, (N9 _ (List.Mem.tail _ (List.Mem.head _))).1, rfl, _, rfl⟩ ⟨_, (N9 _ (List.Mem.head _)).1, rfl, _, rfl⟩ hp1 hq1 ok1 ok1 ?k1 ?_)
        case k1 => ke_room
        rw [decide_eq_true rfl, Bool.not_true]
        w_strict (
          (try dsimp only)
          (try k_fold)
          k_steps)
        refine Halt.mk ?_
        k_dflt (refine' c_parse_list (W := W) (vw := ws) (kw := ws.length) (List.Mem.tail _ (List.Mem.tail _ (List.Mem.head _))) hWS (by omega) (by omega) ⟨?k1, ?k2, ?k3, N9, ?k5, ?k6⟩ ?k7 ?_)
        case k1 => k_asm
        case k2 => k_asm
        case k3 => k_asm
        case k5 => k_asm
        case k6 => exact rfl
        case k7 => decide
        intro pA2 pv2 pk2 h9 tk9 hp2 F9 N10 ne9
        clear N9
        w_strict (
          (try dsimp only)
          (try k_fold)
          k_steps)
        refine Halt.mk ?_
        rename Fr _ _ _ _ => lF8
        rename News _ _ _ _ => lN8
        k_dflt (refine' c_read (row := row) (marks := [34]) (commas := [44]) (sure := []) ⟨?k1, ?k2, ?k3, lN8, ?k5, ?k6⟩ (List.Mem.tail _ (List.Mem.tail _ (List.Mem.tail _ (List.Mem.tail _ (List.Mem.tail _ (List.Mem.tail _ (List.Mem.tail _ (List.Mem.head _)))))))) hR (List.Mem.tail _ (List.Mem.tail _ (List.Mem.head _))) (.cons _ _ .nil) (List.Mem.tail _ (List.Mem.head _)) (.cons _ _ .nil) (List.Mem.head _) .nil hrr (by decide) nil_bs (by omega) ?k7 ?_)
        case k1 => k_asm
        case k2 => exact lF8
        case k3 => k_asm
        case k5 => k_asm
        case k6 => exact rfl
        case k7 => decide
        intro qA2 qv2 qk2 h10 tk10 hq2 F10 N11 ne10
        rw [hW, law_list row hrr] at hp2
        clear lF8
        have ok2 := law_ok [34] [44] [] row hrr
        w_strict (
          (try dsimp only)
          (try k_fold)
          k_steps)
        refine Halt.mk ?_
        (try k_unmd)
        k_unfold
        (try dsimp only)
        k_dflt (refine' es_eq ⟨_, (N11 _ (List.Mem.tail _ (List.Mem.tail _ (List.Mem.tail _ (List.Mem.tail _ (List.Mem.head _)))))).1, rfl, _, rfl⟩ ⟨_, (N11 _ (List.Mem.head _)).1, rfl, _, rfl⟩ hp2 hq2 ok2 ok2 ?k1 ?_)
        case k1 => ke_room
        rw [decide_eq_true rfl]
        w_strict (
          (try dsimp only)
          k_steps))
end PartC9
end Mine


theorem PySem.Challenge.cw_mq0094_01_holds : PySem.Challenge.rw_mq0094_01.Holds :=
  Mine.law_holds
