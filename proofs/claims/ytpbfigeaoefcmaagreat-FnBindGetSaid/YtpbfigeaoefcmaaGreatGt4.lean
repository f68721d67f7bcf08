/- Plain laws on the told functions of this seat, without memory. Conditions: as each theorem states them. -/
import Derived.Test.YtpbfigeaoefcmaaGreatProg
import Derived.Test.YtpbfigeaoefcmaaGreatHW
import Derived.Below
import Derived.Deep.Draws
import Derived.OwnWalk
import Derived.Tactics
import Derived.WalkKit
import Derived.KernelRfl
import Derived.RowKit3
import Derived.Deep.LoopGhost
import Derived.Deep.QuietTactic
import Derived.BigQuiet
import Derived.WideLaws
import Derived.Deep.DeepCutAuto
import Derived.Deep.CutBlock
import Derived.Laws.Rows
import Derived.Outline
import Derived.StillTailTactics
import Derived.Deep.RegionHeld3
import Derived.Test.YtpbfigeaoefcmaaGreatGt3
import Derived.Test.YtpbfigeaoefcmaaGreatPBgx13
namespace Go.Proofs.YtpbfigeaoefcmaaGreat.PBg.VT
open Go.RowKit Go.Proofs.YtpbfigeaoefcmaaGreatW.PrintWords Go.Proofs.YtpbfigeaoefcmaaGreatW.PrintLast Go.Proofs.YtpbfigeaoefcmaaGreatW.PrintMore
set_option linter.unusedVariables false
set_option linter.unusedSimpArgs false
theorem right_flat (d : Nat) (v : S26) (h : docR d v.f0 v.f1 v.f2 v.f3 v.f4 v.f5 v.f6 v.f7 = some true) : bareFull v.f0 v.f1 v.f2 v.f3 v.f4 v.f5 v.f6 v.f7 = true := by
  cases d with
  | zero => cases h
  | succ d =>
    unfold docR at h
    obtain ⟨kn, hkn⟩ := known_ex v.f0
    rw [hkn] at h
    simp only [Option.bind_some] at h
    cases kn with
    | false => simp at h
    | true =>
      rw [if_neg (by decide)] at h
      split at h
      next => cases h
      next hb => simpa using hb
theorem same_flat (k : Int) (t m : ByteArray) (n b h : Int) (B : List Int) : Ev (fun q => spec_DocSame.f q k t m n b h B [] k t m n b h B []) true := ⟨0, fun q _ => by
  show spec_DocSame.f q k t m n b h B [] k t m n b h B [] = some true
  unfold spec_DocSame.f
  exact if_pos ⟨rfl, rfl, rfl, rfl, rfl, rfl, rfl, rfl, rfl⟩⟩
theorem right_nums (d : Nat) (v : S26) (h : docR d v.f0 v.f1 v.f2 v.f3 v.f4 v.f5 v.f6 v.f7 = some true) : (v.f0 = 5 → 0 ≤ v.f3 ∧ v.f3 ≤ 255) ∧ (v.f0 = 8 → v.f3 = 0 ∨ v.f3 = 1) ∧ (v.f0 = 16 → -2147483648 ≤ v.f3 ∧ v.f3 < 2147483648) := by
  cases d with
  | zero => cases h
  | succ d =>
    unfold docR at h
    obtain ⟨kn, hkn⟩ := known_ex v.f0
    rw [hkn] at h
    simp only [Option.bind_some] at h
    cases kn with
    | false => simp at h
    | true =>
      rw [if_neg (by decide)] at h
      split at h
      next => cases h
      next =>
        refine ⟨fun hk => ?_, fun hk => ?_, fun hk => ?_⟩
        · rw [hk] at h; simpa using h
        · rw [hk] at h; simpa using h
        · rw [hk] at h; simpa using h
theorem str_nil {t : ByteArray} (h : t.toList.isEmpty = true) : t = ⟨#[]⟩ := by
  rw [ByteArray.toList_eq] at h
  obtain ⟨⟨d⟩⟩ := t
  have : d = [] := List.isEmpty_iff.1 h
  subst this
  rfl
/-- What docFlat makes of the bytes: documents, arrays and scopes as bytes. -/
def flatB (v : S26) (body : List Int) : List Int := if v.f0 = 3 ∨ v.f0 = 4 ∨ v.f0 = 15 then le4 ((body.length + 5 : Nat) : Int) ++ (body ++ [0]) else v.f6
theorem wf_u64 {n : Int} (h : (Lit.int .u64 n).wf = true) : 0 ≤ n ∧ n ≤ 18446744073709551615 := by
  simp only [Lit.wf, Bool.and_eq_true, decide_eq_true_eq] at h
  exact ⟨by simpa [IntKind.min, IntKind.signed] using h.1, by simpa [IntKind.max, IntKind.signed, IntKind.bits] using h.2⟩
theorem wf_i64 {n : Int} (h : (Lit.int .i64 n).wf = true) : -9223372036854775808 ≤ n ∧ n < 9223372036854775808 := by
  simp only [Lit.wf, Bool.and_eq_true, decide_eq_true_eq] at h
  have a : -9223372036854775808 ≤ n := by simpa [IntKind.min, IntKind.signed, IntKind.bits] using h.1
  have b : n ≤ 9223372036854775807 := by simpa [IntKind.max, IntKind.signed, IntKind.bits] using h.2
  exact ⟨a, by omega⟩
theorem le8_wrap_ (n : Int) : le8 (IntKind.u64.wrap n) = le8 n := by
  rw [u64_wrap]
  simp only [le8, List.cons.injEq, and_true]
  repeat' apply And.intro
  all_goals (first | trivial | omega)
/-- A right value's bytes are read as the value, flat. -/
theorem read_back (v : S26) (body l r : List Int) (hc : Cont v body l) (hv : FitV v) (d : Nat) (h : docR d v.f0 v.f1 v.f2 v.f3 v.f4 v.f5 v.f6 v.f7 = some true) (hs1 : v.f1.size ≤ 65536) (hs2 : v.f2.size ≤ 65536) (hs6 : v.f6.length ≤ 65536) (hb : body.length ≤ 90000) (hr : r.length ≤ 1000) (hz : ¬ (v.f0 = 6 ∨ v.f0 = 10 ∨ v.f0 = 127 ∨ v.f0 = 255)) :
    RO v.f0 (l ++ r) v.f1 v.f2 v.f3 v.f4 v.f5 (flatB v body) r := by
  have hm := right_more d v h
  have hn := right_nums d v h
  have hf := right_flat d v h
  have h3 : (Lit.int .i64 v.f3).wf = true := by cases hv; assumption
  have h4 : (Lit.int .u64 v.f4).wf = true := by cases hv; assumption
  have h5 : (Lit.int .u64 v.f5).wf = true := by cases hv; assumption
  obtain ⟨n0, n1⟩ := wf_i64 h3
  obtain ⟨b0, b1⟩ := wf_u64 h4
  obtain ⟨g0, g1⟩ := wf_u64 h5
  clear h hv h3 h4 h5
  obtain ⟨k, t, m, n, b, g, B, K⟩ := v
  unfold flatB
  simp only at *
  have fB : (bareBy k = false → B = []) ∧ (bareText k = false → t = ⟨#[]⟩) ∧ (bareMore k = false → m = ⟨#[]⟩) ∧ (bareN k = false → n = 0) ∧ (bareBits k = false → b = 0) ∧ (bareHigh k = false → g = 0) := by
    unfold bareFull at hf
    simp only [Bool.and_eq_true, Bool.or_eq_true] at hf
    obtain ⟨x1, x2, x3, x4, x5, x6, _⟩ := hf
    refine ⟨fun e => ?_, fun e => ?_, fun e => ?_, fun e => ?_, fun e => ?_, fun e => ?_⟩
    · rcases x6 with x | x
      · rw [e] at x; cases x
      · exact List.length_eq_zero_iff.1 (by simpa using x)
    · rcases x1 with x | x
      · rw [e] at x; cases x
      · exact str_nil x
    · rcases x2 with x | x
      · rw [e] at x; cases x
      · exact str_nil x
    · rcases x3 with x | x
      · rw [e] at x; cases x
      · simpa using x
    · rcases x4 with x | x
      · rw [e] at x; cases x
      · simpa using x
    · rcases x5 with x | x
      · rw [e] at x; cases x
      · simpa using x
  obtain ⟨f6, f1, f2, f3, f4, f5⟩ := fB
  cases hc with
  | bits hk hl =>
    rcases hk with hk | hk <;> (simp only at hk hl; subst hk; subst hl; obtain rfl := f6 (by decide); obtain rfl := f1 (by decide); obtain rfl := f2 (by decide); obtain rfl := f3 (by decide); obtain rfl := f5 (by decide); rw [if_neg (by decide)])
    · exact rb_double b b0 b1 r (by omega)
    · exact rb_ts b b0 b1 r (by omega)
  | text hk hl =>
    rcases hk with hk | hk | hk <;> (simp only at hk hl; subst hk; subst hl; obtain rfl := f6 (by decide); obtain rfl := f2 (by decide); obtain rfl := f3 (by decide); obtain rfl := f4 (by decide); obtain rfl := f5 (by decide); rw [if_neg (by decide)]; exact rb_text _ (by decide) t (by omega) r (by omega))
  | doc hk hl =>
    rcases hk with hk | hk <;> (simp only at hk hl; subst hk; subst hl; obtain rfl := f1 (by decide); obtain rfl := f2 (by decide); obtain rfl := f3 (by decide); obtain rfl := f4 (by decide); obtain rfl := f5 (by decide); rw [if_pos (by decide)]; exact rb_doc _ (by decide) body (by omega) r (by omega))
  | bin2 hk hl =>
    obtain ⟨hk, h2⟩ := hk; simp only at hk h2 hl; subst hk; subst hl; subst h2; obtain rfl := f1 (by decide); obtain rfl := f2 (by decide); obtain rfl := f4 (by decide); obtain rfl := f5 (by decide); rw [if_neg (by decide)]; exact rb_bin2 B (by omega) r (by omega)
  | bin hk hl =>
    obtain ⟨hk, h2⟩ := hk; simp only at hk h2 hl; subst hk; subst hl; have hq := hn.1 rfl; obtain rfl := f1 (by decide); obtain rfl := f2 (by decide); obtain rfl := f4 (by decide); obtain rfl := f5 (by decide); rw [if_neg (by decide)]; exact rb_bin n (by omega) (by omega) h2 B (by omega) r (by omega)
  | oid hk hl =>
    simp only at hk hl; subst hk; subst hl; have hq := hm.1 rfl; obtain rfl := f1 (by decide); obtain rfl := f2 (by decide); obtain rfl := f3 (by decide); obtain rfl := f4 (by decide); obtain rfl := f5 (by decide); rw [if_neg (by decide)]; exact rb_oid _ hq r (by omega)
  | bool hk hl =>
    simp only at hk hl; subst hk; subst hl; have hq := hn.2.1 rfl; obtain rfl := f6 (by decide); obtain rfl := f1 (by decide); obtain rfl := f2 (by decide); obtain rfl := f4 (by decide); obtain rfl := f5 (by decide); rw [if_neg (by decide)]; exact rb_bool n hq r (by omega)
  | num hk hl =>
    rcases hk with hk | hk <;> (simp only at hk hl; subst hk; subst hl; obtain rfl := f6 (by decide); obtain rfl := f1 (by decide); obtain rfl := f2 (by decide); obtain rfl := f4 (by decide); obtain rfl := f5 (by decide); rw [if_neg (by decide)]; exact rb_date _ (by decide) n n0 n1 r (by omega) (by rw [le8_wrap_]; exact readI64x n n0 n1 r))
  | i32 hk hl =>
    simp only at hk hl; subst hk; subst hl; have hq := hn.2.2 rfl; obtain rfl := f6 (by decide); obtain rfl := f1 (by decide); obtain rfl := f2 (by decide); obtain rfl := f4 (by decide); obtain rfl := f5 (by decide); rw [if_neg (by decide)]; exact rb_i32 n hq.1 hq.2 r (by omega)
  | rx hk hl =>
    simp only at hk hl; subst hk; subst hl; have hq := hm.2.2 rfl; obtain rfl := f6 (by decide); obtain rfl := f3 (by decide); obtain rfl := f4 (by decide); obtain rfl := f5 (by decide); rw [if_neg (by decide)]; exact rb_rx t m (by omega) (by omega) hq.1 hq.2 r (by omega)
  | dbp hk hl =>
    simp only at hk hl; subst hk; subst hl; have hq := hm.2.1 rfl; obtain rfl := f2 (by decide); obtain rfl := f3 (by decide); obtain rfl := f4 (by decide); obtain rfl := f5 (by decide); rw [if_neg (by decide)]; exact rb_ptr t (by omega) B hq r (by omega)
  | scope hk hl =>
    simp only at hk hl; subst hk; subst hl; obtain rfl := f2 (by decide); obtain rfl := f3 (by decide); obtain rfl := f4 (by decide); obtain rfl := f5 (by decide); rw [if_pos (by decide)]; exact rb_scope t (by omega) body (by omega) r (by omega)
  | dec hk hl =>
    simp only at hk hl; subst hk; subst hl; obtain rfl := f6 (by decide); obtain rfl := f1 (by decide); obtain rfl := f2 (by decide); obtain rfl := f3 (by decide); rw [if_neg (by decide)]; exact rb_dec b g b0 b1 g0 g1 r (by omega)
  | none hk hl => exact absurd hk hz

end Go.Proofs.YtpbfigeaoefcmaaGreat.PBg.VT
