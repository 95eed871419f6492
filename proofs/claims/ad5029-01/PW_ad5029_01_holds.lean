import PyProof.Rows.All
import Wide.All
import OpenK.AllK
import Wide.FinOn
import Flt.RightMore
import Flt.Pure
import PySem.Challenge.RW_ad5029_01
open PySem PySem.W PyProof.Rows
set_option Elab.async false
set_option maxRecDepth 100000
set_option maxHeartbeats 4000000
namespace Mine
/- Head1 -/
set_option maxRecDepth 100000 in
set_option maxHeartbeats 8000000 in
open_top hd for PySem.Challenge.rw_ad5029_01

/- Nm -/
set_option maxRecDepth 100000
/-! names looked up by their place: the scope's names are met once a walk -/
def namesOk : List (Str × NameKind) → Bool
  | [] => true
  | p :: r => !(p.1 == ("__debug__" : Str)) && r.all (fun q => !(q.1 == p.1)) && namesOk r
theorem namesOk_find : ∀ {l : List (Str × NameKind)} {x : Str} {k : NameKind}, namesOk l = true → (x, k) ∈ l → l.lookup x = some k ∧ (x == ("__debug__" : Str)) = false
  | p :: r, x, k, h, hm => by
    simp only [namesOk, Bool.and_eq_true, Bool.not_eq_true'] at h
    obtain ⟨⟨h1, h2⟩, h3⟩ := h
    rcases List.mem_cons.mp hm with e | hm
    · subst e
      exact ⟨by simp [List.lookup], h1⟩
    · have ih := namesOk_find h3 hm
      refine ⟨?_, ih.2⟩
      have h4 := List.all_eq_true.mp h2 _ hm
      simp only [Bool.not_eq_true'] at h4
      obtain ⟨a, b⟩ := p
      simp only [List.lookup, h4]
      exact ih.1
section
variable {M : Model} {A : Around} {E : Value → Shared → Prop} {s : Shared} {K : Frag} {h₀ : Heap} {L a : Addr} {m mg mb : Str → Option Value} {cn : Str} {ns : List (Str × NameKind)} {g c : Bool} {mo : List (Str × Const)} {news : List (Addr × Obj)} {ccd : Value} {p : Program} {loose : List Str} {x : Str} {pos : Pos} {v : Value} {Q : Value → Shared → Prop}
theorem nm_in (nd : namesOk ns = true) (h : namesOk ns = true → wpAny M A (eval (.Name x pos) (envOf cn ⟨.function, ns, g, c, mo⟩ L a ccd)) Q E s) : wpAny M A (eval (.Name x pos) (envOf cn ⟨.function, ns, g, c, mo⟩ L a ccd)) Q E s := h nd
theorem nm_glob (nd : namesOk ns = true) (hx : List.Mem (x, NameKind.globalImplicit) ns) (F : Fr h₀ L s.heap m) (X : K.In h₀) (T : TopRead p loose mg mb h₀) (e : nsIn K mainGlobals x = some (some v)) (h : Q v s) :
    wpAny M A (eval (.Name x pos) (envOf cn ⟨.function, ns, g, c, mo⟩ L a ccd)) Q E s := name_K F X T e h rfl (namesOk_find nd hx).1 (namesOk_find nd hx).2
theorem nm_boot (nd : namesOk ns = true) (hx : List.Mem (x, NameKind.globalImplicit) ns) (F : Fr h₀ L s.heap m) (X : K.In h₀) (T : TopRead p loose mg mb h₀) (e : nsIn K mainGlobals x = some none) (hv : bootBuiltins x = some v) (hn : x ≠ "__name__") (h : Q v s) :
    wpAny M A (eval (.Name x pos) (envOf cn ⟨.function, ns, g, c, mo⟩ L a ccd)) Q E s := name_B F X T e hv hn h rfl (namesOk_find nd hx).1 (namesOk_find nd hx).2
theorem nm_loc (nd : namesOk ns = true) (hx : List.Mem (x, NameKind.local) ns) (F : Fr h₀ L s.heap m) (hv : m x = some v) (h : Q v s) :
    wpAny M A (eval (.Name x pos) (envOf cn ⟨.function, ns, g, c, mo⟩ L a ccd)) Q E s := ld F hv h rfl (namesOk_find nd hx).1 (namesOk_find nd hx).2
theorem nm_store (nd : namesOk ns = true) (hx : List.Mem (x, NameKind.local) ns) (F : Fr h₀ L s.heap m) (N : News h₀ L s.heap news) {Q : Unit → Shared → Prop}
    (h : ∀ h', Fr h₀ L h' (fun y => if y = x then some v else m y) → News h₀ L h' news → Q () { s with heap := h', toks := s.toks + 1 }) : wpAny M A (storeName (envOf cn ⟨.function, ns, g, c, mo⟩ L a ccd) x v) Q E s := storeX_L (cl := []) F N h rfl (namesOk_find nd hx).1
theorem nm_load (nd : namesOk ns = true) (hx : List.Mem (x, NameKind.local) ns) (F : Fr h₀ L s.heap m) (hv : m x = some v) (h : Q v s) : wpAny M A (loadName (envOf cn ⟨.function, ns, g, c, mo⟩ L a ccd) x) Q E s := ldn F hv h rfl (namesOk_find nd hx).1
end
local macro_rules | `(tactic| walk_at "storeName") => `(tactic| (k_here; k_dflt (refine' nm_store ?nnd ?nmm ?nF ?nN ?_; (case nnd => with_reducible assumption); (case nmm => with_reducible k_mem); (case nF => k_asm); (case nN => k_asm); k_whole; intro h' F' N'; (try k_sweep))))
local macro_rules | `(tactic| walk_at "loadName") => `(tactic| (k_here; k_dflt (refine' nm_load ?nnd ?nmm ?nF ?nv ?_; (case nnd => with_reducible assumption); (case nmm => with_reducible k_mem); (case nF => k_asm); (case nv => exact rfl); k_whole)))
local macro_rules | `(tactic| walk_at "eval Name") => `(tactic| (k_here; (fail_if_success (refine' nm_in ?nd (fun hnd9 => ?_); (case nd => with_reducible assumption))); (refine' nm_in ?nd (fun hnd9 => ?_); (case nd => decide +kernel))))
local macro_rules | `(tactic| walk_at "eval Name") => `(tactic| (k_here; name_kind "globalImplicit"; k_dflt (refine' nm_glob ?nnd ?nmm ?nF ?nX ?nT ?ne ?_; (case nnd => with_reducible assumption); (case nmm => with_reducible k_mem); (case nF => k_asm); (case nX => k_asm); (case nT => k_asm); (case ne => k_is); k_whole)))
local macro_rules | `(tactic| walk_at "eval Name") => `(tactic| (k_here; name_kind "local"; k_dflt (refine' nm_loc ?nnd ?nmm ?nF ?nv ?_; (case nnd => with_reducible assumption); (case nmm => with_reducible k_mem); (case nF => k_asm); (case nv => exact rfl); k_whole)))

/- Fl -/
section
open PySem.Float64
set_option maxRecDepth 100000
set_option exponentiation.threshold 3000

/-! floats that are half a whole number -/
theorem V_rep {q k : Nat} (hq : q < 2 ^ 53) (hk : 52 ≤ k) (hk2 : k ≤ 1990) : ∃ t, t < infMag ∧ V t = q * 2 ^ k := by
  by_cases h0 : q = 0
  · subst h0
    exact ⟨0, by decide, by rw [V_zero]; simp⟩
  · have hl : q.log2 ≤ 52 := by
      have := (Nat.log2_lt h0).mpr hq
      omega
    have h1 : 2 ^ q.log2 ≤ q := Nat.log2_self_le h0
    have h2 : q < 2 ^ (q.log2 + 1) := Nat.lt_log2_self
    have e1 : 2 ^ 52 ≤ q * 2 ^ (52 - q.log2) := by
      calc 2 ^ 52 = 2 ^ q.log2 * 2 ^ (52 - q.log2) := by rw [← Nat.pow_add]; congr 1; omega
        _ ≤ _ := Nat.mul_le_mul_right _ h1
    have e2 : q * 2 ^ (52 - q.log2) < 2 ^ 53 := by
      calc q * 2 ^ (52 - q.log2) < 2 ^ (q.log2 + 1) * 2 ^ (52 - q.log2) := Nat.mul_lt_mul_of_pos_right h2 (Nat.two_pow_pos _)
        _ = 2 ^ 53 := by rw [← Nat.pow_add]; congr 1; omega
    refine ⟨(k - (52 - q.log2)) * 2 ^ 52 + q * 2 ^ (52 - q.log2), ?_, ?_⟩
    · have : infMag = 2047 * 2 ^ 52 := rfl
      have h3 : k - (52 - q.log2) ≤ 1990 := by omega
      have := Nat.mul_le_mul_right (2 ^ 52) h3
      omega
    · rw [V_at (Nat.le_of_lt e2) (.inl e1), Nat.mul_assoc, ← Nat.pow_add]
      congr 2
      omega

theorem V_lt_inf {t : Nat} (h : t < infMag) : V t ≤ (2 ^ 53 - 1) * 2 ^ 2045 := by
  have e : infMag - 1 = 2045 * 2 ^ 52 + (2 ^ 53 - 1) := by unfold infMag; omega
  have hA : V (infMag - 1) = (2 ^ 53 - 1) * 2 ^ 2045 := by
    rw [e]
    exact V_at (k := 2045) (q := 2 ^ 53 - 1) (by omega) (.inl (by omega))
  rw [← hA]
  exact V_mono (by omega)

theorem not_over {W D t : Nat} (hD : 0 < D) (ht : t < infMag) (h : W ≤ D * V t) : ¬ D * ((2 ^ 54 - 1) * 2 ^ 2045) ≤ 2 * W := by
  intro h2
  have h1 := Nat.mul_le_mul_left D (V_lt_inf ht)
  have h3 : D * ((2 ^ 54 - 1) * 2 ^ 2045) ≤ 2 * (D * ((2 ^ 53 - 1) * 2 ^ 2045)) := by omega
  have h4 : 2 * (D * ((2 ^ 53 - 1) * 2 ^ 2045)) = D * ((2 ^ 54 - 2) * 2 ^ 2045) := by
    rw [show (2 : Nat) ^ 54 - 2 = 2 * (2 ^ 53 - 1) by omega]
    generalize (2 : Nat) ^ 2045 = K
    generalize (2 : Nat) ^ 53 - 1 = J
    ac_rfl
  rw [h4] at h3
  have h5 := Nat.le_of_mul_le_mul_left h3 hD
  have h6 : 0 < (2 : Nat) ^ 2045 := Nat.two_pow_pos _
  have h7 := Nat.le_of_mul_le_mul_right h5 h6
  omega

theorem right_between {r : UInt64} {neg : Bool} {W D a b : Nat} (hR : Right r neg W D) (hD : 0 < D) (hb : b < infMag)
    (h1 : D * V a ≤ W) (h2 : W ≤ D * V b) : ∃ t, r = pack neg t ∧ t < infMag ∧ V a ≤ V t ∧ V t ≤ V b := by
  obtain ⟨t, hr, hle, hov, hn⟩ := hR
  have hlt : t < infMag := by
    have := not_over hD hb h2
    have : t ≠ infMag := fun e => this (hov.mp e)
    omega
  refine ⟨t, hr, hlt, ?_, ?_⟩
  · refine Nat.le_of_not_lt fun hc => ?_
    have hd := (hn hlt a).1
    have h3 : D * V t < D * V a := Nat.mul_lt_mul_of_pos_left hc hD
    unfold dist at hd
    omega
  · refine Nat.le_of_not_lt fun hc => ?_
    have hd := (hn hlt b).1
    have h3 : D * V b < D * V t := Nat.mul_lt_mul_of_pos_left hc hD
    unfold dist at hd
    omega

theorem V_inj {a b : Nat} (h : V a = V b) : a = b := by
  rcases Nat.lt_trichotomy a b with h1 | h1 | h1
  · have := V_lt h1; omega
  · exact h1
  · have := V_lt h1; omega

theorem right_exact {r : UInt64} {neg : Bool} {W D t : Nat} (hR : Right r neg W D) (hD : 0 < D) (ht : t < infMag) (h : W = D * V t) : r = pack neg t := by
  obtain ⟨t', hr, _, h1, h2⟩ := right_between hR hD ht (Nat.le_of_eq h.symm) (Nat.le_of_eq h)
  have := V_inj (Nat.le_antisymm h1 h2)
  subst this
  exact hr

/-- the float that is n halves -/
@[irreducible] def hf (n : Int) : UInt64 := ofFrac (decide (n < 0)) n.natAbs 2

theorem pow1074 : (2 : Nat) ^ 1074 = 2 * 2 ^ 1073 := by rw [show 1074 = 1073 + 1 from rfl, Nat.pow_succ, Nat.mul_comm]

theorem hf_pack {n : Int} (h : n.natAbs < 2 ^ 53) : ∃ t, t < infMag ∧ V t = n.natAbs * 2 ^ 1073 ∧ hf n = pack (decide (n < 0)) t := by
  obtain ⟨t, ht, hV⟩ := V_rep (k := 1073) h (by decide) (by decide)
  refine ⟨t, ht, hV, ?_⟩
  unfold hf
  refine right_exact (ofFrac_right (d := 2) (n := n.natAbs) (W := n.natAbs * 2 ^ 1073) (D := 1) (by decide) ?_ (by decide)) (by decide) ht ?_
  · rw [pow1074]
    generalize (2 : Nat) ^ 1073 = K
    rw [Nat.mul_one]
    ac_rfl
  · rw [hV, Nat.one_mul]

theorem hf_decode {n : Int} (h : n.natAbs < 2 ^ 53) : ∃ m e, decode (hf n) = .fin (decide (n < 0)) m e ∧ m * 2 ^ (e + 1074).toNat = n.natAbs * 2 ^ 1073 := by
  obtain ⟨t, ht, hV, hp⟩ := hf_pack h
  obtain ⟨m, e, hd, hm⟩ := decode_pack (decide (n < 0)) ht
  exact ⟨m, e, by rw [hp]; exact hd, by rw [hm, hV]⟩

theorem sgn_decide (n : Int) (k : Nat) : sgn (decide (n < 0)) (n.natAbs * k) = n * (k : Int) := by
  rw [sgn_mul]
  congr 1
  unfold sgn
  split
  · rename_i h; have := of_decide_eq_true h; omega
  · rename_i h; have : ¬ n < 0 := fun q => h (decide_eq_true q); omega

theorem hf_val {n : Int} (h : n.natAbs < 2 ^ 53) : val (hf n) = n * ((2 ^ 1073 : Nat) : Int) := by
  obtain ⟨m, e, hd, hm⟩ := hf_decode h
  rw [val_eq hd, hm, sgn_decide]

/-- a rightly rounded result that is n halves to the bit -/
theorem hf_of_right {r : UInt64} {n : Int} {neg : Bool} {W D : Nat} (h : n.natAbs < 2 ^ 53) (hn : neg = decide (n < 0)) (hR : Right r neg W D) (hD : 0 < D) (hW : W = D * (n.natAbs * 2 ^ 1073)) : r = hf n := by
  obtain ⟨t, ht, hV, hp⟩ := hf_pack h
  rw [hp, ← hn]
  exact right_exact hR hD ht (by rw [hW, hV])

theorem natAbs_mul_nat (n : Int) (k : Nat) : (n * (k : Int)).natAbs = n.natAbs * k := by rw [Int.natAbs_mul, Int.natAbs_natCast]
theorem ppos (k : Nat) : (0 : Int) < ((2 ^ k : Nat) : Int) := Int.ofNat_lt.mpr (Nat.two_pow_pos _)
theorem mul_neg_iff (n : Int) (k : Nat) : (n * ((2 ^ k : Nat) : Int) < 0) ↔ n < 0 := by
  have hp := ppos k
  generalize ((2 ^ k : Nat) : Int) = K at *
  constructor
  · intro h
    refine Int.lt_of_not_ge fun hc => ?_
    have := Int.mul_nonneg hc (Int.le_of_lt hp)
    omega
  · intro h
    exact Int.mul_neg_of_neg_of_pos h hp
theorem mul_zero_iff (n : Int) (k : Nat) : (n * ((2 ^ k : Nat) : Int) = 0) ↔ n = 0 := by
  have hp := ppos k
  generalize ((2 ^ k : Nat) : Int) = K at *
  constructor
  · intro h
    rcases Int.mul_eq_zero.mp h with h | h
    · exact h
    · omega
  · intro h; rw [h, Int.zero_mul]

theorem hf_zero : hf 0 = zero false := by decide +kernel
theorem hf_zero_sign (a b : Bool) (h : (a && b) = false) : zero (a && b) = hf 0 := by rw [h, hf_zero]

theorem ofInt_hf {n : Int} (h : n.natAbs < 2 ^ 52) : ofInt n = hf (2 * n) := by
  refine hf_of_right (W := n.natAbs * 2 ^ 1074) (D := 1) (by omega) ?_ (ofInt_right n) (by decide) ?_
  · apply decide_eq_decide.mpr; omega
  · rw [Nat.one_mul, pow1074, Int.natAbs_mul]
    show n.natAbs * (2 * 2 ^ 1073) = 2 * n.natAbs * 2 ^ 1073
    generalize (2 : Nat) ^ 1073 = K
    ac_rfl

theorem add_hf {a b : Int} (ha : a.natAbs < 2 ^ 53) (hb : b.natAbs < 2 ^ 53) (hc : (a + b).natAbs < 2 ^ 53) : add (hf a) (hf b) = hf (a + b) := by
  obtain ⟨m, e, hd, -⟩ := hf_decode ha
  obtain ⟨k, f, hd', -⟩ := hf_decode hb
  have R := add_right hd hd'
  rw [hf_val ha, hf_val hb, ← Int.add_mul] at R
  by_cases h0 : a + b = 0
  · rw [R.1 (by rw [h0, Int.zero_mul]), h0]
    refine hf_zero_sign _ _ ?_
    by_cases h1 : a < 0
    · have : ¬ b < 0 := by omega
      simp [this]
    · simp [h1]
  · have h2 := R.2 (fun q => h0 ((mul_zero_iff _ _).mp q))
    refine hf_of_right hc ?_ h2 (by decide) ?_
    · exact decide_eq_decide.mpr (mul_neg_iff _ _)
    · rw [Nat.one_mul, natAbs_mul_nat]


theorem sub_hf {a b : Int} (ha : a.natAbs < 2 ^ 53) (hb : b.natAbs < 2 ^ 53) (hc : (a - b).natAbs < 2 ^ 53) : sub (hf a) (hf b) = hf (a - b) := by
  obtain ⟨m, e, hd, -⟩ := hf_decode ha
  obtain ⟨k, f, hd', -⟩ := hf_decode hb
  have R := sub_right hd hd'
  rw [hf_val ha, hf_val hb, ← Int.sub_mul] at R
  by_cases h0 : a - b = 0
  · rw [R.1 (by rw [h0, Int.zero_mul]), h0]
    refine hf_zero_sign _ _ ?_
    have : a = b := by omega
    subst this
    cases decide (a < 0) <;> rfl
  · have h2 := R.2 (fun q => h0 ((mul_zero_iff _ _).mp q))
    refine hf_of_right hc ?_ h2 (by decide) ?_
    · exact decide_eq_decide.mpr (mul_neg_iff _ _)
    · rw [Nat.one_mul, natAbs_mul_nat]

/-- times a whole number -/
theorem mul_hf {a b : Int} (ha : a.natAbs < 2 ^ 53) (hb : (2 * b).natAbs < 2 ^ 53) (hc : (a * b).natAbs < 2 ^ 53) (hp : 0 ≤ a) (hq : 0 ≤ b) : mul (hf a) (hf (2 * b)) = hf (a * b) := by
  obtain ⟨m, e, hd, -⟩ := hf_decode ha
  obtain ⟨k, f, hd', -⟩ := hf_decode hb
  have R := mul_right hd hd'
  rw [hf_val ha, hf_val hb, natAbs_mul_nat, natAbs_mul_nat] at R
  refine hf_of_right hc ?_ R (Nat.two_pow_pos _) ?_
  · have h1 : ¬ a < 0 := by omega
    have h2 : ¬ 2 * b < 0 := by omega
    have h3 : ¬ a * b < 0 := by have := Int.mul_nonneg hp hq; omega
    simp [h1, h2, h3]
  · rw [Int.natAbs_mul, Int.natAbs_mul, pow1074]
    show a.natAbs * 2 ^ 1073 * (2 * b.natAbs * 2 ^ 1073) = 2 * 2 ^ 1073 * (a.natAbs * b.natAbs * 2 ^ 1073)
    generalize (2 : Nat) ^ 1073 = K
    ac_rfl

theorem cmp_hf {a b : Int} (ha : a.natAbs < 2 ^ 53) (hb : b.natAbs < 2 ^ 53) : cmp (hf a) (hf b) = some (compare a b) := by
  obtain ⟨m, e, hd, -⟩ := hf_decode ha
  obtain ⟨k, f, hd', -⟩ := hf_decode hb
  rw [cmp_right hd hd', hf_val ha, hf_val hb]
  have hp := ppos 1073
  generalize ((2 ^ 1073 : Nat) : Int) = K at *
  congr 1
  rcases Int.lt_trichotomy a b with h | h | h
  · rw [Int.compare_eq_lt.mpr h, Int.compare_eq_lt.mpr (Int.mul_lt_mul_of_pos_right h hp)]
  · subst h; simp
  · rw [Int.compare_eq_gt.mpr h, Int.compare_eq_gt.mpr (Int.mul_lt_mul_of_pos_right h hp)]

theorem cmpInt_hf {a b : Int} (ha : a.natAbs < 2 ^ 53) : cmpInt (hf a) b = some (compare a (2 * b)) := by
  obtain ⟨m, e, hd, -⟩ := hf_decode ha
  rw [cmpInt_right hd, hf_val ha]
  have hp := ppos 1073
  have e1 : (2 : Int) ^ 1074 = 2 * ((2 ^ 1073 : Nat) : Int) := by rw [show (2 : Int) ^ 1074 = ((2 ^ 1074 : Nat) : Int) by simp, pow1074]; simp
  rw [e1, show b * (2 * ((2 ^ 1073 : Nat) : Int)) = 2 * b * ((2 ^ 1073 : Nat) : Int) by rw [← Int.mul_assoc, Int.mul_comm b 2]]
  generalize ((2 ^ 1073 : Nat) : Int) = K at *
  congr 1
  rcases Int.lt_trichotomy a (2 * b) with h | h | h
  · rw [Int.compare_eq_lt.mpr h, Int.compare_eq_lt.mpr (Int.mul_lt_mul_of_pos_right h hp)]
  · subst h; simp
  · rw [Int.compare_eq_gt.mpr h, Int.compare_eq_gt.mpr (Int.mul_lt_mul_of_pos_right h hp)]

theorem floorOf_val {x : UInt64} {s : Bool} {m : Nat} {e : Int} (h : decode x = .fin s m e) : floorOf s m e = val x / ((2 ^ 1074 : Nat) : Int) := by
  have he := decode_ge h
  rw [val_eq h]
  unfold floorOf
  split
  · rename_i h0
    have e1 : (e + 1074).toNat = e.toNat + 1074 := by omega
    have hc : ((2 ^ e.toNat : Nat) : Int) = (2 : Int) ^ e.toNat := by simp
    rw [e1, Nat.pow_add, ← Nat.mul_assoc, sgn_mul, sgn_mul, Int.mul_ediv_cancel _ (Int.ne_of_gt (ppos 1074)), hc]
  · rename_i h0
    have hk : (2 : Int) ^ (-e).toNat = ((2 ^ (-e).toNat : Nat) : Int) := by simp
    have e1 : (1074 : Nat) = (-e).toNat + (e + 1074).toNat := by omega
    have e2 : ((2 ^ 1074 : Nat) : Int) = ((2 ^ (-e).toNat : Nat) : Int) * ((2 ^ (e + 1074).toNat : Nat) : Int) := by
      rw [← Int.natCast_mul, ← Nat.pow_add, ← e1]
    rw [hk, Int.fdiv_eq_ediv_of_nonneg _ (Int.le_of_lt (ppos _)), sgn_mul, e2, Int.mul_ediv_mul_of_pos_left _ _ (ppos _)]

def flr (x : UInt64) : Int := PySem.Flt.toInt floorOf x
theorem flr_val {x : UInt64} {s : Bool} {m : Nat} {e : Int} (h : decode x = .fin s m e) : flr x = val x / ((2 ^ 1074 : Nat) : Int) := by
  unfold flr
  rw [PySem.Flt.toInt_fin h, floorOf_val h]

theorem half_div (n : Int) : n * ((2 ^ 1073 : Nat) : Int) / ((2 ^ 1074 : Nat) : Int) = n / 2 := by
  rw [pow1074, Int.natCast_mul]
  exact Int.mul_ediv_mul_of_pos_left _ _ (ppos 1073)

theorem flr_hf {n : Int} (h : n.natAbs < 2 ^ 53) : flr (hf n) = n / 2 := by
  obtain ⟨m, e, hd, -⟩ := hf_decode h
  rw [flr_val hd, hf_val h, half_div]
theorem fin_hf {n : Int} (h : n.natAbs < 2 ^ 53) : isFinite (hf n) = true := by
  obtain ⟨m, e, hd, -⟩ := hf_decode h
  unfold isFinite
  rw [hd]
theorem trunc_hf {n : Int} (h : n.natAbs < 2 ^ 53) (h0 : 0 ≤ n) : PySem.Flt.toInt truncOf (hf n) = n / 2 := by
  obtain ⟨m, e, hd, -⟩ := hf_decode h
  have hs : decide (n < 0) = false := decide_eq_false (by omega)
  rw [hs] at hd
  rw [PySem.Flt.toInt_fin hd]
  unfold truncOf
  simp only [Bool.false_eq_true, if_false]
  rw [floorOf_val hd, hf_val h, half_div]

theorem neg_div_ceil {P q C : Nat} (hq : 0 < q) (hP : 0 < P) (h : (P - 1) / q = C) : (-(P : Int)) / (q : Int) = -((C : Int) + 1) := by
  have hdm1 := Nat.div_add_mod (P - 1) q
  have hml1 := Nat.mod_lt (P - 1) hq
  rw [h] at hdm1
  have h6 : ((q * C + (P - 1) % q : Nat) : Int) = ((P - 1 : Nat) : Int) := congrArg _ hdm1
  rw [Int.natCast_add, Int.natCast_mul] at h6
  have h7 : (P : Int) - 1 = ((P - 1 : Nat) : Int) := by omega
  have h8 : -((C : Int) + 1) * (q : Int) = -((q : Int) * C) - q := by rw [Int.neg_mul, Int.add_mul, Int.one_mul, Int.mul_comm (C : Int)]; omega
  rw [Int.ediv_eq_iff_of_pos (Int.ofNat_lt.mpr hq)]
  constructor
  · first | (rw [h8]; omega) | (rw [Int.mul_comm, h8]; omega)
  · first | (rw [h8]; omega) | (rw [Int.mul_comm, h8]; omega)

/-- the floor of a rightly rounded quotient p / q -/
theorem right_floor {r : UInt64} {neg : Bool} {W D : Nat} {p : Int} {q c : Nat} (hR : Right r neg W D) (hD : 0 < D) (hn : neg = decide (p < 0)) (hq : 0 < q) (hW : W * q = p.natAbs * 2 ^ 1074 * D)
    (hc : q ≤ 2 ^ c) (hc2 : c ≤ 1000) (hb : (p.natAbs / q + 1) * 2 ^ c ≤ 2 ^ 53) (hF : p.natAbs / q + 1 < 2 ^ 53) : ∃ m e, decode r = .fin neg m e ∧ flr r = p / (q : Int) := by
  have hc1 : 1 ≤ 2 ^ c := Nat.two_pow_pos c
  have K0 : 0 < (2 : Nat) ^ (1074 - c) := Nat.two_pow_pos _
  have hK : (2 : Nat) ^ 1074 = 2 ^ c * 2 ^ (1074 - c) := by rw [← Nat.pow_add]; congr 1; omega
  by_cases hp : p < 0
  · -- magnitude between (C-1) + 2^-c and C
    have hdm := Nat.div_add_mod p.natAbs q
    have hml := Nat.mod_lt p.natAbs hq
    generalize hP : p.natAbs = P at *
    have hP0 : 0 < P := by omega
    -- C - 1 = (P - 1) / q
    have hdm1 := Nat.div_add_mod (P - 1) q
    have hml1 := Nat.mod_lt (P - 1) hq
    have hle1 : (P - 1) / q ≤ P / q := Nat.div_le_div_right (by omega)
    generalize hC : (P - 1) / q = C at *
    have hCb : C * 2 ^ c + 1 < 2 ^ 53 + 1 := by
      have h1 : (C + 1) * 2 ^ c ≤ (P / q + 1) * 2 ^ c := Nat.mul_le_mul_right _ (by omega)
      rw [Nat.add_mul] at h1
      omega
    obtain ⟨ta, hta, hVa⟩ := V_rep (q := C + 1) (k := 1074) (by omega) (by decide) (by decide)
    -- lower
    by_cases hedge : C * 2 ^ c + 1 < 2 ^ 53
    case neg =>
      exfalso
      have h1 : (C + 1) * 2 ^ c ≤ (P / q + 1) * 2 ^ c := Nat.mul_le_mul_right _ (by omega)
      rw [Nat.add_mul] at h1
      have h2 : C * 2 ^ c = 2 ^ 53 - 1 := by omega
      have h3 : 2 ^ c = 1 := by omega
      rw [h3] at h2
      omega
    obtain ⟨tb, htb, hVb⟩ := V_rep (q := C * 2 ^ c + 1) (k := 1074 - c) hedge (by omega) (by omega)
    have hlow : D * V tb ≤ W := by
      rw [hVb]
      refine Nat.le_of_mul_le_mul_right (c := q) ?_ hq
      rw [hW, hK]
      have h1 : (C * 2 ^ c + 1) * q ≤ P * 2 ^ c := by
        have h2 : C * q + 1 ≤ P := by rw [Nat.mul_comm]; omega
        have h3 := Nat.mul_le_mul_right (2 ^ c) h2
        rw [Nat.add_mul, Nat.one_mul] at h3
        rw [Nat.add_mul, Nat.one_mul]
        have h4 : C * 2 ^ c * q = C * q * 2 ^ c := by ac_rfl
        omega
      calc D * ((C * 2 ^ c + 1) * 2 ^ (1074 - c)) * q = (C * 2 ^ c + 1) * q * (2 ^ (1074 - c) * D) := by ac_rfl
        _ ≤ P * 2 ^ c * (2 ^ (1074 - c) * D) := Nat.mul_le_mul_right _ h1
        _ = P * (2 ^ c * 2 ^ (1074 - c)) * D := by ac_rfl
    have hup : W ≤ D * V ta := by
      rw [hVa]
      refine Nat.le_of_mul_le_mul_right (c := q) ?_ hq
      rw [hW]
      have h1 : P ≤ (C + 1) * q := by rw [Nat.add_mul, Nat.one_mul, Nat.mul_comm C q]; omega
      generalize (2 : Nat) ^ 1074 = K at *
      calc P * K * D ≤ (C + 1) * q * K * D := Nat.mul_le_mul_right _ (Nat.mul_le_mul_right _ h1)
        _ = D * ((C + 1) * K) * q := by ac_rfl
    obtain ⟨t, hr, ht, hlo, hhi⟩ := right_between hR hD hta hlow hup
    obtain ⟨m, e, hd, hv⟩ := decode_pack neg ht
    have hd' : decode r = .fin neg m e := by rw [hr]; exact hd
    refine ⟨m, e, hd', ?_⟩
    rw [flr_val hd', val_eq hd', hv, hn, decide_eq_true hp]
    unfold sgn
    rw [if_pos rfl]
    rw [hVb] at hlo
    rw [hVa] at hhi
    have hlo' : C * 2 ^ 1074 < V t := by
      rw [hK]
      have h1 : C * (2 ^ c * 2 ^ (1074 - c)) < (C * 2 ^ c + 1) * 2 ^ (1074 - c) := by
        rw [Nat.add_mul, ← Nat.mul_assoc, Nat.one_mul]
        omega
      omega
    have e1 : p / (q : Int) = -((C : Int) + 1) := by
      have h1 : p = -((P : Nat) : Int) := by omega
      rw [h1]
      exact neg_div_ceil hq hP0 hC
    rw [e1]
    rw [Int.ediv_eq_iff_of_pos (ppos 1074)]
    have g1 : ((C * 2 ^ 1074 : Nat) : Int) < (V t : Int) := Int.ofNat_lt.mpr hlo'
    have g2 : (V t : Int) ≤ (((C + 1) * 2 ^ 1074 : Nat) : Int) := Int.ofNat_le.mpr hhi
    rw [Int.natCast_mul] at g1 g2
    rw [Int.natCast_add] at g2
    generalize ((2 ^ 1074 : Nat) : Int) = K at *
    have h8 : -((C : Int) + 1) * K = -(((C : Int) + ((1 : Nat) : Int)) * K) := by rw [Int.neg_mul]; rfl
    have h9 : ((C : Int) + ((1 : Nat) : Int)) * K = (C : Int) * K + K := by rw [Int.add_mul]; exact congrArg _ (Int.one_mul K)
    constructor
    · first | (rw [h8]; omega) | (rw [Int.mul_comm, h8]; omega)
    · first | (rw [h8]; omega) | (rw [Int.mul_comm, h8]; omega)
  · have hdm := Nat.div_add_mod p.natAbs q
    have hml := Nat.mod_lt p.natAbs hq
    have hpP : p = (p.natAbs : Int) := by omega
    generalize hP : p.natAbs = P at *
    generalize hC : P / q = C at *
    obtain ⟨ta, hta, hVa⟩ := V_rep (q := C) (k := 1074) (by omega) (by decide) (by decide)
    obtain ⟨tb, htb, hVb⟩ := V_rep (q := (C + 1) * 2 ^ c - 1) (k := 1074 - c) (by omega) (by omega) (by omega)
    have hC1 : 1 ≤ (C + 1) * 2 ^ c := by
      have := Nat.mul_le_mul_left (C + 1) hc1
      omega
    have hlow : D * V ta ≤ W := by
      rw [hVa]
      refine Nat.le_of_mul_le_mul_right (c := q) ?_ hq
      rw [hW]
      have h1 : C * q ≤ P := by rw [Nat.mul_comm]; omega
      calc D * (C * 2 ^ 1074) * q = C * q * 2 ^ 1074 * D := by ac_rfl
        _ ≤ P * 2 ^ 1074 * D := Nat.mul_le_mul_right _ (Nat.mul_le_mul_right _ h1)
    have hup : W ≤ D * V tb := by
      rw [hVb]
      refine Nat.le_of_mul_le_mul_right (c := q) ?_ hq
      rw [hW, hK]
      have h1 : P * 2 ^ c ≤ ((C + 1) * 2 ^ c - 1) * q := by
        have h2 : P + 1 ≤ (C + 1) * q := by rw [Nat.add_mul, Nat.one_mul, Nat.mul_comm C q]; omega
        have h3 := Nat.mul_le_mul_right (2 ^ c) h2
        rw [Nat.add_mul, Nat.one_mul] at h3
        rw [Nat.sub_mul, Nat.one_mul]
        have h4 : (C + 1) * q * 2 ^ c = (C + 1) * 2 ^ c * q := by ac_rfl
        omega
      calc P * (2 ^ c * 2 ^ (1074 - c)) * D = P * 2 ^ c * (2 ^ (1074 - c) * D) := by ac_rfl
        _ ≤ ((C + 1) * 2 ^ c - 1) * q * (2 ^ (1074 - c) * D) := Nat.mul_le_mul_right _ h1
        _ = D * (((C + 1) * 2 ^ c - 1) * 2 ^ (1074 - c)) * q := by ac_rfl
    obtain ⟨t, hr, ht, hlo, hhi⟩ := right_between hR hD htb hlow hup
    obtain ⟨m, e, hd, hv⟩ := decode_pack neg ht
    have hd' : decode r = .fin neg m e := by rw [hr]; exact hd
    refine ⟨m, e, hd', ?_⟩
    rw [flr_val hd', val_eq hd', hv, hn, decide_eq_false hp]
    unfold sgn
    rw [if_neg (by decide)]
    rw [hVb] at hhi
    rw [hVa] at hlo
    have hhi' : V t < (C + 1) * 2 ^ 1074 := by
      rw [hK, ← Nat.mul_assoc]
      have h1 : ((C + 1) * 2 ^ c - 1) * 2 ^ (1074 - c) < (C + 1) * 2 ^ c * 2 ^ (1074 - c) := Nat.mul_lt_mul_of_pos_right (by omega) K0
      omega
    have e1 : p / (q : Int) = (C : Int) := by
      rw [hpP, ← hC]
      rfl
    rw [e1, Int.ediv_eq_iff_of_pos (ppos 1074)]
    have g1 : ((C * 2 ^ 1074 : Nat) : Int) ≤ (V t : Int) := Int.ofNat_le.mpr hlo
    have g2 : (V t : Int) < (((C + 1) * 2 ^ 1074 : Nat) : Int) := Int.ofNat_lt.mpr hhi'
    rw [Int.natCast_mul] at g1 g2
    rw [Int.natCast_add] at g2
    generalize ((2 ^ 1074 : Nat) : Int) = K at *
    have h9 : ((C : Int) + ((1 : Nat) : Int)) * K = (C : Int) * K + K := by rw [Int.add_mul]; exact congrArg _ (Int.one_mul K)
    rw [h9] at g2
    exact ⟨g1, g2⟩
end

/- Fl2 -/
section
open PySem.Float64
set_option maxRecDepth 100000
set_option exponentiation.threshold 3000

theorem fin_of_decode {x : UInt64} {s : Bool} {m : Nat} {e : Int} (h : decode x = .fin s m e) : isFinite x = true := by unfold isFinite; rw [h]

/-- half a whole number over a whole number -/
theorem div_hf {a b p : Int} {q c : Nat} (ha : a.natAbs < 2 ^ 53) (hb : 0 < b) (hb2 : b < 2 ^ 52) (hq : 0 < q) (hpq : a.natAbs * q = p.natAbs * (2 * b.natAbs)) (hs : a < 0 ↔ p < 0)
    (hc : q ≤ 2 ^ c) (hc2 : c ≤ 1000) (hB : (p.natAbs / q + 1) * 2 ^ c ≤ 2 ^ 53) (hF : p.natAbs / q + 1 < 2 ^ 53) :
    isFinite (div (hf a) (hf (2 * b))) = true ∧ flr (div (hf a) (hf (2 * b))) = p / (q : Int) := by
  have hb' : (2 * b).natAbs < 2 ^ 53 := by omega
  obtain ⟨m, e, hd, -⟩ := hf_decode ha
  obtain ⟨k, f, hd', hk⟩ := hf_decode hb'
  have hk0 : k ≠ 0 := by
    intro h
    rw [h, Nat.zero_mul] at hk
    have h1 : 0 < (2 * b).natAbs := by omega
    have := Nat.mul_pos h1 (Nat.two_pow_pos 1073)
    omega
  have R := div_right hd hd' hk0
  rw [hf_val ha, hf_val hb', natAbs_mul_nat, natAbs_mul_nat] at R
  have hDpos : 0 < (2 * b).natAbs * 2 ^ 1073 := Nat.mul_pos (by omega) (Nat.two_pow_pos _)
  have hn : (decide (a < 0) != decide (2 * b < 0)) = decide (p < 0) := by
    have h1 : ¬ 2 * b < 0 := by omega
    rw [decide_eq_false h1, Bool.bne_false]
    exact decide_eq_decide.mpr hs
  obtain ⟨m', e', hdr, hfl⟩ := right_floor (p := p) (q := q) (c := c) R hDpos hn hq (by
    rw [Int.natAbs_mul]
    show a.natAbs * 2 ^ 1073 * 2 ^ 1074 * q = p.natAbs * 2 ^ 1074 * (2 * b.natAbs * 2 ^ 1073)
    generalize (2 : Nat) ^ 1074 = K
    generalize (2 : Nat) ^ 1073 = J
    calc a.natAbs * J * K * q = a.natAbs * q * (J * K) := by ac_rfl
      _ = p.natAbs * (2 * b.natAbs) * (J * K) := by rw [hpq]
      _ = p.natAbs * K * (2 * b.natAbs * J) := by ac_rfl) hc hc2 hB hF
  exact ⟨fin_of_decode hdr, hfl⟩

/-- by a whole number, in halves -/
theorem div_hf_half {a b : Int} {c : Nat} (ha : a.natAbs < 2 ^ 53) (hb : 0 < b) (hb2 : b < 2 ^ 52) (hc : 2 * b.natAbs ≤ 2 ^ c) (hc2 : c ≤ 1000) (hB : (a.natAbs / (2 * b.natAbs) + 1) * 2 ^ c ≤ 2 ^ 53) (hF : a.natAbs / (2 * b.natAbs) + 1 < 2 ^ 53) :
    isFinite (div (hf a) (ofInt b)) = true ∧ flr (div (hf a) (ofInt b)) = a / (2 * b) := by
  rw [ofInt_hf (by omega)]
  have := div_hf (p := a) (q := 2 * b.natAbs) (c := c) ha hb hb2 (by omega) rfl Iff.rfl hc hc2 hB hF
  have e : ((2 * b.natAbs : Nat) : Int) = 2 * b := by omega
  rw [e] at this
  exact this

/-- whole by whole -/
theorem frac_floor {a b : Int} {c : Nat} (hb : 0 < b) (hc : b.natAbs ≤ 2 ^ c) (hc2 : c ≤ 1000) (hB : (a.natAbs / b.natAbs + 1) * 2 ^ c ≤ 2 ^ 53) (hF : a.natAbs / b.natAbs + 1 < 2 ^ 53) :
    isFinite (ofFrac (decide (a < 0) != decide (b < 0)) a.natAbs b.natAbs) = true ∧ flr (ofFrac (decide (a < 0) != decide (b < 0)) a.natAbs b.natAbs) = a / b := by
  have h1 : ¬ b < 0 := by omega
  rw [decide_eq_false h1, Bool.bne_false]
  have R : Right (ofFrac (decide (a < 0)) a.natAbs b.natAbs) (decide (a < 0)) (a.natAbs * 2 ^ 1074) b.natAbs := ofFrac_right (by omega) rfl (by omega)
  obtain ⟨m', e', hdr, hfl⟩ := right_floor (p := a) (q := b.natAbs) (c := c) R (by omega) rfl (by omega) rfl hc hc2 hB hF
  have e : ((b.natAbs : Nat) : Int) = b := by omega
  rw [e] at hfl
  exact ⟨fin_of_decode hdr, hfl⟩

theorem ofBin_right {neg : Bool} {M : Nat} {g : Int} (hg : -1074 ≤ g) : Right (ofBin neg M g) neg (M * 2 ^ (g + 1074).toNat) 1 := by
  unfold ofBin
  refine ofFrac_right (shift_pos _ _ _ (by decide)) ?_ (by decide)
  have := shift_one M g 1074 (by omega)
  rw [Nat.mul_one]
  exact this

theorem fmod_hf {a b : Int} (ha : a.natAbs < 2 ^ 53) (hb : 0 < b) (hb2 : b.natAbs < 2 ^ 53) :
    (a.natAbs % b.natAbs = 0 → isZero (fmod (hf a) (hf b)) = true) ∧ (a.natAbs % b.natAbs ≠ 0 → fmod (hf a) (hf b) = hf (if a < 0 then -((a.natAbs % b.natAbs : Nat) : Int) else ((a.natAbs % b.natAbs : Nat) : Int))) := by
  obtain ⟨m, e, hd, hm⟩ := hf_decode ha
  obtain ⟨k, f, hd', hk⟩ := hf_decode hb2
  have he := decode_ge hd
  have hf' := decode_ge hd'
  have hk0 : k ≠ 0 := by
    intro h
    rw [h, Nat.zero_mul] at hk
    have h1 : 0 < b.natAbs := by omega
    have := Nat.mul_pos h1 (Nat.two_pow_pos 1073)
    omega
  have hfm : fmod (hf a) (hf b) = ofBin (decide (a < 0)) ((m * 2 ^ (e - min e f).toNat) % (k * 2 ^ (f - min e f).toNat)) (min e f) := by
    unfold fmod
    rw [hd, hd']
    simp only
    rw [if_neg (by simpa using hk0)]
    unfold align sgn
    simp only [Bool.false_eq_true, if_false, Int.toNat_natCast]
  have hW : (m * 2 ^ (e - min e f).toNat) % (k * 2 ^ (f - min e f).toNat) * 2 ^ (min e f + 1074).toNat = (a.natAbs % b.natAbs) * 2 ^ 1073 := by
    rw [← Nat.mul_mod_mul_right, ← Nat.mul_mod_mul_right, Nat.mul_assoc, Nat.mul_assoc, ← Nat.pow_add, ← Nat.pow_add]
    have e1 : (e - min e f).toNat + (min e f + 1074).toNat = (e + 1074).toNat := by omega
    have e2 : (f - min e f).toNat + (min e f + 1074).toNat = (f + 1074).toNat := by omega
    rw [e1, e2, hm, hk]
  have R := ofBin_right (neg := decide (a < 0)) (M := (m * 2 ^ (e - min e f).toNat) % (k * 2 ^ (f - min e f).toNat)) (g := min e f) (by omega)
  rw [← hfm, hW] at R
  have hr : a.natAbs % b.natAbs < b.natAbs := Nat.mod_lt _ (by omega)
  constructor
  · intro h0
    rw [h0, Nat.zero_mul] at R
    have := right_exact (t := 0) R (by decide) (by decide) (by rw [V_zero])
    rw [this]
    cases decide (a < 0) <;> decide +kernel
  · intro h0
    refine hf_of_right ?_ ?_ R (by decide) ?_
    · split <;> omega
    · apply decide_eq_decide.mpr; split <;> omega
    · rw [Nat.one_mul]
      congr 1
      split <;> omega

theorem isZero_hf {n : Int} (h : n.natAbs < 2 ^ 53) : isZero (hf n) = decide (n = 0) := by
  obtain ⟨m, e, hd, hm⟩ := hf_decode h
  unfold isZero
  rw [hd]
  by_cases h0 : n = 0
  · have : m = 0 := by
      rw [h0] at hm
      have h1 : m * 2 ^ (e + 1074).toNat = 0 := by rw [hm]; simp
      rcases Nat.mul_eq_zero.mp h1 with h | h
      · exact h
      · have := Nat.two_pow_pos (e + 1074).toNat; omega
    subst this
    simp [h0]
  · have : m ≠ 0 := by
      intro h1
      rw [h1, Nat.zero_mul] at hm
      have := Nat.mul_pos (show 0 < n.natAbs by omega) (Nat.two_pow_pos 1073)
      omega
    cases m with
    | zero => exact absurd rfl this
    | succ m => simp [h0]

theorem lt_zero_hf {n : Int} (h : n.natAbs < 2 ^ 53) : lt (hf n) (zero false) = decide (n < 0) := by
  unfold lt
  rw [← hf_zero, cmp_hf h (by decide)]
  rcases Int.lt_trichotomy n 0 with h1 | h1 | h1
  · rw [Int.compare_eq_lt.mpr h1]; simp [h1]
  · subst h1; simp
  · rw [Int.compare_eq_gt.mpr h1]
    have : ¬ n < 0 := by omega
    simp [this]

theorem copysign_zero {n : Int} (h : n.natAbs < 2 ^ 53) (h0 : 0 < n) : copysign (zero false) (hf n) = hf 0 := by
  obtain ⟨t, ht, hV, hp⟩ := hf_pack h
  have hs : decide (n < 0) = false := decide_eq_false (by omega)
  have hsb : signBit (hf n) = false := by
    rw [hp, hs]
    unfold signBit
    have hi : infMag = 2047 * 2 ^ 52 := rfl
    rw [pack_toNat false (t := t) (by omega)]
    simp
    omega
  unfold copysign
  rw [hsb, hf_zero]
  decide +kernel

/-- the remainder of half a whole number by a whole number -/
theorem mod_hf {a b : Int} (ha : a.natAbs < 2 ^ 53) (hb : 0 < b) (hb2 : b < 2 ^ 51) : (divmod (hf a) (ofInt b)).snd = hf (a % (2 * b)) := by
  rw [ofInt_hf (by omega)]
  have hB : (2 * b).natAbs < 2 ^ 53 := by omega
  have M := fmod_hf (b := 2 * b) ha (by omega) hB
  have hr : a.natAbs % (2 * b).natAbs < (2 * b).natAbs := Nat.mod_lt _ (by omega)
  have hdm := Nat.div_add_mod a.natAbs (2 * b).natAbs
  have hsnd : (divmod (hf a) (hf (2 * b))).snd = (if isZero (fmod (hf a) (hf (2 * b))) then copysign (zero false) (hf (2 * b)) else if lt (hf (2 * b)) (zero false) != lt (fmod (hf a) (hf (2 * b))) (zero false) then add (fmod (hf a) (hf (2 * b))) (hf (2 * b)) else fmod (hf a) (hf (2 * b))) := by
    unfold divmod
    simp only
    split
    · rfl
    · split <;> rfl
  rw [hsnd]
  have hlB : lt (hf (2 * b)) (zero false) = false := by rw [lt_zero_hf hB]; exact decide_eq_false (by omega)
  generalize hq : a.natAbs / (2 * b).natAbs = q at *
  generalize hR : a.natAbs % (2 * b).natAbs = r at *
  have hq' : ((2 * b).natAbs : Int) * (q : Int) + (r : Int) = (a.natAbs : Int) := by
    have := congrArg (fun n : Nat => (n : Int)) hdm
    simpa using this
  have hBn : ((2 * b).natAbs : Int) = 2 * b := by omega
  rw [hBn] at hq'
  by_cases h0 : r = 0
  · rw [if_pos (M.1 h0), copysign_zero hB (by omega)]
    congr 1
    subst h0
    refine (Int.emod_eq_zero_of_dvd ?_).symm
    refine Int.dvd_natAbs.mp ⟨(q : Int), ?_⟩
    simpa using hq'.symm
  · have M2 := M.2 h0
    rw [M2]
    have hn : (if a < 0 then -(r : Int) else (r : Int)).natAbs < 2 ^ 53 := by split <;> omega
    rw [isZero_hf hn, if_neg (by simp; split <;> omega), hlB, lt_zero_hf hn]
    by_cases h1 : a < 0
    · rw [if_pos h1, if_pos (by simp; omega), add_hf (by omega) hB (by omega)]
      congr 1
      have e1 : a = -(2 * b * (q : Int)) - r := by omega
      have e2 : a = (-(r : Int) + 2 * b) + 2 * b * (-(q : Int) - 1) := by
        rw [Int.mul_sub, Int.mul_neg, Int.mul_one]; omega
      rw [e2, Int.add_mul_emod_self_left, Int.emod_eq_of_lt (by omega) (by omega)]
    · rw [if_neg h1, if_neg (by simp)]
      congr 1
      have e2 : a = (r : Int) + 2 * b * (q : Int) := by omega
      rw [e2, Int.add_mul_emod_self_left, Int.emod_eq_of_lt (by omega) (by omega)]
end

/- Fl3 -/
section
open PySem.Float64
set_option maxRecDepth 100000
set_option exponentiation.threshold 3000

abbrev x122 : UInt64 := 0x405e866666666666
abbrev x365 : UInt64 := 0x4076d40000000000
abbrev x306 : UInt64 := 0x403e99a027525461

theorem dec122 : decode x122 = .fin false 0x1e866666666666 (-46) := by kernel_rfl
theorem dec365 : decode x365 = .fin false 0x16d40000000000 (-44) := by kernel_rfl
theorem val365 : val x365 = ((1461 * 2 ^ 1072 : Nat) : Int) := by decide +kernel
theorem val122 : val x122 = ((0x1e866666666666 * 2 ^ 1028 : Nat) : Int) := by decide +kernel

theorem p1074K : (2 : Nat) ^ 1074 = 16 * 2 ^ 1070 := by decide +kernel
theorem p1073K : (2 : Nat) ^ 1073 = 8 * 2 ^ 1070 := by decide +kernel
theorem p1072K : (2 : Nat) ^ 1072 = 4 * 2 ^ 1070 := by decide +kernel
theorem p1071K : (2 : Nat) ^ 1071 = 2 * 2 ^ 1070 := by decide +kernel

theorem jul_c {b : Int} (h0 : 123 ≤ b) (h1 : b < 2 ^ 37) :
    isFinite (div (sub (ofInt b) x122) x365) = true ∧ flr (div (sub (ofInt b) x122) x365) = (4 * b - 489) / 1461 := by
  rw [ofInt_hf (by omega)]
  obtain ⟨m, e, hd, -⟩ := hf_decode (n := 2 * b) (by omega)
  have R := (sub_right hd dec122).2
  rw [hf_val (by omega), val122] at R
  obtain ⟨B, hB⟩ : ∃ B : Nat, b = B := ⟨b.toNat, by omega⟩
  subst hB
  have hdiff : 2 * (B : Int) * ((2 ^ 1073 : Nat) : Int) - ((0x1e866666666666 * 2 ^ 1028 : Nat) : Int) = (((B * 2 ^ 46 - 0x1e866666666666) * 2 ^ 1028 : Nat) : Int) := by
    rw [show (2 : Nat) ^ 1073 = 2 ^ 45 * 2 ^ 1028 by decide +kernel]
    generalize (2 : Nat) ^ 1028 = K
    rw [Int.natCast_mul, Int.natCast_mul, Int.natCast_mul, ← Int.mul_assoc, ← Int.sub_mul]
    congr 1
    omega
  rw [hdiff] at R
  have hpos : 0 < (B * 2 ^ 46 - 0x1e866666666666) * 2 ^ 1028 := Nat.mul_pos (by omega) (Nat.two_pow_pos _)
  have R1 := R (by omega)
  rw [decide_eq_false (by omega), Int.natAbs_natCast] at R1
  obtain ⟨ta, hta, hVa⟩ := V_rep (q := 8 * (B - 123) + 7) (k := 1071) (by omega) (by decide) (by decide)
  obtain ⟨tb, htb, hVb⟩ := V_rep (q := 16 * (B - 123) + 15) (k := 1070) (by omega) (by decide) (by decide)
  have K70 : (2 : Nat) ^ 1070 = 2 ^ 42 * 2 ^ 1028 := by decide +kernel
  obtain ⟨t, hr, ht, hlo, hhi⟩ := right_between (a := ta) (b := tb) R1 (by decide) htb (by
      rw [hVa, p1071K, K70, Nat.one_mul, ← Nat.mul_assoc, ← Nat.mul_assoc]
      exact Nat.mul_le_mul_right _ (by omega)) (by
      rw [hVb, K70, Nat.one_mul, ← Nat.mul_assoc]
      exact Nat.mul_le_mul_right _ (by omega))
  obtain ⟨m', e', hdx, hvx⟩ := decode_pack false ht
  rw [← hr] at hdx
  have hvalx : val (sub (hf (2 * (B : Int))) x122) = (V t : Int) := by
    rw [val_eq hdx, hvx]
    rfl
  have R2 := div_right hdx dec365 (by decide)
  rw [hvalx, val365, Int.natAbs_natCast, Int.natAbs_natCast] at R2
  rw [hVa, p1071K] at hlo
  rw [hVb] at hhi
  have hbb : (false != false) = false := rfl
  rw [hbb] at R2
  -- the floor
  obtain ⟨N, hN⟩ : ∃ N : Nat, N = (4 * B - 489) / 1461 := ⟨_, rfl⟩
  have hN1 : 1461 * N ≤ 4 * B - 489 := by omega
  have hN2 : 4 * B - 489 < 1461 * (N + 1) := by omega
  obtain ⟨tc, htc, hVc⟩ := V_rep (q := N) (k := 1074) (by omega) (by decide) (by decide)
  obtain ⟨td, htd, hVd⟩ := V_rep (q := (N + 1) * 2 ^ 13 - 1) (k := 1061) (by omega) (by decide) (by decide)
  have Dpos : 0 < 1461 * 2 ^ 1072 := Nat.mul_pos (by decide) (Nat.two_pow_pos _)
  obtain ⟨t2, hr2, ht2, hlo2, hhi2⟩ := right_between (a := tc) (b := td) R2 Dpos htd (by
      rw [hVc, p1072K]
      generalize hK : (2 : Nat) ^ 1070 = K at *
      generalize (2 : Nat) ^ 1074 = J
      calc 1461 * (4 * K) * (N * J) = 4 * (1461 * N) * (K * J) := by ac_rfl
        _ ≤ (2 * (8 * (B - 123) + 7)) * (K * J) := Nat.mul_le_mul_right _ (by omega)
        _ = (8 * (B - 123) + 7) * (2 * K) * J := by ac_rfl
        _ ≤ V t * J := Nat.mul_le_mul_right _ hlo) (by
      rw [hVd, p1072K, show (2 : Nat) ^ 1074 = 2 ^ 13 * 2 ^ 1061 by decide +kernel]
      generalize hK : (2 : Nat) ^ 1070 = K at *
      generalize (2 : Nat) ^ 1061 = J
      calc V t * (2 ^ 13 * J) ≤ (16 * (B - 123) + 15) * K * (2 ^ 13 * J) := Nat.mul_le_mul_right _ hhi
        _ = ((16 * (B - 123) + 15) * 2 ^ 13) * (K * J) := by ac_rfl
        _ ≤ (1461 * 4 * ((N + 1) * 2 ^ 13 - 1)) * (K * J) := Nat.mul_le_mul_right _ (by omega)
        _ = 1461 * (4 * K) * (((N + 1) * 2 ^ 13 - 1) * J) := by ac_rfl)
  obtain ⟨m2, e2, hd2, hv2⟩ := decode_pack false ht2
  rw [← hr2] at hd2
  refine ⟨fin_of_decode hd2, ?_⟩
  rw [flr_val hd2, val_eq hd2, hv2]
  have e3 : (4 * (B : Int) - 489) / 1461 = (N : Int) := by omega
  rw [e3, Int.ediv_eq_iff_of_pos (ppos 1074)]
  show ((N : Int)) * _ ≤ (V t2 : Int) ∧ (V t2 : Int) < _
  rw [hVc] at hlo2
  have hhi3 : V t2 < (N + 1) * 2 ^ 1074 := by
    rw [hVd] at hhi2
    rw [show (2 : Nat) ^ 1074 = 2 ^ 13 * 2 ^ 1061 by decide +kernel, ← Nat.mul_assoc]
    have := Nat.mul_lt_mul_of_pos_right (show (N + 1) * 2 ^ 13 - 1 < (N + 1) * 2 ^ 13 by omega) (Nat.two_pow_pos 1061)
    omega
  have g1 : ((N * 2 ^ 1074 : Nat) : Int) ≤ (V t2 : Int) := Int.ofNat_le.mpr hlo2
  have g2 : (V t2 : Int) < (((N + 1) * 2 ^ 1074 : Nat) : Int) := Int.ofNat_lt.mpr hhi3
  rw [Int.natCast_mul] at g1 g2
  rw [Int.natCast_add] at g2
  generalize ((2 ^ 1074 : Nat) : Int) = K at *
  have h9 : ((N : Int) + ((1 : Nat) : Int)) * K = (N : Int) * K + K := by rw [Int.add_mul]; exact congrArg _ (Int.one_mul K)
  rw [h9] at g2
  exact ⟨g1, g2⟩

theorem jul_d {c : Int} (h0 : 0 ≤ c) (h1 : c < 2 ^ 40) : isFinite (mul x365 (ofInt c)) = true ∧ flr (mul x365 (ofInt c)) = 1461 * c / 4 := by
  rw [ofInt_hf (by omega)]
  obtain ⟨m, e, hd, -⟩ := hf_decode (n := 2 * c) (by omega)
  have R := mul_right dec365 hd
  rw [hf_val (by omega), val365, Int.natAbs_natCast, natAbs_mul_nat, decide_eq_false (by omega)] at R
  obtain ⟨B, hB⟩ : ∃ B : Nat, c = B := ⟨c.toNat, by omega⟩
  subst hB
  obtain ⟨ta, hta, hVa⟩ := V_rep (q := 1461 * B) (k := 1072) (by omega) (by decide) (by decide)
  have hr := right_exact R (Nat.two_pow_pos _) hta (by
    rw [hVa, pow1074]
    have : (2 * (B : Int)).natAbs = 2 * B := by omega
    rw [this]
    generalize (2 : Nat) ^ 1072 = K
    generalize (2 : Nat) ^ 1073 = J
    ac_rfl)
  obtain ⟨m2, e2, hd2, hv2⟩ := decode_pack (false != false) hta
  rw [← hr] at hd2
  refine ⟨fin_of_decode hd2, ?_⟩
  rw [flr_val hd2, val_eq hd2, hv2, hVa]
  show ((1461 * B * 2 ^ 1072 : Nat) : Int) / _ = _
  rw [show (2 : Nat) ^ 1074 = 4 * 2 ^ 1072 by decide +kernel, Int.natCast_mul, Int.natCast_mul, Int.natCast_mul]
  exact Int.mul_ediv_mul_of_pos_left _ _ (ppos 1072)

theorem jul_e_all : ((List.range 400).all fun k => isFinite (div (ofInt ((k : Int) + 100)) x306) && flr (div (ofInt ((k : Int) + 100)) x306) == ((k : Int) + 100) * 10000 / 306001) = true := by decide +kernel
theorem jul_e {k : Int} (h0 : 100 ≤ k) (h1 : k < 500) : isFinite (div (ofInt k) x306) = true ∧ flr (div (ofInt k) x306) = k * 10000 / 306001 := by
  have := List.all_eq_true.mp jul_e_all (k - 100).toNat (List.mem_range.mpr (by omega))
  have e : (((k - 100).toNat : Nat) : Int) + 100 = k := by omega
  rw [e, Bool.and_eq_true] at this
  exact ⟨this.1, beq_iff_eq.mp this.2⟩
theorem jul_f_all : ((List.range 20).all fun k => isFinite (mul x306 (ofInt (k : Int))) && flr (mul x306 (ofInt (k : Int))) == 306001 * (k : Int) / 10000) = true := by decide +kernel
theorem jul_f {k : Int} (h0 : 0 ≤ k) (h1 : k < 20) : isFinite (mul x306 (ofInt k)) = true ∧ flr (mul x306 (ofInt k)) = 306001 * k / 10000 := by
  have := List.all_eq_true.mp jul_f_all k.toNat (List.mem_range.mpr (by omega))
  have e : ((k.toNat : Nat) : Int) = k := by omega
  rw [e, Bool.and_eq_true] at this
  exact ⟨this.1, beq_iff_eq.mp this.2⟩

/-- the day in the year, by the month's float sum -/
def gsum (m L d : Int) : UInt64 := add (add (ofFrac (decide (367 * m - 362 < 0) != decide ((12 : Int) < 0)) (367 * m - 362).natAbs (12 : Int).natAbs) (ofInt L)) (ofInt d)
theorem gsum_all : ((List.range 12).all fun m => (List.range 3).all fun L => (List.range 31).all fun d =>
    isFinite (gsum ((m : Int) + 1) ((L : Int) - 2) ((d : Int) + 1)) && flr (gsum ((m : Int) + 1) ((L : Int) - 2) ((d : Int) + 1)) == (367 * ((m : Int) + 1) - 362) / 12 + ((L : Int) - 2) + ((d : Int) + 1)) = true := by decide +kernel
theorem gsum_flr {m L d : Int} (h0 : 1 ≤ m) (h1 : m ≤ 12) (h2 : -2 ≤ L) (h3 : L ≤ 0) (h4 : 1 ≤ d) (h5 : d ≤ 31) :
    isFinite (gsum m L d) = true ∧ flr (gsum m L d) = (367 * m - 362) / 12 + L + d := by
  have := List.all_eq_true.mp (List.all_eq_true.mp (List.all_eq_true.mp gsum_all (m - 1).toNat (List.mem_range.mpr (by omega))) (L + 2).toNat (List.mem_range.mpr (by omega))) (d - 1).toNat (List.mem_range.mpr (by omega))
  have e1 : (((m - 1).toNat : Nat) : Int) + 1 = m := by omega
  have e2 : (((L + 2).toNat : Nat) : Int) - 2 = L := by omega
  have e3 : (((d - 1).toNat : Nat) : Int) + 1 = d := by omega
  rw [e1, e2, e3, Bool.and_eq_true] at this
  exact ⟨this.1, beq_iff_eq.mp this.2⟩
end

/- Wk -/
open PySem.Calls
set_option exponentiation.threshold 3000

theorem lit05 : (0x3fe0000000000000 : UInt64) = hf 1 := by decide +kernel
theorem litG : (0x413a445180000000 : UInt64) = hf 3442851 := by decide +kernel
theorem litH : (0x41153d6e00000000 : UInt64) = hf 695991 := by decide +kernel
theorem lit98 : (0x40f80c0000000000 : UInt64) = hf 196992 := by decide +kernel
theorem lit35 : (0x41812785b8000000 : UInt64) = hf 71950702 := by decide +kernel

section
variable {prog : Program} {w : World} {A : Around} {E : Value → Shared → Prop} {s : Shared} {t u : Tok} {Q : Value → Shared → Prop} {x y : UInt64} {a b c : Int}

theorem notOver {n : Int} (h : n.natAbs < 2 ^ 53) : ¬ PySem.Flt.Over n := by
  unfold PySem.Flt.Over
  have h1 : (2 : Nat) ^ 53 ≤ 2 ^ 1024 - 2 ^ 970 := by decide +kernel
  omega
theorem small1023 {n : Nat} (h : n < 2 ^ 53) : n < 2 ^ 1023 := Nat.lt_of_lt_of_le h (by decide +kernel)

theorem s_add_ff (hx : x = hf a) (hy : y = hf b) (ha : a.natAbs < 2 ^ 53) (hb : b.natAbs < 2 ^ 53) (hc : (a + b).natAbs < 2 ^ 53) (h : Q (.float (hf (a + b)) s.toks) { s with toks := s.toks + 1 }) :
    wpAny (model prog w) A (binaryOp .Add (.float x t) (.float y u)) Q E s := by
  subst hx; subst hy
  exact add_float (by rw [add_hf ha hb hc]; exact h)
theorem s_iadd_ff (hx : x = hf a) (hy : y = hf b) (ha : a.natAbs < 2 ^ 53) (hb : b.natAbs < 2 ^ 53) (hc : (a + b).natAbs < 2 ^ 53) (h : Q (.float (hf (a + b)) s.toks) { s with toks := s.toks + 1 }) :
    wpAny (model prog w) A (inplaceOp .Add (.float x t) (.float y u)) Q E s := by
  subst hx; subst hy
  exact iadd_float (by rw [add_hf ha hb hc]; exact h)
theorem s_sub_ff (hx : x = hf a) (hy : y = hf b) (ha : a.natAbs < 2 ^ 53) (hb : b.natAbs < 2 ^ 53) (hc : (a - b).natAbs < 2 ^ 53) (h : Q (.float (hf (a - b)) s.toks) { s with toks := s.toks + 1 }) :
    wpAny (model prog w) A (binaryOp .Sub (.float x t) (.float y u)) Q E s := by
  subst hx; subst hy
  exact sub_float (by rw [sub_hf ha hb hc]; exact h)
theorem s_add_fi (hx : x = hf a) (ha : a.natAbs < 2 ^ 53) (hb : (2 * b).natAbs < 2 ^ 53) (hc : (a + 2 * b).natAbs < 2 ^ 53) (h : Q (.float (hf (a + 2 * b)) s.toks) { s with toks := s.toks + 1 }) :
    wpAny (model prog w) A (binaryOp .Add (.float x t) (.int b u)) Q E s := by
  subst hx
  exact add_fi_fits (small1023 (by omega)) (by rw [ofInt_hf (by omega), add_hf ha hb hc]; exact h)
theorem s_iadd_fi (hx : x = hf a) (ha : a.natAbs < 2 ^ 53) (hb : (2 * b).natAbs < 2 ^ 53) (hc : (a + 2 * b).natAbs < 2 ^ 53) (h : Q (.float (hf (a + 2 * b)) s.toks) { s with toks := s.toks + 1 }) :
    wpAny (model prog w) A (inplaceOp .Add (.float x t) (.int b u)) Q E s := by
  subst hx
  refine PySem.Flt.iadd_fi_1 (PySem.Flt.fin_of_fits (notOver (by omega))) ?_
  rw [ofInt_hf (by omega), add_hf ha hb hc]
  exact h
theorem s_add_if (hx : x = hf a) (ha : a.natAbs < 2 ^ 53) (hb : (2 * b).natAbs < 2 ^ 53) (hc : (2 * b + a).natAbs < 2 ^ 53) (h : Q (.float (hf (2 * b + a)) s.toks) { s with toks := s.toks + 1 }) :
    wpAny (model prog w) A (binaryOp .Add (.int b u) (.float x t)) Q E s := by
  subst hx
  exact add_if_fits (small1023 (by omega)) (by rw [ofInt_hf (by omega), add_hf hb ha hc]; exact h)
theorem s_sub_fi (hx : x = hf a) (ha : a.natAbs < 2 ^ 53) (hb : (2 * b).natAbs < 2 ^ 53) (hc : (a - 2 * b).natAbs < 2 ^ 53) (h : Q (.float (hf (a - 2 * b)) s.toks) { s with toks := s.toks + 1 }) :
    wpAny (model prog w) A (binaryOp .Sub (.float x t) (.int b u)) Q E s := by
  subst hx
  exact sub_fi_fits (small1023 (by omega)) (by rw [ofInt_hf (by omega), sub_hf ha hb hc]; exact h)
theorem s_mul_fi (hx : x = hf a) (ha : a.natAbs < 2 ^ 53) (hb : (2 * b).natAbs < 2 ^ 53) (hp : 0 ≤ a) (hq : 0 ≤ b) (hc : (a * b).natAbs < 2 ^ 53) (h : Q (.float (hf (a * b)) s.toks) { s with toks := s.toks + 1 }) :
    wpAny (model prog w) A (binaryOp .Mult (.float x t) (.int b u)) Q E s := by
  subst hx
  exact mul_fi_fits (small1023 (by omega)) (by rw [ofInt_hf (by omega), mul_hf ha hb hc hp hq]; exact h)
theorem s_mul_if (hx : x = hf a) (ha : a.natAbs < 2 ^ 53) (hb : (2 * b).natAbs < 2 ^ 53) (hp : 0 ≤ a) (hq : 0 ≤ b) (hc : (b * a).natAbs < 2 ^ 53) (h : Q (.float (hf (b * a)) s.toks) { s with toks := s.toks + 1 }) :
    wpAny (model prog w) A (binaryOp .Mult (.int b u) (.float x t)) Q E s := by
  subst hx
  refine mul_if_fits (small1023 (by omega)) ?_
  rw [ofInt_hf (by omega)]
  have e : PySem.Float64.mul (hf (2 * b)) (hf a) = hf (b * a) := by
    obtain ⟨m, e, hd, -⟩ := hf_decode ha
    obtain ⟨k, f, hd', -⟩ := hf_decode hb
    have R := PySem.Float64.mul_right hd' hd
    rw [hf_val ha, hf_val hb, natAbs_mul_nat, natAbs_mul_nat] at R
    refine hf_of_right hc ?_ R (Nat.two_pow_pos _) ?_
    · have h1 : ¬ a < 0 := by omega
      have h2 : ¬ 2 * b < 0 := by omega
      have h3 : ¬ b * a < 0 := by have := Int.mul_nonneg hq hp; omega
      simp [h1, h2, h3]
    · rw [Int.natAbs_mul, Int.natAbs_mul, pow1074]
      show 2 * b.natAbs * 2 ^ 1073 * (a.natAbs * 2 ^ 1073) = 2 * 2 ^ 1073 * (b.natAbs * a.natAbs * 2 ^ 1073)
      generalize (2 : Nat) ^ 1073 = K
      ac_rfl
  rw [e]
  exact h
theorem s_mul_ff (hx : x = hf a) (hy : y = hf (2 * b)) (ha : a.natAbs < 2 ^ 53) (hb : (2 * b).natAbs < 2 ^ 53) (hp : 0 ≤ a) (hq : 0 ≤ b) (hc : (a * b).natAbs < 2 ^ 53) (h : Q (.float (hf (a * b)) s.toks) { s with toks := s.toks + 1 }) :
    wpAny (model prog w) A (binaryOp .Mult (.float x t) (.float y u)) Q E s := by
  subst hx; subst hy
  exact mul_float (by rw [mul_hf ha hb hc hp hq]; exact h)

/-- a quotient in sight: its floor is known -/
structure Flo (x : UInt64) (n : Int) : Prop where
  fin : PySem.Float64.isFinite x = true
  flo : flr x = n

theorem s_floor (hx : Flo x c) (hA : A.handled = none) (h : Q (.int c s.toks) { s with toks := s.toks + 1 }) : wpAny (model prog w) A (call (.builtin "math.floor") [.float x t]) Q E s := by
  refine PySem.Flt.call_floor_float hA (fun q => ?_) (fun q => ?_) (fun _ => ?_)
  · have := PySem.Flt.not_nan_of_finite hx.fin; rw [this] at q; cases q
  · have := PySem.Flt.not_inf_of_finite hx.fin; rw [this] at q; cases q
  · have e : PySem.Flt.toInt PySem.Float64.floorOf x = c := hx.flo
    rw [e]
    exact h
theorem flo_hf (hx : x = hf a) (ha : a.natAbs < 2 ^ 53) (hc : c = a / 2) : Flo x c := by subst hx; subst hc; exact ⟨fin_hf ha, flr_hf ha⟩
theorem s_int (hx : x = hf a) (ha : a.natAbs < 2 ^ 53) (hp : 0 ≤ a) (hA : A.handled = none) (h : Q (.int (a / 2) s.toks) { s with toks := s.toks + 1 }) : wpAny (model prog w) A (call (.type "int") [.float x t]) Q E s := by
  subst hx
  have hf' := fin_hf ha
  refine PySem.Flt.call_int_float3 hA (fun q => ?_) (fun q => ?_) (fun _ => ?_)
  · have := PySem.Flt.not_nan_of_finite hf'; rw [this] at q; cases q
  · have := PySem.Flt.not_inf_of_finite hf'; rw [this] at q; cases q
  · rw [trunc_hf ha hp]
    exact h

theorem s_div_ii {k : Nat} (hA : A.handled = none) (hb : 0 < b) (hc : b.natAbs ≤ 2 ^ k) (hc2 : k ≤ 1000) (hB : (a.natAbs / b.natAbs + 1) * 2 ^ k ≤ 2 ^ 53) (hF : a.natAbs < 2 ^ 52)
    (h : ∀ z, z = PySem.Float64.ofFrac (decide (a < 0) != decide (b < 0)) a.natAbs b.natAbs → Flo z (a / b) → Q (.float z s.toks) { s with toks := s.toks + 1 }) : wpAny (model prog w) A (binaryOp .Div (.int a t) (.int b u)) Q E s := by
  refine PySem.Flt.div_ii_fits hA (small1023 (by omega)) (fun q => by omega) (fun _ _ => ?_)
  have hle : a.natAbs / b.natAbs ≤ a.natAbs := Nat.div_le_self _ _
  obtain ⟨h1, h2⟩ := frac_floor hb hc hc2 hB (by omega)
  exact h _ rfl ⟨h1, h2⟩
theorem s_div_fi {k : Nat} (hx : x = hf a) (hA : A.handled = none) (ha : a.natAbs < 2 ^ 52) (hb : 0 < b) (hb2 : b < 2 ^ 51) (hc : 2 * b.natAbs ≤ 2 ^ k) (hc2 : k ≤ 1000) (hB : (a.natAbs / (2 * b.natAbs) + 1) * 2 ^ k ≤ 2 ^ 53)
    (h : ∀ z, z = PySem.Float64.div (hf a) (PySem.Float64.ofInt b) → Flo z (a / (2 * b)) → Q (.float z s.toks) { s with toks := s.toks + 1 }) : wpAny (model prog w) A (binaryOp .Div (.float x t) (.int b u)) Q E s := by
  subst hx
  refine PySem.Flt.truediv_fi hA (fun q => absurd q (notOver (by omega))) (fun q => by omega) (fun _ _ => ?_)
  have hle : a.natAbs / (2 * b.natAbs) ≤ a.natAbs := Nat.div_le_self _ _
  obtain ⟨h1, h2⟩ := div_hf_half (c := k) (by omega) hb (by omega) hc hc2 hB (by omega)
  exact h _ rfl ⟨h1, h2⟩
/-- a float of a whole number p over a float of a whole number b -/
theorem s_div_ff {k : Nat} {p : Int} (hx : x = hf a) (hap : a = 2 * p) (hy : y = hf (2 * b)) (hA : A.handled = none) (ha : a.natAbs < 2 ^ 53) (hb : 0 < b) (hb2 : b < 2 ^ 51) (hc : b.natAbs ≤ 2 ^ k) (hc2 : k ≤ 1000) (hB : (p.natAbs / b.natAbs + 1) * 2 ^ k ≤ 2 ^ 53)
    (h : ∀ z, Flo z (p / b) → Q (.float z s.toks) { s with toks := s.toks + 1 }) : wpAny (model prog w) A (binaryOp .Div (.float x t) (.float y u)) Q E s := by
  subst hx; subst hy; subst hap
  refine truediv_float_or hA (fun q => ?_) (fun _ => ?_)
  · rw [isZero_hf (by omega)] at q
    have := of_decide_eq_true q
    omega
  · have hle : p.natAbs / b.natAbs ≤ p.natAbs := Nat.div_le_self _ _
    obtain ⟨h1, h2⟩ := div_hf (a := 2 * p) (b := b) (p := p) (q := b.natAbs) (c := k) ha hb (by omega) (by omega) (by
      rw [Int.natAbs_mul]
      show 2 * p.natAbs * b.natAbs = p.natAbs * (2 * b.natAbs)
      ac_rfl) (by omega) hc hc2 hB (by omega)
    have e : ((b.natAbs : Nat) : Int) = b := by omega
    rw [e] at h2
    exact h _ ⟨h1, h2⟩
theorem s_mod_fi (hx : x = hf a) (hA : A.handled = none) (ha : a.natAbs < 2 ^ 53) (hb : 0 < b) (hb2 : b < 2 ^ 51) (h : Q (.float (hf (a % (2 * b))) s.toks) { s with toks := s.toks + 1 }) : wpAny (model prog w) A (binaryOp .Mod (.float x t) (.int b u)) Q E s := by
  subst hx
  refine PySem.Flt.mod_fi hA (fun q => absurd q (notOver (by omega))) (fun q => by omega) (fun _ _ => ?_)
  rw [mod_hf ha hb hb2]
  exact h

theorem s_lt_ff (hx : x = hf a) (hy : y = hf b) (ha : a.natAbs < 2 ^ 53) (hb : b.natAbs < 2 ^ 53) (h : Q (.bool (decide (a < b))) s) : wpAny (model prog w) A (compareOp .Lt (.float x t) (.float y u)) Q E s := by
  subst hx; subst hy
  refine AutoFloatOps.lt_0 ?_
  have e : (PySem.Float64.cmp (hf a) (hf b) == some Ordering.lt) = decide (a < b) := by
    rw [cmp_hf ha hb]
    rcases Int.lt_trichotomy a b with h | h | h
    · rw [Int.compare_eq_lt.mpr h]; simp [h]
    · subst h; simp
    · rw [Int.compare_eq_gt.mpr h]; have : ¬ a < b := by omega
      simp [this]
  rw [e]; exact h
theorem s_gt_ff (hx : x = hf a) (hy : y = hf b) (ha : a.natAbs < 2 ^ 53) (hb : b.natAbs < 2 ^ 53) (h : Q (.bool (decide (b < a))) s) : wpAny (model prog w) A (compareOp .Gt (.float x t) (.float y u)) Q E s := by
  subst hx; subst hy
  refine AutoFloatOps.gt_0 ?_
  have e : (PySem.Float64.cmp (hf a) (hf b) == some Ordering.gt) = decide (b < a) := by
    rw [cmp_hf ha hb]
    rcases Int.lt_trichotomy a b with h | h | h
    · rw [Int.compare_eq_lt.mpr h]; have : ¬ b < a := by omega
      simp [this]
    · subst h; simp
    · rw [Int.compare_eq_gt.mpr h]; simp [h]
  rw [e]; exact h
theorem s_ge_ff (hx : x = hf a) (hy : y = hf b) (ha : a.natAbs < 2 ^ 53) (hb : b.natAbs < 2 ^ 53) (h : Q (.bool (decide (b ≤ a))) s) : wpAny (model prog w) A (compareOp .GtE (.float x t) (.float y u)) Q E s := by
  subst hx; subst hy
  refine AutoFloatOps.ge_0 ?_
  have e : (PySem.Float64.cmp (hf a) (hf b) == some Ordering.gt || PySem.Float64.cmp (hf a) (hf b) == some Ordering.eq) = decide (b ≤ a) := by
    rw [cmp_hf ha hb]
    rcases Int.lt_trichotomy a b with h | h | h
    · rw [Int.compare_eq_lt.mpr h]; have : ¬ b ≤ a := by omega
      simp [this]
    · subst h; simp
    · rw [Int.compare_eq_gt.mpr h]; have : b ≤ a := by omega
      simp [this]
  rw [e]; exact h
theorem s_lt_fi (hx : x = hf a) (ha : a.natAbs < 2 ^ 53) (h : Q (.bool (decide (a < 2 * b))) s) : wpAny (model prog w) A (compareOp .Lt (.float x t) (.int b u)) Q E s := by
  subst hx
  refine lt_fi ?_
  have e : (PySem.Float64.cmpInt (hf a) b == some Ordering.lt) = decide (a < 2 * b) := by
    rw [cmpInt_hf ha]
    rcases Int.lt_trichotomy a (2 * b) with h | h | h
    · rw [Int.compare_eq_lt.mpr h]; simp [h]
    · subst h; simp
    · rw [Int.compare_eq_gt.mpr h]; have : ¬ a < 2 * b := by omega
      simp [this]
  rw [e]; exact h
theorem s_ne_fi (hx : x = hf a) (ha : a.natAbs < 2 ^ 53) (h : Q (.bool (decide (a ≠ 2 * b))) s) : wpAny (model prog w) A (compareOp .NotEq (.float x t) (.int b u)) Q E s := by
  subst hx
  refine ne_fi ?_
  have e : (PySem.Float64.cmpInt (hf a) b != some Ordering.eq) = decide (a ≠ 2 * b) := by
    rw [cmpInt_hf ha]
    rcases Int.lt_trichotomy a (2 * b) with h | h | h
    · rw [Int.compare_eq_lt.mpr h]; have : a ≠ 2 * b := by omega
      simp [this]
    · subst h; simp
    · rw [Int.compare_eq_gt.mpr h]; have : a ≠ 2 * b := by omega
      simp [this]
  rw [e]; exact h

theorem s_eq_fi (hx : x = hf a) (ha : a.natAbs < 2 ^ 53) (h : Q (.bool (decide (a = 2 * b))) s) : wpAny (model prog w) A (compareOp .Eq (.float x t) (.int b u)) Q E s := by
  subst hx
  refine eq_fi ?_
  have e : (PySem.Float64.cmpInt (hf a) b == some Ordering.eq) = decide (a = 2 * b) := by
    rw [cmpInt_hf ha]
    rcases Int.lt_trichotomy a (2 * b) with h | h | h
    · rw [Int.compare_eq_lt.mpr h]; have : a ≠ 2 * b := by omega
      simp [this]
    · subst h; simp
    · rw [Int.compare_eq_gt.mpr h]; have : a ≠ 2 * b := by omega
      simp [this]
  rw [e]; exact h

theorem s_mod_ii (hb : 0 < b) (h : Q (.int (a % b) s.toks) { s with toks := s.toks + 1 }) : wpAny (model prog w) A (binaryOp .Mod (.int a t) (.int b u)) Q E s :=
  mod_int' (by omega) (by rw [Int.fmod_eq_emod_of_nonneg _ (by omega)]; exact h)
theorem s_fdiv_ii (hb : 0 < b) (hs : b.natAbs.log2 < 30) (h : Q (.int (a / b) s.toks) { s with toks := s.toks + 1 }) : wpAny (model prog w) A (binaryOp .FloorDiv (.int a t) (.int b u)) Q E s :=
  floordiv_int (by omega) (by rw [Int.fdiv_eq_ediv_of_nonneg _ (by omega)]; exact h) (Or.inl (PyProof.noPylong_of_log2 (by omega)))
end

/-! the walk's own lines -/

local macro_rules | `(tactic| walk_at "binaryOp Mod int int") => `(tactic| (refine' s_mod_ii ?h1 ?_; (case h1 => omega); (try dsimp only)))
local macro_rules | `(tactic| walk_at "binaryOp FloorDiv int int") => `(tactic| (refine' s_fdiv_ii ?h1 ?h2 ?_; (case h1 => omega); (case h2 => decide +kernel); (try dsimp only)))

theorem s_div_n {prog : Program} {w : World} {A : Around} {E : Value → Shared → Prop} {s : Shared} {t u : Tok} {Q : Value → Shared → Prop} {a b : Int} (nb k : Nat) (hb : b = (nb : Int)) (h0 : 0 < nb) (hc : nb ≤ 2 ^ k) (hc4 : 2 ^ k ≤ 2 * nb) (hk : k ≤ 20) (ha : a.natAbs < 2 ^ 50) (hA : A.handled = none)
    (h : ∀ z, z = PySem.Float64.ofFrac (decide (a < 0) != decide (b < 0)) a.natAbs b.natAbs → Flo z (a / b) → Q (.float z s.toks) { s with toks := s.toks + 1 }) : wpAny (model prog w) A (binaryOp .Div (.int a t) (.int b u)) Q E s := by
  subst hb
  have h2 : (2 : Nat) ^ k ≤ 2 ^ 20 := Nat.pow_le_pow_right (by decide) hk
  refine s_div_ii (k := k) hA (by omega) (by omega) (by omega) ?_ (by omega) h
  have e : (nb : Int).natAbs = nb := by omega
  rw [e, Nat.add_mul, Nat.one_mul]
  have h3 : a.natAbs / nb * 2 ^ k ≤ a.natAbs / nb * (2 * nb) := Nat.mul_le_mul_left _ hc4
  have h4 : a.natAbs / nb * (2 * nb) = 2 * (a.natAbs / nb * nb) := by ac_rfl
  have h5 : a.natAbs / nb * nb ≤ a.natAbs := Nat.div_mul_le_self _ _
  omega
theorem s_div_m {prog : Program} {w : World} {A : Around} {E : Value → Shared → Prop} {s : Shared} {t u : Tok} {Q : Value → Shared → Prop} {x : UInt64} {a b : Int} (nb k : Nat) (hx : x = hf a) (hb : b = (nb : Int)) (h0 : 0 < nb) (hc : 2 * nb ≤ 2 ^ k) (hc4 : 2 ^ k ≤ 4 * nb) (hk : k ≤ 20) (ha : a.natAbs < 2 ^ 50) (hA : A.handled = none)
    (h : ∀ z, z = PySem.Float64.div (hf a) (PySem.Float64.ofInt b) → Flo z (a / (2 * b)) → Q (.float z s.toks) { s with toks := s.toks + 1 }) : wpAny (model prog w) A (binaryOp .Div (.float x t) (.int b u)) Q E s := by
  subst hb
  have h2 : (2 : Nat) ^ k ≤ 2 ^ 20 := Nat.pow_le_pow_right (by decide) hk
  refine s_div_fi (k := k) hx hA (by omega) (by omega) (by omega) (by omega) (by omega) ?_ h
  have e : (nb : Int).natAbs = nb := by omega
  rw [e, Nat.add_mul, Nat.one_mul]
  have h3 : a.natAbs / (2 * nb) * 2 ^ k ≤ a.natAbs / (2 * nb) * (4 * nb) := Nat.mul_le_mul_left _ hc4
  have h4 : a.natAbs / (2 * nb) * (4 * nb) = 2 * (a.natAbs / (2 * nb) * (2 * nb)) := by rw [show 4 * nb = 2 * (2 * nb) by omega]; ac_rfl
  have h5 : a.natAbs / (2 * nb) * (2 * nb) ≤ a.natAbs := Nat.div_mul_le_self _ _
  omega
local macro_rules | `(tactic| tm_at "mine divk") => `(tactic| first
  | (refine' s_div_n 19 5 ?h1 ?h2 ?h3 ?h3b ?h4 ?h5 ?h6 ?_; (case h1 => omega); (case h2 => decide); (case h3 => decide); (case h3b => decide); (case h4 => decide); (case h5 => omega); (case h6 => k_dflt rfl))
  | (refine' s_div_n 4 2 ?h1 ?h2 ?h3 ?h3b ?h4 ?h5 ?h6 ?_; (case h1 => omega); (case h2 => decide); (case h3 => decide); (case h3b => decide); (case h4 => decide); (case h5 => omega); (case h6 => k_dflt rfl))
  | (refine' s_div_n 100 7 ?h1 ?h2 ?h3 ?h3b ?h4 ?h5 ?h6 ?_; (case h1 => omega); (case h2 => decide); (case h3 => decide); (case h3b => decide); (case h4 => decide); (case h5 => omega); (case h6 => k_dflt rfl))
  | (refine' s_div_n 400 9 ?h1 ?h2 ?h3 ?h3b ?h4 ?h5 ?h6 ?_; (case h1 => omega); (case h2 => decide); (case h3 => decide); (case h3b => decide); (case h4 => decide); (case h5 => omega); (case h6 => k_dflt rfl))
  | (refine' s_div_n 12 4 ?h1 ?h2 ?h3 ?h3b ?h4 ?h5 ?h6 ?_; (case h1 => omega); (case h2 => decide); (case h3 => decide); (case h3b => decide); (case h4 => decide); (case h5 => omega); (case h6 => k_dflt rfl))
  | (refine' s_div_n 25920 15 ?h1 ?h2 ?h3 ?h3b ?h4 ?h5 ?h6 ?_; (case h1 => omega); (case h2 => decide); (case h3 => decide); (case h3b => decide); (case h4 => decide); (case h5 => omega); (case h6 => k_dflt rfl)))
local macro_rules | `(tactic| walk_at "binaryOp Div int int") => `(tactic| (tm_at "mine divk"; intro z' hZ' hz'; (try dsimp only)))

abbrev Ret (h₀ : Heap) (L : Addr) (m : Str → Option Value) (news : List (Addr × Obj)) (s : Shared) (Q : Value → Shared → Prop) (R : Tok → Value) : Prop :=
  ∀ (t : Tok) (h' : Heap) (tk' : Nat), Fr h₀ L h' m → News h₀ L h' news → Q (R t) { s with heap := h', toks := tk' }

abbrev Ask (w : World) (D : Nat) (f : Addr) (vs : List Value) (R : Tok → Value) : Prop :=
  ∀ (p : Program) (loose : List Str) (mean : ExcName → Option Value) (mg mb : Str → Option Value) (dp un : Nat) (gd : Option (List Code)) (cn : Str) (cs : Scope) (a : Addr) (ccd : Value) (cl : List (Str × Addr)) (outer : List Env) (A₀ : Around) (base h₀ : Heap) (L : Addr) (m : Str → Option Value) (news : List (Addr × Obj)) (s : Shared) (Q E : Value → Shared → Prop),
    Below A₀ base outer h₀ → Fr h₀ L s.heap m → (hd.heap_39 w.params).In h₀ → News h₀ L s.heap news → Top p loose mean mg mb h₀ → cs.kind = .function →
    dp + D < recursionLimit → un + 8 * D < cLine → Ret h₀ L m news s Q R →
      wpAny (model PySem.Challenge.pw_ad5029_01 w) (ktrTop dp un gd cn cs L a ccd cl outer) (call (.ref f) vs) Q E s

section
variable {h₀ h' : Heap} {L : Addr} {m : Str → Option Value} {news : List (Addr × Obj)} {s : Shared} {Q : Value → Shared → Prop} {t : Tok} {tk' : Nat}
theorem ret_f {x y : Int} (hret : Ret h₀ L m news s Q (fun t => .float (hf x) t)) (e : y = x) (F : Fr h₀ L h' m) (N : News h₀ L h' news) : Q (.float (hf y) t) { s with heap := h', toks := tk' } := by
  subst e
  exact hret t h' tk' F N
theorem ret_i {x y : Int} (hret : Ret h₀ L m news s Q (fun t => .int x t)) (e : y = x) (F : Fr h₀ L h' m) (N : News h₀ L h' news) : Q (.int y t) { s with heap := h', toks := tk' } := by
  subst e
  exact hret t h' tk' F N
theorem ret_b {x y : Bool} (hret : Ret h₀ L m news s Q (fun _ => .bool x)) (e : y = x) (F : Fr h₀ L h' m) (N : News h₀ L h' news) : Q (.bool y) { s with heap := h', toks := tk' } := by
  subst e
  exact hret 0 h' tk' F N
end
theorem fill : PySem.Challenge.rw_ad5029_01 = PySem.Challenge.rw_ad5029_01 ∧ hd.heap_39 = hd.heap_39 := by
  k_fill
  exact ⟨rfl, rfl⟩

/- Wk2 -/
/-- the float of a whole number -/
@[irreducible] def fw (n : Int) : UInt64 := hf (2 * n)
/-- the float of a whole number and a half -/
@[irreducible] def fh (n : Int) : UInt64 := hf (2 * n + 1)
theorem fw_eq (n : Int) : fw n = hf (2 * n) := by unfold fw; rfl
theorem fh_eq (n : Int) : fh n = hf (2 * n + 1) := by unfold fh; rfl
theorem hw_of {a n : Int} (h : a = 2 * n) : hf a = fw n := by rw [fw_eq, h]
theorem hh_of {a n : Int} (h : a = 2 * n + 1) : hf a = fh n := by rw [fh_eq, h]
theorem kit05 : (0x3fe0000000000000 : UInt64) = fh 0 := by decide +kernel
theorem kitG : (0x413a445180000000 : UInt64) = fh 1721425 := by decide +kernel
theorem kitH : (0x41153d6e00000000 : UInt64) = fh 347995 := by decide +kernel
theorem kit98 : (0x40f80c0000000000 : UInt64) = fw 98496 := by decide +kernel
theorem kit35 : (0x41812785b8000000 : UInt64) = fw 35975351 := by decide +kernel
section
variable {prog : Program} {w : World} {A : Around} {E : Value → Shared → Prop} {s : Shared} {t u : Tok} {Q : Value → Shared → Prop} {x y : UInt64} {a b c : Int}
theorem r_add_ww (hx : x = fw a) (hy : y = fw b) (ha : a.natAbs < 2 ^ 51) (hb : b.natAbs < 2 ^ 51) (h : Q (.float (fw (a + b)) s.toks) { s with toks := s.toks + 1 }) : wpAny (model prog w) A (binaryOp .Add (.float x t) (.float y u)) Q E s := by
  rw [fw_eq] at hx; rw [fw_eq] at hy
  exact s_add_ff hx hy (by omega) (by omega) (by omega) (by rw [hw_of (n := a + b) (by omega)]; exact h)
theorem r_add_wh (hx : x = fw a) (hy : y = fh b) (ha : a.natAbs < 2 ^ 51) (hb : b.natAbs < 2 ^ 51) (h : Q (.float (fh (a + b)) s.toks) { s with toks := s.toks + 1 }) : wpAny (model prog w) A (binaryOp .Add (.float x t) (.float y u)) Q E s := by
  rw [fw_eq] at hx; rw [fh_eq] at hy
  exact s_add_ff hx hy (by omega) (by omega) (by omega) (by rw [hh_of (n := a + b) (by omega)]; exact h)
theorem r_add_hw (hx : x = fh a) (hy : y = fw b) (ha : a.natAbs < 2 ^ 51) (hb : b.natAbs < 2 ^ 51) (h : Q (.float (fh (a + b)) s.toks) { s with toks := s.toks + 1 }) : wpAny (model prog w) A (binaryOp .Add (.float x t) (.float y u)) Q E s := by
  rw [fh_eq] at hx; rw [fw_eq] at hy
  exact s_add_ff hx hy (by omega) (by omega) (by omega) (by rw [hh_of (n := a + b) (by omega)]; exact h)
theorem r_add_hh (hx : x = fh a) (hy : y = fh b) (ha : a.natAbs < 2 ^ 51) (hb : b.natAbs < 2 ^ 51) (h : Q (.float (fw (a + b + 1)) s.toks) { s with toks := s.toks + 1 }) : wpAny (model prog w) A (binaryOp .Add (.float x t) (.float y u)) Q E s := by
  rw [fh_eq] at hx; rw [fh_eq] at hy
  exact s_add_ff hx hy (by omega) (by omega) (by omega) (by rw [hw_of (n := a + b + 1) (by omega)]; exact h)
theorem r_sub_ww (hx : x = fw a) (hy : y = fw b) (ha : a.natAbs < 2 ^ 51) (hb : b.natAbs < 2 ^ 51) (h : Q (.float (fw (a - b)) s.toks) { s with toks := s.toks + 1 }) : wpAny (model prog w) A (binaryOp .Sub (.float x t) (.float y u)) Q E s := by
  rw [fw_eq] at hx; rw [fw_eq] at hy
  exact s_sub_ff hx hy (by omega) (by omega) (by omega) (by rw [hw_of (n := a - b) (by omega)]; exact h)
theorem r_sub_wh (hx : x = fw a) (hy : y = fh b) (ha : a.natAbs < 2 ^ 51) (hb : b.natAbs < 2 ^ 51) (h : Q (.float (fh (a - b - 1)) s.toks) { s with toks := s.toks + 1 }) : wpAny (model prog w) A (binaryOp .Sub (.float x t) (.float y u)) Q E s := by
  rw [fw_eq] at hx; rw [fh_eq] at hy
  exact s_sub_ff hx hy (by omega) (by omega) (by omega) (by rw [hh_of (n := a - b - 1) (by omega)]; exact h)
theorem r_sub_hw (hx : x = fh a) (hy : y = fw b) (ha : a.natAbs < 2 ^ 51) (hb : b.natAbs < 2 ^ 51) (h : Q (.float (fh (a - b)) s.toks) { s with toks := s.toks + 1 }) : wpAny (model prog w) A (binaryOp .Sub (.float x t) (.float y u)) Q E s := by
  rw [fh_eq] at hx; rw [fw_eq] at hy
  exact s_sub_ff hx hy (by omega) (by omega) (by omega) (by rw [hh_of (n := a - b) (by omega)]; exact h)
theorem r_sub_hh (hx : x = fh a) (hy : y = fh b) (ha : a.natAbs < 2 ^ 51) (hb : b.natAbs < 2 ^ 51) (h : Q (.float (fw (a - b)) s.toks) { s with toks := s.toks + 1 }) : wpAny (model prog w) A (binaryOp .Sub (.float x t) (.float y u)) Q E s := by
  rw [fh_eq] at hx; rw [fh_eq] at hy
  exact s_sub_ff hx hy (by omega) (by omega) (by omega) (by rw [hw_of (n := a - b) (by omega)]; exact h)
theorem r_iadd_ww (hx : x = fw a) (hy : y = fw b) (ha : a.natAbs < 2 ^ 51) (hb : b.natAbs < 2 ^ 51) (h : Q (.float (fw (a + b)) s.toks) { s with toks := s.toks + 1 }) : wpAny (model prog w) A (inplaceOp .Add (.float x t) (.float y u)) Q E s := by
  rw [fw_eq] at hx; rw [fw_eq] at hy
  exact s_iadd_ff hx hy (by omega) (by omega) (by omega) (by rw [hw_of (n := a + b) (by omega)]; exact h)
theorem r_iadd_wh (hx : x = fw a) (hy : y = fh b) (ha : a.natAbs < 2 ^ 51) (hb : b.natAbs < 2 ^ 51) (h : Q (.float (fh (a + b)) s.toks) { s with toks := s.toks + 1 }) : wpAny (model prog w) A (inplaceOp .Add (.float x t) (.float y u)) Q E s := by
  rw [fw_eq] at hx; rw [fh_eq] at hy
  exact s_iadd_ff hx hy (by omega) (by omega) (by omega) (by rw [hh_of (n := a + b) (by omega)]; exact h)
theorem r_iadd_hw (hx : x = fh a) (hy : y = fw b) (ha : a.natAbs < 2 ^ 51) (hb : b.natAbs < 2 ^ 51) (h : Q (.float (fh (a + b)) s.toks) { s with toks := s.toks + 1 }) : wpAny (model prog w) A (inplaceOp .Add (.float x t) (.float y u)) Q E s := by
  rw [fh_eq] at hx; rw [fw_eq] at hy
  exact s_iadd_ff hx hy (by omega) (by omega) (by omega) (by rw [hh_of (n := a + b) (by omega)]; exact h)
theorem r_iadd_hh (hx : x = fh a) (hy : y = fh b) (ha : a.natAbs < 2 ^ 51) (hb : b.natAbs < 2 ^ 51) (h : Q (.float (fw (a + b + 1)) s.toks) { s with toks := s.toks + 1 }) : wpAny (model prog w) A (inplaceOp .Add (.float x t) (.float y u)) Q E s := by
  rw [fh_eq] at hx; rw [fh_eq] at hy
  exact s_iadd_ff hx hy (by omega) (by omega) (by omega) (by rw [hw_of (n := a + b + 1) (by omega)]; exact h)
theorem r_addi_w (hx : x = fw a) (ha : a.natAbs < 2 ^ 51) (hb : b.natAbs < 2 ^ 51) (h : Q (.float (fw (a + b)) s.toks) { s with toks := s.toks + 1 }) : wpAny (model prog w) A (binaryOp .Add (.float x t) (.int b u)) Q E s := by
  rw [fw_eq] at hx
  exact s_add_fi hx (by omega) (by omega) (by omega) (by rw [hw_of (n := a + b) (by omega)]; exact h)
theorem r_addi_h (hx : x = fh a) (ha : a.natAbs < 2 ^ 51) (hb : b.natAbs < 2 ^ 51) (h : Q (.float (fh (a + b)) s.toks) { s with toks := s.toks + 1 }) : wpAny (model prog w) A (binaryOp .Add (.float x t) (.int b u)) Q E s := by
  rw [fh_eq] at hx
  exact s_add_fi hx (by omega) (by omega) (by omega) (by rw [hh_of (n := a + b) (by omega)]; exact h)
theorem r_iaddi_w (hx : x = fw a) (ha : a.natAbs < 2 ^ 51) (hb : b.natAbs < 2 ^ 51) (h : Q (.float (fw (a + b)) s.toks) { s with toks := s.toks + 1 }) : wpAny (model prog w) A (inplaceOp .Add (.float x t) (.int b u)) Q E s := by
  rw [fw_eq] at hx
  exact s_iadd_fi hx (by omega) (by omega) (by omega) (by rw [hw_of (n := a + b) (by omega)]; exact h)
theorem r_iaddi_h (hx : x = fh a) (ha : a.natAbs < 2 ^ 51) (hb : b.natAbs < 2 ^ 51) (h : Q (.float (fh (a + b)) s.toks) { s with toks := s.toks + 1 }) : wpAny (model prog w) A (inplaceOp .Add (.float x t) (.int b u)) Q E s := by
  rw [fh_eq] at hx
  exact s_iadd_fi hx (by omega) (by omega) (by omega) (by rw [hh_of (n := a + b) (by omega)]; exact h)
theorem r_subi_w (hx : x = fw a) (ha : a.natAbs < 2 ^ 51) (hb : b.natAbs < 2 ^ 51) (h : Q (.float (fw (a - b)) s.toks) { s with toks := s.toks + 1 }) : wpAny (model prog w) A (binaryOp .Sub (.float x t) (.int b u)) Q E s := by
  rw [fw_eq] at hx
  exact s_sub_fi hx (by omega) (by omega) (by omega) (by rw [hw_of (n := a - b) (by omega)]; exact h)
theorem r_subi_h (hx : x = fh a) (ha : a.natAbs < 2 ^ 51) (hb : b.natAbs < 2 ^ 51) (h : Q (.float (fh (a - b)) s.toks) { s with toks := s.toks + 1 }) : wpAny (model prog w) A (binaryOp .Sub (.float x t) (.int b u)) Q E s := by
  rw [fh_eq] at hx
  exact s_sub_fi hx (by omega) (by omega) (by omega) (by rw [hh_of (n := a - b) (by omega)]; exact h)
theorem r_addif_w (hx : x = fw a) (ha : a.natAbs < 2 ^ 51) (hb : b.natAbs < 2 ^ 51) (h : Q (.float (fw (b + a)) s.toks) { s with toks := s.toks + 1 }) : wpAny (model prog w) A (binaryOp .Add (.int b u) (.float x t)) Q E s := by
  rw [fw_eq] at hx
  exact s_add_if hx (by omega) (by omega) (by omega) (by rw [hw_of (n := b + a) (by omega)]; exact h)
theorem r_addif_h (hx : x = fh a) (ha : a.natAbs < 2 ^ 51) (hb : b.natAbs < 2 ^ 51) (h : Q (.float (fh (b + a)) s.toks) { s with toks := s.toks + 1 }) : wpAny (model prog w) A (binaryOp .Add (.int b u) (.float x t)) Q E s := by
  rw [fh_eq] at hx
  exact s_add_if hx (by omega) (by omega) (by omega) (by rw [hh_of (n := b + a) (by omega)]; exact h)
theorem r_mulfi_w (hx : x = fw a) (hp : 0 ≤ a) (hq : 0 ≤ b) (ha : a < 2 ^ 51) (hb : b < 2 ^ 51) (hc : a * b < 2 ^ 51) (h : Q (.float (fw (a * b)) s.toks) { s with toks := s.toks + 1 }) : wpAny (model prog w) A (binaryOp .Mult (.float x t) (.int b u)) Q E s := by
  rw [fw_eq] at hx
  have h0 := Int.mul_nonneg hp hq
  have e : 2 * a * b = 2 * (a * b) := Int.mul_assoc _ _ _
  exact s_mul_fi hx (by omega) (by omega) (by omega) (by omega) (by rw [e]; omega) (by rw [hw_of (n := a * b) e]; exact h)
theorem r_mulff_w (hx : x = fw a) (hy : y = fw b) (hp : 0 ≤ a) (hq : 0 ≤ b) (ha : a < 2 ^ 52) (hb : b < 2 ^ 51) (hc : a * b < 2 ^ 52) (h : Q (.float (fw (a * b)) s.toks) { s with toks := s.toks + 1 }) : wpAny (model prog w) A (binaryOp .Mult (.float x t) (.float y u)) Q E s := by
  rw [fw_eq] at hx hy
  have h0 := Int.mul_nonneg hp hq
  have e : 2 * a * b = 2 * (a * b) := Int.mul_assoc _ _ _
  exact s_mul_ff hx hy (by omega) (by omega) (by omega) (by omega) (by rw [e]; omega) (by rw [hw_of (n := a * b) e]; exact h)
theorem r_twice_h (hx : x = fh a) (hp : 0 ≤ a) (ha : a < 2 ^ 50) (h : Q (.float (fw (2 * a + 1)) s.toks) { s with toks := s.toks + 1 }) : wpAny (model prog w) A (binaryOp .Mult (.int 2 u) (.float x t)) Q E s := by
  rw [fh_eq] at hx
  exact s_mul_if hx (by omega) (by omega) (by omega) (by omega) (by omega) (by rw [hw_of (n := 2 * a + 1) rfl]; exact h)
theorem r_flo_w (hx : x = fw a) (ha : a.natAbs < 2 ^ 51) (hA : A.handled = none) (h : Q (.int a s.toks) { s with toks := s.toks + 1 }) : wpAny (model prog w) A (call (.builtin "math.floor") [.float x t]) Q E s := by
  rw [fw_eq] at hx
  exact s_floor (flo_hf hx (by omega) (c := a) (by omega)) hA h
theorem r_flo_h (hx : x = fh a) (ha : a.natAbs < 2 ^ 51) (hA : A.handled = none) (h : Q (.int a s.toks) { s with toks := s.toks + 1 }) : wpAny (model prog w) A (call (.builtin "math.floor") [.float x t]) Q E s := by
  rw [fh_eq] at hx
  exact s_floor (flo_hf hx (by omega) (c := a) (by omega)) hA h
theorem r_int_w (hx : x = fw a) (ha : a < 2 ^ 51) (hp : 0 ≤ a) (hA : A.handled = none) (h : Q (.int a s.toks) { s with toks := s.toks + 1 }) : wpAny (model prog w) A (call (.type "int") [.float x t]) Q E s := by
  rw [fw_eq] at hx
  exact s_int hx (by omega) (by omega) hA (by rw [show 2 * a / 2 = a by omega]; exact h)
theorem r_int_h (hx : x = fh a) (ha : a < 2 ^ 51) (hp : 0 ≤ a) (hA : A.handled = none) (h : Q (.int a s.toks) { s with toks := s.toks + 1 }) : wpAny (model prog w) A (call (.type "int") [.float x t]) Q E s := by
  rw [fh_eq] at hx
  exact s_int hx (by omega) (by omega) hA (by rw [show (2 * a + 1) / 2 = a by omega]; exact h)
theorem r_mod_w (hx : x = fw a) (hA : A.handled = none) (ha : a.natAbs < 2 ^ 51) (hb : 0 < b) (hb2 : b < 2 ^ 50) (h : Q (.float (fw (a % b)) s.toks) { s with toks := s.toks + 1 }) : wpAny (model prog w) A (binaryOp .Mod (.float x t) (.int b u)) Q E s := by
  rw [fw_eq] at hx
  exact s_mod_fi hx hA (by omega) hb (by omega) (by rw [Int.mul_emod_mul_of_pos _ _ (by decide : (0 : Int) < 2), hw_of (n := a % b) rfl]; exact h)
theorem r_div_w (nb k : Nat) (hx : x = fw a) (hb : b = (nb : Int)) (h0 : 0 < nb) (hc : 2 * nb ≤ 2 ^ k) (hc4 : 2 ^ k ≤ 4 * nb) (hk : k ≤ 20) (ha : a.natAbs < 2 ^ 49) (hA : A.handled = none)
    (h : ∀ z, Flo z (a / b) → Q (.float z s.toks) { s with toks := s.toks + 1 }) : wpAny (model prog w) A (binaryOp .Div (.float x t) (.int b u)) Q E s := by
  rw [fw_eq] at hx
  refine s_div_m nb k hx hb h0 hc hc4 hk (by omega) hA (fun z _ hz => h z ?_)
  rw [Int.mul_ediv_mul_of_pos _ _ (by decide : (0 : Int) < 2)] at hz
  exact hz
theorem r_divff_w {k : Nat} (nb : Nat) (hx : x = fw a) (hy : y = fw b) (hnb : b = (nb : Int)) (hA : A.handled = none) (ha : a.natAbs < 2 ^ 52) (hb : 0 < nb) (hb2 : nb < 2 ^ 50) (hc : nb ≤ 2 ^ k) (hc2 : k ≤ 1000) (hB : (a.natAbs / nb + 1) * 2 ^ k ≤ 2 ^ 53)
    (h : ∀ z, Flo z (a / b) → Q (.float z s.toks) { s with toks := s.toks + 1 }) : wpAny (model prog w) A (binaryOp .Div (.float x t) (.float y u)) Q E s := by
  rw [fw_eq] at hx hy
  subst hnb
  exact s_div_ff hx rfl hy hA (by omega) (by omega) (by omega) (by omega) hc2 hB h
theorem r_lt_w (hx : x = fw a) (hy : y = fw b) (ha : a.natAbs < 2 ^ 51) (hb : b.natAbs < 2 ^ 51) (h : Q (.bool (decide (a < b))) s) : wpAny (model prog w) A (compareOp .Lt (.float x t) (.float y u)) Q E s := by
  rw [fw_eq] at hx hy
  exact s_lt_ff hx hy (by omega) (by omega) (by rw [show decide (2 * a < 2 * b) = decide (a < b) from decide_eq_decide.mpr (by omega)]; exact h)
theorem r_gt_w (hx : x = fw a) (hy : y = fw b) (ha : a.natAbs < 2 ^ 51) (hb : b.natAbs < 2 ^ 51) (h : Q (.bool (decide (b < a))) s) : wpAny (model prog w) A (compareOp .Gt (.float x t) (.float y u)) Q E s := by
  rw [fw_eq] at hx hy
  exact s_gt_ff hx hy (by omega) (by omega) (by rw [show decide (2 * b < 2 * a) = decide (b < a) from decide_eq_decide.mpr (by omega)]; exact h)
theorem r_ge_w (hx : x = fw a) (hy : y = fw b) (ha : a.natAbs < 2 ^ 51) (hb : b.natAbs < 2 ^ 51) (h : Q (.bool (decide (b ≤ a))) s) : wpAny (model prog w) A (compareOp .GtE (.float x t) (.float y u)) Q E s := by
  rw [fw_eq] at hx hy
  exact s_ge_ff hx hy (by omega) (by omega) (by rw [show decide (2 * b ≤ 2 * a) = decide (b ≤ a) from decide_eq_decide.mpr (by omega)]; exact h)
theorem r_lt_h (hx : x = fh a) (hy : y = fh b) (ha : a.natAbs < 2 ^ 51) (hb : b.natAbs < 2 ^ 51) (h : Q (.bool (decide (a < b))) s) : wpAny (model prog w) A (compareOp .Lt (.float x t) (.float y u)) Q E s := by
  rw [fh_eq] at hx hy
  exact s_lt_ff hx hy (by omega) (by omega) (by rw [show decide (2 * a + 1 < 2 * b + 1) = decide (a < b) from decide_eq_decide.mpr (by omega)]; exact h)
theorem r_gt_h (hx : x = fh a) (hy : y = fh b) (ha : a.natAbs < 2 ^ 51) (hb : b.natAbs < 2 ^ 51) (h : Q (.bool (decide (b < a))) s) : wpAny (model prog w) A (compareOp .Gt (.float x t) (.float y u)) Q E s := by
  rw [fh_eq] at hx hy
  exact s_gt_ff hx hy (by omega) (by omega) (by rw [show decide (2 * b + 1 < 2 * a + 1) = decide (b < a) from decide_eq_decide.mpr (by omega)]; exact h)
theorem r_ge_h (hx : x = fh a) (hy : y = fh b) (ha : a.natAbs < 2 ^ 51) (hb : b.natAbs < 2 ^ 51) (h : Q (.bool (decide (b ≤ a))) s) : wpAny (model prog w) A (compareOp .GtE (.float x t) (.float y u)) Q E s := by
  rw [fh_eq] at hx hy
  exact s_ge_ff hx hy (by omega) (by omega) (by rw [show decide (2 * b + 1 ≤ 2 * a + 1) = decide (b ≤ a) from decide_eq_decide.mpr (by omega)]; exact h)
theorem r_lti_w (hx : x = fw a) (ha : a.natAbs < 2 ^ 51) (h : Q (.bool (decide (a < b))) s) : wpAny (model prog w) A (compareOp .Lt (.float x t) (.int b u)) Q E s := by
  rw [fw_eq] at hx
  exact s_lt_fi hx (by omega) (by rw [show decide (2 * a < 2 * b) = decide (a < b) from decide_eq_decide.mpr (by omega)]; exact h)
theorem r_nei_w (hx : x = fw a) (ha : a.natAbs < 2 ^ 51) (h : Q (.bool (decide (a ≠ b))) s) : wpAny (model prog w) A (compareOp .NotEq (.float x t) (.int b u)) Q E s := by
  rw [fw_eq] at hx
  exact s_ne_fi hx (by omega) (by rw [show decide (2 * a ≠ 2 * b) = decide (a ≠ b) from decide_eq_decide.mpr (by omega)]; exact h)
theorem r_eqi_w (hx : x = fw a) (ha : a.natAbs < 2 ^ 51) (h : Q (.bool (decide (a = b))) s) : wpAny (model prog w) A (compareOp .Eq (.float x t) (.int b u)) Q E s := by
  rw [fw_eq] at hx
  exact s_eq_fi hx (by omega) (by rw [show decide (2 * a = 2 * b) = decide (a = b) from decide_eq_decide.mpr (by omega)]; exact h)
theorem r_sub05 (hx : x = fh a) (ha : a.natAbs < 2 ^ 51) (h : Q (.float (fw a) s.toks) { s with toks := s.toks + 1 }) : wpAny (model prog w) A (binaryOp .Sub (.float x t) (.float 4602678819172646912 u)) Q E s :=
  r_sub_hh hx kit05 ha (by decide) (by rw [Int.sub_zero]; exact h)
theorem r_add05 (hb : b.natAbs < 2 ^ 51) (h : Q (.float (fh b) s.toks) { s with toks := s.toks + 1 }) : wpAny (model prog w) A (binaryOp .Add (.int b u) (.float 4602678819172646912 t)) Q E s :=
  r_addif_h kit05 (by decide) hb (by rw [Int.add_zero]; exact h)
theorem r_iadd05 (hx : x = fh a) (ha : a.natAbs < 2 ^ 51) (h : Q (.float (fw (a + 1)) s.toks) { s with toks := s.toks + 1 }) : wpAny (model prog w) A (inplaceOp .Add (.float x t) (.float 4602678819172646912 u)) Q E s :=
  r_iadd_hh hx kit05 ha (by decide) (by rw [Int.add_zero]; exact h)
theorem flo_gsum {z : UInt64} {m L d : Int} (hz : z = PySem.Float64.ofFrac (decide (367 * m - 362 < 0) != decide ((12 : Int) < 0)) (367 * m - 362).natAbs (12 : Int).natAbs) (h0 : 1 ≤ m) (h1 : m ≤ 12) (h2 : -2 ≤ L) (h3 : L ≤ 0) (h4 : 1 ≤ d) (h5 : d ≤ 31) :
    Flo (PySem.Float64.add (PySem.Float64.add z (PySem.Float64.ofInt L)) (PySem.Float64.ofInt d)) ((367 * m - 362) / 12 + L + d) := by
  subst hz
  have := gsum_flr h0 h1 h2 h3 h4 h5
  exact ⟨this.1, this.2⟩
theorem ret_fh {h₀ h' : Heap} {L : Addr} {m : Str → Option Value} {news : List (Addr × Obj)} {s : Shared} {Q : Value → Shared → Prop} {t : Tok} {tk' : Nat} {x y : Int} (hret : Ret h₀ L m news s Q (fun t => .float (fh x) t)) (e : y = x) (F : Fr h₀ L h' m) (N : News h₀ L h' news) : Q (.float (fh y) t) { s with heap := h', toks := tk' } := by
  subst e
  exact hret t h' tk' F N
theorem ret_fw {h₀ h' : Heap} {L : Addr} {m : Str → Option Value} {news : List (Addr × Obj)} {s : Shared} {Q : Value → Shared → Prop} {t : Tok} {tk' : Nat} {x y : Int} (hret : Ret h₀ L m news s Q (fun t => .float (fw x) t)) (e : y = x) (F : Fr h₀ L h' m) (N : News h₀ L h' news) : Q (.float (fw y) t) { s with heap := h', toks := tk' } := by
  subst e
  exact hret t h' tk' F N
end
local macro_rules | `(tactic| tm_at "mine fw") => `(tactic| first | with_reducible rfl | exact kit98 | exact kit35)
local macro_rules | `(tactic| tm_at "mine fh") => `(tactic| first | with_reducible rfl | exact kit05 | exact kitG | exact kitH)
local macro_rules | `(tactic| walk_at "binaryOp Add float float") => `(tactic| first
  | (refine' r_add_ww ?h1 ?h2 ?h3 ?h4 ?_; (case h1 => tm_at "mine fw"); (case h2 => tm_at "mine fw"); (case h3 => omega); (case h4 => omega); (try dsimp only))
  | (refine' r_add_wh ?h1 ?h2 ?h3 ?h4 ?_; (case h1 => tm_at "mine fw"); (case h2 => tm_at "mine fh"); (case h3 => omega); (case h4 => omega); (try dsimp only))
  | (refine' r_add_hw ?h1 ?h2 ?h3 ?h4 ?_; (case h1 => tm_at "mine fh"); (case h2 => tm_at "mine fw"); (case h3 => omega); (case h4 => omega); (try dsimp only))
  | (refine' r_add_hh ?h1 ?h2 ?h3 ?h4 ?_; (case h1 => tm_at "mine fh"); (case h2 => tm_at "mine fh"); (case h3 => omega); (case h4 => omega); (try dsimp only)))
local macro_rules | `(tactic| walk_at "binaryOp Sub float float") => `(tactic| first
  | (refine' r_sub05 ?h1 ?h2 ?_; (case h1 => tm_at "mine fh"); (case h2 => omega); (try dsimp only))
  | (refine' r_sub_ww ?h1 ?h2 ?h3 ?h4 ?_; (case h1 => tm_at "mine fw"); (case h2 => tm_at "mine fw"); (case h3 => omega); (case h4 => omega); (try dsimp only))
  | (refine' r_sub_wh ?h1 ?h2 ?h3 ?h4 ?_; (case h1 => tm_at "mine fw"); (case h2 => tm_at "mine fh"); (case h3 => omega); (case h4 => omega); (try dsimp only))
  | (refine' r_sub_hw ?h1 ?h2 ?h3 ?h4 ?_; (case h1 => tm_at "mine fh"); (case h2 => tm_at "mine fw"); (case h3 => omega); (case h4 => omega); (try dsimp only))
  | (refine' r_sub_hh ?h1 ?h2 ?h3 ?h4 ?_; (case h1 => tm_at "mine fh"); (case h2 => tm_at "mine fh"); (case h3 => omega); (case h4 => omega); (try dsimp only)))
local macro_rules | `(tactic| walk_at "inplaceOp Add float float") => `(tactic| first
  | (refine' r_iadd05 ?h1 ?h2 ?_; (case h1 => tm_at "mine fh"); (case h2 => omega); (try dsimp only))
  | (refine' r_iadd_ww ?h1 ?h2 ?h3 ?h4 ?_; (case h1 => tm_at "mine fw"); (case h2 => tm_at "mine fw"); (case h3 => omega); (case h4 => omega); (try dsimp only))
  | (refine' r_iadd_wh ?h1 ?h2 ?h3 ?h4 ?_; (case h1 => tm_at "mine fw"); (case h2 => tm_at "mine fh"); (case h3 => omega); (case h4 => omega); (try dsimp only))
  | (refine' r_iadd_hw ?h1 ?h2 ?h3 ?h4 ?_; (case h1 => tm_at "mine fh"); (case h2 => tm_at "mine fw"); (case h3 => omega); (case h4 => omega); (try dsimp only))
  | (refine' r_iadd_hh ?h1 ?h2 ?h3 ?h4 ?_; (case h1 => tm_at "mine fh"); (case h2 => tm_at "mine fh"); (case h3 => omega); (case h4 => omega); (try dsimp only)))
local macro_rules | `(tactic| walk_at "binaryOp Add float int") => `(tactic| first
  | (refine' r_addi_w ?h1 ?h3 ?h4 ?_; (case h1 => tm_at "mine fw"); (case h3 => omega); (case h4 => omega); (try dsimp only))
  | (refine' r_addi_h ?h1 ?h3 ?h4 ?_; (case h1 => tm_at "mine fh"); (case h3 => omega); (case h4 => omega); (try dsimp only)))
local macro_rules | `(tactic| walk_at "inplaceOp Add float int") => `(tactic| first
  | (refine' r_iaddi_w ?h1 ?h3 ?h4 ?_; (case h1 => tm_at "mine fw"); (case h3 => omega); (case h4 => omega); (try dsimp only))
  | (refine' r_iaddi_h ?h1 ?h3 ?h4 ?_; (case h1 => tm_at "mine fh"); (case h3 => omega); (case h4 => omega); (try dsimp only)))
local macro_rules | `(tactic| walk_at "binaryOp Sub float int") => `(tactic| first
  | (refine' r_subi_w ?h1 ?h3 ?h4 ?_; (case h1 => tm_at "mine fw"); (case h3 => omega); (case h4 => omega); (try dsimp only))
  | (refine' r_subi_h ?h1 ?h3 ?h4 ?_; (case h1 => tm_at "mine fh"); (case h3 => omega); (case h4 => omega); (try dsimp only)))
local macro_rules | `(tactic| walk_at "binaryOp Add int float") => `(tactic| first
  | (refine' r_add05 ?h2 ?_; (case h2 => omega); (try dsimp only))
  | (refine' r_addif_w ?h1 ?h3 ?h4 ?_; (case h1 => tm_at "mine fw"); (case h3 => omega); (case h4 => omega); (try dsimp only))
  | (refine' r_addif_h ?h1 ?h3 ?h4 ?_; (case h1 => tm_at "mine fh"); (case h3 => omega); (case h4 => omega); (try dsimp only)))
local macro_rules | `(tactic| walk_at "binaryOp Mult float int") => `(tactic| first
  | (refine' r_mulfi_w ?h1 ?g0 ?g1 ?g2 ?g3 ?g4 ?_; (case h1 => tm_at "mine fw"); (case g0 => omega); (case g1 => omega); (case g2 => omega); (case g3 => omega); (case g4 => omega); (try dsimp only)))
local macro_rules | `(tactic| walk_at "binaryOp Mult float float") => `(tactic| first
  | (refine' r_mulff_w ?h1 ?h2 ?g0 ?g1 ?g2 ?g3 ?g4 ?_; (case h1 => tm_at "mine fw"); (case h2 => tm_at "mine fw"); (case g0 => omega); (case g1 => omega); (case g2 => omega); (case g3 => omega); (case g4 => omega); (try dsimp only)))
local macro_rules | `(tactic| walk_at "binaryOp Mult int float") => `(tactic| first
  | (refine' r_twice_h ?h1 ?g1 ?g2 ?_; (case h1 => tm_at "mine fh"); (case g1 => omega); (case g2 => omega); (try dsimp only)))
local macro_rules | `(tactic| walk_at "call builtin:math.floor") => `(tactic| ((with_reducible show wpAny _ _ (call _ [Value.float _ _]) _ _ _); first
  | (refine' s_floor ?h1 ?h2 ?_; (case h1 => with_reducible assumption); (case h2 => k_dflt rfl); (try dsimp only))
  | (refine' r_flo_w ?h1 ?h2 ?h3 ?_; (case h1 => tm_at "mine fw"); (case h2 => omega); (case h3 => k_dflt rfl); (try dsimp only))
  | (refine' r_flo_h ?h1 ?h2 ?h3 ?_; (case h1 => tm_at "mine fh"); (case h2 => omega); (case h3 => k_dflt rfl); (try dsimp only))
  | (refine' s_floor ?h1 ?h2 ?_; (case h1 => (refine' flo_gsum ?g0 ?g1 ?g2 ?g3 ?g4 ?g5 ?g6; (case g0 => with_reducible assumption); (case g1 => omega); (case g2 => omega); (case g3 => omega); (case g4 => omega); (case g5 => omega); (case g6 => omega))); (case h2 => k_dflt rfl); (try dsimp only))))
local macro_rules | `(tactic| walk_at "call type:int") => `(tactic| ((with_reducible show wpAny _ _ (call _ [Value.float _ _]) _ _ _); first
  | (refine' r_int_w ?h1 ?h2 ?h2b ?h3 ?_; (case h1 => tm_at "mine fw"); (case h2 => omega); (case h2b => omega); (case h3 => k_dflt rfl); (try dsimp only))
  | (refine' r_int_h ?h1 ?h2 ?h2b ?h3 ?_; (case h1 => tm_at "mine fh"); (case h2 => omega); (case h2b => omega); (case h3 => k_dflt rfl); (try dsimp only))))
local macro_rules | `(tactic| walk_at "binaryOp Mod float int") => `(tactic| first
  | (refine' r_mod_w ?h1 ?h2 ?h3 ?h4 ?h5 ?_; (case h1 => tm_at "mine fw"); (case h2 => k_dflt rfl); (case h3 => omega); (case h4 => omega); (case h5 => omega); (try dsimp only)))
local macro_rules | `(tactic| walk_at "compareOp Lt float float") => `(tactic| first
  | (refine' r_lt_w ?h1 ?h2 ?h3 ?h4 ?_; (case h1 => tm_at "mine fw"); (case h2 => tm_at "mine fw"); (case h3 => omega); (case h4 => omega); (try dsimp only))
  | (refine' r_lt_h ?h1 ?h2 ?h3 ?h4 ?_; (case h1 => tm_at "mine fh"); (case h2 => tm_at "mine fh"); (case h3 => omega); (case h4 => omega); (try dsimp only)))
local macro_rules | `(tactic| walk_at "compareOp Gt float float") => `(tactic| first
  | (refine' r_gt_w ?h1 ?h2 ?h3 ?h4 ?_; (case h1 => tm_at "mine fw"); (case h2 => tm_at "mine fw"); (case h3 => omega); (case h4 => omega); (try dsimp only))
  | (refine' r_gt_h ?h1 ?h2 ?h3 ?h4 ?_; (case h1 => tm_at "mine fh"); (case h2 => tm_at "mine fh"); (case h3 => omega); (case h4 => omega); (try dsimp only)))
local macro_rules | `(tactic| walk_at "compareOp GtE float float") => `(tactic| first
  | (refine' r_ge_w ?h1 ?h2 ?h3 ?h4 ?_; (case h1 => tm_at "mine fw"); (case h2 => tm_at "mine fw"); (case h3 => omega); (case h4 => omega); (try dsimp only))
  | (refine' r_ge_h ?h1 ?h2 ?h3 ?h4 ?_; (case h1 => tm_at "mine fh"); (case h2 => tm_at "mine fh"); (case h3 => omega); (case h4 => omega); (try dsimp only)))
local macro_rules | `(tactic| walk_at "compareOp Lt float int") => `(tactic| first
  | (refine' r_lti_w ?h1 ?h3 ?_; (case h1 => tm_at "mine fw"); (case h3 => omega); (try dsimp only)))
local macro_rules | `(tactic| walk_at "compareOp NotEq float int") => `(tactic| first
  | (refine' r_nei_w ?h1 ?h3 ?_; (case h1 => tm_at "mine fw"); (case h3 => omega); (try dsimp only)))
local macro_rules | `(tactic| walk_at "compareOp Eq float int") => `(tactic| first
  | (refine' r_eqi_w ?h1 ?h3 ?_; (case h1 => tm_at "mine fw"); (case h3 => omega); (try dsimp only)))
local macro_rules | `(tactic| walk_at "binaryOp Div float int") => `(tactic| ((first
  | (refine' r_div_w 146097 19 ?h0 ?h1 ?h2 ?h3 ?h3b ?h4 ?h5 ?h6 ?_; (case h0 => tm_at "mine fw"); (case h1 => omega); (case h2 => decide); (case h3 => decide); (case h3b => decide); (case h4 => decide); (case h5 => omega); (case h6 => k_dflt rfl))
  | (refine' r_div_w 36524 17 ?h0 ?h1 ?h2 ?h3 ?h3b ?h4 ?h5 ?h6 ?_; (case h0 => tm_at "mine fw"); (case h1 => omega); (case h2 => decide); (case h3 => decide); (case h3b => decide); (case h4 => decide); (case h5 => omega); (case h6 => k_dflt rfl))
  | (refine' r_div_w 1461 12 ?h0 ?h1 ?h2 ?h3 ?h3b ?h4 ?h5 ?h6 ?_; (case h0 => tm_at "mine fw"); (case h1 => omega); (case h2 => decide); (case h3 => decide); (case h3b => decide); (case h4 => decide); (case h5 => omega); (case h6 => k_dflt rfl))
  | (refine' r_div_w 365 10 ?h0 ?h1 ?h2 ?h3 ?h3b ?h4 ?h5 ?h6 ?_; (case h0 => tm_at "mine fw"); (case h1 => omega); (case h2 => decide); (case h3 => decide); (case h3b => decide); (case h4 => decide); (case h5 => omega); (case h6 => k_dflt rfl))
  | (refine' r_div_w 367 10 ?h0 ?h1 ?h2 ?h3 ?h3b ?h4 ?h5 ?h6 ?_; (case h0 => tm_at "mine fw"); (case h1 => omega); (case h2 => decide); (case h3 => decide); (case h3b => decide); (case h4 => decide); (case h5 => omega); (case h6 => k_dflt rfl))); intro z' hz'; (try dsimp only)))
local macro_rules | `(tactic| walk_at "binaryOp Div float float") => `(tactic| ((refine' r_divff_w (k := 26) 35975351 ?h0 ?h1 ?h1b ?h2 ?h3 ?h4 ?h5 ?h6 ?h7 ?h8 ?_; (case h0 => tm_at "mine fw"); (case h1 => tm_at "mine fw"); (case h1b => omega); (case h2 => k_dflt rfl); (case h3 => omega); (case h4 => omega); (case h5 => omega); (case h6 => decide); (case h7 => decide); (case h8 => omega)); intro z' hz'; (try dsimp only)))
local macro_rules | `(tactic| walk_at "eval Call") => `(tactic| ((with_reducible show wpAny _ _ (eval (Expr.Call (Expr.Name _ _) _ [] _) _) _ _ _); k_dflt (refine Call_ ?_)))
local macro_rules | `(tactic| tm_at "mine dec") => `(tactic| first | with_reducible assumption | ((try simp only [decide_eq_true_eq, decide_eq_false_iff_not, Bool.and_eq_true, Bool.or_eq_true, Bool.not_eq_true', Bool.not_eq_false', Bool.not_eq_true, beq_iff_eq, bne_iff_ne, ne_eq, Bool.not_eq_eq_eq_not, beq_eq_false_iff_ne, bne_eq_false_iff_eq, eq_self_iff_true, if_true, if_false, Bool.false_eq_true, reduceIte, Int.reduceAdd]); first | with_reducible assumption | omega))
local macro_rules | `(tactic| walk_at "ite") => `(tactic| (k_here; k_openite; first
  | (refine ite_pos (by tm_at "mine dec") ?_; walk_say "MINE")
  | (refine ite_neg (by tm_at "mine dec") ?_; walk_say "MINE")))
/-! the hooks: the rules of the later texts stand under tm_at -/
local macro_rules | `(tactic| walk_at "JCiv") => `(tactic| tm_at "on JCiv")
local macro_rules | `(tactic| walk_at "JDue") => `(tactic| tm_at "on JDue")
local macro_rules | `(tactic| walk_at "JEnd") => `(tactic| tm_at "on JEnd")
local macro_rules | `(tactic| walk_at "JNext") => `(tactic| tm_at "on JNext")
local macro_rules | `(tactic| walk_at "JPost") => `(tactic| tm_at "on JPost")
local macro_rules | `(tactic| walk_at "JSet") => `(tactic| tm_at "on JSet")
local macro_rules | `(tactic| walk_at "LeaveF") => `(tactic| tm_at "on LeaveF")
local macro_rules | `(tactic| walk_at "LeaveFS") => `(tactic| tm_at "on LeaveFS")
local macro_rules | `(tactic| walk_at "SEnd") => `(tactic| tm_at "on SEnd")
local macro_rules | `(tactic| walk_at "SPost") => `(tactic| tm_at "on SPost")
local macro_rules | `(tactic| walk_at "SrcTup") => `(tactic| tm_at "on SrcTup")
local macro_rules | `(tactic| walk_at "WEnd") => `(tactic| tm_at "on WEnd")
local macro_rules | `(tactic| walk_at "WOut") => `(tactic| tm_at "on WOut")
local macro_rules | `(tactic| walk_at "WPost") => `(tactic| tm_at "on WPost")
local macro_rules | `(tactic| walk_at "binaryOp Add int int") => `(tactic| tm_at "on binaryOp Add int int")
local macro_rules | `(tactic| walk_at "binaryOp Div float float") => `(tactic| tm_at "on binaryOp Div float float")
local macro_rules | `(tactic| walk_at "binaryOp Div int float") => `(tactic| tm_at "on binaryOp Div int float")
local macro_rules | `(tactic| walk_at "binaryOp Mod int int") => `(tactic| tm_at "on binaryOp Mod int int")
local macro_rules | `(tactic| walk_at "binaryOp Mult float int") => `(tactic| tm_at "on binaryOp Mult float int")
local macro_rules | `(tactic| walk_at "binaryOp Sub int float") => `(tactic| tm_at "on binaryOp Sub int float")
local macro_rules | `(tactic| walk_at "call builtin:isinstance") => `(tactic| tm_at "on call builtin:isinstance")
local macro_rules | `(tactic| walk_at "call builtin:len") => `(tactic| tm_at "on call builtin:len")
local macro_rules | `(tactic| walk_at "call ref") => `(tactic| tm_at "on call ref")
local macro_rules | `(tactic| walk_at "compareOp In int ref") => `(tactic| tm_at "on compareOp In int ref")
local macro_rules | `(tactic| walk_at "eval ListComp") => `(tactic| tm_at "on eval ListComp")
local macro_rules | `(tactic| walk_at "exec For Name Tuple cons nil") => `(tactic| tm_at "on exec For Name Tuple cons nil")
local macro_rules | `(tactic| walk_at "exec For Tuple Call cons nil") => `(tactic| tm_at "on exec For Tuple Call cons nil")
local macro_rules | `(tactic| walk_at "exec If") => `(tactic| tm_at "on exec If")
local macro_rules | `(tactic| walk_at "exec While Compare cons nil") => `(tactic| tm_at "on exec While Compare cons nil")
local macro_rules | `(tactic| walk_at "inplaceOp Add ref ref") => `(tactic| tm_at "on inplaceOp Add ref ref")
local macro_rules | `(tactic| walk_at "pyIter ref") => `(tactic| tm_at "on pyIter ref")
local macro_rules | `(tactic| walk_at "truthy float") => `(tactic| tm_at "on truthy float")

/- C1 -/
set_option maxHeartbeats 4000000

def leapB (y : Int) : Bool := decide ((y * 7 + 1) % 19 < 7)
def ymon (y : Int) : Int := if leapB y = true then 13 else 12
def dly0 (y : Int) : Int := (235 * y - 234) / 19 * 29 + (12084 + 13753 * ((235 * y - 234) / 19)) / 25920
def dly1 (y : Int) : Int := if 3 * (dly0 y + 1) % 7 < 3 then dly0 y + 1 else dly0 y
def dly2 (y : Int) : Int := if dly1 (y + 1) - dly1 y = 356 then 2 else if dly1 y - dly1 (y - 1) = 382 then 1 else 0

theorem ask_leap (w : World) (y : Int) (t : Tok) (hy : -1000 < y) (hy2 : y < 200000000) : Ask w 1 78 [.int y t] (fun _ => .bool (leapB y)) := by
  intro p loose mean mg mb dp un gd cn cs a ccd cl outer A₀ base h₀ L m news s Q E B F X N T hk hd hu hret
  refine wpAny_call ?_
  k_dflt cell_enter
  k_steps
  all_goals (refine' ret_b hret ?zE ?zF ?zN; (case zF => k_asm); (case zN => first | k_asm | (refine' cb_drop ?cbN ?cbS; (case cbN => assumption); (case cbS => kcj_all))); (case zE => first | rfl))
local macro_rules | `(tactic| tm_at "on call ref") => `(tactic| (k_here; (with_reducible show wpAny _ _ (call (Value.ref 78) _) _ _ _); k_dflt (refine' (ask_leap _ _ _ ?c0 ?c1) _ _ _ _ _ _ _ _ _ _ _ _ _ _ _ _ _ _ _ _ _ _ _ ?k1 ?k2 ?k3 ?k4 ?k5 ?kK ?kd ?ku ?_); (case k1 => k_asm); (case k2 => k_asm); (case k3 => k_asm); (case k4 => k_asm); (case k5 => k_asm); (case kK => first | exact rfl | assumption); (case kd => ktr_room); (case ku => ktr_units); (case c0 => omega); (case c1 => omega); intro t9 h9 tk9 F9 N9; (try dsimp only); (try k_fold)))

theorem ask_ymon (w : World) (y : Int) (t : Tok) (hy : -1000 < y) (hy2 : y < 200000000) : Ask w 2 85 [.int y t] (fun t => .int (ymon y) t) := by
  intro p loose mean mg mb dp un gd cn cs a ccd cl outer A₀ base h₀ L m news s Q E B F X N T hk hd hu hret
  refine wpAny_call ?_
  k_dflt cell_enter
  k_steps
  all_goals (refine' ret_i hret ?zE ?zF ?zN; (case zF => k_asm); (case zN => first | k_asm | (refine' cb_drop ?cbN ?cbS; (case cbN => assumption); (case cbS => kcj_all))); (case zE => (unfold ymon; split <;> first | rfl | contradiction | (simp_all; done))))
local macro_rules | `(tactic| tm_at "on call ref") => `(tactic| (k_here; (with_reducible show wpAny _ _ (call (Value.ref 85) _) _ _ _); k_dflt (refine' (ask_ymon _ _ _ ?c0 ?c1) _ _ _ _ _ _ _ _ _ _ _ _ _ _ _ _ _ _ _ _ _ _ _ ?k1 ?k2 ?k3 ?k4 ?k5 ?kK ?kd ?ku ?_); (case k1 => k_asm); (case k2 => k_asm); (case k3 => k_asm); (case k4 => k_asm); (case k5 => k_asm); (case kK => first | exact rfl | assumption); (case kd => ktr_room); (case ku => ktr_units); (case c0 => omega); (case c1 => omega); intro t9 h9 tk9 F9 N9; (try dsimp only); (try k_fold)))

theorem ask_dly1 (w : World) (y : Int) (t : Tok) (hy : -1000 < y) (hy2 : y < 200000000) : Ask w 1 92 [.int y t] (fun t => .int (dly1 y) t) := by
  intro p loose mean mg mb dp un gd cn cs a ccd cl outer A₀ base h₀ L m news s Q E B F X N T hk hd hu hret
  refine wpAny_call ?_
  k_dflt cell_enter
  k_steps
  all_goals (refine' ret_i hret ?zE ?zF ?zN; (case zF => k_asm); (case zN => first | k_asm | (refine' cb_drop ?cbN ?cbS; (case cbN => assumption); (case cbS => kcj_all))); (case zE => (unfold dly1 dly0; split <;> first | rfl | contradiction)))
local macro_rules | `(tactic| tm_at "on call ref") => `(tactic| (k_here; (with_reducible show wpAny _ _ (call (Value.ref 92) _) _ _ _); k_dflt (refine' (ask_dly1 _ _ _ ?c0 ?c1) _ _ _ _ _ _ _ _ _ _ _ _ _ _ _ _ _ _ _ _ _ _ _ ?k1 ?k2 ?k3 ?k4 ?k5 ?kK ?kd ?ku ?_); (case k1 => k_asm); (case k2 => k_asm); (case k3 => k_asm); (case k4 => k_asm); (case k5 => k_asm); (case kK => first | exact rfl | assumption); (case kd => ktr_room); (case ku => ktr_units); (case c0 => omega); (case c1 => omega); intro t9 h9 tk9 F9 N9; (try dsimp only); (try k_fold)))

theorem ask_dly2 (w : World) (y : Int) (t : Tok) (hy : -900 < y) (hy2 : y < 190000000) : Ask w 2 99 [.int y t] (fun t => .int (dly2 y) t) := by
  intro p loose mean mg mb dp un gd cn cs a ccd cl outer A₀ base h₀ L m news s Q E B F X N T hk hd hu hret
  refine wpAny_call ?_
  k_dflt cell_enter
  k_steps
  all_goals (refine' ret_i hret ?zE ?zF ?zN; (case zF => k_asm); (case zN => first | k_asm | (refine' cb_drop ?cbN ?cbS; (case cbN => assumption); (case cbS => kcj_all))); (case zE => (unfold dly2; (repeat' split) <;> first | rfl | contradiction | omega)))
local macro_rules | `(tactic| tm_at "on call ref") => `(tactic| (k_here; (with_reducible show wpAny _ _ (call (Value.ref 99) _) _ _ _); k_dflt (refine' (ask_dly2 _ _ _ ?c0 ?c1) _ _ _ _ _ _ _ _ _ _ _ _ _ _ _ _ _ _ _ _ _ _ _ ?k1 ?k2 ?k3 ?k4 ?k5 ?kK ?kd ?ku ?_); (case k1 => k_asm); (case k2 => k_asm); (case k3 => k_asm); (case k4 => k_asm); (case k5 => k_asm); (case kK => first | exact rfl | assumption); (case kd => ktr_room); (case ku => ktr_units); (case c0 => omega); (case c1 => omega); intro t9 h9 tk9 F9 N9; (try dsimp only); (try k_fold)))

/- C2 -/
theorem dly0_bd {y : Int} (h : -12 ≤ y) (h2 : y ≤ 200000000) : -6000 ≤ dly0 y ∧ dly0 y ≤ 80000000000 := by
  unfold dly0
  omega
theorem dly1_bd {y : Int} (h : -12 ≤ y) (h2 : y ≤ 200000000) : -6000 ≤ dly1 y ∧ dly1 y ≤ 80000000001 := by
  have := dly0_bd h h2
  unfold dly1
  split <;> omega
theorem dly2_bd (y : Int) : 0 ≤ dly2 y ∧ dly2 y ≤ 2 := by
  unfold dly2
  split
  · omega
  · split <;> omega
theorem ymon_bd (y : Int) : 12 ≤ ymon y ∧ ymon y ≤ 13 := by
  unfold ymon
  split <;> omega
/-- the number ahead of the year's first day -/
def tish (y : Int) : Int := 347996 + dly1 y + dly2 y

theorem ask_tish (w : World) (y d : Int) (t t2 t3 : Tok) (hy : -10 < y) (hy2 : y < 180000000) (hd0 : 1 ≤ d) (hd1 : d ≤ 30) : Ask w 3 127 [.int y t, .int 7 t2, .int d t3] (fun t => .float (fh (tish y + d)) t) := by
  have hb1 := dly1_bd (y := y) (by omega) (by omega)
  have hb2 := dly2_bd y
  have hb3 := ymon_bd y
  intro p loose mean mg mb dp un gd cn cs a ccd cl outer A₀ base h₀ L m news s Q E B F X N T hk hd hu hret
  refine wpAny_call ?_
  k_dflt cell_enter
  k_steps
  all_goals (refine' ret_fh hret ?zE ?zF ?zN; (case zF => k_asm); (case zN => first | k_asm | (refine' cb_drop ?cbN ?cbS; (case cbN => assumption); (case cbS => kcj_all))); (case zE => (unfold tish; omega)))
local macro_rules | `(tactic| tm_at "on call ref") => `(tactic| (k_here; (with_reducible show wpAny _ _ (call (Value.ref 127) _) _ _ _); k_dflt (refine' (ask_tish _ _ _ _ _ _ ?c0 ?c1 ?c2 ?c3) _ _ _ _ _ _ _ _ _ _ _ _ _ _ _ _ _ _ _ _ _ _ _ ?k1 ?k2 ?k3 ?k4 ?k5 ?kK ?kd ?ku ?_); (case k1 => k_asm); (case k2 => k_asm); (case k3 => k_asm); (case k4 => k_asm); (case k5 => k_asm); (case kK => first | exact rfl | assumption); (case kd => ktr_room); (case ku => ktr_units); (case c0 => omega); (case c1 => omega); (case c2 => omega); (case c3 => omega); intro t9 h9 tk9 F9 N9; (try dsimp only); (try k_fold)))

def ydays (y : Int) : Int := tish (y + 1) - tish y
def mlen (y m : Int) : Int := if m = 2 ∨ m = 4 ∨ m = 6 ∨ m = 10 ∨ m = 13 then 29 else if m = 12 ∧ leapB y = false then 29 else if m = 8 ∧ ydays y % 10 ≠ 5 then 29 else if m = 9 ∧ ydays y % 10 = 3 then 29 else 30
theorem mlen_bd (y m : Int) : 29 ≤ mlen y m ∧ mlen y m ≤ 30 := by
  unfold mlen
  repeat' split
  all_goals omega
theorem tish_bd {y : Int} (h : -12 ≤ y) (h2 : y ≤ 200000000) : 341996 ≤ tish y ∧ tish y ≤ 80000348000 := by
  have := dly1_bd h h2
  have := dly2_bd y
  unfold tish
  omega

theorem ask_ydays (w : World) (y : Int) (t : Tok) (hy : -8 < y) (hy2 : y < 170000000) : Ask w 4 106 [.int y t] (fun t => .float (fw (ydays y)) t) := by
  have hb1 := tish_bd (y := y) (by omega) (by omega)
  have hb2 := tish_bd (y := y + 1) (by omega) (by omega)
  intro p loose mean mg mb dp un gd cn cs a ccd cl outer A₀ base h₀ L m news s Q E B F X N T hk hd hu hret
  refine wpAny_call ?_
  k_dflt cell_enter
  k_steps
  all_goals (refine' ret_fw hret ?zE ?zF ?zN; (case zF => k_asm); (case zN => first | k_asm | (refine' cb_drop ?cbN ?cbS; (case cbN => assumption); (case cbS => kcj_all))); (case zE => (unfold ydays; omega)))
local macro_rules | `(tactic| tm_at "on call ref") => `(tactic| (k_here; (with_reducible show wpAny _ _ (call (Value.ref 106) _) _ _ _); k_dflt (refine' (ask_ydays _ _ _ ?c0 ?c1) _ _ _ _ _ _ _ _ _ _ _ _ _ _ _ _ _ _ _ _ _ _ _ ?k1 ?k2 ?k3 ?k4 ?k5 ?kK ?kd ?ku ?_); (case k1 => k_asm); (case k2 => k_asm); (case k3 => k_asm); (case k4 => k_asm); (case k5 => k_asm); (case kK => first | exact rfl | assumption); (case kd => ktr_room); (case ku => ktr_units); (case c0 => omega); (case c1 => omega); intro t9 h9 tk9 F9 N9; (try dsimp only); (try k_fold)))

theorem mlen_any {m : Int} (h : ([2, 4, 6, 10, 13].any fun x => x == m) = true) : m = 2 ∨ m = 4 ∨ m = 6 ∨ m = 10 ∨ m = 13 := by
  simp only [List.any_cons, List.any_nil, Bool.or_false, Bool.or_eq_true, beq_iff_eq] at h
  omega
theorem mlen_none {m : Int} (h : ([2, 4, 6, 10, 13].any fun x => x == m) = false) : m ≠ 2 ∧ m ≠ 4 ∧ m ≠ 6 ∧ m ≠ 10 ∧ m ≠ 13 := by
  simp only [List.any_cons, List.any_nil, Bool.or_false, Bool.or_eq_false_iff, beq_eq_false_iff_ne] at h
  omega
theorem ask_mlen (w : World) (y mo : Int) (t t2 : Tok) (hy : -8 < y) (hy2 : y < 170000000) (hm1 : 1 ≤ mo) (hm2 : mo ≤ 13) : Ask w 5 113 [.int y t, .int mo t2] (fun t => .int (mlen y mo) t) := by
  have hb1 := tish_bd (y := y) (by omega) (by omega)
  have hb2 := tish_bd (y := y + 1) (by omega) (by omega)
  have hb3 : ydays y = tish (y + 1) - tish y := rfl
  intro p loose mean mg mb dp un gd cn cs a ccd cl outer A₀ base h₀ L m news s Q E B F X N T hk hd hu hret
  refine wpAny_call ?_
  k_dflt cell_enter
  k_steps
  all_goals (refine' ret_i hret ?zE ?zF ?zN; (case zF => k_asm); (case zN => first | k_asm | (refine' cb_drop ?cbN ?cbS; (case cbN => assumption); (case cbS => kcj_all))); (case zE => ((first | (rename ((List.any _ _) = true) => hA; have hA' := mlen_any hA) | (rename ((List.any _ _) = false) => hA; have hA' := mlen_none hA)); unfold mlen; (repeat' split) <;> first | rfl | omega | (exfalso; simp_all; done) | (exfalso; simp_all; omega))))
local macro_rules | `(tactic| tm_at "on call ref") => `(tactic| (k_here; (with_reducible show wpAny _ _ (call (Value.ref 113) _) _ _ _); k_dflt (refine' (ask_mlen _ _ _ _ _ ?c0 ?c1 ?c2 ?c3) _ _ _ _ _ _ _ _ _ _ _ _ _ _ _ _ _ _ _ _ _ _ _ ?k1 ?k2 ?k3 ?k4 ?k5 ?kK ?kd ?ku ?_); (case k1 => k_asm); (case k2 => k_asm); (case k3 => k_asm); (case k4 => k_asm); (case k5 => k_asm); (case kK => first | exact rfl | assumption); (case kd => ktr_room); (case ku => ktr_units); (case c0 => omega); (case c1 => omega); (case c2 => omega); (case c3 => omega); intro t9 h9 tk9 F9 N9; (try dsimp only); (try k_fold)))

theorem ask_mdays (w : World) (y mo : Int) (t t2 : Tok) (hy : -8 < y) (hy2 : y < 170000000) (hm1 : 1 ≤ mo) (hm2 : mo ≤ 13) : Ask w 6 120 [.int y t, .int mo t2] (fun t => .int (mlen y mo) t) := by
  intro p loose mean mg mb dp un gd cn cs a ccd cl outer A₀ base h₀ L m news s Q E B F X N T hk hd hu hret
  refine wpAny_call ?_
  k_dflt cell_enter
  k_steps
  all_goals (refine' ret_i hret ?zE ?zF ?zN; (case zF => k_asm); (case zN => first | k_asm | (refine' cb_drop ?cbN ?cbS; (case cbN => assumption); (case cbS => kcj_all))); (case zE => rfl))
local macro_rules | `(tactic| tm_at "on call ref") => `(tactic| (k_here; (with_reducible show wpAny _ _ (call (Value.ref 120) _) _ _ _); k_dflt (refine' (ask_mdays _ _ _ _ _ ?c0 ?c1 ?c2 ?c3) _ _ _ _ _ _ _ _ _ _ _ _ _ _ _ _ _ _ _ _ _ _ _ ?k1 ?k2 ?k3 ?k4 ?k5 ?kK ?kd ?ku ?_); (case k1 => k_asm); (case k2 => k_asm); (case k3 => k_asm); (case k4 => k_asm); (case k5 => k_asm); (case kK => first | exact rfl | assumption); (case kd => ktr_room); (case ku => ktr_units); (case c0 => omega); (case c1 => omega); (case c2 => omega); (case c3 => omega); intro t9 h9 tk9 F9 N9; (try dsimp only); (try k_fold)))

/- Lp -/
def msum (y : Int) (l : List Int) : Int := (l.map (mlen y)).sum
theorem msum_nil (y : Int) : msum y [] = 0 := rfl
theorem msum_snoc (y : Int) (l : List Int) (k : Int) : msum y (l ++ [k]) = msum y l + mlen y k := by
  unfold msum
  rw [List.map_append, List.sum_append]
  simp
theorem msum_bd (y : Int) (l : List Int) : 29 * (l.length : Int) ≤ msum y l ∧ msum y l ≤ 30 * (l.length : Int) := by
  induction l with
  | nil => simp [msum]
  | cons k l ih =>
    have h1 := mlen_bd y k
    have h2 : msum y (k :: l) = mlen y k + msum y l := by unfold msum; simp
    rw [h2, List.length_cons]
    omega

section
variable {prog : Program} {w : World} {A : Around} {E : Value → Shared → Prop} {s : Shared} {env : Env} {h₀ : Heap} {x : Str} {body : List Stmt} {Q : Flow → Shared → Prop}

structure Yr (y : Int) : Prop where
  mk' :: (one : True)
theorem yr (y : Int) : Yr y := ⟨trivial⟩

def JEnd (h₀ : Heap) (L : Addr) (m₀ : Str → Option Value) (x jd : Str) (news own : List (Addr × Obj)) (a : Int) (s₁ s₂ : Shared) : Prop :=
  ∃ h' tk m' news' tj, s₂ = { s₁ with heap := h', toks := tk } ∧ Fr h₀ L h' m' ∧ News h₀ L h' news' ∧ (∀ p ∈ news, p ∈ news') ∧ (∀ p ∈ own, p ∈ news') ∧ m' jd = some (.float (fh a) tj) ∧ ∀ z, z ≠ x → z ≠ jd → m' z = m₀ z
def JPost (h₀ : Heap) (L : Addr) (m₀ : Str → Option Value) (x jd : Str) (news own : List (Addr × Obj)) (a : Int) (s₁ : Shared) (Q : Flow → Shared → Prop) (f : Flow) (s₂ : Shared) : Prop :=
  match f with
  | .ret v => Q (.ret v) s₂
  | .brk => Q .next s₂
  | _ => JEnd h₀ L m₀ x jd news own a s₁ s₂
theorem JEnd.intro {L : Addr} {m₀ m' : Str → Option Value} {jd : Str} {news own news' : List (Addr × Obj)} {a a' : Int} {s₁ : Shared} {h' : Heap} {tk : Nat} {tj : Tok} (F : Fr h₀ L h' m') (N : News h₀ L h' news') (h1 : ∀ p ∈ news, p ∈ news') (h2 : ∀ p ∈ own, p ∈ news')
    (hj : m' jd = some (.float (fh a') tj)) (ha : a' = a) (hr : ∀ z, z ≠ x → z ≠ jd → m' z = m₀ z) : JEnd h₀ L m₀ x jd news own a s₁ { s₁ with heap := h', toks := tk } := by
  subst ha
  exact ⟨h', tk, m', news', tj, rfl, F, N, h1, h2, hj, hr⟩

theorem loop_jd {r : Addr} {a₀ b₀ : Int} {t₀ u₀ v₀ : Tok} {m₀ : Str → Option Value} {news : List (Addr × Obj)} {a0 : Int} {ta : Tok} {y : Int} (jd : Str) (_hY : Yr y)
    (hh : A.handled = none) (hr : IsRange s.heap r a₀ b₀ 1 t₀ u₀ v₀) (hb : -100 ≤ a₀ ∧ a₀ ≤ 100 ∧ -100 ≤ b₀ ∧ b₀ ≤ 100) (F : Fr h₀ env.locals s.heap m₀) (N : News h₀ env.locals s.heap news) (hk : m₀ jd = some (.float (fh a0) ta))
    (turn : ∀ (pre : List Int) (k a : Int) (tj t : Tok) (h : Heap) (tk : Nat) (own : List (Addr × Obj)), k = a₀ + (pre.length : Int) → a₀ ≤ k → k < b₀ → OwnOff own (news.map (·.1)) → a = a0 + msum y pre → 0 ≤ msum y pre → msum y pre ≤ 30 * (pre.length : Int) → 29 ≤ mlen y k → mlen y k ≤ 30 →
      Fr h₀ env.locals h (fun z => if z = x then some (.int k t) else if z = jd then some (.float (fh a) tj) else m₀ z) → News h₀ env.locals h (news ++ own) →
      wpAny (model prog w) A (execs body env) (JPost h₀ env.locals m₀ x jd news own (a + mlen y k) { s with heap := h, toks := tk } Q) E { s with heap := h, toks := tk })
    (done : ∀ (u : Str → Option Value) (a : Int) (tj : Tok) (h : Heap) (tk : Nat), a = a0 + msum y (rangeKs a₀ (b₀ - a₀).toNat) → 0 ≤ msum y (rangeKs a₀ (b₀ - a₀).toNat) → msum y (rangeKs a₀ (b₀ - a₀).toNat) ≤ 6000 → Fr h₀ env.locals h (fun z => if z = x then u z else if z = jd then some (.float (fh a) tj) else m₀ z) → News h₀ env.locals h news → Q .next { s with heap := h, toks := tk }) :
    wpAny (model prog w) A (pyIter (.ref r)) (fun it s₂ => LoopAtV prog w A h₀ env x body Q E it s₂) E s := by
  refine kst_range (n := (b₀ - a₀).toNat) (fun (_ : Int × Tok) => news) (fun c => [(jd, Value.float (fh c.1) c.2)]) (fun _ => True) [] (fun pre c => c.1 = a0 + msum y pre) (a0, ta) hh hr (small_one (by omega) (by omega) (by omega) (by omega)) (rangeSize_nat _ _) F N trivial ?_ ?_ ?_ ?_
  · intro p hp
    rw [List.mem_singleton.mp hp]
    exact hk
  · show a0 = a0 + msum y []
    rw [msum_nil]; omega
  · intro c pre k t u h tk own hkk hlt hoff _ hc F₁ N₁
    have hbd := msum_bd y pre
    have F₂ : Fr h₀ env.locals h (fun z => if z = x then some (.int k t) else if z = jd then some (.float (fh c.1) c.2) else m₀ z) := F₁
    refine wpAny_mono (turn pre k c.1 c.2 t h tk own hkk (by omega) (by omega) hoff hc (by omega) (by omega) (mlen_bd y k).1 (mlen_bd y k).2 F₂ N₁) (fun f s₂ hp => ?_) fun _ _ e => e
    have key : JEnd h₀ env.locals m₀ x jd news own (c.1 + mlen y k) { s with heap := h, toks := tk } s₂ →
        InvEndN h₀ env.locals (KstS (fun (_ : Int × Tok) => news) (fun c => [(jd, Value.float (fh c.1) c.2)]) (fun _ => True) x [] m₀ (fun pre c => c.1 = a0 + msum y pre) (pre ++ [k])) own (news.map (·.1)) { s with heap := h, toks := tk } s₂ := by
      rintro ⟨h', tk', m', news', tj, rfl, F', N', h1, h2, hj, hr'⟩
      refine kst_end (c.1 + mlen y k, tj) F' N' h1 h2 rfl trivial ?_ ?_ ?_
      · intro p hp
        rw [List.mem_singleton.mp hp]
        exact hj
      · intro z hz h3 _
        exact hr' z hz (h3 _ (List.mem_singleton.mpr rfl))
      · show c.1 + mlen y k = a0 + msum y (pre ++ [k])
        rw [msum_snoc]
        omega
    cases f with
    | ret v => exact hp
    | brk => exact hp
    | next => exact key hp
    | cont => exact key hp
  · intro c u h tk _ hc F₁ N₁
    have hbd := msum_bd y (rangeKs a₀ (b₀ - a₀).toNat)
    rw [rangeKs_length] at hbd
    exact done u c.1 c.2 h tk hc (by omega) (by omega) F₁ N₁
end
local macro_rules | `(tactic| tm_at "on JPost") => `(tactic| (dsimp only [JPost]))
local macro_rules | `(tactic| tm_at "on JEnd") => `(tactic| (refine' JEnd.intro ?zF ?zN ?z1 ?z2 ?zj ?za ?zr; (case zF => k_asm); (case zN => k_asm); (case z1 => (intro p hp; first | assumption | exact List.mem_append.mpr (.inl hp))); (case z2 => (intro p hp; first | assumption | exact List.mem_append.mpr (.inr hp))); (case zj => with_unfolding_all rfl); (case za => first | rfl | omega); (case zr => (intro z h1 h2; first | rfl | (simp [h1, h2]; done)))))
local macro_rules | `(tactic| tm_at "mine loopjd") => `(tactic| ((rename Fr _ _ _ _ => lF'); (rename News _ _ _ _ => lN'); (rename IsRange _ _ _ _ _ _ _ _ => rgX); (rename Yr _ => yY); (with_unfolding_all refine' loop_jd (Str.ofString "jd") yY (by rfl) ?zr ?zb lF' lN' ?zk ?zt ?zd); (case zr => first | exact rgX | assumption); (case zb => omega); (case zk => with_unfolding_all rfl); (all_goals (try clear lF' lN')); (case' zt => intro pre9 k9 a9 tj9 t9 h9 tk9 own9 hk9 hlo9 hhi9 hoff9 ha9 hz9 hz9' hml9 hml9' F9 N9); (case' zd => intro u9 a9 tj9 h9 tk9 ha9 hz9 hz9' F9 N9); (all_goals (try dsimp only)); (all_goals (try k_fold))))

/- C3 -/
def moff (y m : Int) : Int := if m < 7 then msum y (rangeKs 7 (ymon y + 1 - 7).toNat) + msum y (rangeKs 1 (m - 1).toNat) else msum y (rangeKs 7 (m - 7).toNat)
def jdh (y m d : Int) : Int := tish y + d + moff y m

theorem ask_jdh (w : World) (y mo d : Int) (t t2 t3 : Tok) (hy : -6 < y) (hy2 : y < 160000000) (hm1 : 1 ≤ mo) (hm2 : mo ≤ 13) (hd0 : 1 ≤ d) (hd1 : d ≤ 30) : Ask w 7 127 [.int y t, .int mo t2, .int d t3] (fun t => .float (fh (jdh y mo d)) t) := by
  have hb1 := dly1_bd (y := y) (by omega) (by omega)
  have hb2 := dly2_bd y
  have hb3 := ymon_bd y
  k_with_none
  k_with "pyIter ref" => tm_at "mine loopjd"
  have hYr := yr y
  intro p loose mean mg mb dp un gd cn cs a ccd cl outer A₀ base h₀ L m news s Q E B F X N T hk hd hu hret
  refine wpAny_call ?_
  k_dflt cell_enter
  k_steps
  all_goals (refine' ret_fh hret ?zE ?zF ?zN; (case zF => k_asm); (case zN => first | k_asm | (refine' cb_drop ?cbN ?cbS; (case cbN => assumption); (case cbS => kcj_all))); (case zE => (unfold jdh moff tish; split <;> omega)))
local macro_rules | `(tactic| tm_at "on call ref") => `(tactic| (k_here; (with_reducible show wpAny _ _ (call (Value.ref 127) _) _ _ _); k_dflt (refine' (ask_jdh _ _ _ _ _ _ _ ?c0 ?c1 ?c2 ?c3 ?c4 ?c5) _ _ _ _ _ _ _ _ _ _ _ _ _ _ _ _ _ _ _ _ _ _ _ ?k1 ?k2 ?k3 ?k4 ?k5 ?kK ?kd ?ku ?_); (case k1 => k_asm); (case k2 => k_asm); (case k3 => k_asm); (case k4 => k_asm); (case k5 => k_asm); (case kK => first | exact rfl | assumption); (case kd => ktr_room); (case ku => ktr_units); (case c0 => omega); (case c1 => omega); (case c2 => omega); (case c3 => omega); (case c4 => omega); (case c5 => omega); intro t9 h9 tk9 F9 N9; (try dsimp only); (try k_fold)))
local macro_rules | `(tactic| tm_at "on call ref") => `(tactic| (k_here; (with_reducible show wpAny _ _ (call (Value.ref 127) _) _ _ _); k_dflt (refine' (ask_tish _ _ _ _ _ _ ?c0 ?c1 ?c2 ?c3) _ _ _ _ _ _ _ _ _ _ _ _ _ _ _ _ _ _ _ _ _ _ _ ?k1 ?k2 ?k3 ?k4 ?k5 ?kK ?kd ?ku ?_); (case k1 => k_asm); (case k2 => k_asm); (case k3 => k_asm); (case k4 => k_asm); (case k5 => k_asm); (case kK => first | exact rfl | assumption); (case kd => ktr_room); (case ku => ktr_units); (case c0 => omega); (case c1 => omega); (case c2 => omega); (case c3 => omega); intro t9 h9 tk9 F9 N9; (try dsimp only); (try k_fold)))

/- C4 -/
def gleapB (y : Int) : Bool := decide (y % 4 = 0) && (decide (y % 100 ≠ 0) || decide (y % 400 = 0))
def glen (y m : Int) : Int := if m = 2 then (if gleapB y = true then 29 else 28) else if m = 4 ∨ m = 6 ∨ m = 9 ∨ m = 11 then 30 else 31
def gadj (y m : Int) : Int := if m ≤ 2 then 0 else if gleapB y = true then -1 else -2
theorem glen_bd (y m : Int) : 28 ≤ glen y m ∧ glen y m ≤ 31 := by
  unfold glen
  split
  · split <;> omega
  · split <;> omega
theorem glen_one {y m d : Int} (_h : 1 ≤ m) (h : d ≤ 28) : d ≤ glen y m := by
  have := glen_bd y m
  omega
/-- the whole number below the date's float -/
def jdg (y m d : Int) : Int := 1721424 + 365 * (y - 1) + (y - 1) / 4 - (y - 1) / 100 + (y - 1) / 400 + ((367 * m - 362) / 12 + gadj y m + d)

theorem ask_isleap (w : World) (y : Int) (t : Tok) (hy : -100000 < y) (hy2 : y < 170000000) : Ask w 1 50 [.int y t] (fun _ => .bool (gleapB y)) := by
  intro p loose mean mg mb dp un gd cn cs a ccd cl outer A₀ base h₀ L m news s Q E B F X N T hk hd hu hret
  refine wpAny_call ?_
  k_dflt cell_enter
  k_steps
  all_goals (refine' ret_b hret ?zE ?zF ?zN; (case zF => k_asm); (case zN => first | k_asm | (refine' cb_drop ?cbN ?cbS; (case cbN => assumption); (case cbS => kcj_all))); (case zE => (rw [Bool.eq_iff_iff]; unfold gleapB; simp only [bne_iff_ne, beq_iff_eq, Bool.and_eq_true, Bool.or_eq_true, decide_eq_true_eq]; omega)))
local macro_rules | `(tactic| tm_at "on call ref") => `(tactic| (k_here; (with_reducible show wpAny _ _ (call (Value.ref 50) _) _ _ _); k_dflt (refine' (ask_isleap _ _ _ ?c0 ?c1) _ _ _ _ _ _ _ _ _ _ _ _ _ _ _ _ _ _ _ _ _ _ _ ?k1 ?k2 ?k3 ?k4 ?k5 ?kK ?kd ?ku ?_); (case k1 => k_asm); (case k2 => k_asm); (case k3 => k_asm); (case k4 => k_asm); (case k5 => k_asm); (case kK => first | exact rfl | assumption); (case kd => ktr_room); (case ku => ktr_units); (case c0 => omega); (case c1 => omega); intro t9 h9 tk9 F9 N9; (try dsimp only); (try k_fold)))

theorem in_K {prog : Program} {w : World} {A : Around} {E : Value → Shared → Prop} {s : Shared} {K : Frag} {L a : Addr} {h₀ : Heap} {m : Str → Option Value} {od : Option Addr} {items : Array Value} {n : Nat} {osl : Array (Option Value)} {ns : List Int} {x : Int} {u : Tok} {Q : Value → Shared → Prop}
    (F : Fr h₀ L s.heap m) (X₀ : K.In h₀) (hl : K.lookup a = some ⟨.type "tuple", od, .seq items n, osl⟩) (hi : IntsAre items.toList ns) (h : Q (.bool (ns.any (· == x))) s) : wpAny (model prog w) A (compareOp .In (.int x u) (.ref a)) Q E s :=
  in_tuple_ints ⟨_, F.keep _ _ (X₀ _ _ hl), rfl, n, rfl⟩ hi h
local macro_rules | `(tactic| tm_at "on compareOp In int ref") => `(tactic| (k_here; k_dflt (refine' in_K ?F ?X ?l ?i ?_; (case F => k_asm); (case X => k_asm); (case l => k_is); (case i => repeat constructor)); (try dsimp only)))
theorem legal_m (w : World) (y mo d : Int) (t t2 t3 : Tok) (hy : -100000 < y) (hy2 : y < 170000000) (hm1 : mo = 1 ∨ mo = 3 ∨ mo = 4 ∨ mo = 5 ∨ mo = 6 ∨ mo = 7 ∨ mo = 8 ∨ mo = 9 ∨ mo = 10 ∨ mo = 11 ∨ mo = 12) (hd0 : 1 ≤ d) (hd1 : d ≤ glen y mo) : Ask w 2 57 [.int y t, .int mo t2, .int d t3] (fun _ => .bool true) := by
  rcases hm1 with rfl | rfl | rfl | rfl | rfl | rfl | rfl | rfl | rfl | rfl | rfl
  all_goals (unfold glen at hd1; simp at hd1)
  all_goals intro p loose mean mg mb dp un gd cn cs a ccd cl outer A₀ base h₀ L m news s Q E B F X N T hk hd hu hret
  all_goals refine wpAny_call ?_
  all_goals k_dflt cell_enter
  all_goals k_steps
  all_goals (refine' ret_b hret ?zE ?zF ?zN; (case zF => k_asm); (case zN => first | k_asm | (refine' cb_drop ?cbN ?cbS; (case cbN => assumption); (case cbS => kcj_all))); (case zE => rfl))

theorem ask_isleap_t (w : World) (y : Int) (t : Tok) (hy : -100000 < y) (hy2 : y < 170000000) (hl : gleapB y = true) : Ask w 1 50 [.int y t] (fun _ => .bool true) := by
  rw [← hl]
  exact ask_isleap w y t hy hy2
local macro_rules | `(tactic| tm_at "on call ref") => `(tactic| (k_here; (with_reducible show wpAny _ _ (call (Value.ref 50) _) _ _ _); k_dflt (refine' (ask_isleap_t _ _ _ ?c0 ?c1 ?c2) _ _ _ _ _ _ _ _ _ _ _ _ _ _ _ _ _ _ _ _ _ _ _ ?k1 ?k2 ?k3 ?k4 ?k5 ?kK ?kd ?ku ?_); (case k1 => k_asm); (case k2 => k_asm); (case k3 => k_asm); (case k4 => k_asm); (case k5 => k_asm); (case kK => first | exact rfl | assumption); (case kd => ktr_room); (case ku => ktr_units); (case c0 => omega); (case c1 => omega); (case c2 => with_reducible assumption); intro t9 h9 tk9 F9 N9; (try dsimp only); (try k_fold)))

theorem legal_2t (w : World) (y d : Int) (t t2 t3 : Tok) (hy : -100000 < y) (hy2 : y < 170000000) (hl : gleapB y = true) (hd0 : 1 ≤ d) (hd1 : d ≤ 29) : Ask w 2 57 [.int y t, .int 2 t2, .int d t3] (fun _ => .bool true) := by
  intro p loose mean mg mb dp un gd cn cs a ccd cl outer A₀ base h₀ L m news s Q E B F X N T hk hd hu hret
  refine wpAny_call ?_
  k_dflt cell_enter
  k_steps
  all_goals (refine' ret_b hret ?zE ?zF ?zN; (case zF => k_asm); (case zN => first | k_asm | (refine' cb_drop ?cbN ?cbS; (case cbN => assumption); (case cbS => kcj_all))); (case zE => rfl))

theorem ask_isleap_f (w : World) (y : Int) (t : Tok) (hy : -100000 < y) (hy2 : y < 170000000) (hl : gleapB y = false) : Ask w 1 50 [.int y t] (fun _ => .bool false) := by
  rw [← hl]
  exact ask_isleap w y t hy hy2
local macro_rules | `(tactic| tm_at "on call ref") => `(tactic| (k_here; (with_reducible show wpAny _ _ (call (Value.ref 50) _) _ _ _); k_dflt (refine' (ask_isleap_f _ _ _ ?c0 ?c1 ?c2) _ _ _ _ _ _ _ _ _ _ _ _ _ _ _ _ _ _ _ _ _ _ _ ?k1 ?k2 ?k3 ?k4 ?k5 ?kK ?kd ?ku ?_); (case k1 => k_asm); (case k2 => k_asm); (case k3 => k_asm); (case k4 => k_asm); (case k5 => k_asm); (case kK => first | exact rfl | assumption); (case kd => ktr_room); (case ku => ktr_units); (case c0 => omega); (case c1 => omega); (case c2 => with_reducible assumption); intro t9 h9 tk9 F9 N9; (try dsimp only); (try k_fold)))

theorem legal_2f (w : World) (y d : Int) (t t2 t3 : Tok) (hy : -100000 < y) (hy2 : y < 170000000) (hl : gleapB y = false) (hd0 : 1 ≤ d) (hd1 : d ≤ 28) : Ask w 2 57 [.int y t, .int 2 t2, .int d t3] (fun _ => .bool true) := by
  intro p loose mean mg mb dp un gd cn cs a ccd cl outer A₀ base h₀ L m news s Q E B F X N T hk hd hu hret
  refine wpAny_call ?_
  k_dflt cell_enter
  k_steps
  all_goals (refine' ret_b hret ?zE ?zF ?zN; (case zF => k_asm); (case zN => first | k_asm | (refine' cb_drop ?cbN ?cbS; (case cbN => assumption); (case cbS => kcj_all))); (case zE => rfl))

theorem ask_legal (w : World) (y mo d : Int) (t t2 t3 : Tok) (hy : -100000 < y) (hy2 : y < 170000000) (hm1 : 1 ≤ mo) (hm2 : mo ≤ 12) (hd0 : 1 ≤ d) (hd1 : d ≤ glen y mo) : Ask w 2 57 [.int y t, .int mo t2, .int d t3] (fun _ => .bool true) := by
  by_cases h2 : mo = 2
  · subst h2
    cases hl : gleapB y with
    | true => exact legal_2t w y d t t2 t3 hy hy2 hl hd0 (by simpa [glen, hl] using hd1)
    | false => exact legal_2f w y d t t2 t3 hy hy2 hl hd0 (by simpa [glen, hl] using hd1)
  · exact legal_m w y mo d t t2 t3 hy hy2 (by omega) hd0 hd1
local macro_rules | `(tactic| tm_at "on call ref") => `(tactic| (k_here; (with_reducible show wpAny _ _ (call (Value.ref 57) _) _ _ _); k_dflt (refine' (ask_legal _ _ _ _ _ _ _ ?c0 ?c1 ?c2 ?c3 ?c4 ?c5) _ _ _ _ _ _ _ _ _ _ _ _ _ _ _ _ _ _ _ _ _ _ _ ?k1 ?k2 ?k3 ?k4 ?k5 ?kK ?kd ?ku ?_); (case k1 => k_asm); (case k2 => k_asm); (case k3 => k_asm); (case k4 => k_asm); (case k5 => k_asm); (case kK => first | exact rfl | assumption); (case kd => ktr_room); (case ku => ktr_units); (case c0 => omega); (case c1 => omega); (case c2 => omega); (case c3 => omega); (case c4 => omega); (case c5 => first | with_reducible assumption | exact glen_one (by omega) (by omega)); intro t9 h9 tk9 F9 N9; (try dsimp only); (try k_fold)))

theorem ask_jdg (w : World) (y mo d : Int) (t t2 t3 : Tok) (hy : -100000 < y) (hy2 : y < 170000000) (hm1 : 1 ≤ mo) (hm2 : mo ≤ 12) (hd0 : 1 ≤ d) (hd1 : d ≤ glen y mo) : Ask w 3 64 [.int y t, .int mo t2, .int d t3] (fun t => .float (fh (jdg y mo d)) t) := by
  have hgb := glen_bd y mo
  intro p loose mean mg mb dp un gd cn cs a ccd cl outer A₀ base h₀ L m news s Q E B F X N T hk hd hu hret
  refine wpAny_call ?_
  k_dflt cell_enter
  k_steps
  all_goals (refine' ret_fh hret ?zE ?zF ?zN; (case zF => k_asm); (case zN => first | k_asm | (refine' cb_drop ?cbN ?cbS; (case cbN => assumption); (case cbS => kcj_all))); (case zE => (unfold jdg gadj; (repeat' split) <;> first | omega | (exfalso; simp_all; done))))
local macro_rules | `(tactic| tm_at "on call ref") => `(tactic| (k_here; (with_reducible show wpAny _ _ (call (Value.ref 64) _) _ _ _); k_dflt (refine' (ask_jdg _ _ _ _ _ _ _ ?c0 ?c1 ?c2 ?c3 ?c4 ?c5) _ _ _ _ _ _ _ _ _ _ _ _ _ _ _ _ _ _ _ _ _ _ _ ?k1 ?k2 ?k3 ?k4 ?k5 ?kK ?kd ?ku ?_); (case k1 => k_asm); (case k2 => k_asm); (case k3 => k_asm); (case k4 => k_asm); (case k5 => k_asm); (case kK => first | exact rfl | assumption); (case kd => ktr_room); (case ku => ktr_units); (case c0 => omega); (case c1 => omega); (case c2 => omega); (case c3 => omega); (case c4 => omega); (case c5 => first | with_reducible assumption | exact glen_one (by omega) (by omega)); intro t9 h9 tk9 F9 N9; (try dsimp only); (try k_fold)))

/- G1 -/
theorem jdg_jan (y : Int) : jdg y 1 1 = 1721425 + 365 * (y - 1) + (y - 1) / 4 - (y - 1) / 100 + (y - 1) / 400 := by
  unfold jdg gadj
  simp only [show (1 : Int) ≤ 2 by decide, if_true]
  omega
theorem gleapB_iff (y : Int) : gleapB y = true ↔ y % 4 = 0 ∧ (y % 100 ≠ 0 ∨ y % 400 = 0) := by
  unfold gleapB
  simp only [Bool.and_eq_true, Bool.or_eq_true, decide_eq_true_eq]

/-- the year by the code's way -/
theorem gyr_main {k Q r C rc q rq i : Int} (hQ : Q = (k - 1721425) / 146097) (hr : r = (k - 1721425) % 146097) (hC : C = r / 36524) (hrc : rc = r % 36524) (hq : q = rc / 1461) (hrq : rq = rc % 1461) (hi : i = rq / 365) :
    (0 ≤ C ∧ C ≤ 4 ∧ 0 ≤ q ∧ q ≤ 24 ∧ 0 ≤ i ∧ i ≤ 4) ∧
    ((C = 4 ∨ i = 4) → jdg (Q * 400 + C * 100 + q * 4 + i) 1 1 + 365 = k ∧ gleapB (Q * 400 + C * 100 + q * 4 + i) = true) ∧
    ((C ≠ 4 ∧ i ≠ 4) → jdg (Q * 400 + C * 100 + q * 4 + i + 1) 1 1 ≤ k ∧ k ≤ jdg (Q * 400 + C * 100 + q * 4 + i + 1) 1 1 + 365 ∧ (gleapB (Q * 400 + C * 100 + q * 4 + i + 1) = false → k ≤ jdg (Q * 400 + C * 100 + q * 4 + i + 1) 1 1 + 364)) := by
  have hr0 : 0 ≤ r ∧ r < 146097 := by omega
  have hk : k = 1721425 + 146097 * Q + r := by omega
  have hr1 : r = 36524 * C + rc := by omega
  have hrc0 : 0 ≤ rc ∧ rc < 36524 := by omega
  have hC0 : 0 ≤ C ∧ C ≤ 4 := by omega
  have hrc1 : rc = 1461 * q + rq := by omega
  have hrq0 : 0 ≤ rq ∧ rq < 1461 := by omega
  have hq0 : 0 ≤ q ∧ q ≤ 24 := by omega
  have hi0 : 0 ≤ i ∧ i ≤ 4 := by omega
  have hi1 : 365 * i ≤ rq ∧ rq < 365 * i + 365 := by omega
  clear hQ hr hC hrc hq hrq hi
  refine ⟨⟨hC0.1, hC0.2, hq0.1, hq0.2, hi0.1, hi0.2⟩, fun h => ?_, fun h => ?_⟩
  · rw [jdg_jan, gleapB_iff]
    by_cases h4 : C = 4
    · have hq' : q = 0 := by omega
      have hi' : i = 0 := by omega
      subst h4; subst hq'; subst hi'
      have e4 : (Q * 400 + 4 * 100 + 0 * 4 + 0 - 1) / 4 = 100 * Q + 99 := by omega
      have e100 : (Q * 400 + 4 * 100 + 0 * 4 + 0 - 1) / 100 = 4 * Q + 3 := by omega
      have e400 : (Q * 400 + 4 * 100 + 0 * 4 + 0 - 1) / 400 = Q := by omega
      rw [e4, e100, e400]
      refine ⟨by omega, by omega, .inr (by omega)⟩
    · have hi' : i = 4 := by omega
      have hq' : q ≤ 23 := by omega
      subst hi'
      have e4 : (Q * 400 + C * 100 + q * 4 + 4 - 1) / 4 = 100 * Q + 25 * C + q := by omega
      have e100 : (Q * 400 + C * 100 + q * 4 + 4 - 1) / 100 = 4 * Q + C := by omega
      have e400 : (Q * 400 + C * 100 + q * 4 + 4 - 1) / 400 = Q := by omega
      rw [e4, e100, e400]
      refine ⟨by omega, by omega, .inl (by omega)⟩
  · have hC3 : C ≤ 3 := by omega
    have hi3 : i ≤ 3 := by omega
    rw [jdg_jan]
    have e4 : (Q * 400 + C * 100 + q * 4 + i + 1 - 1) / 4 = 100 * Q + 25 * C + q := by omega
    have e100 : (Q * 400 + C * 100 + q * 4 + i + 1 - 1) / 100 = 4 * Q + C := by omega
    have e400 : (Q * 400 + C * 100 + q * 4 + i + 1 - 1) / 400 = Q := by omega
    rw [e4, e100, e400]
    refine ⟨by omega, by omega, fun hl => ?_⟩
    have hl' : ¬ (gleapB (Q * 400 + C * 100 + q * 4 + i + 1) = true) := by rw [hl]; decide
    rw [gleapB_iff] at hl'
    omega

/- C5 -/
abbrev tup3 (a : Int) (t1 : Tok) (b : Int) (t2 : Tok) (c : Int) (t3 : Tok) (n : Nat) : Obj := { cls := .type "tuple", data := .seq #[.int a t1, .int b t2, .int c t3] n }
abbrev Ret3 (h₀ : Heap) (L : Addr) (m : Str → Option Value) (news : List (Addr × Obj)) (s : Shared) (Q : Value → Shared → Prop) (a b c : Int) : Prop :=
  ∀ (D : Addr) (t1 t2 t3 : Tok) (n : Nat) (h' : Heap) (tk' : Nat), Fr h₀ L h' m → News h₀ L h' ((D, tup3 a t1 b t2 c t3 n) :: news) → AllLt D news → Q (.ref D) { s with heap := h', toks := tk' }
abbrev Ask3 (w : World) (D : Nat) (f : Addr) (vs : List Value) (x y z : Int) : Prop :=
  ∀ (p : Program) (loose : List Str) (mean : ExcName → Option Value) (mg mb : Str → Option Value) (dp un : Nat) (gd : Option (List Code)) (cn : Str) (cs : Scope) (a : Addr) (ccd : Value) (cl : List (Str × Addr)) (outer : List Env) (A₀ : Around) (base h₀ : Heap) (L : Addr) (m : Str → Option Value) (news : List (Addr × Obj)) (s : Shared) (Q E : Value → Shared → Prop),
    Below A₀ base outer h₀ → Fr h₀ L s.heap m → (hd.heap_39 w.params).In h₀ → News h₀ L s.heap news → Top p loose mean mg mb h₀ → cs.kind = .function →
    dp + D < recursionLimit → un + 8 * D < cLine → Ret3 h₀ L m news s Q x y z →
      wpAny (model PySem.Challenge.pw_ad5029_01 w) (ktrTop dp un gd cn cs L a ccd cl outer) (call (.ref f) vs) Q E s
theorem ret_3 {h₀ h' : Heap} {L D : Addr} {m : Str → Option Value} {news news' : List (Addr × Obj)} {s : Shared} {Q : Value → Shared → Prop} {t1 t2 t3 : Tok} {n tk' : Nat} {a b c a' b' c' : Int} (hret : Ret3 h₀ L m news s Q a b c) (F : Fr h₀ L h' m)
    (NM : News h₀ L h' news' ∧ (D, tup3 a' t1 b' t2 c' t3 n) ∈ news') (hn : ∀ p ∈ news, p ∈ news') (hl : AllLt D news) (e1 : a' = a) (e2 : b' = b) (e3 : c' = c) : Q (.ref D) { s with heap := h', toks := tk' } := by
  subst e1; subst e2; subst e3
  refine hret D t1 t2 t3 n h' tk' F (fun p hp => ?_) hl
  rcases List.mem_cons.mp hp with rfl | hp
  · exact NM.1 _ NM.2
  · exact NM.1 p (hn p hp)

def gyr (k : Int) : Int :=
  let Q := (k - 1721425) / 146097
  let C := (k - 1721425) % 146097 / 36524
  let q := (k - 1721425) % 146097 % 36524 / 1461
  let i := (k - 1721425) % 146097 % 36524 % 1461 / 365
  if C = 4 ∨ i = 4 then Q * 400 + C * 100 + q * 4 + i else Q * 400 + C * 100 + q * 4 + i + 1
def gyd (k : Int) : Int := k - jdg (gyr k) 1 1
def gmo (k : Int) : Int := ((gyd k + (if gyd k < (if gleapB (gyr k) = true then 59 else 58) then 0 else if gleapB (gyr k) = true then 1 else 2)) * 12 + 373) / 367
def gda (k : Int) : Int := k - jdg (gyr k) (gmo k) 1 + 1

theorem gmonth_t {y k : Int} (hl : gleapB y = true) (h0 : jdg y 1 1 ≤ k) (h1 : k ≤ jdg y 1 1 + 365) {M L : Int} (hL : (k - jdg y 1 1 < 59 ∧ L = 0) ∨ (¬ k - jdg y 1 1 < 59 ∧ L = 1)) (hM : M = ((k - jdg y 1 1 + L) * 12 + 373) / 367) : 1 ≤ M ∧ M ≤ 12 ∧ jdg y M 1 ≤ k ∧ k < jdg y M 1 + glen y M := by
  have hj : ∀ m, jdg y m 1 = jdg y 1 1 + ((367 * m - 362) / 12 + gadj y m) := by
    intro m
    unfold jdg gadj
    simp only [show (1 : Int) ≤ 2 by decide, if_true]
    omega
  have hb : 1 ≤ M ∧ M ≤ 12 := by omega
  refine ⟨hb.1, hb.2, ?_⟩
  rw [hj M]
  generalize jdg y 1 1 = J at *
  have hc : M = 1 ∨ M = 2 ∨ M = 3 ∨ M = 4 ∨ M = 5 ∨ M = 6 ∨ M = 7 ∨ M = 8 ∨ M = 9 ∨ M = 10 ∨ M = 11 ∨ M = 12 := by omega
  clear hj
  rcases hc with h | h | h | h | h | h | h | h | h | h | h | h <;> subst h <;> simp [gadj, glen, hl] <;> omega
theorem gmonth_f {y k : Int} (hl : gleapB y = false) (h0 : jdg y 1 1 ≤ k) (h1 : k ≤ jdg y 1 1 + 364) {M L : Int} (hL : (k - jdg y 1 1 < 58 ∧ L = 0) ∨ (¬ k - jdg y 1 1 < 58 ∧ L = 2)) (hM : M = ((k - jdg y 1 1 + L) * 12 + 373) / 367) : 1 ≤ M ∧ M ≤ 12 ∧ jdg y M 1 ≤ k ∧ k < jdg y M 1 + glen y M := by
  have hj : ∀ m, jdg y m 1 = jdg y 1 1 + ((367 * m - 362) / 12 + gadj y m) := by
    intro m
    unfold jdg gadj
    simp only [show (1 : Int) ≤ 2 by decide, if_true]
    omega
  have hb : 1 ≤ M ∧ M ≤ 12 := by omega
  refine ⟨hb.1, hb.2, ?_⟩
  rw [hj M]
  generalize jdg y 1 1 = J at *
  have hc : M = 1 ∨ M = 2 ∨ M = 3 ∨ M = 4 ∨ M = 5 ∨ M = 6 ∨ M = 7 ∨ M = 8 ∨ M = 9 ∨ M = 10 ∨ M = 11 ∨ M = 12 := by omega
  clear hj
  rcases hc with h | h | h | h | h | h | h | h | h | h | h | h <;> subst h <;> simp [gadj, glen, hl] <;> omega

/-- the year of the code's way: its year's days -/
theorem gyr_day {k : Int} : jdg (gyr k) 1 1 ≤ k ∧ k ≤ jdg (gyr k) 1 1 + 365 ∧ (gleapB (gyr k) = false → k ≤ jdg (gyr k) 1 1 + 364) := by
  obtain ⟨hb, ha, hc⟩ := gyr_main (k := k) rfl rfl rfl rfl rfl rfl rfl
  by_cases hbr : (k - 1721425) % 146097 / 36524 = 4 ∨ (k - 1721425) % 146097 % 36524 % 1461 / 365 = 4
  · obtain ⟨h1, hl⟩ := ha hbr
    have e1 : gyr k = ((k - 1721425) / 146097 * 400 + (k - 1721425) % 146097 / 36524 * 100 + (k - 1721425) % 146097 % 36524 / 1461 * 4 + (k - 1721425) % 146097 % 36524 % 1461 / 365) := by unfold gyr; exact if_pos hbr
    rw [e1]
    exact ⟨by omega, by omega, fun h => by rw [hl] at h; cases h⟩
  · have hbr' : (k - 1721425) % 146097 / 36524 ≠ 4 ∧ (k - 1721425) % 146097 % 36524 % 1461 / 365 ≠ 4 := ⟨fun h => hbr (.inl h), fun h => hbr (.inr h)⟩
    obtain ⟨h1, h2, h3⟩ := hc hbr'
    have e1 : gyr k = ((k - 1721425) / 146097 * 400 + (k - 1721425) % 146097 / 36524 * 100 + (k - 1721425) % 146097 % 36524 / 1461 * 4 + (k - 1721425) % 146097 % 36524 % 1461 / 365) + 1 := by unfold gyr; exact if_neg hbr
    rw [e1]
    exact ⟨h1, h2, h3⟩
theorem gmo_0 {k Y c L : Int} (hY : gyr k = Y) (hb : (gleapB Y = true ∧ c = 59 ∧ L = 1) ∨ (gleapB Y = false ∧ c = 58 ∧ L = 2)) (hn : k - jdg Y 1 1 < c) : gmo k = ((k - jdg Y 1 1 + 0) * 12 + 373) / 367 := by
  unfold gmo gyd
  rw [hY]
  rcases hb with ⟨hl, rfl, rfl⟩ | ⟨hl, rfl, rfl⟩
  · rw [hl]; simp only [if_true]; rw [if_pos hn]
  · rw [hl]; simp only [Bool.false_eq_true, if_false]; rw [if_pos hn]
theorem gmo_1 {k Y c L : Int} (hY : gyr k = Y) (hb : (gleapB Y = true ∧ c = 59 ∧ L = 1) ∨ (gleapB Y = false ∧ c = 58 ∧ L = 2)) (hn : ¬ k - jdg Y 1 1 < c) : gmo k = ((k - jdg Y 1 1 + L) * 12 + 373) / 367 := by
  unfold gmo gyd
  rw [hY]
  rcases hb with ⟨hl, rfl, rfl⟩ | ⟨hl, rfl, rfl⟩
  · rw [hl]; simp only [if_true]; rw [if_neg hn]
  · rw [hl]; simp only [Bool.false_eq_true, if_false]; rw [if_neg hn]
theorem gda_eq {k Y M : Int} (hY : gyr k = Y) (hM : gmo k = M) : k - jdg Y M 1 + 1 = gda k := by
  subst hY; subst hM; rfl
theorem Fr.same {h₀ h' : Heap} {L : Addr} {m : Str → Option Value} {n : Str} {v : Value} (F : Fr h₀ L h' m) (e : m n = some v) : Fr h₀ L h' (fun y => if y = n then some v else m y) := by
  have e2 : (fun y => if y = n then some v else m y) = m := by
    funext y
    by_cases h : y = n
    · rw [if_pos h, h, e]
    · rw [if_neg h]
  rw [e2]; exact F
def YMk (_k : Int) : Prop := True
def LMk (k Y : Int) : Prop := gyr k = Y ∧ jdg Y 1 1 ≤ k ∧ k ≤ jdg Y 1 1 + 365 ∧ (gleapB Y = false → k ≤ jdg Y 1 1 + 364)
def AMk (k Y c L : Int) : Prop := (gyr k = Y ∧ jdg Y 1 1 ≤ k ∧ k ≤ jdg Y 1 1 + 365 ∧ (gleapB Y = false → k ≤ jdg Y 1 1 + 364)) ∧ ((gleapB Y = true ∧ c = 59 ∧ L = 1) ∨ (gleapB Y = false ∧ c = 58 ∧ L = 2))
def JSet (n : Str) (P : Int → Prop) (h₀ : Heap) (L : Addr) (m : Str → Option Value) (news : List (Addr × Obj)) (s : Shared) (fl : Flow) (s' : Shared) : Prop :=
  fl = .next ∧ ∃ (x : Int) (t : Tok) (h' : Heap) (tk' : Nat), P x ∧ s' = { s with heap := h', toks := tk' } ∧ Fr h₀ L h' (fun y => if y = n then some (.int x t) else m y) ∧ News h₀ L h' news
theorem JSet.intro {n : Str} {P : Int → Prop} {h₀ h' : Heap} {L : Addr} {m : Str → Option Value} {news : List (Addr × Obj)} {s : Shared} {tk' : Nat} {x : Int} {t : Tok} (F : Fr h₀ L h' (fun y => if y = n then some (.int x t) else m y)) (N : News h₀ L h' news) (h : P x) :
    JSet n P h₀ L m news s .next { s with heap := h', toks := tk' } := ⟨rfl, x, t, h', tk', h, rfl, F, N⟩
section
variable {M : Model} {A : Around} {E : Value → Shared → Prop} {s : Shared} {h₀ : Heap} {L : Addr} {m : Str → Option Value} {news : List (Addr × Obj)}
theorem join_set {n : Str} {P : Int → Prop} {st : Stmt} {env : Env} {Q : Flow → Shared → Prop}
    (hb : wpAny M A (exec st env) (JSet n P h₀ L m news s) E s)
    (k : ∀ (x : Int) (t : Tok) (h' : Heap) (tk' : Nat), P x → Fr h₀ L h' (fun y => if y = n then some (.int x t) else m y) → News h₀ L h' news → Q .next { s with heap := h', toks := tk' }) :
    wpAny M A (exec st env) Q E s := by
  refine wpAny_mono hb ?_ fun _ _ e => e
  rintro fl s' ⟨rfl, x, t, h', tk', hx, rfl, F', N'⟩
  exact k x t h' tk' hx F' N'
theorem join_year {k : Int} {st : Stmt} {env : Env} {Q : Flow → Shared → Prop} (_mk : YMk k) (_F : Fr h₀ L s.heap m) (_N : News h₀ L s.heap news)
    (ha : (k - 1721425) % 146097 / 36524 = 4 → gyr k = ((k - 1721425) / 146097 * 400 + (k - 1721425) % 146097 / 36524 * 100 + (k - 1721425) % 146097 % 36524 / 1461 * 4 + (k - 1721425) % 146097 % 36524 % 1461 / 365) → wpAny M A (exec st env) (JSet (Str.ofString "year") (fun x => gyr k = x) h₀ L m news s) E s)
    (hb : (k - 1721425) % 146097 / 36524 ≠ 4 → (k - 1721425) % 146097 % 36524 % 1461 / 365 = 4 → gyr k = ((k - 1721425) / 146097 * 400 + (k - 1721425) % 146097 / 36524 * 100 + (k - 1721425) % 146097 % 36524 / 1461 * 4 + (k - 1721425) % 146097 % 36524 % 1461 / 365) → wpAny M A (exec st env) (JSet (Str.ofString "year") (fun x => gyr k = x) h₀ L m news s) E s)
    (hc : (k - 1721425) % 146097 / 36524 ≠ 4 → (k - 1721425) % 146097 % 36524 % 1461 / 365 ≠ 4 → gyr k = ((k - 1721425) / 146097 * 400 + (k - 1721425) % 146097 / 36524 * 100 + (k - 1721425) % 146097 % 36524 / 1461 * 4 + (k - 1721425) % 146097 % 36524 % 1461 / 365) + 1 → wpAny M A (exec st env) (JSet (Str.ofString "year") (fun x => gyr k = x) h₀ L m news s) E s)
    (ko : ∀ (Y : Int) (t : Tok) (h' : Heap) (tk' : Nat), LMk k Y → gyr k = Y → jdg Y 1 1 ≤ k → k ≤ jdg Y 1 1 + 365 → Fr h₀ L h' (fun y => if y = Str.ofString "year" then some (.int Y t) else m y) → News h₀ L h' news → Q .next { s with heap := h', toks := tk' }) :
    wpAny M A (exec st env) Q E s := by
  refine join_set (h₀ := h₀) (L := L) (m := m) (news := news) (n := Str.ofString "year") (P := fun x => gyr k = x) ?_ fun Y t h' tk' hY F' N' => ?_
  · by_cases h1 : (k - 1721425) % 146097 / 36524 = 4
    · exact ha h1 (by unfold gyr; exact if_pos (.inl h1))
    · by_cases h2 : (k - 1721425) % 146097 % 36524 % 1461 / 365 = 4
      · exact hb h1 h2 (by unfold gyr; exact if_pos (.inr h2))
      · exact hc h1 h2 (by unfold gyr; exact if_neg (by rintro (h | h); exact h1 h; exact h2 h))
  · have := gyr_day (k := k)
    rw [hY] at this
    exact ko Y t h' tk' ⟨hY, this⟩ hY this.1 this.2.1 F' N'
theorem fork_leap {k Y : Int} {f : Value} {vs : List Value} {Q : Value → Shared → Prop} (mk : LMk k Y)
    (ht : AMk k Y 59 1 → gleapB Y = true → wpAny M A (call f vs) Q E s) (hf : AMk k Y 58 2 → gleapB Y = false → k ≤ jdg Y 1 1 + 364 → wpAny M A (call f vs) Q E s) : wpAny M A (call f vs) Q E s := by
  cases hl : gleapB Y with
  | true => exact ht ⟨mk, .inl ⟨hl, rfl, rfl⟩⟩ hl
  | false => exact hf ⟨mk, .inr ⟨hl, rfl, rfl⟩⟩ hl (mk.2.2.2 hl)
theorem join_adj {k Y c D : Int} {st : Stmt} {env : Env} {Q : Flow → Shared → Prop} (mk : AMk k Y c D) (_F : Fr h₀ L s.heap m) (_N : News h₀ L s.heap news)
    (ha : k - jdg Y 1 1 < c → gmo k = ((k - jdg Y 1 1 + 0) * 12 + 373) / 367 ∧ 0 ≤ (0 : Int) ∧ (0 : Int) ≤ 2 → wpAny M A (exec st env) (JSet (Str.ofString "leap_adj") (fun x => gmo k = ((k - jdg Y 1 1 + x) * 12 + 373) / 367 ∧ 0 ≤ x ∧ x ≤ 2) h₀ L m news s) E s)
    (hb : ¬ k - jdg Y 1 1 < c → gmo k = ((k - jdg Y 1 1 + D) * 12 + 373) / 367 ∧ 0 ≤ D ∧ D ≤ 2 → wpAny M A (exec st env) (JSet (Str.ofString "leap_adj") (fun x => gmo k = ((k - jdg Y 1 1 + x) * 12 + 373) / 367 ∧ 0 ≤ x ∧ x ≤ 2) h₀ L m news s) E s)
    (ko : ∀ (x : Int) (t : Tok) (h' : Heap) (tk' : Nat), gmo k = ((k - jdg Y 1 1 + x) * 12 + 373) / 367 → 0 ≤ x → x ≤ 2 → 1 ≤ ((k - jdg Y 1 1 + x) * 12 + 373) / 367 → ((k - jdg Y 1 1 + x) * 12 + 373) / 367 ≤ 12 → jdg Y (((k - jdg Y 1 1 + x) * 12 + 373) / 367) 1 ≤ k → k < jdg Y (((k - jdg Y 1 1 + x) * 12 + 373) / 367) 1 + 31 → Fr h₀ L h' (fun y => if y = Str.ofString "leap_adj" then some (.int x t) else m y) → News h₀ L h' news → Q .next { s with heap := h', toks := tk' }) :
    wpAny M A (exec st env) Q E s := by
  obtain ⟨⟨hY, h1, h2, h3⟩, hb'⟩ := mk
  refine join_set (h₀ := h₀) (L := L) (m := m) (news := news) (n := Str.ofString "leap_adj") (P := fun x => gmo k = ((k - jdg Y 1 1 + x) * 12 + 373) / 367 ∧ 0 ≤ x ∧ x ≤ 2) ?_ fun x t h' tk' hx F' N' => ?_
  · by_cases hn : k - jdg Y 1 1 < c
    · exact ha hn ⟨gmo_0 hY hb' hn, by omega, by omega⟩
    · exact hb hn ⟨gmo_1 hY hb' hn, by omega, by omega⟩
  · have key : 1 ≤ gmo k ∧ gmo k ≤ 12 ∧ jdg Y (gmo k) 1 ≤ k ∧ k < jdg Y (gmo k) 1 + glen Y (gmo k) := by
      by_cases hn : k - jdg Y 1 1 < c
      · have e := gmo_0 hY hb' hn
        rcases hb' with ⟨hl, rfl, rfl⟩ | ⟨hl, rfl, rfl⟩
        · exact gmonth_t hl h1 h2 (.inl ⟨hn, rfl⟩) e
        · exact gmonth_f hl h1 (h3 hl) (.inl ⟨hn, rfl⟩) e
      · have e := gmo_1 hY hb' hn
        rcases hb' with ⟨hl, rfl, rfl⟩ | ⟨hl, rfl, rfl⟩
        · exact gmonth_t hl h1 h2 (.inr ⟨hn, rfl⟩) e
        · exact gmonth_f hl h1 (h3 hl) (.inr ⟨hn, rfl⟩) e
    have hg := glen_bd Y (gmo k)
    rw [hx.1] at key hg
    exact ko x t h' tk' hx.1 hx.2.1 hx.2.2 key.1 key.2.1 key.2.2.1 (by omega) F' N'
end
local macro_rules | `(tactic| tm_at "on exec If") => `(tactic| ((with_reducible show wpAny _ _ (exec (Stmt.If (Expr.UnaryOp _ _ _) _ _ _) _) _ _ _); (with_reducible rename YMk _ => mk9); k_here; (rename Fr _ _ _ _ => lF'); (rename News _ _ _ _ => lN'); (refine' join_year mk9 lF' lN' (fun hc9 he9 => ?_) (fun hc9 hi9 he9 => ?_) (fun hc9 hi9 he9 => ?_) (fun Y9 t9 h9 tk9 mk8 hY9 hY8 hY7 F9 N9 => ?_)); (all_goals (clear mk9)); (all_goals (try dsimp only)); (all_goals (try k_fold))))
local macro_rules | `(tactic| tm_at "on exec If") => `(tactic| ((with_reducible rename AMk _ _ _ _ => mk9); k_here; (rename Fr _ _ _ _ => lF'); (rename News _ _ _ _ => lN'); (refine' join_adj mk9 lF' lN' (fun hc9 hg9 => ?_) (fun hc9 hg9 => ?_) (fun x9 t9 h9 tk9 hx9 hx8 hx7 hx6 hx5 hx4 hx3 F9 N9 => ?_)); (all_goals (clear mk9)); (all_goals (try dsimp only)); (all_goals (try k_fold))))
local macro_rules | `(tactic| tm_at "on call ref") => `(tactic| (k_here; (with_reducible show wpAny _ _ (call (Value.ref 50) _) _ _ _); (with_reducible rename LMk _ _ => mk9); (refine' fork_leap mk9 (fun mk8 hl9 => ?_) (fun mk8 hl9 hl8 => ?_)); (all_goals (clear mk9))))
local macro_rules | `(tactic| tm_at "on JSet") => `(tactic| (refine' JSet.intro ?zF ?zN ?zP; (case zF => first | k_asm | (refine' Fr.same ?zG ?ze; (case zG => k_asm); (case ze => k_dflt rfl))); (case zN => first | k_asm | (refine' cb_drop ?cbN ?cbS; (case cbN => assumption); (case cbS => kcj_all))); (case zP => assumption)))

theorem ask_fromg (w : World) (k : Int) (t : Tok) (hk0 : 300000 < k) (hk2 : k < 50000000000) : Ask3 w 4 71 [.float (fh k) t] (gyr k) (gmo k) (gda k) := by
  have hmk : YMk k := trivial
  have hyb : -90000 < gyr k ∧ gyr k < 160000000 := by
    have h := gyr_day (k := k)
    rw [jdg_jan] at h
    omega
  obtain ⟨hyb1, hyb2⟩ := hyb
  intro p loose mean mg mb dp un gd cn cs a ccd cl outer A₀ base h₀ L m news s Q E B F X N T hk hd hu hret
  refine wpAny_call ?_
  k_dflt cell_enter
  k_steps
  all_goals (refine' ret_3 hret ?zF ?zN ?zS ?zL ?z1 ?z2 ?z3; (case zF => k_asm); (case zN => kcu_news); (case zS => kcj_all); (case zL => kcu_lt); (case z1 => exact Eq.symm (by assumption)); (case z2 => exact Eq.symm (by assumption)); (case z3 => exact gda_eq (by assumption) (by assumption)))

/- C6 -/
/-- the code's date is a date and its number -/
theorem gdate {k : Int} : 1 ≤ gmo k ∧ gmo k ≤ 12 ∧ 1 ≤ gda k ∧ gda k ≤ glen (gyr k) (gmo k) ∧ jdg (gyr k) (gmo k) (gda k) = k ∧ jdg (gyr k) 1 1 ≤ k ∧ k < jdg (gyr k + 1) 1 1 := by
  have hyd : jdg (gyr k) 1 1 ≤ k ∧ k ≤ jdg (gyr k) 1 1 + 365 ∧ (gleapB (gyr k) = false → k ≤ jdg (gyr k) 1 1 + 364) := by
    obtain ⟨hb, ha, hc⟩ := gyr_main (k := k) rfl rfl rfl rfl rfl rfl rfl
    by_cases hbr : (k - 1721425) % 146097 / 36524 = 4 ∨ (k - 1721425) % 146097 % 36524 % 1461 / 365 = 4
    · obtain ⟨h1, hl⟩ := ha hbr
      have e1 : gyr k = ((k - 1721425) / 146097 * 400 + (k - 1721425) % 146097 / 36524 * 100 + (k - 1721425) % 146097 % 36524 / 1461 * 4 + (k - 1721425) % 146097 % 36524 % 1461 / 365) := by unfold gyr; exact if_pos hbr
      rw [e1]
      exact ⟨by omega, by omega, fun h => by rw [hl] at h; cases h⟩
    · have hbr' : (k - 1721425) % 146097 / 36524 ≠ 4 ∧ (k - 1721425) % 146097 % 36524 % 1461 / 365 ≠ 4 := ⟨fun h => hbr (.inl h), fun h => hbr (.inr h)⟩
      obtain ⟨h1, h2, h3⟩ := hc hbr'
      have e1 : gyr k = ((k - 1721425) / 146097 * 400 + (k - 1721425) % 146097 / 36524 * 100 + (k - 1721425) % 146097 % 36524 / 1461 * 4 + (k - 1721425) % 146097 % 36524 % 1461 / 365) + 1 := by unfold gyr; exact if_neg hbr
      rw [e1]
      exact ⟨h1, h2, h3⟩
  have hnext : k < jdg (gyr k + 1) 1 1 := by
    obtain ⟨h1, h2, h3⟩ := hyd
    generalize gyr k = y at *
    rw [jdg_jan] at *
    cases hl : gleapB y with
    | true =>
      have := (gleapB_iff y).mp hl
      omega
    | false =>
      have := h3 hl
      omega
  have key : 1 ≤ gmo k ∧ gmo k ≤ 12 ∧ jdg (gyr k) (gmo k) 1 ≤ k ∧ k < jdg (gyr k) (gmo k) 1 + glen (gyr k) (gmo k) := by
    obtain ⟨h1, h2, h3⟩ := hyd
    have hm : gmo k = ((gyd k + (if gyd k < (if gleapB (gyr k) = true then 59 else 58) then 0 else if gleapB (gyr k) = true then 1 else 2)) * 12 + 373) / 367 := rfl
    have hd : gyd k = k - jdg (gyr k) 1 1 := rfl
    cases hl : gleapB (gyr k) with
    | true =>
      rw [hl] at hm
      simp only [if_true] at hm
      by_cases hn : gyd k < 59
      · rw [if_pos hn, hd] at hm
        exact gmonth_t hl h1 h2 (.inl ⟨by omega, rfl⟩) hm
      · rw [if_neg hn, hd] at hm
        exact gmonth_t hl h1 h2 (.inr ⟨by omega, rfl⟩) hm
    | false =>
      rw [hl] at hm
      simp only [Bool.false_eq_true, if_false] at hm
      by_cases hn : gyd k < 58
      · rw [if_pos hn, hd] at hm
        exact gmonth_f hl h1 (h3 hl) (.inl ⟨by omega, rfl⟩) hm
      · rw [if_neg hn, hd] at hm
        exact gmonth_f hl h1 (h3 hl) (.inr ⟨by omega, rfl⟩) hm
  obtain ⟨k1, k2, k3, k4⟩ := key
  have hg : gda k = k - jdg (gyr k) (gmo k) 1 + 1 := rfl
  have hj : ∀ d, jdg (gyr k) (gmo k) d = jdg (gyr k) (gmo k) 1 + d - 1 := by
    intro d
    unfold jdg
    omega
  refine ⟨k1, k2, by omega, by omega, ?_, hyd.1, hnext⟩
  rw [hj, hg]
  omega
theorem gyr_bd {k : Int} (h : 300000 < k) (h2 : k < 50000000000) : -90000 < gyr k ∧ gyr k < 160000000 := by
  obtain ⟨_, _, _, _, _, h3, h4⟩ := gdate (k := k)
  rw [jdg_jan] at h3 h4
  omega
local macro_rules | `(tactic| tm_at "on call ref") => `(tactic| (k_here; (with_reducible show wpAny _ _ (call (Value.ref 71) _) _ _ _); k_dflt (refine' (ask_fromg _ _ _ ?c0 ?c1) _ _ _ _ _ _ _ _ _ _ _ _ _ _ _ _ _ _ _ _ _ _ _ ?k1 ?k2 ?k3 ?k4 ?k5 ?kK ?kd ?ku ?_); (case k1 => k_asm); (case k2 => k_asm); (case k3 => k_asm); (case k4 => k_asm); (case k5 => k_asm); (case kK => first | exact rfl | assumption); (case kd => ktr_room); (case ku => ktr_units); (case c0 => omega); (case c1 => omega); intro D9 t19 t29 t39 n9 h9 tk9 F9 N9 l9; (try dsimp only); (try k_fold)))

theorem ask_togreg (w : World) (y mo d : Int) (t t2 t3 : Tok) (hy : -6 < y) (hy2 : y < 130000000) (hm1 : 1 ≤ mo) (hm2 : mo ≤ 13) (hd0 : 1 ≤ d) (hd1 : d ≤ 30) (hj0 : 300000 < jdh y mo d) (hj1 : jdh y mo d < 50000000000) : Ask3 w 8 148 [.int y t, .int mo t2, .int d t3] (gyr (jdh y mo d)) (gmo (jdh y mo d)) (gda (jdh y mo d)) := by
  intro p loose mean mg mb dp un gd cn cs a ccd cl outer A₀ base h₀ L m news s Q E B F X N T hk hd hu hret
  refine wpAny_call ?_
  k_dflt cell_enter
  k_steps
  all_goals (refine' ret_3 hret ?zF ?zN ?zS ?zL ?z1 ?z2 ?z3; (case zF => k_asm); (case zN => kcu_news); (case zS => kcj_all); (case zL => kcu_lt); (case z1 => rfl); (case z2 => rfl); (case z3 => rfl))
local macro_rules | `(tactic| tm_at "on call ref") => `(tactic| (k_here; (with_reducible show wpAny _ _ (call (Value.ref 148) _) _ _ _); k_dflt (refine' (ask_togreg _ _ _ _ _ _ _ ?c0 ?c1 ?c2 ?c3 ?c4 ?c5 ?c6 ?c7) _ _ _ _ _ _ _ _ _ _ _ _ _ _ _ _ _ _ _ _ _ _ _ ?k1 ?k2 ?k3 ?k4 ?k5 ?kK ?kd ?ku ?_); (case k1 => k_asm); (case k2 => k_asm); (case k3 => k_asm); (case k4 => k_asm); (case k5 => k_asm); (case kK => first | exact rfl | assumption); (case kd => ktr_room); (case ku => ktr_units); (case c0 => omega); (case c1 => omega); (case c2 => omega); (case c3 => omega); (case c4 => omega); (case c5 => omega); (case c6 => omega); (case c7 => omega); intro D9 t19 t29 t39 n9 h9 tk9 F9 N9 l9; (try dsimp only); (try k_fold)))

/- C7 -/
section
variable {prog : Program} {w : World} {A : Around} {E : Value → Shared → Prop} {s : Shared} {t u : Tok} {Q : Value → Shared → Prop} {x y : UInt64} {a b c : Int}
theorem r_jul1 (hb : b.natAbs < 2 ^ 51) (h : ∀ z, z = PySem.Float64.sub (PySem.Float64.ofInt b) x122 → Q (.float z s.toks) { s with toks := s.toks + 1 }) : wpAny (model prog w) A (binaryOp .Sub (.int b u) (.float 4638292440600962662 t)) Q E s :=
  sub_if_fits (small1023 (by omega)) (h _ rfl)
theorem r_jul2 (hx : x = PySem.Float64.sub (PySem.Float64.ofInt b) x122) (h0 : 123 ≤ b) (h1 : b < 2 ^ 37) (hA : A.handled = none) (h : ∀ z, Flo z ((4 * b - 489) / 1461) → Q (.float z s.toks) { s with toks := s.toks + 1 }) : wpAny (model prog w) A (binaryOp .Div (.float x t) (.float 4645133162144333824 u)) Q E s := by
  subst hx
  refine truediv_float_or hA (fun q => ?_) (fun _ => ?_)
  · have : PySem.Float64.isZero (4645133162144333824 : UInt64) = false := by decide +kernel
    rw [this] at q; cases q
  · have := jul_c h0 h1
    exact h _ ⟨this.1, this.2⟩
theorem r_jul3 (h0 : 0 ≤ c) (h1 : c < 2 ^ 40) (h : ∀ z, Flo z (1461 * c / 4) → Q (.float z s.toks) { s with toks := s.toks + 1 }) : wpAny (model prog w) A (binaryOp .Mult (.float 4645133162144333824 t) (.int c u)) Q E s :=
  mul_fi_fits (small1023 (by omega)) (by have := jul_d h0 h1; exact h _ ⟨this.1, this.2⟩)
theorem r_jul4 (h0 : 100 ≤ c) (h1 : c < 500) (hA : A.handled = none) (h : ∀ z, Flo z (c * 10000 / 306001) → Q (.float z s.toks) { s with toks := s.toks + 1 }) : wpAny (model prog w) A (binaryOp .Div (.int c u) (.float 4629306380116972641 t)) Q E s := by
  refine PySem.Flt.truediv_if hA (fun q => absurd q (notOver (by omega))) (fun _ q => ?_) (fun _ _ => ?_)
  · have : PySem.Float64.isZero (4629306380116972641 : UInt64) = false := by decide +kernel
    rw [this] at q; cases q
  · have := jul_e h0 h1
    exact h _ ⟨this.1, this.2⟩
theorem r_jul5 (h0 : 0 ≤ c) (h1 : c < 20) (h : ∀ z, Flo z (306001 * c / 10000) → Q (.float z s.toks) { s with toks := s.toks + 1 }) : wpAny (model prog w) A (binaryOp .Mult (.float 4629306380116972641 t) (.int c u)) Q E s :=
  mul_fi_fits (small1023 (by omega)) (by have := jul_f h0 h1; exact h _ ⟨this.1, this.2⟩)
end
local macro_rules | `(tactic| tm_at "on binaryOp Sub int float") => `(tactic| (refine' r_jul1 ?h1 ?_; (case h1 => omega); intro z' hZ'; (try dsimp only)))
local macro_rules | `(tactic| tm_at "on binaryOp Div float float") => `(tactic| (refine' r_jul2 ?h1 ?h2 ?h3 ?h4 ?_; (case h1 => with_reducible assumption); (case h2 => omega); (case h3 => omega); (case h4 => k_dflt rfl); intro z' hz'; (try dsimp only)))
local macro_rules | `(tactic| tm_at "on binaryOp Mult float int") => `(tactic| ((first | (refine' r_jul3 ?h2 ?h3 ?_; (case h2 => omega); (case h3 => omega)) | (refine' r_jul5 ?h2 ?h3 ?_; (case h2 => omega); (case h3 => omega))); intro z' hz'; (try dsimp only)))
local macro_rules | `(tactic| tm_at "on binaryOp Div int float") => `(tactic| (refine' r_jul4 ?h2 ?h3 ?h4 ?_; (case h2 => omega); (case h3 => omega); (case h4 => k_dflt rfl); intro z' hz'; (try dsimp only)))

def jul3 (k : Int) : Int × Int × Int :=
  let m := if (((k + 1 + 1524) - (1461 * ((4 * (k + 1 + 1524) - 489) / 1461) / 4)) * 10000 / 306001) < 14 then (((k + 1 + 1524) - (1461 * ((4 * (k + 1 + 1524) - 489) / 1461) / 4)) * 10000 / 306001) - 1 else (((k + 1 + 1524) - (1461 * ((4 * (k + 1 + 1524) - 489) / 1461) / 4)) * 10000 / 306001) - 13
  (if m > 2 then ((4 * (k + 1 + 1524) - 489) / 1461) - 4716 else ((4 * (k + 1 + 1524) - 489) / 1461) - 4715, m, (k + 1 + 1524) - (1461 * ((4 * (k + 1 + 1524) - 489) / 1461) / 4) - 306001 * (((k + 1 + 1524) - (1461 * ((4 * (k + 1 + 1524) - 489) / 1461) / 4)) * 10000 / 306001) / 10000)

theorem ask_fromj (w : World) (k : Int) (t : Tok) (hk0 : 300000 < k) (hk2 : k < 50000000000) : Ask3 w 2 171 [.float (fh k) t] (jul3 k).1 (jul3 k).2.1 (jul3 k).2.2 := by
  have hc1 : 1461 * ((4 * (k + 1 + 1524) - 489) / 1461) ≤ 4 * (k + 1 + 1524) - 489 ∧ 4 * (k + 1 + 1524) - 489 < 1461 * ((4 * (k + 1 + 1524) - 489) / 1461) + 1461 := by omega
  have hd1 : 4 * (1461 * ((4 * (k + 1 + 1524) - 489) / 1461) / 4) ≤ 1461 * ((4 * (k + 1 + 1524) - 489) / 1461) ∧ 1461 * ((4 * (k + 1 + 1524) - 489) / 1461) < 4 * (1461 * ((4 * (k + 1 + 1524) - 489) / 1461) / 4) + 4 := by omega
  have he1 : 306001 * (((k + 1 + 1524) - (1461 * ((4 * (k + 1 + 1524) - 489) / 1461) / 4)) * 10000 / 306001) ≤ ((k + 1 + 1524) - (1461 * ((4 * (k + 1 + 1524) - 489) / 1461) / 4)) * 10000 ∧ ((k + 1 + 1524) - (1461 * ((4 * (k + 1 + 1524) - 489) / 1461) / 4)) * 10000 < 306001 * (((k + 1 + 1524) - (1461 * ((4 * (k + 1 + 1524) - 489) / 1461) / 4)) * 10000 / 306001) + 306001 := by omega
  have hbd : 123 ≤ (k + 1 + 1524) - (1461 * ((4 * (k + 1 + 1524) - 489) / 1461) / 4) ∧ (k + 1 + 1524) - (1461 * ((4 * (k + 1 + 1524) - 489) / 1461) / 4) < 490 := by omega
  have heb : 4 ≤ (((k + 1 + 1524) - (1461 * ((4 * (k + 1 + 1524) - 489) / 1461) / 4)) * 10000 / 306001) ∧ (((k + 1 + 1524) - (1461 * ((4 * (k + 1 + 1524) - 489) / 1461) / 4)) * 10000 / 306001) ≤ 15 := by omega
  intro p loose mean mg mb dp un gd cn cs a ccd cl outer A₀ base h₀ L m news s Q E B F X N T hk hd hu hret
  refine wpAny_call ?_
  k_dflt cell_enter
  k_steps
  all_goals (refine' ret_3 hret ?zF ?zN ?zS ?zL ?z1 ?z2 ?z3; (case zF => k_asm); (case zN => kcu_news); (case zS => kcj_all); (case zL => kcu_lt); (case z1 => first | (unfold jul3; dsimp only; done) | (unfold jul3; dsimp only; (repeat' split) <;> first | rfl | omega)); (case z2 => first | (unfold jul3; dsimp only; done) | (unfold jul3; dsimp only; (repeat' split) <;> first | rfl | omega)); (case z3 => first | (unfold jul3; dsimp only; done) | (unfold jul3; dsimp only; (repeat' split) <;> first | rfl | omega)))
local macro_rules | `(tactic| tm_at "on call ref") => `(tactic| (k_here; (with_reducible show wpAny _ _ (call (Value.ref 171) _) _ _ _); k_dflt (refine' (ask_fromj _ _ _ ?c0 ?c1) _ _ _ _ _ _ _ _ _ _ _ _ _ _ _ _ _ _ _ _ _ _ _ ?k1 ?k2 ?k3 ?k4 ?k5 ?kK ?kd ?ku ?_); (case k1 => k_asm); (case k2 => k_asm); (case k3 => k_asm); (case k4 => k_asm); (case k5 => k_asm); (case kK => first | exact rfl | assumption); (case kd => ktr_room); (case ku => ktr_units); (case c0 => omega); (case c1 => omega); intro D9 t19 t29 t39 n9 h9 tk9 F9 N9 l9; (try dsimp only); (try k_fold)))

theorem ask_juli (w : World) (y mo d : Int) (t t2 t3 : Tok) (hy : -100000 < y) (hy2 : y < 170000000) (hm1 : 1 ≤ mo) (hm2 : mo ≤ 12) (hd0 : 1 ≤ d) (hd1 : d ≤ glen y mo) (hj0 : 300000 < jdg y mo d) (hj1 : jdg y mo d < 50000000000) : Ask3 w 4 178 [.int y t, .int mo t2, .int d t3] (jul3 (jdg y mo d)).1 (jul3 (jdg y mo d)).2.1 (jul3 (jdg y mo d)).2.2 := by
  intro p loose mean mg mb dp un gd cn cs a ccd cl outer A₀ base h₀ L m news s Q E B F X N T hk hd hu hret
  refine wpAny_call ?_
  k_dflt cell_enter
  k_steps
  all_goals (refine' ret_3 hret ?zF ?zN ?zS ?zL ?z1 ?z2 ?z3; (case zF => k_asm); (case zN => kcu_news); (case zS => kcj_all); (case zL => kcu_lt); (case z1 => rfl); (case z2 => rfl); (case z3 => rfl))
local macro_rules | `(tactic| tm_at "on call ref") => `(tactic| (k_here; (with_reducible show wpAny _ _ (call (Value.ref 178) _) _ _ _); k_dflt (refine' (ask_juli _ _ _ _ _ _ _ ?c0 ?c1 ?c2 ?c3 ?c4 ?c5 ?c6 ?c7) _ _ _ _ _ _ _ _ _ _ _ _ _ _ _ _ _ _ _ _ _ _ _ ?k1 ?k2 ?k3 ?k4 ?k5 ?kK ?kd ?ku ?_); (case k1 => k_asm); (case k2 => k_asm); (case k3 => k_asm); (case k4 => k_asm); (case k5 => k_asm); (case kK => first | exact rfl | assumption); (case kd => ktr_room); (case ku => ktr_units); (case c0 => omega); (case c1 => omega); (case c2 => omega); (case c3 => omega); (case c4 => omega); (case c5 => first | with_reducible assumption | exact glen_one (by omega) (by omega)); (case c6 => omega); (case c7 => omega); intro D9 t19 t29 t39 n9 h9 tk9 F9 N9 l9; (try dsimp only); (try k_fold)))

/- Lp2 -/
structure WMark (j : Nat) (P : Int → Int → Prop) (μ : Int → Int → Nat) (G : Int → Int → Prop) (aE bE : Int) : Prop where
  h : ∀ a b, P a b → G a b

section
variable {prog : Program} {w : World} {A : Around} {E : Value → Shared → Prop} {s : Shared} {env : Env} {h₀ : Heap} {L : Addr} {Q : Flow → Shared → Prop}

def WEnd (h₀ : Heap) (L : Addr) (m₀ : Str → Option Value) (n1 n2 : Str) (news : List (Addr × Obj)) (P : Int → Int → Prop) (μ : Int → Int → Nat) (a b : Int) (s₁ s₂ : Shared) : Prop :=
  ∃ h' tk m' news' a' b' ta tb, s₂ = { s₁ with heap := h', toks := tk } ∧ Fr h₀ L h' m' ∧ News h₀ L h' news' ∧ (∀ p ∈ news, p ∈ news') ∧ m' n1 = some (.int a' ta) ∧ m' n2 = some (.int b' tb) ∧ (∀ z, z ≠ n1 → z ≠ n2 → m' z = m₀ z) ∧ P a' b' ∧ μ a' b' < μ a b
def WPost (h₀ : Heap) (L : Addr) (m₀ : Str → Option Value) (n1 n2 : Str) (news : List (Addr × Obj)) (P : Int → Int → Prop) (μ : Int → Int → Nat) (a b : Int) (s₁ : Shared) (Q : Flow → Shared → Prop) (f : Flow) (s₂ : Shared) : Prop :=
  match f with
  | .ret v => Q (.ret v) s₂
  | .brk => Q .next s₂
  | _ => WEnd h₀ L m₀ n1 n2 news P μ a b s₁ s₂
theorem WEnd.intro {m₀ m' : Str → Option Value} {n1 n2 : Str} {news news' : List (Addr × Obj)} {P : Int → Int → Prop} {μ : Int → Int → Nat} {a b a' b' : Int} {ta tb : Tok} {s₁ : Shared} {h' : Heap} {tk : Nat} (F : Fr h₀ L h' m') (N : News h₀ L h' news') (h1 : ∀ p ∈ news, p ∈ news')
    (hj : m' n1 = some (.int a' ta)) (hk : m' n2 = some (.int b' tb)) (hr : ∀ z, z ≠ n1 → z ≠ n2 → m' z = m₀ z) (hp : P a' b') (hm : μ a' b' < μ a b) : WEnd h₀ L m₀ n1 n2 news P μ a b s₁ { s₁ with heap := h', toks := tk } :=
  ⟨h', tk, m', news', a', b', ta, tb, rfl, F, N, h1, hj, hk, hr, hp, hm⟩
def WOut (h₀ : Heap) (L : Addr) (m₀ : Str → Option Value) (n1 n2 : Str) (news : List (Addr × Obj)) (a b : Int) (ta tb : Tok) (aE bE : Int) (s₁ s₂ : Shared) : Prop :=
  ∃ h' tk news', s₂ = { s₁ with heap := h', toks := tk } ∧ Fr h₀ L h' (fun z => if z = n1 then some (.int a ta) else if z = n2 then some (.int b tb) else m₀ z) ∧ News h₀ L h' news' ∧ (∀ p ∈ news, p ∈ news') ∧ a = aE ∧ b = bE
theorem WOut.intro {m₀ : Str → Option Value} {n1 n2 : Str} {news news' : List (Addr × Obj)} {a b aE bE : Int} {ta tb : Tok} {s₁ : Shared} {h' : Heap} {tk : Nat} (F : Fr h₀ L h' (fun z => if z = n1 then some (.int a ta) else if z = n2 then some (.int b tb) else m₀ z)) (N : News h₀ L h' news') (h1 : ∀ p ∈ news, p ∈ news') (ha : a = aE) (hb : b = bE) :
    WOut h₀ L m₀ n1 n2 news a b ta tb aE bE s₁ { s₁ with heap := h', toks := tk } := ⟨h', tk, news', rfl, F, N, h1, ha, hb⟩

theorem while2 {test : Expr} {body : List Stmt} {pos : Pos} {m₀ : Str → Option Value} {news : List (Addr × Obj)} {P : Int → Int → Prop} {μ : Int → Int → Nat} {G : Int → Int → Prop} {aE bE a0 b0 : Int} {ta tb : Tok} {j : Nat} (n1 n2 : Str) (W : WMark j P μ G aE bE)
    (F : Fr h₀ L s.heap m₀) (N : News h₀ L s.heap news) (hk1 : m₀ n1 = some (.int a0 ta)) (hk2 : m₀ n2 = some (.int b0 tb)) (hp : P a0 b0)
    (turn : ∀ (a b : Int) (ta tb : Tok) (h : Heap) (tk : Nat), P a b → G a b → Fr h₀ L h (fun z => if z = n1 then some (.int a ta) else if z = n2 then some (.int b tb) else m₀ z) → News h₀ L h news →
      wpAny (model prog w) A (isTrue test env (eval test env)) (fun bb s₂ => if bb = true then wpAny (model prog w) A (execs body env) (WPost h₀ L m₀ n1 n2 news P μ a b s Q) E s₂ else WOut h₀ L m₀ n1 n2 news a b ta tb aE bE s s₂) E { s with heap := h, toks := tk })
    (done : ∀ (ta tb : Tok) (h : Heap) (tk : Nat), Fr h₀ L h (fun z => if z = n1 then some (.int aE ta) else if z = n2 then some (.int bE tb) else m₀ z) → News h₀ L h news → Q .next { s with heap := h, toks := tk })
    (hE : PassesOwn (model prog w) A env E := by passes_own) :
    wpAny (model prog w) A (exec (.While test body [] pos) env) Q E s := by
  refine ksw_while (σ := Int × Int × Tok × Tok) (fun _ => news) (fun c => [(n1, Value.int c.1 c.2.2.1), (n2, Value.int c.2.1 c.2.2.2)]) (fun _ => True) [] (fun c => P c.1 c.2.1) (fun c => μ c.1 c.2.1) (a0, b0, ta, tb) F N trivial ?_ hp ?_ hE
  · intro p hp
    rcases List.mem_cons.mp hp with rfl | hp
    · exact hk1
    · rw [List.mem_singleton.mp hp]
      exact hk2
  · intro c u h tk _ hc F₁ N₁
    have F₂ : Fr h₀ L h (fun z => if z = n1 then some (.int c.1 c.2.2.1) else if z = n2 then some (.int c.2.1 c.2.2.2) else m₀ z) := F₁
    refine wpAny_mono (turn c.1 c.2.1 c.2.2.1 c.2.2.2 h tk hc (W.h _ _ hc) F₂ N₁) (fun bb s₂ hq => ?_) fun _ _ e => e
    cases bb with
    | false =>
      simp only [Bool.false_eq_true, if_false] at hq ⊢
      obtain ⟨h', tk', news', rfl, F', N', hn, ha, hb⟩ := hq
      rw [ha, hb] at F'
      exact done _ _ h' tk' F' (fun p hp => N' p (hn p hp))
    | true =>
      simp only [if_true] at hq ⊢
      refine wpAny_mono hq (fun f s₃ hq => ?_) fun _ _ e => e
      have key : WEnd h₀ L m₀ n1 n2 news P μ c.1 c.2.1 s s₃ → KswEnd h₀ L s (fun (_ : Int × Int × Tok × Tok) => news) (fun c => [(n1, Value.int c.1 c.2.2.1), (n2, Value.int c.2.1 c.2.2.2)]) (fun _ => True) [] m₀ (fun c => P c.1 c.2.1) (fun c => μ c.1 c.2.1) c s₃ := by
        rintro ⟨h', tk', m', news', a', b', ta', tb', rfl, F', N', hn, hj, hk, hr, hp, hm⟩
        refine ksw_end (a', b', ta', tb') F' N' hn trivial ?_ ?_ hp hm
        · intro p hp
          rcases List.mem_cons.mp hp with rfl | hp
          · exact hj
          · rw [List.mem_singleton.mp hp]
            exact hk
        · intro z hz _
          exact hr z (hz _ (.head _)) (hz _ (.tail _ (.head _)))
      cases f with
      | ret v => exact hq
      | brk => exact hq
      | next => exact key hq
      | cont => exact key hq
end
local macro_rules | `(tactic| tm_at "on WPost") => `(tactic| (dsimp only [WPost]))
local macro_rules | `(tactic| tm_at "on WEnd") => `(tactic| (refine' WEnd.intro ?zF ?zN ?z1 ?z2 ?z3 ?z4 ?z5 ?z6; (case zF => k_asm); (case zN => k_asm); (case z1 => (intro p hp; first | assumption | kcj_all)); (case z2 => with_unfolding_all rfl); (case z3 => with_unfolding_all rfl); (case z4 => (intro z h1 h2; first | rfl | (simp [h1, h2]; done))); (case z5 => ((try dsimp only); omega)); (case z6 => ((try dsimp only); omega))))
local macro_rules | `(tactic| tm_at "on WOut") => `(tactic| (refine' WOut.intro ?zF ?zN ?z1 ?z2 ?z3; (case zF => k_asm); (case zN => k_asm); (case z1 => (intro p hp; first | assumption | kcj_all)); (case z2 => omega); (case z3 => omega)))
local macro_rules | `(tactic| tm_at "mine while") => `(tactic| ((rename Fr _ _ _ _ => lF'); (rename News _ _ _ _ => lN'); (first
  | (with_unfolding_all refine' while2 (j := 2) (Str.ofString "i") (Str.ofString "month") (by assumption) lF' lN' ?zk1 ?zk2 ?zp ?zt ?zd; (case zk1 => with_unfolding_all rfl); (case zk2 => with_unfolding_all rfl); (case zp => ((try dsimp only); omega)))
  | (with_unfolding_all refine' while2 (j := 1) (Str.ofString "i") (Str.ofString "year") (by assumption) lF' lN' ?zk1 ?zk2 ?zp ?zt ?zd; (case zk1 => with_unfolding_all rfl); (case zk2 => with_unfolding_all rfl); (case zp => ((try dsimp only); omega)))); (all_goals (try clear lF' lN')); (case' zt => (intro a9 b9 ta9 tb9 h9 tk9 hP9 hG9 F9 N9; (try dsimp only at hP9 hG9))); (case' zd => intro ta9 tb9 h9 tk9 F9 N9); (all_goals (try dsimp only)); (all_goals (try k_fold))))

/- C8 -/
local macro_rules | `(tactic| tm_at "on exec While Compare cons nil") => `(tactic| tm_at "mine while")
theorem moff_bd {y m : Int} (h1 : 1 ≤ m) (h2 : m ≤ 13) : 0 ≤ moff y m ∧ moff y m ≤ 400 := by
  have hy := ymon_bd y
  have a1 := msum_bd y (rangeKs 7 (ymon y + 1 - 7).toNat)
  have a2 := msum_bd y (rangeKs 1 (m - 1).toNat)
  have a3 := msum_bd y (rangeKs 7 (m - 7).toNat)
  rw [rangeKs_length] at a1 a2 a3
  unfold moff
  split <;> omega
theorem jdh_bd {y m d : Int} (h : -12 ≤ y) (h2 : y ≤ 200000000) (h3 : 1 ≤ m) (h4 : m ≤ 13) (h5 : 1 ≤ d) (h6 : d ≤ 30) : 341996 ≤ jdh y m d ∧ jdh y m d ≤ 80000349000 := by
  have := tish_bd h h2
  have := moff_bd (y := y) h3 h4
  unfold jdh
  omega

theorem ask_fromh_a (w : World) (k y M : Int) (t : Tok) (hy0 : 0 ≤ y) (hy2 : y < 120000000) (hk1 : tish y + 1 ≤ k) (hk2 : k < tish (y + 1) + 1) (hk3 : k < 40000000000) (hk0 : 347995 ≤ k) (hmono : ∀ i, -5 < i → i ≤ y → tish i ≤ tish y) (hc : (k - 347995) * 98496 / 35975351 ≤ y + 1) (hc2 : -5 < (k - 347995) * 98496 / 35975351)
    (hM1 : 1 ≤ M) (hM2 : M ≤ 6) (hf : jdh y 1 1 ≤ k) (hlo : ∀ i, 1 ≤ i → i < M → jdh y i (mlen y i) < k) (hhi : k ≤ jdh y M (mlen y M)) (hD : jdh y M 1 ≤ k) : Ask3 w 9 134 [.float (fh k) t] y M (k - jdh y M 1 + 1) := by
  have hb1 := jdh_bd (y := y) (m := 1) (d := 1) (by omega) (by omega) (by omega) (by omega) (by omega) (by omega)
  have hb2 := jdh_bd (y := y) (m := M) (d := 1) (by omega) (by omega) (by omega) (by omega) (by omega) (by omega)
  have hb3 := tish_bd (y := y) (by omega) (by omega)
  have hW1 : WMark 1 (fun a b => b = a - 1 ∧ (k - 347995) * 98496 / 35975351 ≤ a ∧ a ≤ y + 1) (fun a _ => (y + 1 - a).toNat) (fun a _ => (341996 ≤ tish a ∧ tish a ≤ 80000348000) ∧ ((a = y + 1 ∧ k < tish a + 1) ∨ (a ≤ y ∧ tish a + 1 ≤ k))) (y + 1) y := by
    refine ⟨fun a b hP => ⟨tish_bd (by omega) (by omega), ?_⟩⟩
    by_cases h : a ≤ y
    · have := hmono a (by omega) h
      exact .inr ⟨h, by omega⟩
    · have e : a = y + 1 := by omega
      subst e
      exact .inl ⟨rfl, hk2⟩
  have hW2 : WMark 2 (fun a b => b = a ∧ 1 ≤ a ∧ a ≤ M) (fun a _ => (M - a).toNat) (fun a _ => (29 ≤ mlen y a ∧ mlen y a ≤ 30) ∧ (341996 ≤ jdh y a (mlen y a) ∧ jdh y a (mlen y a) ≤ 80000349000) ∧ ((a = M ∧ k ≤ jdh y a (mlen y a)) ∨ (a < M ∧ jdh y a (mlen y a) < k))) M M := by
    refine ⟨fun a b hP => ?_⟩
    have hm := mlen_bd y a
    refine ⟨hm, jdh_bd (by omega) (by omega) (by omega) (by omega) (by omega) (by omega), ?_⟩
    by_cases h : a < M
    · exact .inr ⟨h, hlo a hP.2.1 h⟩
    · have e : a = M := by omega
      subst e
      exact .inl ⟨rfl, hhi⟩
  intro p loose mean mg mb dp un gd cn cs a ccd cl outer A₀ base h₀ L m news s Q E B F X N T hk hd hu hret
  refine wpAny_call ?_
  k_dflt cell_enter
  k_steps
  all_goals (refine' ret_3 hret ?zF ?zN ?zS ?zL ?z1 ?z2 ?z3; (case zF => k_asm); (case zN => kcu_news); (case zS => kcj_all); (case zL => kcu_lt); (case z1 => rfl); (case z2 => rfl); (case z3 => rfl))

theorem ask_fromh_b (w : World) (k y M : Int) (t : Tok) (hy0 : 0 ≤ y) (hy2 : y < 120000000) (hk1 : tish y + 1 ≤ k) (hk2 : k < tish (y + 1) + 1) (hk3 : k < 40000000000) (hk0 : 347995 ≤ k) (hmono : ∀ i, -5 < i → i ≤ y → tish i ≤ tish y) (hc : (k - 347995) * 98496 / 35975351 ≤ y + 1) (hc2 : -5 < (k - 347995) * 98496 / 35975351)
    (hM1 : 7 ≤ M) (hM2 : M ≤ 13) (hf : k < jdh y 1 1) (hlo : ∀ i, 7 ≤ i → i < M → jdh y i (mlen y i) < k) (hhi : k ≤ jdh y M (mlen y M)) (hD : jdh y M 1 ≤ k) : Ask3 w 9 134 [.float (fh k) t] y M (k - jdh y M 1 + 1) := by
  have hb1 := jdh_bd (y := y) (m := 1) (d := 1) (by omega) (by omega) (by omega) (by omega) (by omega) (by omega)
  have hb2 := jdh_bd (y := y) (m := M) (d := 1) (by omega) (by omega) (by omega) (by omega) (by omega) (by omega)
  have hb3 := tish_bd (y := y) (by omega) (by omega)
  have hW1 : WMark 1 (fun a b => b = a - 1 ∧ (k - 347995) * 98496 / 35975351 ≤ a ∧ a ≤ y + 1) (fun a _ => (y + 1 - a).toNat) (fun a _ => (341996 ≤ tish a ∧ tish a ≤ 80000348000) ∧ ((a = y + 1 ∧ k < tish a + 1) ∨ (a ≤ y ∧ tish a + 1 ≤ k))) (y + 1) y := by
    refine ⟨fun a b hP => ⟨tish_bd (by omega) (by omega), ?_⟩⟩
    by_cases h : a ≤ y
    · have := hmono a (by omega) h
      exact .inr ⟨h, by omega⟩
    · have e : a = y + 1 := by omega
      subst e
      exact .inl ⟨rfl, hk2⟩
  have hW2 : WMark 2 (fun a b => b = a ∧ 7 ≤ a ∧ a ≤ M) (fun a _ => (M - a).toNat) (fun a _ => (29 ≤ mlen y a ∧ mlen y a ≤ 30) ∧ (341996 ≤ jdh y a (mlen y a) ∧ jdh y a (mlen y a) ≤ 80000349000) ∧ ((a = M ∧ k ≤ jdh y a (mlen y a)) ∨ (a < M ∧ jdh y a (mlen y a) < k))) M M := by
    refine ⟨fun a b hP => ?_⟩
    have hm := mlen_bd y a
    refine ⟨hm, jdh_bd (by omega) (by omega) (by omega) (by omega) (by omega) (by omega), ?_⟩
    by_cases h : a < M
    · exact .inr ⟨h, hlo a hP.2.1 h⟩
    · have e : a = M := by omega
      subst e
      exact .inl ⟨rfl, hhi⟩
  intro p loose mean mg mb dp un gd cn cs a ccd cl outer A₀ base h₀ L m news s Q E B F X N T hk hd hu hret
  refine wpAny_call ?_
  k_dflt cell_enter
  k_steps
  all_goals (refine' ret_3 hret ?zF ?zN ?zS ?zL ?z1 ?z2 ?z3; (case zF => k_asm); (case zN => kcu_news); (case zS => kcj_all); (case zL => kcu_lt); (case z1 => rfl); (case z2 => rfl); (case z3 => rfl))

/- Fu -/
section
variable {prog : Program} {w : World} {A A₀ : Around} {E : Value → Shared → Prop} {s : Shared} {K : Frag} {L : Addr} {h₀ base : Heap} {m mg mb : Str → Option Value} {news : List (Addr × Obj)} {p : Program} {loose : List Str} {mean : ExcName → Option Value}

def LeaveF (h₀ : Heap) (L : Addr) (m : Str → Option Value) (news : List (Addr × Obj)) (g : Heap) (R : Result → Shared → Prop) (v : Value) (s' : Shared) : Prop :=
  ∃ L' m' news', Fr g L' s'.heap m' ∧ News g L' s'.heap news' ∧ (Fr h₀ L s'.heap m → News h₀ L s'.heap (news' ++ news) → R (.ok (.ret v)) s')
theorem leaveF_ {g : Heap} {L' : Addr} {m' : Str → Option Value} {news' : List (Addr × Obj)} {R : Result → Shared → Prop} {v : Value} {s' : Shared} (F' : Fr g L' s'.heap m') (N' : News g L' s'.heap news')
    (k : Fr h₀ L s'.heap m → News h₀ L s'.heap (news' ++ news) → R (.ok (.ret v)) s') : LeaveF h₀ L m news g R v s' := ⟨L', m', news', F', N', k⟩

theorem code_full {env : Env} {outer : List Env} {R : Result → Shared → Prop} {name qual : Str} {params : Arguments} {body : List Stmt} {scope : Scope} {dV kV doc pm cdv ct oc : Value} {an od : Option Addr} {osl : Array (Option Value)} {f : Addr} {args : Args} {binds : List (Str × Value)}
    (B : Below A₀ base outer h₀) (F : Fr h₀ L s.heap m) (X₀ : K.In h₀) (N : News h₀ L s.heap news) (T : Top p loose mean mg mb h₀) (hA : A.frames = some (env :: outer)) (hf : env.frame = some L) (hke : env.scope.kind = .function)
    (ho : K.lookup f = some ⟨oc, od, .func (fnOf name qual params body scope dV kV doc pm an cdv ct), osl⟩) (hcd : codeIn K cdv qual = true) (hroom : A.depth < recursionLimit)
    (hbind : BindsTo s (fnOf name qual params body scope dV kV doc pm an cdv ct) args binds) (hloc : ∀ y ∈ binds, scope.names.lookup y.1 = some .local)
    (h : ∀ g L' h₁, Fr g L' h₁ (fun y => binds.reverse.lookup y) → News g L' h₁ [] → Below A base (env :: outer) g → K.In g → Top p loose mean mg mb g →
      wpAny (model prog w) (A.deeper (envOf qual scope L' f cdv)) (execs body (envOf qual scope L' f cdv))
        (fun fl s' => LeaveF h₀ L m news g R (match fl with | .ret v => v | _ => .none) s')
        (fun e s' => wpAny (model prog w) (A.deeper (envOf qual scope L' f cdv)) (leaving (envOf qual scope L' f cdv) e) (fun _ s'' => R (.error e) s'') (fun e' s'' => R (.error e') s'') s')
        { s with heap := h₁, toks := s.toks + binds.length })
    (hco : scope.isCoroutine = false) (hgen : scope.isGenerator = false) (hk : scope.kind = .function)
    (hcell : ∀ x ∈ scope.names, x.2 ≠ .cell) : codeAny (model prog w) A (.call (.ref f) args) R s := by
  have N0 : News h₀ L s.heap [] := fun _ hp => nomatch hp
  obtain ⟨FG, BG, st, _⟩ := groundX (R := R) B F N0 hA hf hke
  refine codeAny_call_def (fd := fnOf name qual params body scope dV kV doc pm an cdv ct) (body := body) (binds := binds) hroom ((X₀.keeps F.keep) _ _ ho) rfl (T.nolimit.keeps F.keep) (codeRec_of (X₀.keeps F.keep) hcd) rfl hbind hcell hloc (fun h₁ hns hk₁ => ?_) hco hgen hk
  refine wpAny_mono (h s.heap s.heap.objs.size h₁ ⟨hns, hk₁, Nat.le_refl _⟩ (fun _ hp => nomatch hp) BG (X₀.keeps F.keep) (T.keeps F.keep)) (fun fl s' hl => ?_) fun _ _ y => y
  obtain ⟨L', m', news', F', N', k⟩ := hl
  obtain ⟨oL, es, ep, hL, hLd, hLk, hLf⟩ := F.ns
  refine k ⟨⟨oL, es, ep, F'.keep L oL hL, hLd, hLk, hLf⟩, fun b o e => F'.keep b o (F.keep b o e), F.above⟩ fun q hq => ?_
  rcases List.mem_append.mp hq with hq | hq
  · refine ⟨(N' q hq).1, fun e => ?_, ?_⟩
    · have := (N' q hq).2.2; rw [e, hL] at this; cases this
    · cases z : h₀.get? q.1 with
      | none => rfl
      | some o => have := (N' q hq).2.2; rw [F.keep _ _ z] at this; cases this
  · exact ⟨F'.keep _ _ (N q hq).1, (N q hq).2.1, (N q hq).2.2⟩
end
abbrev Ret3w (h₀ : Heap) (L : Addr) (m : Str → Option Value) (news : List (Addr × Obj)) (s : Shared) (Q : Value → Shared → Prop) (a b c : Int) : Prop :=
  ∀ (D : Addr) (t1 t2 t3 : Tok) (n : Nat) (h' : Heap) (tk' : Nat), Fr h₀ L h' m → News h₀ L h' ((D, tup3 a t1 b t2 c t3 n) :: news) → Q (.ref D) { s with heap := h', toks := tk' }
abbrev Ask3w (w : World) (D : Nat) (f : Addr) (vs : List Value) (x y z : Int) : Prop :=
  ∀ (p : Program) (loose : List Str) (mean : ExcName → Option Value) (mg mb : Str → Option Value) (dp un : Nat) (gd : Option (List Code)) (cn : Str) (cs : Scope) (a : Addr) (ccd : Value) (cl : List (Str × Addr)) (outer : List Env) (A₀ : Around) (base h₀ : Heap) (L : Addr) (m : Str → Option Value) (news : List (Addr × Obj)) (s : Shared) (Q E : Value → Shared → Prop),
    Below A₀ base outer h₀ → Fr h₀ L s.heap m → (hd.heap_39 w.params).In h₀ → News h₀ L s.heap news → Top p loose mean mg mb h₀ → cs.kind = .function →
    dp + D < recursionLimit → un + 8 * D < cLine → Ret3w h₀ L m news s Q x y z →
      wpAny (model PySem.Challenge.pw_ad5029_01 w) (ktrTop dp un gd cn cs L a ccd cl outer) (call (.ref f) vs) Q E s
theorem ret_3w {h₀ h' : Heap} {L D : Addr} {m : Str → Option Value} {news news' : List (Addr × Obj)} {s : Shared} {Q : Value → Shared → Prop} {t1 t2 t3 : Tok} {n tk' : Nat} {a b c a' b' c' : Int} (hret : Ret3w h₀ L m news s Q a b c) (F : Fr h₀ L h' m)
    (N : News h₀ L h' (news' ++ news)) (hm : (D, tup3 a' t1 b' t2 c' t3 n) ∈ news') (e1 : a' = a) (e2 : b' = b) (e3 : c' = c) : Q (.ref D) { s with heap := h', toks := tk' } := by
  subst e1; subst e2; subst e3
  refine hret D t1 t2 t3 n h' tk' F (fun p hp => ?_)
  rcases List.mem_cons.mp hp with rfl | hp
  · exact N _ (List.mem_append_left _ hm)
  · exact N p (List.mem_append_right _ hp)
theorem ret_sw {h₀ h' : Heap} {L : Addr} {m : Str → Option Value} {news news' : List (Addr × Obj)} {s : Shared} {Q : Value → Shared → Prop} {t : Tok} {tk' : Nat} {R : Tok → Value} (hret : Ret h₀ L m news s Q R) (F : Fr h₀ L h' m) (N : News h₀ L h' (news' ++ news)) : Q (R t) { s with heap := h', toks := tk' } :=
  hret t h' tk' F fun p hp => N p (List.mem_append_right _ hp)
local macro_rules | `(tactic| tm_at "mine full") => `(tactic| (refine' code_full ?k1 ?k2 ?k3 ?k4 ?k5 ?kA ?kF ?kK ?k6 ?k7 ?k8 ?k9 ?kB ?_ ?c2 ?c3 ?c4 ?c5; (case kA => exact rfl); (case kF => exact rfl); (case kK => first | exact rfl | assumption); (case k1 => k_asm); (case k2 => k_asm); (case k3 => k_asm); (case k4 => k_asm); (case k5 => k_asm); (case k6 => k_is); (case k7 => k_is); (case k8 => ktr_room); (case k9 => first | exact BindsTo.of_eq rfl | exact binds_K (by k_in) rfl (by k_is) rfl rfl rfl); (case c5 => decide); (case kB => exact locs rfl); (case c2 => exact rfl); (case c3 => exact rfl); (case c4 => exact rfl); k_whole; intro g' L' h' F' N' B' X' T'; (try dsimp only); (try k_fold)))
local macro_rules | `(tactic| tm_at "on LeaveF") => `(tactic| (k_dflt (refine' leaveF_ ?k1 ?k2 ?_; (case k1 => k_asm); (case k2 => k_asm); k_whole); intro kF kN; (try dsimp only)))

/- Fu2 -/
section
variable {prog : Program} {w : World} {A A₀ : Around} {E : Value → Shared → Prop} {s : Shared} {K : Frag} {L a : Addr} {h₀ base : Heap} {m mg mb : Str → Option Value} {news : List (Addr × Obj)} {p : Program} {loose : List Str} {mean : ExcName → Option Value}

def LeaveFS (fs : List Addr) (h₀ : Heap) (L : Addr) (m : Str → Option Value) (news : List (Addr × Obj)) (g : Heap) (R : Result → Shared → Prop) (v : Value) (s' : Shared) : Prop :=
  ∃ g' L' m' news', KtsTurn fs g g' ∧ Fr g' L' s'.heap m' ∧ News g' L' s'.heap news' ∧ (Fr h₀ L s'.heap m → News h₀ L s'.heap (news' ++ news) → R (.ok (.ret v)) s')
theorem leaveFS_ {fs : List Addr} {g g' : Heap} {L' : Addr} {m' : Str → Option Value} {news' : List (Addr × Obj)} {R : Result → Shared → Prop} {v : Value} {s' : Shared} (F' : Fr g' L' s'.heap m') (N' : News g' L' s'.heap news') (T : KtsTurn fs g g')
    (k : Fr h₀ L s'.heap m → News h₀ L s'.heap (news' ++ news) → R (.ok (.ret v)) s') : LeaveFS fs h₀ L m news g R v s' := ⟨g', L', m', news', T, F', N', k⟩

theorem code_fullS {cn : Str} {cs : Scope} {ccd : Value} {R : Result → Shared → Prop} {name qual : Str} {params : Arguments} {body : List Stmt} {scope : Scope} {dV kV doc pm cdv ct oc : Value} {an od : Option Addr} {osl : Array (Option Value)} {f : Addr} {args : Args} {binds : List (Str × Value)}
    (B : Below A₀ base [] h₀) (F : Fr h₀ L s.heap m) (X₀ : K.In h₀) (N : News h₀ L s.heap news) (T : Top p loose mean mg mb h₀) (hA : A.frames = some [envOf cn cs L a ccd])
    (ho : K.lookup f = some ⟨oc, od, .func (fnOf name qual params body scope dV kV doc pm an cdv ct), osl⟩) (hcd : codeIn K cdv qual = true) (hroom : A.depth < recursionLimit)
    (hbind : BindsTo s (fnOf name qual params body scope dV kV doc pm an cdv ct) args binds) (hloc : ∀ y ∈ binds, scope.names.lookup y.1 = some .local)
    (h : ∀ g L' h₁, K.In base → Top p loose mean mg mb base → Fr g L' h₁ (fun y => binds.reverse.lookup y) → News g L' h₁ [] → Below A base [envOf cn cs L a ccd] g → K.In g → Top p loose mean mg mb g → KtsDicts ([envOf cn cs L a ccd].filterMap (·.frame)) g →
      wpAny (model prog w) (A.deeper (envOf qual scope L' f cdv)) (execs body (envOf qual scope L' f cdv))
        (fun fl s' => LeaveFS ([envOf cn cs L a ccd].filterMap (·.frame)) h₀ L m news g R (match fl with | .ret v => v | _ => .none) s')
        (fun e s' => wpAny (model prog w) (A.deeper (envOf qual scope L' f cdv)) (leaving (envOf qual scope L' f cdv) e) (fun _ s'' => R (.error e) s'') (fun e' s'' => R (.error e') s'') s')
        { s with heap := h₁, toks := s.toks + binds.length })
    (XB : K.In base) (TB : Top p loose mean mg mb base)
    (hck : cs.kind = .function) (hco : scope.isCoroutine = false) (hgen : scope.isGenerator = false) (hk : scope.kind = .function)
    (hcell : ∀ x ∈ scope.names, x.2 ≠ .cell) : codeAny (model prog w) A (.call (.ref f) args) R s := by
  have X := X₀.keeps F.keep
  have N0 : News h₀ L s.heap [] := fun _ hp => nomatch hp
  refine codeAny_call_def (fd := fnOf name qual params body scope dV kV doc pm an cdv ct) (body := body) (binds := binds) hroom (X _ _ ho) rfl (T.nolimit.keeps F.keep) (codeRec_of X hcd) rfl hbind hcell hloc (fun h₁ hns hk₁ => ?_) hco hgen hk
  obtain ⟨oL, es, ep, hLg, hLd, hN, hNs, st, B₂⟩ := kts_enter B F N0 hA hck
  refine wpAny_mono (h s.heap s.heap.objs.size h₁ XB TB ⟨hns, hk₁, Nat.le_refl _⟩ (fun _ hp => nomatch hp) B₂ (X₀.keeps st) (T.keeps st) (fun b hb => by
      rcases kts_mem hb with rfl | z
      · exact ⟨oL, es, ep, hLg, hLd⟩
      · simp at z)) (fun fl s' hl => ?_) fun _ _ y => y
  obtain ⟨g', L', m', news', T', F', N', k⟩ := hl
  have nL₀ : h₀.get? L = none := kts_self F
  obtain ⟨sl, hs⟩ := T'.up hLg
  refine k ⟨hNs sl _ (F'.keep _ _ hs), fun b o e => F'.keep b o (T'.other b o (F.keep b o e) (fun q => by
    rcases kts_mem q with z | z
    · rw [z, nL₀] at e
      cases e
    · simp at z)), F.above⟩ fun q hq => ?_
  rcases List.mem_append.mp hq with hq | hq
  · refine ⟨(N' q hq).1, fun e => ?_, ?_⟩
    · have := (N' q hq).2.2; rw [e, hs] at this; cases this
    · cases z : h₀.get? q.1 with
      | none => rfl
      | some o =>
        obtain ⟨sl', hs'⟩ := T'.up (F.keep _ _ z)
        have := (N' q hq).2.2
        rw [hs'] at this
        cases this
  · refine ⟨F'.keep _ _ (T'.other _ _ (N q hq).1 (fun z => ?_)), (N q hq).2.1, (N q hq).2.2⟩
    rcases kts_mem z with z | z
    · exact (N q hq).2.1 z
    · simp at z
end
/-- as Ask, at the law's own level -/
abbrev AskL (w : World) (D : Nat) (f : Addr) (vs : List Value) (R : Tok → Value) : Prop :=
  ∀ (p : Program) (loose : List Str) (mean : ExcName → Option Value) (mg mb : Str → Option Value) (dp un : Nat) (gd : Option (List Code)) (cn : Str) (cs : Scope) (a : Addr) (ccd : Value) (A₀ : Around) (h₀ : Heap) (L : Addr) (m : Str → Option Value) (news : List (Addr × Obj)) (s : Shared) (Q E : Value → Shared → Prop),
    Below A₀ h₀ [] h₀ → Fr h₀ L s.heap m → (hd.heap_39 w.params).In h₀ → News h₀ L s.heap news → Top p loose mean mg mb h₀ → cs.kind = .function →
    dp + D < recursionLimit → un + 8 * D < cLine → Ret h₀ L m news s Q R →
      wpAny (model PySem.Challenge.pw_ad5029_01 w) (ktrTop dp un gd cn cs L a ccd [] []) (call (.ref f) vs) Q E s
local macro_rules | `(tactic| tm_at "mine fullS") => `(tactic| (refine' code_fullS ?k1 ?k2 ?k3 ?k4 ?k5 ?kA ?k6 ?k7 ?k8 ?k9 ?kB ?_ ?XB ?TB ?kK ?c2 ?c3 ?c4 ?c5; (case kA => exact rfl); (case kK => first | exact rfl | assumption); (case k1 => k_asm); (case k2 => k_asm); (case k3 => k_asm); (case k4 => k_asm); (case k5 => k_asm); (case XB => k_asm); (case TB => k_asm); (case k6 => k_is); (case k7 => k_is); (case k8 => ktr_room); (case k9 => first | exact BindsTo.of_eq rfl | exact binds_K (by k_in) rfl (by k_is) rfl rfl rfl); (case c5 => decide); (case kB => exact locs rfl); (case c2 => exact rfl); (case c3 => exact rfl); (case c4 => exact rfl); k_whole; intro g' L' h' XB' TB' F' N' B' X' T' D'; (try dsimp only); (try k_lift B'); (try k_fold)))
local macro_rules | `(tactic| tm_at "on LeaveFS") => `(tactic| (k_dflt (refine' leaveFS_ ?k1 ?k2 ?k3 ?_; (case k1 => k_asm); (case k2 => k_asm); (case k3 => first | assumption | exact KtsTurn.refl); k_whole); intro kF kN; (try dsimp only)))

/- C9 -/
theorem ask_jdg_k (w : World) (k : Int) (t t2 t3 : Tok) (hk0 : 300000 < k) (hk2 : k < 50000000000) : Ask w 3 64 [.int (gyr k) t, .int (gmo k) t2, .int (gda k) t3] (fun t => .float (fh k) t) := by
  obtain ⟨h1, h2, h3, h4, h5, _, _⟩ := gdate (k := k)
  have hb := gyr_bd hk0 hk2
  have := ask_jdg w (gyr k) (gmo k) (gda k) t t2 t3 (by omega) (by omega) h1 h2 h3 h4
  rw [h5] at this
  exact this
local macro_rules | `(tactic| tm_at "on call ref") => `(tactic| (k_here; (with_reducible show wpAny _ _ (call (Value.ref 64) _) _ _ _); k_dflt (refine' (ask_jdg_k _ _ _ _ _ ?c0 ?c1) _ _ _ _ _ _ _ _ _ _ _ _ _ _ _ _ _ _ _ _ _ _ _ ?k1 ?k2 ?k3 ?k4 ?k5 ?kK ?kd ?ku ?_); (case k1 => k_asm); (case k2 => k_asm); (case k3 => k_asm); (case k4 => k_asm); (case k5 => k_asm); (case kK => first | exact rfl | assumption); (case kd => ktr_room); (case ku => ktr_units); (case c0 => omega); (case c1 => omega); intro t9 h9 tk9 F9 N9; (try dsimp only); (try k_fold)))

local macro_rules | `(tactic| tm_at "mine enter") => `(tactic| (refine' code_def ?k1 ?k2 ?k3 ?k4 ?k5 ?kA ?kF ?kK ?k6 ?k7 ?k8 ?k9 ?kB ?_ ?c2 ?c3 ?c4 ?c5; (case kA => exact rfl); (case kF => exact rfl); (case kK => first | exact rfl | assumption); (case k1 => k_asm); (case k2 => k_asm); (case k3 => k_asm); (case k4 => k_asm); (case k5 => k_asm); (case k6 => k_is); (case k7 => k_is); (case k8 => ktr_room); (case k9 => first | exact BindsTo.of_eq rfl | exact binds_K (by k_in) rfl (by k_is) rfl rfl rfl); (case c5 => decide); (case kB => exact locs rfl); (case c2 => exact rfl); (case c3 => exact rfl); (case c4 => exact rfl); k_whole; intro g' L' h' FG' F' N' B' X' T'; (try dsimp only); (try k_lift B'); (try k_fold)))
local macro_rules | `(tactic| tm_at "on call ref") => `(tactic| (k_here; (with_reducible show wpAny _ _ (call (Value.ref 141) _) _ _ _); (refine wpAny_call ?_); k_dflt (tm_at "mine enter")))
local macro_rules | `(tactic| tm_at "on call ref") => `(tactic| (k_here; (with_reducible show wpAny _ _ (call (Value.ref 156) _) _ _ _); (refine wpAny_call ?_); k_dflt (tm_at "mine enter")))
local macro_rules | `(tactic| tm_at "on call ref") => `(tactic| (k_here; (with_reducible show wpAny _ _ (call (Value.ref 164) _) _ _ _); (refine wpAny_call ?_); k_dflt (tm_at "mine enter")))

theorem r_truthy_h {prog : Program} {w : World} {A : Around} {E : Value → Shared → Prop} {s : Shared} {t : Tok} {a : Int} {Q : Bool → Shared → Prop} (ha : a.natAbs < 2 ^ 51) (h : Q true s) : wpAny (model prog w) A (truthy (.float (fh a) t)) Q E s := by
  refine truthy_float ?_
  rw [fh_eq, isZero_hf (by omega), decide_eq_false (by omega)]
  exact h
local macro_rules | `(tactic| tm_at "on truthy float") => `(tactic| (refine' r_truthy_h ?h1 ?_; (case h1 => omega)))

theorem ask_open_A (w : World) (G : Int) (t : Tok) (hG0 : -3760 < G) (hG2 : G < 110000000) (hb1 : 300000 < tish (G + 3760) + 1 ∧ tish (G + 3760) + 1 < 50000000000) (hb2 : 300000 < tish (G + 3760 + 1) + 1 ∧ tish (G + 3760 + 1) + 1 < 50000000000) (hA : gyr (tish (G + 3760) + 1) = G) : Ask3w w 14 239 [.int G t] (gyr (tish (G + 3760) + 1)) (gmo (tish (G + 3760) + 1)) (gda (tish (G + 3760) + 1)) := by
  intro p loose mean mg mb dp un gd cn cs a ccd cl outer A₀ base h₀ L m news s Q E B F X N T hk hd hu hret
  refine wpAny_call ?_
  k_dflt (tm_at "mine full")
  k_steps
  all_goals (refine' ret_3w hret ?zF ?zN ?zM ?z1 ?z2 ?z3; (case zF => k_asm); (case zN => k_asm); (case zM => k_mem); (case z1 => rfl); (case z2 => rfl); (case z3 => rfl))

theorem ask_open_B (w : World) (G : Int) (t : Tok) (hG0 : -3760 < G) (hG2 : G < 110000000) (hb1 : 300000 < tish (G + 3760) + 1 ∧ tish (G + 3760) + 1 < 50000000000) (hb2 : 300000 < tish (G + 3760 + 1) + 1 ∧ tish (G + 3760 + 1) + 1 < 50000000000) (hA : gyr (tish (G + 3760) + 1) ≠ G) (hB : gyr (tish (G + 3760 + 1) + 1) = G) : Ask3w w 14 239 [.int G t] (gyr (tish (G + 3760 + 1) + 1)) (gmo (tish (G + 3760 + 1) + 1)) (gda (tish (G + 3760 + 1) + 1)) := by
  intro p loose mean mg mb dp un gd cn cs a ccd cl outer A₀ base h₀ L m news s Q E B F X N T hk hd hu hret
  refine wpAny_call ?_
  k_dflt (tm_at "mine full")
  k_steps
  all_goals (refine' ret_3w hret ?zF ?zN ?zM ?z1 ?z2 ?z3; (case zF => k_asm); (case zN => k_asm); (case zM => k_mem); (case z1 => rfl); (case z2 => rfl); (case z3 => rfl))

theorem ask_open_C (w : World) (G : Int) (t : Tok) (hG0 : -3760 < G) (hG2 : G < 110000000) (hb1 : 300000 < tish (G + 3760) + 1 ∧ tish (G + 3760) + 1 < 50000000000) (hb2 : 300000 < tish (G + 3760 + 1) + 1 ∧ tish (G + 3760 + 1) + 1 < 50000000000) (hA : gyr (tish (G + 3760) + 1) ≠ G) (hB : gyr (tish (G + 3760 + 1) + 1) ≠ G) : AskL w 14 239 [.int G t] (fun t => .str (Str.ofString "refused") t) := by
  intro p loose mean mg mb dp un gd cn cs a ccd A₀ h₀ L m news s Q E B F X N T hk hd hu hret
  refine wpAny_call ?_
  k_dflt (tm_at "mine fullS")
  k_steps
  all_goals (refine' ret_sw hret ?zF ?zN; (case zF => k_asm); (case zN => k_asm))

theorem ask_feast_A (w : World) (G : Int) (t : Tok) (hG0 : -3760 < G) (hG2 : G < 110000000) (hb1 : 300000 < jdh (G + 3760) 1 15 ∧ jdh (G + 3760) 1 15 < 50000000000) (hb2 : 300000 < jdh (G + 3760 + 1) 1 15 ∧ jdh (G + 3760 + 1) 1 15 < 50000000000) (hA : gyr (jdh (G + 3760) 1 15) = G) : Ask3w w 14 246 [.int G t] (gyr (jdh (G + 3760) 1 15)) (gmo (jdh (G + 3760) 1 15)) (gda (jdh (G + 3760) 1 15)) := by
  intro p loose mean mg mb dp un gd cn cs a ccd cl outer A₀ base h₀ L m news s Q E B F X N T hk hd hu hret
  refine wpAny_call ?_
  k_dflt (tm_at "mine full")
  k_steps
  all_goals (refine' ret_3w hret ?zF ?zN ?zM ?z1 ?z2 ?z3; (case zF => k_asm); (case zN => k_asm); (case zM => k_mem); (case z1 => rfl); (case z2 => rfl); (case z3 => rfl))

theorem ask_feast_B (w : World) (G : Int) (t : Tok) (hG0 : -3760 < G) (hG2 : G < 110000000) (hb1 : 300000 < jdh (G + 3760) 1 15 ∧ jdh (G + 3760) 1 15 < 50000000000) (hb2 : 300000 < jdh (G + 3760 + 1) 1 15 ∧ jdh (G + 3760 + 1) 1 15 < 50000000000) (hA : gyr (jdh (G + 3760) 1 15) ≠ G) (hB : gyr (jdh (G + 3760 + 1) 1 15) = G) : Ask3w w 14 246 [.int G t] (gyr (jdh (G + 3760 + 1) 1 15)) (gmo (jdh (G + 3760 + 1) 1 15)) (gda (jdh (G + 3760 + 1) 1 15)) := by
  intro p loose mean mg mb dp un gd cn cs a ccd cl outer A₀ base h₀ L m news s Q E B F X N T hk hd hu hret
  refine wpAny_call ?_
  k_dflt (tm_at "mine full")
  k_steps
  all_goals (refine' ret_3w hret ?zF ?zN ?zM ?z1 ?z2 ?z3; (case zF => k_asm); (case zN => k_asm); (case zM => k_mem); (case z1 => rfl); (case z2 => rfl); (case z3 => rfl))

theorem ask_feast_C (w : World) (G : Int) (t : Tok) (hG0 : -3760 < G) (hG2 : G < 110000000) (hb1 : 300000 < jdh (G + 3760) 1 15 ∧ jdh (G + 3760) 1 15 < 50000000000) (hb2 : 300000 < jdh (G + 3760 + 1) 1 15 ∧ jdh (G + 3760 + 1) 1 15 < 50000000000) (hA : gyr (jdh (G + 3760) 1 15) ≠ G) (hB : gyr (jdh (G + 3760 + 1) 1 15) ≠ G) : AskL w 14 246 [.int G t] (fun t => .str (Str.ofString "refused") t) := by
  intro p loose mean mg mb dp un gd cn cs a ccd A₀ h₀ L m news s Q E B F X N T hk hd hu hret
  refine wpAny_call ?_
  k_dflt (tm_at "mine fullS")
  k_steps
  all_goals (refine' ret_sw hret ?zF ?zN; (case zF => k_asm); (case zN => k_asm))

/- C10 -/
def mgold (y : Int) : Int := (12 * y + 17) % 19
def mlin (y : Int) : Int := 32 * 492480 + 21715 + 765433 * mgold y + 123120 * (y % 4) - 1565 * y
def mweek (y : Int) : Int := (mlin y / 492480 + 3 * y + 5 * (y % 4) + 5) % 7
def marchF (y : Int) : Int := if mweek y = 2 ∨ mweek y = 4 ∨ mweek y = 6 then mlin y / 492480 + 1 else if mweek y = 1 ∧ 6 < mgold y ∧ 311676 ≤ mlin y % 492480 then mlin y / 492480 + 2 else if mweek y = 0 ∧ 11 < mgold y ∧ 442111 ≤ mlin y % 492480 then mlin y / 492480 + 1 else mlin y / 492480
def springF (y : Int) : Int := 1721117 + 365 * (y - 3760) + (y - 3760) / 4 + marchF y
theorem any246 {m : Int} (h : ([2, 4, 6].any fun x => x == m) = true) : m = 2 ∨ m = 4 ∨ m = 6 := by
  simp only [List.any_cons, List.any_nil, Bool.or_false, Bool.or_eq_true, beq_iff_eq] at h
  omega
theorem none246 {m : Int} (h : ([2, 4, 6].any fun x => x == m) = false) : m ≠ 2 ∧ m ≠ 4 ∧ m ≠ 6 := by
  simp only [List.any_cons, List.any_nil, Bool.or_false, Bool.or_eq_false_iff, beq_eq_false_iff_ne] at h
  omega

theorem fd492 (x : Int) : x.fdiv 492480 = x / 492480 := Int.fdiv_eq_ediv_of_nonneg _ (by decide)
theorem fm492 (x : Int) : x.fmod 492480 = x % 492480 := Int.fmod_eq_emod_of_nonneg _ (by decide)
theorem fd400 (x : Int) : x.fdiv 400 = x / 400 := Int.fdiv_eq_ediv_of_nonneg _ (by decide)
theorem fm400 (x : Int) : x.fmod 400 = x % 400 := Int.fmod_eq_emod_of_nonneg _ (by decide)
def janF (y : Int) : Int := 1721426 + 146097 * ((y - 1) / 400) + 365 * ((y - 1) % 400) + (y - 1) % 400 / 4 - (y - 1) % 400 / 100

theorem ask_march (w : World) (y : Int) (t : Tok) (hy : -10 < y) (hy2 : y < 200000000) : Ask w 2 185 [.int y t] (fun t => .int (marchF y) t) := by
  intro p loose mean mg mb dp un gd cn cs a ccd cl outer A₀ base h₀ L m news s Q E B F X N T hk hd hu hret
  refine wpAny_call ?_
  k_dflt cell_enter
  k_steps
  all_goals (refine' ret_i hret ?zE ?zF ?zN; (case zF => k_asm); (case zN => first | k_asm | (refine' cb_drop ?cbN ?cbS; (case cbN => assumption); (case cbS => kcj_all))); (case zE => ((first | (rename ((List.any _ _) = true) => hA; have hA' := any246 hA; clear hA) | (rename ((List.any _ _) = false) => hA; have hA' := none246 hA; clear hA)); unfold marchF mweek mlin mgold; simp only [fd492, fm492] at *; (repeat' split) <;> first | rfl | omega)))
local macro_rules | `(tactic| tm_at "on call ref") => `(tactic| (k_here; (with_reducible show wpAny _ _ (call (Value.ref 185) _) _ _ _); k_dflt (refine' (ask_march _ _ _ ?c0 ?c1) _ _ _ _ _ _ _ _ _ _ _ _ _ _ _ _ _ _ _ _ _ _ _ ?k1 ?k2 ?k3 ?k4 ?k5 ?kK ?kd ?ku ?_); (case k1 => k_asm); (case k2 => k_asm); (case k3 => k_asm); (case k4 => k_asm); (case k5 => k_asm); (case kK => first | exact rfl | assumption); (case kd => ktr_room); (case ku => ktr_units); (case c0 => omega); (case c1 => omega); intro t9 h9 tk9 F9 N9; (try dsimp only); (try k_fold)))

theorem ask_spring (w : World) (y : Int) (t : Tok) (hy : -10 < y) (hy2 : y < 200000000) : Ask w 3 192 [.int y t] (fun t => .int (springF y) t) := by
  intro p loose mean mg mb dp un gd cn cs a ccd cl outer A₀ base h₀ L m news s Q E B F X N T hk hd hu hret
  refine wpAny_call ?_
  k_dflt cell_enter
  k_steps
  all_goals (refine' ret_i hret ?zE ?zF ?zN; (case zF => k_asm); (case zN => first | k_asm | (refine' cb_drop ?cbN ?cbS; (case cbN => assumption); (case cbS => kcj_all))); (case zE => rfl))
local macro_rules | `(tactic| tm_at "on call ref") => `(tactic| (k_here; (with_reducible show wpAny _ _ (call (Value.ref 192) _) _ _ _); k_dflt (refine' (ask_spring _ _ _ ?c0 ?c1) _ _ _ _ _ _ _ _ _ _ _ _ _ _ _ _ _ _ _ _ _ _ _ ?k1 ?k2 ?k3 ?k4 ?k5 ?kK ?kd ?ku ?_); (case k1 => k_asm); (case k2 => k_asm); (case k3 => k_asm); (case k4 => k_asm); (case k5 => k_asm); (case kK => first | exact rfl | assumption); (case kd => ktr_room); (case ku => ktr_units); (case c0 => omega); (case c1 => omega); intro t9 h9 tk9 F9 N9; (try dsimp only); (try k_fold)))

theorem ask_january (w : World) (y : Int) (t : Tok) (hy : -100000 < y) (hy2 : y < 200000000) : Ask w 2 213 [.int y t] (fun t => .int (janF y) t) := by
  intro p loose mean mg mb dp un gd cn cs a ccd cl outer A₀ base h₀ L m news s Q E B F X N T hk hd hu hret
  refine wpAny_call ?_
  k_dflt cell_enter
  k_steps
  all_goals (refine' ret_i hret ?zE ?zF ?zN; (case zF => k_asm); (case zN => first | k_asm | (refine' cb_drop ?cbN ?cbS; (case cbN => assumption); (case cbS => kcj_all))); (case zE => (unfold janF; simp only [fd400, fm400] at * <;> omega)))
local macro_rules | `(tactic| tm_at "on call ref") => `(tactic| (k_here; (with_reducible show wpAny _ _ (call (Value.ref 213) _) _ _ _); k_dflt (refine' (ask_january _ _ _ ?c0 ?c1) _ _ _ _ _ _ _ _ _ _ _ _ _ _ _ _ _ _ _ _ _ _ _ ?k1 ?k2 ?k3 ?k4 ?k5 ?kK ?kd ?ku ?_); (case k1 => k_asm); (case k2 => k_asm); (case k3 => k_asm); (case k4 => k_asm); (case k5 => k_asm); (case kK => first | exact rfl | assumption); (case kd => ktr_room); (case ku => ktr_units); (case c0 => omega); (case c1 => omega); intro t9 h9 tk9 F9 N9; (try dsimp only); (try k_fold)))

/- Sc -/
inductive All2 {α β : Type} (R : α → β → Prop) : List α → List β → Prop where
  | nil : All2 R [] []
  | cons {a : α} {b : β} {as : List α} {bs : List β} : R a b → All2 R as bs → All2 R (a :: as) (b :: bs)

def scanG {α : Type} (len : α → Int) (f g : α → Int → Int) : List α → Int → Int → Int × Int
  | [], l, mo => (l, mo)
  | a :: r, l, mo => if l < len a then (l, f a mo) else scanG len f g r (l - len a) (g a mo)

theorem all2_ints : ∀ {vs : List Value} {ls : List Int}, IntsAre vs ls → All2 (fun (a : Int) (v : Value) => ∃ t, v = Value.int a t) ls vs := by
  intro vs ls h
  induction h with
  | nil => exact .nil
  | cons => exact .cons ⟨_, rfl⟩ (by assumption)

abbrev curM (m₀ : Str → Option Value) (nL nM nX : Str) (l : Int) (tl : Tok) (mo : Int) (tm : Tok) (u : Option Value) : Str → Option Value :=
  fun z => if z = nL then some (.int l tl) else if z = nM then some (.int mo tm) else if z = nX then u else m₀ z

section
variable {prog : Program} {w : World} {A : Around} {E : Value → Shared → Prop} {s : Shared} {env : Env} {h₀ : Heap} {target : Expr} {body : List Stmt} {Q : Flow → Shared → Prop}

def SEnd (h₀ : Heap) (L : Addr) (m₀ : Str → Option Value) (nL nM nX : Str) (news : List (Addr × Obj)) (l mo : Int) (s₁ s₂ : Shared) : Prop :=
  ∃ h' tk m' news' tl tm, s₂ = { s₁ with heap := h', toks := tk } ∧ Fr h₀ L h' m' ∧ News h₀ L h' news' ∧ (∀ p ∈ news, p ∈ news') ∧ m' nL = some (.int l tl) ∧ m' nM = some (.int mo tm) ∧ ∀ z, z ≠ nL → z ≠ nM → z ≠ nX → m' z = m₀ z
def SPost (h₀ : Heap) (L : Addr) (m₀ : Str → Option Value) (nL nM nX : Str) (news : List (Addr × Obj)) (l ln lb mb ln' mn : Int) (s₁ : Shared) (f : Flow) (s₂ : Shared) : Prop :=
  match f with
  | .ret _ => False
  | .brk => l < ln ∧ SEnd h₀ L m₀ nL nM nX news lb mb s₁ s₂
  | _ => ¬ l < ln ∧ SEnd h₀ L m₀ nL nM nX news ln' mn s₁ s₂
theorem SEnd.intro {L : Addr} {m₀ m' : Str → Option Value} {nL nM nX : Str} {news news' : List (Addr × Obj)} {l mo l' mo' : Int} {tl tm : Tok} {s₁ : Shared} {h' : Heap} {tk : Nat} (F : Fr h₀ L h' m') (N : News h₀ L h' news') (h1 : ∀ p ∈ news, p ∈ news')
    (hj : m' nL = some (.int l' tl)) (hk : m' nM = some (.int mo' tm)) (hr : ∀ z, z ≠ nL → z ≠ nM → z ≠ nX → m' z = m₀ z) (e1 : l' = l) (e2 : mo' = mo) : SEnd h₀ L m₀ nL nM nX news l mo s₁ { s₁ with heap := h', toks := tk } := by
  subst e1; subst e2
  exact ⟨h', tk, m', news', tl, tm, rfl, F, N, h1, hj, hk, hr⟩

theorem SEnd.fr {L : Addr} {m₀ m' : Str → Option Value} {nL nM nX : Str} {l mo : Int} {tl tm : Tok} {h' : Heap} (F : Fr h₀ L h' m') (hj : m' nL = some (.int l tl)) (hk : m' nM = some (.int mo tm)) (hr : ∀ z, z ≠ nL → z ≠ nM → z ≠ nX → m' z = m₀ z) :
    Fr h₀ L h' (curM m₀ nL nM nX l tl mo tm (m' nX)) := by
  have e : curM m₀ nL nM nX l tl mo tm (m' nX) = m' := by
    funext z
    show (if z = nL then _ else if z = nM then _ else if z = nX then _ else _) = _
    by_cases h1 : z = nL
    · rw [if_pos h1, h1, hj]
    · rw [if_neg h1]
      by_cases h2 : z = nM
      · rw [if_pos h2, h2, hk]
      · rw [if_neg h2]
        by_cases h3 : z = nX
        · rw [if_pos h3, h3]
        · rw [if_neg h3]; exact (hr z h1 h2 h3).symm
  rw [e]
  exact F

theorem scan_rest {α : Type} {len : α → Int} {f g : α → Int → Int} {It : α → Value → Prop} {I : Addr} {wn : String} {kp : Addr × Obj} {m₀ : Str → Option Value} {nL nM nX : Str} {news : List (Addr × Obj)} (hI : ∀ p ∈ news, p.1 < I) (hkp : kp ∈ news)
    (turn : ∀ (a : α) (v : Value) (l mo : Int) (tl tm : Tok) (u : Option Value) (it : Obj) (h : Heap) (tk : Nat), It a v → it.cls = .type wn → Fr h₀ env.locals h (curM m₀ nL nM nX l tl mo tm u) → News h₀ env.locals h ((I, it) :: news) →
      wpAny (model prog w) A (assign target env v) (fun _ s₂ => wpAny (model prog w) A (execs body env) (SPost h₀ env.locals m₀ nL nM nX ((I, it) :: news) l (len a) l (f a mo) (l - len a) (g a mo) { s with heap := h, toks := tk }) E s₂) E { s with heap := h, toks := tk }) :
    ∀ (as : List α) (vs : List Value), All2 It as vs → ∀ (l mo : Int) (tl tm : Tok) (u : Option Value),
      (∀ (tl tm : Tok) (u : Option Value) (h : Heap) (tk : Nat), Fr h₀ env.locals h (curM m₀ nL nM nX (scanG len f g as l mo).1 tl (scanG len f g as l mo).2 tm u) → News h₀ env.locals h news → Q .next { s with heap := h, toks := tk }) →
      ItemsRest prog w A E h₀ env target body Q s [(I, wn)] [kp] (vs.map .val) (curM m₀ nL nM nX l tl mo tm u) news := by
  intro as vs hf
  induction hf with
  | nil =>
    intro l mo tl tm u done h tk F N
    exact done tl tm u h tk F N
  | @cons a v as vs hav _ ih =>
    intro l mo tl tm u done
    refine ItemsRest.val fun h tk F => ?_
    refine AllObj.cons fun it hic => AllObj.nil fun N => ?_
    refine wpAny_mono (turn a v l mo tl tm u it h tk hav hic F N) (fun _ s₂ hs => wpAny_mono hs (fun fl s₃ hp => ?_) fun _ _ e => e) fun _ _ e => e
    have nxt : (¬ l < len a ∧ SEnd h₀ env.locals m₀ nL nM nX ((I, it) :: news) (l - len a) (g a mo) { s with heap := h, toks := tk } s₃) → UnrEndW h₀ env.locals { s with heap := h, toks := tk } [(I, it)] (fun m' n' => SubL [kp] n' ∧ ItemsRest prog w A E h₀ env target body Q s [(I, wn)] [kp] (vs.map .val) m' n') s₃ := by
      rintro ⟨hlt, h', tk', m', news', tl', tm', rfl, F', N', hn, hj, hk, hr⟩
      have hd : scanG len f g (a :: as) l mo = scanG len f g as (l - len a) (g a mo) := by
        show (if l < len a then _ else _) = _
        rw [if_neg hlt]
      refine ⟨h', tk', _, news, rfl, SEnd.fr F' hj hk hr, fun p hp => N' p (hn p (by simpa using hp)), fun p hp q hq e => ?_, ⟨hkp, trivial⟩, ih _ _ _ _ _ fun tl tm u h tk F N => done tl tm u h tk (by rw [hd]; exact F) N⟩
      rw [List.mem_singleton.mp hq] at e
      exact absurd (hI p hp) (by rw [e]; exact Nat.lt_irrefl _)
    cases fl with
    | ret v => exact hp.elim
    | brk =>
      obtain ⟨hlt, h', tk', m', news', tl', tm', rfl, F', N', hn, hj, hk, hr⟩ := hp
      have hd : scanG len f g (a :: as) l mo = (l, f a mo) := by
        show (if l < len a then _ else _) = _
        rw [if_pos hlt]
      exact done tl' tm' (m' nX) h' tk' (by rw [hd]; exact SEnd.fr F' hj hk hr) (fun p hp => N' p (hn p (.tail _ hp)))
    | next => exact nxt hp
    | cont => exact nxt hp

theorem curM_self {m₀ : Str → Option Value} {nL nM nX : Str} {l mo : Int} {tl tm : Tok} {L : Addr} {h : Heap} (F : Fr h₀ L h m₀) (hj : m₀ nL = some (.int l tl)) (hk : m₀ nM = some (.int mo tm)) : Fr h₀ L h (curM m₀ nL nM nX l tl mo tm (m₀ nX)) := SEnd.fr F hj hk fun _ _ _ _ => rfl

/-- a made tuple of ints -/
theorem loop_ints {ax : Addr} {lo : Obj} {vs : List Value} {ls : List Int} {n : Nat} {m₀ : Str → Option Value} {news : List (Addr × Obj)} {l0 mo0 : Int} {tl0 tm0 : Tok} (nL nM nX : Str)
    (hh : A.handled = none) (F : Fr h₀ env.locals s.heap m₀) (N : News h₀ env.locals s.heap news) (hm : (ax, lo) ∈ news) (hc : lo.cls = .type "tuple") (hd : lo.data = .seq vs.toArray n) (hvs0 : IntsAre vs ls) (hj : m₀ nL = some (.int l0 tl0)) (hk : m₀ nM = some (.int mo0 tm0))
    (turn : ∀ (a : Int) (ta : Tok) (l mo : Int) (tl tm : Tok) (u : Option Value) (I : Addr) (it : Obj) (h : Heap) (tk : Nat), Fr h₀ env.locals h (curM m₀ nL nM nX l tl mo tm u) → News h₀ env.locals h ((I, it) :: news) →
      wpAny (model prog w) A (assign target env (.int a ta)) (fun _ s₂ => wpAny (model prog w) A (execs body env) (SPost h₀ env.locals m₀ nL nM nX ((I, it) :: news) l a l mo (l - a) (mo + 1) { s with heap := h, toks := tk }) E s₂) E { s with heap := h, toks := tk })
    (done : ∀ (tl tm : Tok) (u : Option Value) (h : Heap) (tk : Nat), Fr h₀ env.locals h (curM m₀ nL nM nX (scanG (fun a : Int => a) (fun _ mo => mo) (fun _ mo => mo + 1) ls l0 mo0).1 tl (scanG (fun a : Int => a) (fun _ mo => mo) (fun _ mo => mo + 1) ls l0 mo0).2 tm u) → News h₀ env.locals h news → Q .next { s with heap := h, toks := tk }) :
    wpAny (model prog w) A (pyIter (.ref ax)) (fun it s₂ => TurnsAt prog w A h₀ env target body Q E it s₂) E s := by
  have hvs := all2_ints hvs0
  have F1 := curM_self (nX := nX) F hj hk
  refine iter_tupTurns hh F1 N hm hc hd fun I hI => ?_
  refine scan_rest (f := fun _ mo => mo) (g := fun _ mo => mo + 1) (len := fun a => a) (It := fun (a : Int) v => ∃ t, v = .int a t) hI hm ?_ ls vs hvs l0 mo0 tl0 tm0 _ done
  rintro a v l mo tl tm u it h tk ⟨t, rfl⟩ _ F' N'
  exact turn a t l mo tl tm u I it h tk F' N'

abbrev tup2 (a : Int) (t1 : Tok) (b : Int) (t2 : Tok) (n : Nat) : Obj := { cls := .type "tuple", data := .seq #[.int a t1, .int b t2] n }
/-- a made list of pairs of ints -/
theorem loop_pairs {ax : Addr} {lo : Obj} {vs : List Value} {ls : List (Int × Int)} {n : Nat} {m₀ : Str → Option Value} {news : List (Addr × Obj)} {l0 mo0 : Int} {tl0 tm0 : Tok} (nL nM nX : Str)
    (hh : A.handled = none) (F : Fr h₀ env.locals s.heap m₀) (N : News h₀ env.locals s.heap news) (hm : (ax, lo) ∈ news) (hc : lo.cls = .type "list") (hd : lo.data = .seq vs.toArray n) (hvs : All2 (fun (a : Int × Int) v => ∃ D t1 t2 c, v = .ref D ∧ (D, tup2 a.1 t1 a.2 t2 c) ∈ news) ls vs) (hj : m₀ nL = some (.int l0 tl0)) (hk : m₀ nM = some (.int mo0 tm0))
    (turn : ∀ (a b : Int) (D : Addr) (t1 t2 : Tok) (c : Nat) (l mo : Int) (tl tm : Tok) (u : Option Value) (I : Addr) (it : Obj) (h : Heap) (tk : Nat), (D, tup2 a t1 b t2 c) ∈ (I, it) :: news → Fr h₀ env.locals h (curM m₀ nL nM nX l tl mo tm u) → News h₀ env.locals h ((I, it) :: news) →
      wpAny (model prog w) A (assign target env (.ref D)) (fun _ s₂ => wpAny (model prog w) A (execs body env) (SPost h₀ env.locals m₀ nL nM nX ((I, it) :: news) l b l a (l - b) a { s with heap := h, toks := tk }) E s₂) E { s with heap := h, toks := tk })
    (done : ∀ (tl tm : Tok) (u : Option Value) (h : Heap) (tk : Nat), Fr h₀ env.locals h (curM m₀ nL nM nX (scanG (fun a : Int × Int => a.2) (fun a _ => a.1) (fun a _ => a.1) ls l0 mo0).1 tl (scanG (fun a : Int × Int => a.2) (fun a _ => a.1) (fun a _ => a.1) ls l0 mo0).2 tm u) → News h₀ env.locals h news → Q .next { s with heap := h, toks := tk }) :
    wpAny (model prog w) A (pyIter (.ref ax)) (fun it s₂ => TurnsAt prog w A h₀ env target body Q E it s₂) E s := by
  have F1 := curM_self (nX := nX) F hj hk
  refine iter_listTurns hh F1 N hm hc hd fun I hI => ?_
  refine scan_rest (f := fun a _ => a.1) (g := fun a _ => a.1) (len := fun a : Int × Int => a.2) (It := fun (a : Int × Int) v => ∃ D t1 t2 c, v = .ref D ∧ (D, tup2 a.1 t1 a.2 t2 c) ∈ news) hI hm ?_ ls vs hvs l0 mo0 tl0 tm0 _ done
  rintro a v l mo tl tm u it h tk ⟨D, t1, t2, c, rfl, hD⟩ _ F' N'
  exact turn a.1 a.2 D t1 t2 c l mo tl tm u I it h tk (.tail _ hD) F' N'
end
local macro_rules | `(tactic| tm_at "on SPost") => `(tactic| (dsimp only [SPost]; refine' And.intro ?zA ?_; (case zA => first | with_reducible assumption | omega)))
local macro_rules | `(tactic| tm_at "on SEnd") => `(tactic| (refine' SEnd.intro ?zF ?zN ?z1 ?z2 ?z3 ?z4 ?z5 ?z6; (case zF => k_asm); (case zN => k_asm); (case z1 => (intro p hp; first | assumption | exact List.mem_cons_of_mem _ hp | exact List.mem_cons_of_mem _ (List.mem_cons_of_mem _ hp) | kcj_all)); (case z2 => with_unfolding_all rfl); (case z3 => with_unfolding_all rfl); (case z4 => (intro z h1 h2 h3; first | rfl | (simp only [curM, if_neg h1, if_neg h2, if_neg h3]; done) | (simp [curM, h1, h2, h3]; done))); (case z5 => first | rfl | omega); (case z6 => first | rfl | omega)))

/- C11 -/
local macro_rules | `(tactic| tm_at "on pyIter ref") => `(tactic| ((with_reducible show wpAny _ _ (pyIter (Value.ref _)) (fun it s₂ => TurnsAt _ _ _ _ _ _ _ _ _ it s₂) _ _); k_here; (rename Fr _ _ _ _ => lF'); (rename News _ _ _ _ => lN'); (with_unfolding_all refine' loop_ints (Str.ofString "left") (Str.ofString "month") (Str.ofString "length") (by rfl) lF' lN' ?zm ?zc ?zd ?zv ?zj ?zk ?zt ?zn); (case zm => k_dflt k_mem); (case zc => rfl); (case zd => rfl); (case zv => repeat constructor); (case zj => with_unfolding_all rfl); (case zk => with_unfolding_all rfl); (all_goals (try clear lF' lN')); (case' zt => intro a9 ta9 l9 mo9 tl9 tm9 u9 I9 it9 h9 tk9 F9 N9); (case' zn => intro tl9 tm9 u9 h9 tk9 F9 N9); (all_goals (try dsimp only)); (all_goals (try k_fold))))
local macro_rules | `(tactic| tm_at "on exec For Name Tuple cons nil") => `(tactic| (k_here; (with_reducible rename Fr _ _ _ _ => lF'); k_dflt (refine' For_turns ?F ?_ ?hs ?hE); (case F => with_unfolding_all exact lF'); (case hs => (intro _; with_unfolding_all rfl)); (case hE => passes_own); k_whole))
theorem fd1461 (x : Int) : x.fdiv 1461 = x / 1461 := Int.fdiv_eq_ediv_of_nonneg _ (by decide)
theorem fm1461 (x : Int) : x.fmod 1461 = x % 1461 := Int.fmod_eq_emod_of_nonneg _ (by decide)
abbrev scanI : List Int → Int → Int → Int × Int := scanG (fun a : Int => a) (fun _ mo => mo) (fun _ mo => mo + 1)
def mlens : List Int := [31, 30, 31, 30, 31, 31, 30, 31, 30, 31, 31, 29]

theorem ret_3v {h₀ h' : Heap} {L D : Addr} {m : Str → Option Value} {news news' : List (Addr × Obj)} {s : Shared} {Q : Value → Shared → Prop} {t1 t2 t3 : Tok} {n tk' : Nat} {a b c a' b' c' : Int} (hret : Ret3w h₀ L m news s Q a b c) (F : Fr h₀ L h' m)
    (NM : News h₀ L h' news' ∧ (D, tup3 a' t1 b' t2 c' t3 n) ∈ news') (hn : ∀ p ∈ news, p ∈ news') (e1 : a' = a) (e2 : b' = b) (e3 : c' = c) : Q (.ref D) { s with heap := h', toks := tk' } := by
  subst e1; subst e2; subst e3
  refine hret D t1 t2 t3 n h' tk' F (fun p hp => ?_)
  rcases List.mem_cons.mp hp with rfl | hp
  · exact NM.1 _ NM.2
  · exact NM.1 p (hn p hp)
def julL (n : Int) : Int := (n - 1721118) % 1461 - 365 * (if 3 < (n - 1721118) % 1461 / 365 then 3 else (n - 1721118) % 1461 / 365)
def julP (n : Int) : Int := 4 * ((n - 1721118) / 1461) + (if 3 < (n - 1721118) % 1461 / 365 then 3 else (n - 1721118) % 1461 / 365)
def julF (n : Int) : Int × Int × Int :=
  if 12 < (scanI mlens (julL n) 3).2 then (julP n + 1, (scanI mlens (julL n) 3).2 - 12, (scanI mlens (julL n) 3).1 + 1) else (julP n, (scanI mlens (julL n) 3).2, (scanI mlens (julL n) 3).1 + 1)

theorem ask_ljul (w : World) (n : Int) (t : Tok) (hn : 300000 < n) (hn2 : n < 50000000000) : Ask3w w 2 206 [.int n t] (julF n).1 (julF n).2.1 (julF n).2.2 := by
  intro p loose mean mg mb dp un gd cn cs a ccd cl outer A₀ base h₀ L m news s Q E B F X N T hk hd hu hret
  refine wpAny_call ?_
  k_dflt cell_enter
  k_steps
  all_goals (refine' ret_3v hret ?zF ?zN ?zS ?z1 ?z2 ?z3; (case zF => k_asm); (case zN => kcu_news); (case zS => kcj_all); (case z1 => (simp only [fd1461, fm1461] at *; unfold julF; rcases Classical.em (12 < (scanI mlens (julL n) 3).2) with hQ | hQ; (rw [if_pos hQ]; first | rfl | exact absurd hQ (by assumption)); (rw [if_neg hQ]; first | rfl | exact absurd (by assumption) hQ))); (case z2 => (simp only [fd1461, fm1461] at *; unfold julF; rcases Classical.em (12 < (scanI mlens (julL n) 3).2) with hQ | hQ; (rw [if_pos hQ]; first | rfl | exact absurd hQ (by assumption)); (rw [if_neg hQ]; first | rfl | exact absurd (by assumption) hQ))); (case z3 => (simp only [fd1461, fm1461] at *; unfold julF; rcases Classical.em (12 < (scanI mlens (julL n) 3).2) with hQ | hQ; (rw [if_pos hQ]; first | rfl | exact absurd hQ (by assumption)); (rw [if_neg hQ]; first | rfl | exact absurd (by assumption) hQ))))
local macro_rules | `(tactic| tm_at "on call ref") => `(tactic| (k_here; (with_reducible show wpAny _ _ (call (Value.ref 206) _) _ _ _); k_dflt (refine' (ask_ljul _ _ _ ?c0 ?c1) _ _ _ _ _ _ _ _ _ _ _ _ _ _ _ _ _ _ _ _ _ _ _ ?k1 ?k2 ?k3 ?k4 ?k5 ?kK ?kd ?ku ?_); (case k1 => k_asm); (case k2 => k_asm); (case k3 => k_asm); (case k4 => k_asm); (case k5 => k_asm); (case kK => first | exact rfl | assumption); (case kd => ktr_room); (case ku => ktr_units); (case c0 => omega); (case c1 => omega); intro D9 t19 t29 t39 n9 h9 tk9 F9 N9; (try dsimp only); (try k_fold)))

/- C12 -/
theorem fd146 (x : Int) : x.fdiv 146097 = x / 146097 := Int.fdiv_eq_ediv_of_nonneg _ (by decide)
theorem fm146 (x : Int) : x.fmod 146097 = x % 146097 := Int.fmod_eq_emod_of_nonneg _ (by decide)
def clens : List Int := [31, 30, 31, 30, 31, 31, 30, 31, 30, 31, 31]
def civH (n : Int) : Int := if 3 < (n - 1721120) % 146097 / 36524 then 3 else (n - 1721120) % 146097 / 36524
def civR (n : Int) : Int := (n - 1721120) % 146097 - 36524 * civH n
def civS (n : Int) : Int := civR n - 1461 * (civR n / 1461)
def civO (n : Int) : Int := if 3 < civS n / 365 then 3 else civS n / 365
def civL (n : Int) : Int := civS n - 365 * civO n
def civY (n : Int) : Int := 400 * ((n - 1721120) / 146097) + 100 * civH n + 4 * (civR n / 1461) + civO n
def civF (n : Int) : Int × Int × Int :=
  if 12 < (scanI clens (civL n) 3).2 then (civY n + 1, (scanI clens (civL n) 3).2 - 12, (scanI clens (civL n) 3).1 + 1) else (civY n, (scanI clens (civL n) 3).2, (scanI clens (civL n) 3).1 + 1)

theorem ask_lciv (w : World) (n : Int) (t : Tok) (hn : 300000 < n) (hn2 : n < 50000000000) : Ask3w w 2 220 [.int n t] (civF n).1 (civF n).2.1 (civF n).2.2 := by
  intro p loose mean mg mb dp un gd cn cs a ccd cl outer A₀ base h₀ L m news s Q E B F X N T hk hd hu hret
  refine wpAny_call ?_
  k_dflt cell_enter
  k_steps
  all_goals (refine' ret_3v hret ?zF ?zN ?zS ?z1 ?z2 ?z3; (case zF => k_asm); (case zN => kcu_news); (case zS => kcj_all); (case z1 => (simp only [fd146, fm146] at *; unfold civF; rcases Classical.em (12 < (scanI clens (civL n) 3).2) with hQ | hQ; (rw [if_pos hQ]; first | rfl | exact absurd hQ (by assumption)); (rw [if_neg hQ]; first | rfl | exact absurd (by assumption) hQ))); (case z2 => (simp only [fd146, fm146] at *; unfold civF; rcases Classical.em (12 < (scanI clens (civL n) 3).2) with hQ | hQ; (rw [if_pos hQ]; first | rfl | exact absurd hQ (by assumption)); (rw [if_neg hQ]; first | rfl | exact absurd (by assumption) hQ))); (case z3 => (simp only [fd146, fm146] at *; unfold civF; rcases Classical.em (12 < (scanI clens (civL n) 3).2) with hQ | hQ; (rw [if_pos hQ]; first | rfl | exact absurd hQ (by assumption)); (rw [if_neg hQ]; first | rfl | exact absurd (by assumption) hQ))))
local macro_rules | `(tactic| tm_at "on call ref") => `(tactic| (k_here; (with_reducible show wpAny _ _ (call (Value.ref 220) _) _ _ _); k_dflt (refine' (ask_lciv _ _ _ ?c0 ?c1) _ _ _ _ _ _ _ _ _ _ _ _ _ _ _ _ _ _ _ _ _ _ _ ?k1 ?k2 ?k3 ?k4 ?k5 ?kK ?kd ?ku ?_); (case k1 => k_asm); (case k2 => k_asm); (case k3 => k_asm); (case k4 => k_asm); (case k5 => k_asm); (case kK => first | exact rfl | assumption); (case kd => ktr_room); (case ku => ktr_units); (case c0 => omega); (case c1 => omega); intro D9 t19 t29 t39 n9 h9 tk9 F9 N9; (try dsimp only); (try k_fold)))

/- Ia -/
theorem ia_fill : fillsInplaceSlot (.type "list") "add" (Operator.Add == .Add) = pure false := by
  unfold fillsInplaceSlot
  show (typeLookup (.type "list") (dunderI "add") >>= fun fi => pure (fi.isSome && !isSeqSlot fi)) = pure false
  rw [PySem.F.slot_list_iadd.lookup]
  show (pure (_ && !isSeqSlot _) : Sem Bool) = _
  congr 1
theorem ia_seq : seqSlot? (.type "list") (dunderI "add") = pure (some (.builtin "list.__iadd__")) := PySem.seqSlot_of PySem.F.slot_list_iadd.lookup (by decide +kernel)
section
variable {prog : Program} {w : World} {A : Around} {E : Value → Shared → Prop} {s : Shared} {h₀ : Heap} {L D b : Addr} {m : Str → Option Value} {news news' : List (Addr × Obj)} {its its2 : Array Value} {n n2 : Nat} {l : List Value}
theorem inplace_list {Q : Value → Shared → Prop} (ha : s.TypeIs (.ref D) "list") (hb : s.TypeIs (.ref b) "list") (hc : wpAny (model prog w) A (call (.builtin "list.__iadd__") [.ref D, .ref b]) Q E s) : wpAny (model prog w) A (inplaceOp .Add (.ref D) (.ref b)) Q E s := by
  unfold inplaceOp
  refine wpAny_holding ?_
  refine wpAny_bind (wpAny_typeOf ha (wpAny_bind (wpAny_of_eq ia_fill ?_)))
  show wpAny _ A (if false = true then _ else _) Q E s
  rw [if_neg Bool.false_ne_true]
  refine wpAny_bind (wpAny_binaryOp1_none (nm := "add") ha hb noFill_list_add ?_)
  refine wpAny_bind (wpAny_of_eq ia_seq ?_)
  exact wpAny_bind (wpAny_rule hc)
theorem iadd_lists {Q : Value → Shared → Prop} (F : Fr h₀ L s.heap m) (N : News h₀ L s.heap news) (hb : (b, listOf its2 n2) ∈ news) (e : its.toList ++ its2.toList = l) (hne : its2.toList.length ≠ 0)
    (U : Upd D (listOf its n) (listOf l.toArray (n + 1)) news news') (hd : ¬(!its.isEmpty && Builtin.List.listTooLong (its.size + its2.size)) = true) (hz : its.toList.length ≤ sizeLine) (hz2 : its.size + its2.size ≤ sizeLine + 1)
    (h : ∀ h', Fr h₀ L h' m → News h₀ L h' news' → Q (.ref D) { s with heap := h' }) : wpAny (model prog w) A (inplaceOp .Add (.ref D) (.ref b)) Q E s := by
  obtain ⟨pre, post, rfl, rfl, a, c⟩ := U.split
  have z := N (D, listOf its n) (List.mem_append.mpr (.inr (.head _)))
  refine inplace_list ⟨_, z.1, rfl⟩ ⟨_, (N _ hb).1, rfl⟩ ?_
  refine call_meets PySem.F.slot_list_iadd ⟨_, z.1, rfl⟩ PySem.F.entry_list_iadd (PySem.F.args_list_iadd_2 _ _) (PySem.AutoSeq1.list___iadd___list_list_0 D its n b its2 n2 hd (by simpa using hz) hz2) ⟨z.1, (N _ hb).1, h _ (F.change (Heap.SameBut.update ..) z.2.1 z.2.2) (kl_turn _ N a c ?_ ?_)⟩
  · subst e
    apply Array.toList_inj.mp
    simp
  · subst e
    simp at hne ⊢
    exact hne
end
local macro_rules | `(tactic| tm_at "on inplaceOp Add ref ref") => `(tactic| (k_here; k_dflt (refine' iadd_lists ?F ?N ?b ?e ?ne ?U ?d ?z ?y ?_; (case F => k_asm); (case N => k_asm); (case b => k_mem); (case U => k_upd); (case e => kl_lit); (case ne => kl_some); (case d => kl_no); (case z => kl_room); (case y => kl_room)); kl_rest))

/- C13 -/
inductive PairsIn (led : List (Addr × Obj)) : List (Int × Int) → List Value → Prop where
  | nil : PairsIn led [] []
  | cons {a b : Int} {D : Addr} {t1 t2 : Tok} {c : Nat} {ls : List (Int × Int)} {vs : List Value} : (D, tup2 a t1 b t2 c) ∈ led → PairsIn led ls vs → PairsIn led ((a, b) :: ls) (.ref D :: vs)
theorem PairsIn.all2 {led : List (Addr × Obj)} {ls : List (Int × Int)} {vs : List Value} (h : PairsIn led ls vs) {led' : List (Addr × Obj)} (hs : ∀ p ∈ led, p ∈ led') : All2 (fun (a : Int × Int) v => ∃ D t1 t2 c, v = .ref D ∧ (D, tup2 a.1 t1 a.2 t2 c) ∈ led') ls vs := by
  induction h with
  | nil => exact .nil
  | cons hm _ ih => exact .cons ⟨_, _, _, _, rfl, hs _ hm⟩ ih
abbrev RetP (h₀ : Heap) (L : Addr) (m : Str → Option Value) (news : List (Addr × Obj)) (s : Shared) (Q : Value → Shared → Prop) (ls : List (Int × Int)) : Prop :=
  ∀ (D : Addr) (vs : List Value) (c : Nat) (tail : List (Addr × Obj)) (h' : Heap) (tk' : Nat), Fr h₀ L h' m → News h₀ L h' (tail ++ news) → (D, listOf vs.toArray c) ∈ tail → PairsIn tail ls vs → Q (.ref D) { s with heap := h', toks := tk' }
abbrev AskP (w : World) (D : Nat) (f : Addr) (vs : List Value) (ls : List (Int × Int)) : Prop :=
  ∀ (p : Program) (loose : List Str) (mean : ExcName → Option Value) (mg mb : Str → Option Value) (dp un : Nat) (gd : Option (List Code)) (cn : Str) (cs : Scope) (a : Addr) (ccd : Value) (cl : List (Str × Addr)) (outer : List Env) (A₀ : Around) (base h₀ : Heap) (L : Addr) (m : Str → Option Value) (news : List (Addr × Obj)) (s : Shared) (Q E : Value → Shared → Prop),
    Below A₀ base outer h₀ → Fr h₀ L s.heap m → (hd.heap_39 w.params).In h₀ → News h₀ L s.heap news → Top p loose mean mg mb h₀ → cs.kind = .function →
    dp + D < recursionLimit → un + 8 * D < cLine → RetP h₀ L m news s Q ls →
      wpAny (model PySem.Challenge.pw_ad5029_01 w) (ktrTop dp un gd cn cs L a ccd cl outer) (call (.ref f) vs) Q E s
theorem ret_p {h₀ h' : Heap} {L D : Addr} {m : Str → Option Value} {news tail : List (Addr × Obj)} {s : Shared} {Q : Value → Shared → Prop} {c tk' : Nat} {vs : List Value} {ls ls' : List (Int × Int)} (hret : RetP h₀ L m news s Q ls) (F : Fr h₀ L h' m)
    (N : News h₀ L h' (tail ++ news)) (hm : (D, listOf vs.toArray c) ∈ tail) (ha : PairsIn tail ls' vs) (e : ls' = ls) : Q (.ref D) { s with heap := h', toks := tk' } := by
  subst e
  exact hret D vs c tail h' tk' F N hm ha
def lmonths (z : Int) : List (Int × Int) :=
  [(7, 30), (8, if z % 10 = 5 then 30 else 29), (9, if z % 10 = 3 then 29 else 30), (10, 29), (11, 30)] ++ (if 360 < z then [(12, 30), (13, 29)] else [(12, 29)]) ++ [(1, 30), (2, 29), (3, 30), (4, 29), (5, 30), (6, 29)]

theorem ask_months_1 (w : World) (z : Int) (t : Tok) (h0 : 300 < z) (h1 : z < 400) (h5 : z % 10 = 5) (h3 : z % 10 ≠ 3) (h6 : 360 < z) : AskP w 2 199 [.int z t] (lmonths z) := by
  intro p loose mean mg mb dp un gd cn cs a ccd cl outer A₀ base h₀ L m news s Q E B F X N T hk hd hu hret
  refine wpAny_call ?_
  k_dflt (tm_at "mine full")
  k_steps
  all_goals (refine' ret_p hret ?zF ?zN ?zM ?zA ?zE; (case zF => k_asm); (case zN => k_asm); (case zM => k_mem); (case zA => exact PairsIn.cons (by k_mem) (PairsIn.cons (by k_mem) (PairsIn.cons (by k_mem) (PairsIn.cons (by k_mem) (PairsIn.cons (by k_mem) (PairsIn.cons (by k_mem) (PairsIn.cons (by k_mem) (PairsIn.cons (by k_mem) (PairsIn.cons (by k_mem) (PairsIn.cons (by k_mem) (PairsIn.cons (by k_mem) (PairsIn.cons (by k_mem) (PairsIn.cons (by k_mem) (PairsIn.nil)))))))))))))); (case zE => (unfold lmonths; simp only [h5, h3, h6, if_true, if_false]; rfl)))

theorem ask_months_2 (w : World) (z : Int) (t : Tok) (h0 : 300 < z) (h1 : z < 400) (h5 : z % 10 = 5) (h3 : z % 10 ≠ 3) (h6 : ¬ 360 < z) : AskP w 2 199 [.int z t] (lmonths z) := by
  intro p loose mean mg mb dp un gd cn cs a ccd cl outer A₀ base h₀ L m news s Q E B F X N T hk hd hu hret
  refine wpAny_call ?_
  k_dflt (tm_at "mine full")
  k_steps
  all_goals (refine' ret_p hret ?zF ?zN ?zM ?zA ?zE; (case zF => k_asm); (case zN => k_asm); (case zM => k_mem); (case zA => exact PairsIn.cons (by k_mem) (PairsIn.cons (by k_mem) (PairsIn.cons (by k_mem) (PairsIn.cons (by k_mem) (PairsIn.cons (by k_mem) (PairsIn.cons (by k_mem) (PairsIn.cons (by k_mem) (PairsIn.cons (by k_mem) (PairsIn.cons (by k_mem) (PairsIn.cons (by k_mem) (PairsIn.cons (by k_mem) (PairsIn.cons (by k_mem) (PairsIn.nil))))))))))))); (case zE => (unfold lmonths; simp only [h5, h3, h6, if_true, if_false]; rfl)))

theorem ask_months_3 (w : World) (z : Int) (t : Tok) (h0 : 300 < z) (h1 : z < 400) (h5 : z % 10 ≠ 5) (h3 : z % 10 = 3) (h6 : 360 < z) : AskP w 2 199 [.int z t] (lmonths z) := by
  intro p loose mean mg mb dp un gd cn cs a ccd cl outer A₀ base h₀ L m news s Q E B F X N T hk hd hu hret
  refine wpAny_call ?_
  k_dflt (tm_at "mine full")
  k_steps
  all_goals (refine' ret_p hret ?zF ?zN ?zM ?zA ?zE; (case zF => k_asm); (case zN => k_asm); (case zM => k_mem); (case zA => exact PairsIn.cons (by k_mem) (PairsIn.cons (by k_mem) (PairsIn.cons (by k_mem) (PairsIn.cons (by k_mem) (PairsIn.cons (by k_mem) (PairsIn.cons (by k_mem) (PairsIn.cons (by k_mem) (PairsIn.cons (by k_mem) (PairsIn.cons (by k_mem) (PairsIn.cons (by k_mem) (PairsIn.cons (by k_mem) (PairsIn.cons (by k_mem) (PairsIn.cons (by k_mem) (PairsIn.nil)))))))))))))); (case zE => (unfold lmonths; simp only [h5, h3, h6, if_true, if_false]; rfl)))

theorem ask_months_4 (w : World) (z : Int) (t : Tok) (h0 : 300 < z) (h1 : z < 400) (h5 : z % 10 ≠ 5) (h3 : z % 10 = 3) (h6 : ¬ 360 < z) : AskP w 2 199 [.int z t] (lmonths z) := by
  intro p loose mean mg mb dp un gd cn cs a ccd cl outer A₀ base h₀ L m news s Q E B F X N T hk hd hu hret
  refine wpAny_call ?_
  k_dflt (tm_at "mine full")
  k_steps
  all_goals (refine' ret_p hret ?zF ?zN ?zM ?zA ?zE; (case zF => k_asm); (case zN => k_asm); (case zM => k_mem); (case zA => exact PairsIn.cons (by k_mem) (PairsIn.cons (by k_mem) (PairsIn.cons (by k_mem) (PairsIn.cons (by k_mem) (PairsIn.cons (by k_mem) (PairsIn.cons (by k_mem) (PairsIn.cons (by k_mem) (PairsIn.cons (by k_mem) (PairsIn.cons (by k_mem) (PairsIn.cons (by k_mem) (PairsIn.cons (by k_mem) (PairsIn.cons (by k_mem) (PairsIn.nil))))))))))))); (case zE => (unfold lmonths; simp only [h5, h3, h6, if_true, if_false]; rfl)))

theorem ask_months_5 (w : World) (z : Int) (t : Tok) (h0 : 300 < z) (h1 : z < 400) (h5 : z % 10 ≠ 5) (h3 : z % 10 ≠ 3) (h6 : 360 < z) : AskP w 2 199 [.int z t] (lmonths z) := by
  intro p loose mean mg mb dp un gd cn cs a ccd cl outer A₀ base h₀ L m news s Q E B F X N T hk hd hu hret
  refine wpAny_call ?_
  k_dflt (tm_at "mine full")
  k_steps
  all_goals (refine' ret_p hret ?zF ?zN ?zM ?zA ?zE; (case zF => k_asm); (case zN => k_asm); (case zM => k_mem); (case zA => exact PairsIn.cons (by k_mem) (PairsIn.cons (by k_mem) (PairsIn.cons (by k_mem) (PairsIn.cons (by k_mem) (PairsIn.cons (by k_mem) (PairsIn.cons (by k_mem) (PairsIn.cons (by k_mem) (PairsIn.cons (by k_mem) (PairsIn.cons (by k_mem) (PairsIn.cons (by k_mem) (PairsIn.cons (by k_mem) (PairsIn.cons (by k_mem) (PairsIn.cons (by k_mem) (PairsIn.nil)))))))))))))); (case zE => (unfold lmonths; simp only [h5, h3, h6, if_true, if_false]; rfl)))

theorem ask_months_6 (w : World) (z : Int) (t : Tok) (h0 : 300 < z) (h1 : z < 400) (h5 : z % 10 ≠ 5) (h3 : z % 10 ≠ 3) (h6 : ¬ 360 < z) : AskP w 2 199 [.int z t] (lmonths z) := by
  intro p loose mean mg mb dp un gd cn cs a ccd cl outer A₀ base h₀ L m news s Q E B F X N T hk hd hu hret
  refine wpAny_call ?_
  k_dflt (tm_at "mine full")
  k_steps
  all_goals (refine' ret_p hret ?zF ?zN ?zM ?zA ?zE; (case zF => k_asm); (case zN => k_asm); (case zM => k_mem); (case zA => exact PairsIn.cons (by k_mem) (PairsIn.cons (by k_mem) (PairsIn.cons (by k_mem) (PairsIn.cons (by k_mem) (PairsIn.cons (by k_mem) (PairsIn.cons (by k_mem) (PairsIn.cons (by k_mem) (PairsIn.cons (by k_mem) (PairsIn.cons (by k_mem) (PairsIn.cons (by k_mem) (PairsIn.cons (by k_mem) (PairsIn.cons (by k_mem) (PairsIn.nil))))))))))))); (case zE => (unfold lmonths; simp only [h5, h3, h6, if_true, if_false]; rfl)))

/- C14 -/
theorem ask_months (w : World) (z : Int) (t : Tok) (h0 : 300 < z) (h1 : z < 400) : AskP w 2 199 [.int z t] (lmonths z) := by
  by_cases h6 : 360 < z
  · by_cases h5 : z % 10 = 5
    · exact ask_months_1 w z t h0 h1 h5 (by omega) h6
    · by_cases h3 : z % 10 = 3
      · exact ask_months_3 w z t h0 h1 h5 h3 h6
      · exact ask_months_5 w z t h0 h1 h5 h3 h6
  · by_cases h5 : z % 10 = 5
    · exact ask_months_2 w z t h0 h1 h5 (by omega) h6
    · by_cases h3 : z % 10 = 3
      · exact ask_months_4 w z t h0 h1 h5 h3 h6
      · exact ask_months_6 w z t h0 h1 h5 h3 h6
local macro_rules | `(tactic| tm_at "on call ref") => `(tactic| (k_here; (with_reducible show wpAny _ _ (call (Value.ref 199) _) _ _ _); k_dflt (refine' (ask_months _ _ _ ?c0 ?c1) _ _ _ _ _ _ _ _ _ _ _ _ _ _ _ _ _ _ _ _ _ _ _ ?k1 ?k2 ?k3 ?k4 ?k5 ?kK ?kd ?ku ?_); (case k1 => k_asm); (case k2 => k_asm); (case k3 => k_asm); (case k4 => k_asm); (case k5 => k_asm); (case kK => first | exact rfl | assumption); (case kd => ktr_room); (case ku => ktr_units); (case c0 => omega); (case c1 => omega); intro D9 vs9 c9 tail9 h9 tk9 F9 N9 hm9 hp9; (try dsimp only); (try k_fold)))

/- Pl -/
section
set_option maxRecDepth 100000
open PySem.W (rangeKs)
def cmon (y : Int) : Int := (235 * y - 234) / 19
def cpar (y : Int) : Int := (12084 + 13753 * cmon y) % 25920
theorem cpar_bd (y : Int) : 0 ≤ cpar y ∧ cpar y < 25920 := by unfold cpar; omega
theorem dly0_eq (y : Int) : 25920 * dly0 y + cpar y = 12084 + 765433 * cmon y := by
  have e : dly0 y = cmon y * 29 + (12084 + 13753 * cmon y) / 25920 := rfl
  have e2 : cpar y = (12084 + 13753 * cmon y) % 25920 := rfl
  omega
theorem leap_iff (y : Int) : leapB y = true ↔ (y * 7 + 1) % 19 < 7 := by unfold leapB; exact decide_eq_true_iff
theorem leap_not (y : Int) : leapB y = false ↔ ¬ (y * 7 + 1) % 19 < 7 := by unfold leapB; exact decide_eq_false_iff_not
theorem cmon_next (y : Int) : (leapB y = true → cmon (y + 1) = cmon y + 13) ∧ (leapB y = false → cmon (y + 1) = cmon y + 12) := by
  rw [leap_iff, leap_not]; unfold cmon
  have h1 : (235 * (y + 1) - 234) / 19 = 12 * y + (y * 7 + 1) / 19 := by omega
  rw [h1]
  constructor <;> intro h
  · have h2 : (235 * y - 234) / 19 = 12 * y - 13 + (y * 7 + 1) / 19 := by omega
    omega
  · have h2 : (235 * y - 234) / 19 = 12 * y - 12 + (y * 7 + 1) / 19 := by omega
    omega
/-- common year -/
theorem next_c {y : Int} (h : leapB y = false) : (cpar y < 16404 ∧ dly0 (y + 1) = dly0 y + 354 ∧ cpar (y + 1) = cpar y + 9516) ∨ (16404 ≤ cpar y ∧ dly0 (y + 1) = dly0 y + 355 ∧ cpar (y + 1) = cpar y - 16404) := by
  have h1 := (cmon_next y).2 h
  have := dly0_eq y; have := dly0_eq (y + 1); have := cpar_bd y; have := cpar_bd (y + 1)
  omega
theorem next_l {y : Int} (h : leapB y = true) : (cpar y < 2651 ∧ dly0 (y + 1) = dly0 y + 383 ∧ cpar (y + 1) = cpar y + 23269) ∨ (2651 ≤ cpar y ∧ dly0 (y + 1) = dly0 y + 384 ∧ cpar (y + 1) = cpar y - 2651) := by
  have h1 := (cmon_next y).1 h
  have := dly0_eq y; have := dly0_eq (y + 1); have := cpar_bd y; have := cpar_bd (y + 1)
  omega
theorem dly1_cases (y : Int) : (dly1 y = dly0 y + 1 ∧ (dly0 y % 7 = 2 ∨ dly0 y % 7 = 4 ∨ dly0 y % 7 = 6)) ∨ (dly1 y = dly0 y ∧ (dly0 y % 7 = 0 ∨ dly0 y % 7 = 1 ∨ dly0 y % 7 = 3 ∨ dly0 y % 7 = 5)) := by
  unfold dly1
  generalize dly0 y = D
  have : D % 7 = 0 ∨ D % 7 = 1 ∨ D % 7 = 2 ∨ D % 7 = 3 ∨ D % 7 = 4 ∨ D % 7 = 5 ∨ D % 7 = 6 := by omega
  rcases this with h | h | h | h | h | h | h <;> split <;> omega
/-- the first postponement with parts -/
theorem dly356 (y : Int) : dly1 (y + 1) - dly1 y = 356 ↔ leapB y = false ∧ dly0 y % 7 = 1 ∧ 16404 ≤ cpar y := by
  have a := dly1_cases y
  have b := dly1_cases (y + 1)
  cases h : leapB y with
  | true => have := next_l h; simp; omega
  | false => have := next_c h; simp; omega
theorem dly382 (y : Int) : dly1 y - dly1 (y - 1) = 382 ↔ leapB (y - 1) = true ∧ dly0 y % 7 = 0 ∧ 23269 ≤ cpar y := by
  have a := dly1_cases y
  have b := dly1_cases (y - 1)
  have e : y - 1 + 1 = y := by omega
  have c := cpar_bd y
  have d := cpar_bd (y - 1)
  cases h : leapB (y - 1) with
  | true => have := next_l h; rw [e] at this; simp; omega
  | false => have := next_c h; rw [e] at this; simp; omega
/-- all postponements by the molad's day of the week and its parts -/
def post (y : Int) : Int := if dly0 y % 7 = 2 ∨ dly0 y % 7 = 4 ∨ dly0 y % 7 = 6 then 1 else if leapB y = false ∧ dly0 y % 7 = 1 ∧ 16404 ≤ cpar y then 2 else if leapB (y - 1) = true ∧ dly0 y % 7 = 0 ∧ 23269 ≤ cpar y then 1 else 0
theorem tish_post (y : Int) : tish y = 347996 + dly0 y + post y := by
  have a := dly1_cases y
  have h1 := dly356 y
  have h2 := dly382 y
  unfold tish dly2 post
  by_cases c1 : dly1 (y + 1) - dly1 y = 356
  · have c1' := h1.mp c1
    rw [if_pos c1, if_neg (show ¬ (dly0 y % 7 = 2 ∨ dly0 y % 7 = 4 ∨ dly0 y % 7 = 6) by omega), if_pos c1']
    omega
  · have c1' := fun z => c1 (h1.mpr z)
    rw [if_neg c1]
    by_cases c2 : dly1 y - dly1 (y - 1) = 382
    · have c2' := h2.mp c2
      rw [if_pos c2, if_neg (show ¬ (dly0 y % 7 = 2 ∨ dly0 y % 7 = 4 ∨ dly0 y % 7 = 6) by omega), if_neg c1', if_pos c2']
      omega
    · have c2' := fun z => c2 (h2.mpr z)
      rw [if_neg c2, if_neg c1', if_neg c2']
      split <;> omega
theorem mlin_eq (Y : Int) : mlin Y = 492480 * (dly0 (Y + 1) - 1373282 - 365 * (Y - 3760) - (Y - 3760) / 4) + 19 * cpar (Y + 1) := by
  have h := dly0_eq (Y + 1)
  have hm : cmon (Y + 1) = (235 * (Y + 1) - 234) / 19 := rfl
  have hg : 235 * Y + mgold Y = 19 * cmon (Y + 1) + 17 := by
    rw [hm]; unfold mgold; omega
  have h4 : (Y - 3760) / 4 * 4 = Y - Y % 4 - 3760 := by omega
  unfold mlin
  generalize mgold Y = g at *
  generalize (Y - 3760) / 4 = v at *
  generalize Y % 4 = r at *
  generalize cmon (Y + 1) = M at *
  generalize dly0 (Y + 1) = D at *
  generalize cpar (Y + 1) = p at *
  clear hm
  omega
theorem mgold_eq (Y : Int) : mgold Y = 18 - (Y * 7 + 1) % 19 := by unfold mgold; omega
theorem r7 (Y : Int) : ((Y * 7 + 1) % 19 < 12 ∧ ((Y + 1) * 7 + 1) % 19 = (Y * 7 + 1) % 19 + 7) ∨ (12 ≤ (Y * 7 + 1) % 19 ∧ ((Y + 1) * 7 + 1) % 19 = (Y * 7 + 1) % 19 - 12) := by
  by_cases h : (Y * 7 + 1) % 19 < 12
  · exact .inl ⟨h, by omega⟩
  · exact .inr ⟨by omega, by omega⟩
theorem gold6 (Y : Int) : 6 < mgold Y ↔ leapB (Y + 1) = false := by
  rw [leap_not, mgold_eq]
  have := r7 Y
  omega
theorem gold11 (Y : Int) : 11 < mgold Y ↔ leapB Y = true := by rw [leap_iff, mgold_eq]; omega
/-- GAUSS: the 1st of Tishri stands 163 days behind the Passover of the year before -/
theorem gauss (Y : Int) : springF Y + 163 = tish (Y + 1) + 2 := by
  have h := mlin_eq Y
  have hp := cpar_bd (Y + 1)
  have hd : mlin Y / 492480 = dly0 (Y + 1) - 1373282 - 365 * (Y - 3760) - (Y - 3760) / 4 := by omega
  have hr : mlin Y % 492480 = 19 * cpar (Y + 1) := by omega
  have hw : mweek Y = dly0 (Y + 1) % 7 := by
    unfold mweek; rw [hd]; clear h hd hr hp; generalize dly0 (Y + 1) = D
    have hY : Y = 4 * ((Y - 3760) / 4) + Y % 4 + 3760 := by omega
    generalize (Y - 3760) / 4 = v at *
    generalize Y % 4 = r at *
    subst hY
    omega
  have e : Y + 1 - 1 = Y := by omega
  rw [tish_post]
  unfold springF marchF post
  rw [hw, hr, e, hd]
  generalize dly0 (Y + 1) % 7 = b
  have k1 : (b = 1 ∧ leapB (Y + 1) = false ∧ 311676 ≤ 19 * cpar (Y + 1)) ↔ (leapB (Y + 1) = false ∧ b = 1 ∧ 16404 ≤ cpar (Y + 1)) := by
    constructor
    · rintro ⟨x, y, z⟩; exact ⟨y, x, by omega⟩
    · rintro ⟨x, y, z⟩; exact ⟨y, x, by omega⟩
  have k2 : (b = 0 ∧ leapB Y = true ∧ 442111 ≤ 19 * cpar (Y + 1)) ↔ (leapB Y = true ∧ b = 0 ∧ 23269 ≤ cpar (Y + 1)) := by
    constructor
    · rintro ⟨x, y, z⟩; exact ⟨y, x, by omega⟩
    · rintro ⟨x, y, z⟩; exact ⟨y, x, by omega⟩
  simp only [gold6, gold11, k1, k2]
  repeat' split
  all_goals omega
/-- the lengths of the years -/
theorem ydays_c {y : Int} (h : leapB y = false) : 353 ≤ ydays y ∧ ydays y ≤ 355 := by
  unfold ydays
  rw [tish_post, tish_post]
  have e : y + 1 - 1 = y := by omega
  unfold post
  rw [e, h]
  have := next_c h
  have a1 := cpar_bd y
  have a2 := cpar_bd (y + 1)
  have w : leapB (y - 1) = false ∨ leapB (y - 1) = true := by cases leapB (y - 1) <;> simp
  rcases w with w | w <;> simp only [w, true_and, false_and, Bool.false_eq_true, if_false] <;> (repeat' split) <;> omega
theorem ydays_l {y : Int} (h : leapB y = true) : 383 ≤ ydays y ∧ ydays y ≤ 385 := by
  unfold ydays
  rw [tish_post, tish_post]
  have e : y + 1 - 1 = y := by omega
  unfold post
  rw [e, h]
  have := next_l h
  have a1 := cpar_bd y
  have a2 := cpar_bd (y + 1)
  have w0 : leapB (y + 1) = false := by rw [leap_not]; rw [leap_iff] at h; have := r7 y; omega
  have w : leapB (y - 1) = false := by rw [leap_not]; rw [leap_iff] at h; have := r7 (y - 1); rw [show y - 1 + 1 = y by omega] at this; omega
  simp only [w, w0, true_and, false_and, Bool.false_eq_true, Bool.true_eq_false, if_false] <;> (repeat' split) <;> omega
theorem jdh_day (y m d : Int) : jdh y m d = jdh y m 1 + d - 1 := by unfold jdh; omega
theorem ydays_bd (y : Int) : 353 ≤ ydays y ∧ ydays y ≤ 385 := by
  cases h : leapB y with
  | true => have := ydays_l h; omega
  | false => have := ydays_c h; omega
theorem tish_up (y : Int) (n : Nat) : tish y ≤ tish (y + n) := by
  induction n with
  | zero => simp
  | succ n ih =>
    have := ydays_bd (y + n)
    unfold ydays at this
    rw [show y + ((n + 1 : Nat) : Int) = y + n + 1 by omega]
    omega
theorem tish_mono {i y : Int} (h : i ≤ y) : tish i ≤ tish y := by
  have := tish_up i (y - i).toNat
  rw [show i + ((y - i).toNat : Int) = y by omega] at this
  exact this
abbrev scanM (z l : Int) : Int × Int := scanG (fun a : Int × Int => a.2) (fun a _ => a.1) (fun a _ => a.1) (lmonths z) l 7
/-- the month found is the month of the day -/
structure MonOK (y l d M : Int) : Prop where
  m1 : 1 ≤ M
  m2 : M ≤ 13
  d1 : 0 ≤ d
  d2 : d < mlen y M
  num : jdh y M (d + 1) = tish y + 1 + l
  lo : M < 7 → jdh y 1 1 ≤ tish y + 1 + l ∧ ∀ i, 1 ≤ i → i < M → jdh y i (mlen y i) < tish y + 1 + l
  hi : 7 ≤ M → tish y + 1 + l < jdh y 1 1 ∧ ∀ i, 7 ≤ i → i < M → jdh y i (mlen y i) < tish y + 1 + l
theorem scan_step {P : Int × Int → Prop} {a b l mo : Int} {r : List (Int × Int)} (hp : l < b → P (l, a)) (hn : ¬ l < b → P (scanG (fun a : Int × Int => a.2) (fun a _ => a.1) (fun a _ => a.1) r (l - b) a)) : P (scanG (fun a : Int × Int => a.2) (fun a _ => a.1) (fun a _ => a.1) ((a, b) :: r) l mo) := by
  show P (if l < b then (l, a) else scanG (fun a : Int × Int => a.2) (fun a _ => a.1) (fun a _ => a.1) r (l - b) a)
  by_cases h : l < b
  · rw [if_pos h]; exact hp h
  · rw [if_neg h]; exact hn h
def MonP (y l : Int) (p : Int × Int) : Prop := MonOK y l p.1 p.2
theorem tab_353 {y : Int} (hl : leapB y = false) (hz : ydays y = 353) : (mlen y 1 = 30 ∧ moff y 1 = 176) ∧ (mlen y 2 = 29 ∧ moff y 2 = 206) ∧ (mlen y 3 = 30 ∧ moff y 3 = 235) ∧ (mlen y 4 = 29 ∧ moff y 4 = 265) ∧ (mlen y 5 = 30 ∧ moff y 5 = 294) ∧ (mlen y 6 = 29 ∧ moff y 6 = 324) ∧ (mlen y 7 = 30 ∧ moff y 7 = 0) ∧ (mlen y 8 = 29 ∧ moff y 8 = 30) ∧ (mlen y 9 = 29 ∧ moff y 9 = 59) ∧ (mlen y 10 = 29 ∧ moff y 10 = 88) ∧ (mlen y 11 = 30 ∧ moff y 11 = 117) ∧ (mlen y 12 = 29 ∧ moff y 12 = 147) := by
  have hy : ymon y = 12 := by unfold ymon; rw [hl]; decide
  have l1 : mlen y 1 = 30 := by unfold mlen; rw [hz, hl]; decide
  have l2 : mlen y 2 = 29 := by unfold mlen; rw [hz, hl]; decide
  have l3 : mlen y 3 = 30 := by unfold mlen; rw [hz, hl]; decide
  have l4 : mlen y 4 = 29 := by unfold mlen; rw [hz, hl]; decide
  have l5 : mlen y 5 = 30 := by unfold mlen; rw [hz, hl]; decide
  have l6 : mlen y 6 = 29 := by unfold mlen; rw [hz, hl]; decide
  have l7 : mlen y 7 = 30 := by unfold mlen; rw [hz, hl]; decide
  have l8 : mlen y 8 = 29 := by unfold mlen; rw [hz, hl]; decide
  have l9 : mlen y 9 = 29 := by unfold mlen; rw [hz, hl]; decide
  have l10 : mlen y 10 = 29 := by unfold mlen; rw [hz, hl]; decide
  have l11 : mlen y 11 = 30 := by unfold mlen; rw [hz, hl]; decide
  have l12 : mlen y 12 = 29 := by unfold mlen; rw [hz, hl]; decide
  have e0 : rangeKs 7 (ymon y + 1 - 7).toNat = [7, 8, 9, 10, 11, 12] := by rw [hy]; decide
  have o1 : moff y 1 = 176 := by unfold moff; rw [e0, show rangeKs 1 ((1 : Int) - 1).toNat = [] by decide, if_pos (by decide)]; simp only [msum, List.map, List.sum_cons, List.sum_nil, l7, l8, l9, l10, l11, l12]; decide
  have o2 : moff y 2 = 206 := by unfold moff; rw [e0, show rangeKs 1 ((2 : Int) - 1).toNat = [1] by decide, if_pos (by decide)]; simp only [msum, List.map, List.sum_cons, List.sum_nil, l7, l8, l9, l10, l11, l12, l1]; decide
  have o3 : moff y 3 = 235 := by unfold moff; rw [e0, show rangeKs 1 ((3 : Int) - 1).toNat = [1, 2] by decide, if_pos (by decide)]; simp only [msum, List.map, List.sum_cons, List.sum_nil, l7, l8, l9, l10, l11, l12, l1, l2]; decide
  have o4 : moff y 4 = 265 := by unfold moff; rw [e0, show rangeKs 1 ((4 : Int) - 1).toNat = [1, 2, 3] by decide, if_pos (by decide)]; simp only [msum, List.map, List.sum_cons, List.sum_nil, l7, l8, l9, l10, l11, l12, l1, l2, l3]; decide
  have o5 : moff y 5 = 294 := by unfold moff; rw [e0, show rangeKs 1 ((5 : Int) - 1).toNat = [1, 2, 3, 4] by decide, if_pos (by decide)]; simp only [msum, List.map, List.sum_cons, List.sum_nil, l7, l8, l9, l10, l11, l12, l1, l2, l3, l4]; decide
  have o6 : moff y 6 = 324 := by unfold moff; rw [e0, show rangeKs 1 ((6 : Int) - 1).toNat = [1, 2, 3, 4, 5] by decide, if_pos (by decide)]; simp only [msum, List.map, List.sum_cons, List.sum_nil, l7, l8, l9, l10, l11, l12, l1, l2, l3, l4, l5]; decide
  have o7 : moff y 7 = 0 := by unfold moff; rw [show rangeKs 7 ((7 : Int) - 7).toNat = [] by decide, if_neg (by decide)]; rfl -- simp only [msum, List.map, List.sum_cons, List.sum_nil]; decide
  have o8 : moff y 8 = 30 := by unfold moff; rw [show rangeKs 7 ((8 : Int) - 7).toNat = [7] by decide, if_neg (by decide)]; simp only [msum, List.map, List.sum_cons, List.sum_nil, l7]; decide
  have o9 : moff y 9 = 59 := by unfold moff; rw [show rangeKs 7 ((9 : Int) - 7).toNat = [7, 8] by decide, if_neg (by decide)]; simp only [msum, List.map, List.sum_cons, List.sum_nil, l7, l8]; decide
  have o10 : moff y 10 = 88 := by unfold moff; rw [show rangeKs 7 ((10 : Int) - 7).toNat = [7, 8, 9] by decide, if_neg (by decide)]; simp only [msum, List.map, List.sum_cons, List.sum_nil, l7, l8, l9]; decide
  have o11 : moff y 11 = 117 := by unfold moff; rw [show rangeKs 7 ((11 : Int) - 7).toNat = [7, 8, 9, 10] by decide, if_neg (by decide)]; simp only [msum, List.map, List.sum_cons, List.sum_nil, l7, l8, l9, l10]; decide
  have o12 : moff y 12 = 147 := by unfold moff; rw [show rangeKs 7 ((12 : Int) - 7).toNat = [7, 8, 9, 10, 11] by decide, if_neg (by decide)]; simp only [msum, List.map, List.sum_cons, List.sum_nil, l7, l8, l9, l10, l11]; decide
  exact ⟨⟨l1, o1⟩, ⟨l2, o2⟩, ⟨l3, o3⟩, ⟨l4, o4⟩, ⟨l5, o5⟩, ⟨l6, o6⟩, ⟨l7, o7⟩, ⟨l8, o8⟩, ⟨l9, o9⟩, ⟨l10, o10⟩, ⟨l11, o11⟩, ⟨l12, o12⟩⟩
theorem mon_353 {y l : Int} (hl : leapB y = false) (hz : ydays y = 353) (h0 : 0 ≤ l) (h1 : l < 353) : MonOK y l (scanM 353 l).1 (scanM 353 l).2 := by
  obtain ⟨⟨l1, o1⟩, ⟨l2, o2⟩, ⟨l3, o3⟩, ⟨l4, o4⟩, ⟨l5, o5⟩, ⟨l6, o6⟩, ⟨l7, o7⟩, ⟨l8, o8⟩, ⟨l9, o9⟩, ⟨l10, o10⟩, ⟨l11, o11⟩, ⟨l12, o12⟩⟩ := tab_353 hl hz
  have e : lmonths 353 = [(7, 30), (8, 29), (9, 29), (10, 29), (11, 30), (12, 29), (1, 30), (2, 29), (3, 30), (4, 29), (5, 30), (6, 29)] := by decide
  show MonP y l (scanM 353 l)
  unfold scanM
  rw [e]
  clear e hl hz
  refine scan_step (fun c7 => ?_) (fun c7 => ?_)
  · show MonOK _ _ _ _
    dsimp only
    refine ⟨by decide, by decide, by omega, by rw [l7]; omega, by unfold jdh; omega, fun hm => ?_, fun hm => ?_⟩
    · exact absurd hm (by decide)
    · refine ⟨by unfold jdh; omega, fun i ha hb => by omega⟩
  refine scan_step (fun c8 => ?_) (fun c8 => ?_)
  · show MonOK _ _ _ _
    dsimp only
    refine ⟨by decide, by decide, by omega, by rw [l8]; omega, by unfold jdh; omega, fun hm => ?_, fun hm => ?_⟩
    · exact absurd hm (by decide)
    · refine ⟨by unfold jdh; omega, fun i ha hb => by
      have hi : i = 7 := by omega
      rcases hi with rfl <;> (unfold jdh; omega)⟩
  refine scan_step (fun c9 => ?_) (fun c9 => ?_)
  · show MonOK _ _ _ _
    dsimp only
    refine ⟨by decide, by decide, by omega, by rw [l9]; omega, by unfold jdh; omega, fun hm => ?_, fun hm => ?_⟩
    · exact absurd hm (by decide)
    · refine ⟨by unfold jdh; omega, fun i ha hb => by
      have hi : i = 7 ∨ i = 8 := by omega
      rcases hi with rfl | rfl <;> (unfold jdh; omega)⟩
  refine scan_step (fun c10 => ?_) (fun c10 => ?_)
  · show MonOK _ _ _ _
    dsimp only
    refine ⟨by decide, by decide, by omega, by rw [l10]; omega, by unfold jdh; omega, fun hm => ?_, fun hm => ?_⟩
    · exact absurd hm (by decide)
    · refine ⟨by unfold jdh; omega, fun i ha hb => by
      have hi : i = 7 ∨ i = 8 ∨ i = 9 := by omega
      rcases hi with rfl | rfl | rfl <;> (unfold jdh; omega)⟩
  refine scan_step (fun c11 => ?_) (fun c11 => ?_)
  · show MonOK _ _ _ _
    dsimp only
    refine ⟨by decide, by decide, by omega, by rw [l11]; omega, by unfold jdh; omega, fun hm => ?_, fun hm => ?_⟩
    · exact absurd hm (by decide)
    · refine ⟨by unfold jdh; omega, fun i ha hb => by
      have hi : i = 7 ∨ i = 8 ∨ i = 9 ∨ i = 10 := by omega
      rcases hi with rfl | rfl | rfl | rfl <;> (unfold jdh; omega)⟩
  refine scan_step (fun c12 => ?_) (fun c12 => ?_)
  · show MonOK _ _ _ _
    dsimp only
    refine ⟨by decide, by decide, by omega, by rw [l12]; omega, by unfold jdh; omega, fun hm => ?_, fun hm => ?_⟩
    · exact absurd hm (by decide)
    · refine ⟨by unfold jdh; omega, fun i ha hb => by
      have hi : i = 7 ∨ i = 8 ∨ i = 9 ∨ i = 10 ∨ i = 11 := by omega
      rcases hi with rfl | rfl | rfl | rfl | rfl <;> (unfold jdh; omega)⟩
  refine scan_step (fun c1 => ?_) (fun c1 => ?_)
  · show MonOK _ _ _ _
    dsimp only
    refine ⟨by decide, by decide, by omega, by rw [l1]; omega, by unfold jdh; omega, fun hm => ?_, fun hm => ?_⟩
    · refine ⟨by unfold jdh; omega, fun i ha hb => by omega⟩
    · exact absurd hm (by decide)
  refine scan_step (fun c2 => ?_) (fun c2 => ?_)
  · show MonOK _ _ _ _
    dsimp only
    refine ⟨by decide, by decide, by omega, by rw [l2]; omega, by unfold jdh; omega, fun hm => ?_, fun hm => ?_⟩
    · refine ⟨by unfold jdh; omega, fun i ha hb => by
      have hi : i = 1 := by omega
      rcases hi with rfl <;> (unfold jdh; omega)⟩
    · exact absurd hm (by decide)
  refine scan_step (fun c3 => ?_) (fun c3 => ?_)
  · show MonOK _ _ _ _
    dsimp only
    refine ⟨by decide, by decide, by omega, by rw [l3]; omega, by unfold jdh; omega, fun hm => ?_, fun hm => ?_⟩
    · refine ⟨by unfold jdh; omega, fun i ha hb => by
      have hi : i = 1 ∨ i = 2 := by omega
      rcases hi with rfl | rfl <;> (unfold jdh; omega)⟩
    · exact absurd hm (by decide)
  refine scan_step (fun c4 => ?_) (fun c4 => ?_)
  · show MonOK _ _ _ _
    dsimp only
    refine ⟨by decide, by decide, by omega, by rw [l4]; omega, by unfold jdh; omega, fun hm => ?_, fun hm => ?_⟩
    · refine ⟨by unfold jdh; omega, fun i ha hb => by
      have hi : i = 1 ∨ i = 2 ∨ i = 3 := by omega
      rcases hi with rfl | rfl | rfl <;> (unfold jdh; omega)⟩
    · exact absurd hm (by decide)
  refine scan_step (fun c5 => ?_) (fun c5 => ?_)
  · show MonOK _ _ _ _
    dsimp only
    refine ⟨by decide, by decide, by omega, by rw [l5]; omega, by unfold jdh; omega, fun hm => ?_, fun hm => ?_⟩
    · refine ⟨by unfold jdh; omega, fun i ha hb => by
      have hi : i = 1 ∨ i = 2 ∨ i = 3 ∨ i = 4 := by omega
      rcases hi with rfl | rfl | rfl | rfl <;> (unfold jdh; omega)⟩
    · exact absurd hm (by decide)
  refine scan_step (fun c6 => ?_) (fun c6 => ?_)
  · show MonOK _ _ _ _
    dsimp only
    refine ⟨by decide, by decide, by omega, by rw [l6]; omega, by unfold jdh; omega, fun hm => ?_, fun hm => ?_⟩
    · refine ⟨by unfold jdh; omega, fun i ha hb => by
      have hi : i = 1 ∨ i = 2 ∨ i = 3 ∨ i = 4 ∨ i = 5 := by omega
      rcases hi with rfl | rfl | rfl | rfl | rfl <;> (unfold jdh; omega)⟩
    · exact absurd hm (by decide)
  exact absurd h1 (by omega)
theorem tab_354 {y : Int} (hl : leapB y = false) (hz : ydays y = 354) : (mlen y 1 = 30 ∧ moff y 1 = 177) ∧ (mlen y 2 = 29 ∧ moff y 2 = 207) ∧ (mlen y 3 = 30 ∧ moff y 3 = 236) ∧ (mlen y 4 = 29 ∧ moff y 4 = 266) ∧ (mlen y 5 = 30 ∧ moff y 5 = 295) ∧ (mlen y 6 = 29 ∧ moff y 6 = 325) ∧ (mlen y 7 = 30 ∧ moff y 7 = 0) ∧ (mlen y 8 = 29 ∧ moff y 8 = 30) ∧ (mlen y 9 = 30 ∧ moff y 9 = 59) ∧ (mlen y 10 = 29 ∧ moff y 10 = 89) ∧ (mlen y 11 = 30 ∧ moff y 11 = 118) ∧ (mlen y 12 = 29 ∧ moff y 12 = 148) := by
  have hy : ymon y = 12 := by unfold ymon; rw [hl]; decide
  have l1 : mlen y 1 = 30 := by unfold mlen; rw [hz, hl]; decide
  have l2 : mlen y 2 = 29 := by unfold mlen; rw [hz, hl]; decide
  have l3 : mlen y 3 = 30 := by unfold mlen; rw [hz, hl]; decide
  have l4 : mlen y 4 = 29 := by unfold mlen; rw [hz, hl]; decide
  have l5 : mlen y 5 = 30 := by unfold mlen; rw [hz, hl]; decide
  have l6 : mlen y 6 = 29 := by unfold mlen; rw [hz, hl]; decide
  have l7 : mlen y 7 = 30 := by unfold mlen; rw [hz, hl]; decide
  have l8 : mlen y 8 = 29 := by unfold mlen; rw [hz, hl]; decide
  have l9 : mlen y 9 = 30 := by unfold mlen; rw [hz, hl]; decide
  have l10 : mlen y 10 = 29 := by unfold mlen; rw [hz, hl]; decide
  have l11 : mlen y 11 = 30 := by unfold mlen; rw [hz, hl]; decide
  have l12 : mlen y 12 = 29 := by unfold mlen; rw [hz, hl]; decide
  have e0 : rangeKs 7 (ymon y + 1 - 7).toNat = [7, 8, 9, 10, 11, 12] := by rw [hy]; decide
  have o1 : moff y 1 = 177 := by unfold moff; rw [e0, show rangeKs 1 ((1 : Int) - 1).toNat = [] by decide, if_pos (by decide)]; simp only [msum, List.map, List.sum_cons, List.sum_nil, l7, l8, l9, l10, l11, l12]; decide
  have o2 : moff y 2 = 207 := by unfold moff; rw [e0, show rangeKs 1 ((2 : Int) - 1).toNat = [1] by decide, if_pos (by decide)]; simp only [msum, List.map, List.sum_cons, List.sum_nil, l7, l8, l9, l10, l11, l12, l1]; decide
  have o3 : moff y 3 = 236 := by unfold moff; rw [e0, show rangeKs 1 ((3 : Int) - 1).toNat = [1, 2] by decide, if_pos (by decide)]; simp only [msum, List.map, List.sum_cons, List.sum_nil, l7, l8, l9, l10, l11, l12, l1, l2]; decide
  have o4 : moff y 4 = 266 := by unfold moff; rw [e0, show rangeKs 1 ((4 : Int) - 1).toNat = [1, 2, 3] by decide, if_pos (by decide)]; simp only [msum, List.map, List.sum_cons, List.sum_nil, l7, l8, l9, l10, l11, l12, l1, l2, l3]; decide
  have o5 : moff y 5 = 295 := by unfold moff; rw [e0, show rangeKs 1 ((5 : Int) - 1).toNat = [1, 2, 3, 4] by decide, if_pos (by decide)]; simp only [msum, List.map, List.sum_cons, List.sum_nil, l7, l8, l9, l10, l11, l12, l1, l2, l3, l4]; decide
  have o6 : moff y 6 = 325 := by unfold moff; rw [e0, show rangeKs 1 ((6 : Int) - 1).toNat = [1, 2, 3, 4, 5] by decide, if_pos (by decide)]; simp only [msum, List.map, List.sum_cons, List.sum_nil, l7, l8, l9, l10, l11, l12, l1, l2, l3, l4, l5]; decide
  have o7 : moff y 7 = 0 := by unfold moff; rw [show rangeKs 7 ((7 : Int) - 7).toNat = [] by decide, if_neg (by decide)]; rfl -- simp only [msum, List.map, List.sum_cons, List.sum_nil]; decide
  have o8 : moff y 8 = 30 := by unfold moff; rw [show rangeKs 7 ((8 : Int) - 7).toNat = [7] by decide, if_neg (by decide)]; simp only [msum, List.map, List.sum_cons, List.sum_nil, l7]; decide
  have o9 : moff y 9 = 59 := by unfold moff; rw [show rangeKs 7 ((9 : Int) - 7).toNat = [7, 8] by decide, if_neg (by decide)]; simp only [msum, List.map, List.sum_cons, List.sum_nil, l7, l8]; decide
  have o10 : moff y 10 = 89 := by unfold moff; rw [show rangeKs 7 ((10 : Int) - 7).toNat = [7, 8, 9] by decide, if_neg (by decide)]; simp only [msum, List.map, List.sum_cons, List.sum_nil, l7, l8, l9]; decide
  have o11 : moff y 11 = 118 := by unfold moff; rw [show rangeKs 7 ((11 : Int) - 7).toNat = [7, 8, 9, 10] by decide, if_neg (by decide)]; simp only [msum, List.map, List.sum_cons, List.sum_nil, l7, l8, l9, l10]; decide
  have o12 : moff y 12 = 148 := by unfold moff; rw [show rangeKs 7 ((12 : Int) - 7).toNat = [7, 8, 9, 10, 11] by decide, if_neg (by decide)]; simp only [msum, List.map, List.sum_cons, List.sum_nil, l7, l8, l9, l10, l11]; decide
  exact ⟨⟨l1, o1⟩, ⟨l2, o2⟩, ⟨l3, o3⟩, ⟨l4, o4⟩, ⟨l5, o5⟩, ⟨l6, o6⟩, ⟨l7, o7⟩, ⟨l8, o8⟩, ⟨l9, o9⟩, ⟨l10, o10⟩, ⟨l11, o11⟩, ⟨l12, o12⟩⟩
theorem mon_354 {y l : Int} (hl : leapB y = false) (hz : ydays y = 354) (h0 : 0 ≤ l) (h1 : l < 354) : MonOK y l (scanM 354 l).1 (scanM 354 l).2 := by
  obtain ⟨⟨l1, o1⟩, ⟨l2, o2⟩, ⟨l3, o3⟩, ⟨l4, o4⟩, ⟨l5, o5⟩, ⟨l6, o6⟩, ⟨l7, o7⟩, ⟨l8, o8⟩, ⟨l9, o9⟩, ⟨l10, o10⟩, ⟨l11, o11⟩, ⟨l12, o12⟩⟩ := tab_354 hl hz
  have e : lmonths 354 = [(7, 30), (8, 29), (9, 30), (10, 29), (11, 30), (12, 29), (1, 30), (2, 29), (3, 30), (4, 29), (5, 30), (6, 29)] := by decide
  show MonP y l (scanM 354 l)
  unfold scanM
  rw [e]
  clear e hl hz
  refine scan_step (fun c7 => ?_) (fun c7 => ?_)
  · show MonOK _ _ _ _
    dsimp only
    refine ⟨by decide, by decide, by omega, by rw [l7]; omega, by unfold jdh; omega, fun hm => ?_, fun hm => ?_⟩
    · exact absurd hm (by decide)
    · refine ⟨by unfold jdh; omega, fun i ha hb => by omega⟩
  refine scan_step (fun c8 => ?_) (fun c8 => ?_)
  · show MonOK _ _ _ _
    dsimp only
    refine ⟨by decide, by decide, by omega, by rw [l8]; omega, by unfold jdh; omega, fun hm => ?_, fun hm => ?_⟩
    · exact absurd hm (by decide)
    · refine ⟨by unfold jdh; omega, fun i ha hb => by
      have hi : i = 7 := by omega
      rcases hi with rfl <;> (unfold jdh; omega)⟩
  refine scan_step (fun c9 => ?_) (fun c9 => ?_)
  · show MonOK _ _ _ _
    dsimp only
    refine ⟨by decide, by decide, by omega, by rw [l9]; omega, by unfold jdh; omega, fun hm => ?_, fun hm => ?_⟩
    · exact absurd hm (by decide)
    · refine ⟨by unfold jdh; omega, fun i ha hb => by
      have hi : i = 7 ∨ i = 8 := by omega
      rcases hi with rfl | rfl <;> (unfold jdh; omega)⟩
  refine scan_step (fun c10 => ?_) (fun c10 => ?_)
  · show MonOK _ _ _ _
    dsimp only
    refine ⟨by decide, by decide, by omega, by rw [l10]; omega, by unfold jdh; omega, fun hm => ?_, fun hm => ?_⟩
    · exact absurd hm (by decide)
    · refine ⟨by unfold jdh; omega, fun i ha hb => by
      have hi : i = 7 ∨ i = 8 ∨ i = 9 := by omega
      rcases hi with rfl | rfl | rfl <;> (unfold jdh; omega)⟩
  refine scan_step (fun c11 => ?_) (fun c11 => ?_)
  · show MonOK _ _ _ _
    dsimp only
    refine ⟨by decide, by decide, by omega, by rw [l11]; omega, by unfold jdh; omega, fun hm => ?_, fun hm => ?_⟩
    · exact absurd hm (by decide)
    · refine ⟨by unfold jdh; omega, fun i ha hb => by
      have hi : i = 7 ∨ i = 8 ∨ i = 9 ∨ i = 10 := by omega
      rcases hi with rfl | rfl | rfl | rfl <;> (unfold jdh; omega)⟩
  refine scan_step (fun c12 => ?_) (fun c12 => ?_)
  · show MonOK _ _ _ _
    dsimp only
    refine ⟨by decide, by decide, by omega, by rw [l12]; omega, by unfold jdh; omega, fun hm => ?_, fun hm => ?_⟩
    · exact absurd hm (by decide)
    · refine ⟨by unfold jdh; omega, fun i ha hb => by
      have hi : i = 7 ∨ i = 8 ∨ i = 9 ∨ i = 10 ∨ i = 11 := by omega
      rcases hi with rfl | rfl | rfl | rfl | rfl <;> (unfold jdh; omega)⟩
  refine scan_step (fun c1 => ?_) (fun c1 => ?_)
  · show MonOK _ _ _ _
    dsimp only
    refine ⟨by decide, by decide, by omega, by rw [l1]; omega, by unfold jdh; omega, fun hm => ?_, fun hm => ?_⟩
    · refine ⟨by unfold jdh; omega, fun i ha hb => by omega⟩
    · exact absurd hm (by decide)
  refine scan_step (fun c2 => ?_) (fun c2 => ?_)
  · show MonOK _ _ _ _
    dsimp only
    refine ⟨by decide, by decide, by omega, by rw [l2]; omega, by unfold jdh; omega, fun hm => ?_, fun hm => ?_⟩
    · refine ⟨by unfold jdh; omega, fun i ha hb => by
      have hi : i = 1 := by omega
      rcases hi with rfl <;> (unfold jdh; omega)⟩
    · exact absurd hm (by decide)
  refine scan_step (fun c3 => ?_) (fun c3 => ?_)
  · show MonOK _ _ _ _
    dsimp only
    refine ⟨by decide, by decide, by omega, by rw [l3]; omega, by unfold jdh; omega, fun hm => ?_, fun hm => ?_⟩
    · refine ⟨by unfold jdh; omega, fun i ha hb => by
      have hi : i = 1 ∨ i = 2 := by omega
      rcases hi with rfl | rfl <;> (unfold jdh; omega)⟩
    · exact absurd hm (by decide)
  refine scan_step (fun c4 => ?_) (fun c4 => ?_)
  · show MonOK _ _ _ _
    dsimp only
    refine ⟨by decide, by decide, by omega, by rw [l4]; omega, by unfold jdh; omega, fun hm => ?_, fun hm => ?_⟩
    · refine ⟨by unfold jdh; omega, fun i ha hb => by
      have hi : i = 1 ∨ i = 2 ∨ i = 3 := by omega
      rcases hi with rfl | rfl | rfl <;> (unfold jdh; omega)⟩
    · exact absurd hm (by decide)
  refine scan_step (fun c5 => ?_) (fun c5 => ?_)
  · show MonOK _ _ _ _
    dsimp only
    refine ⟨by decide, by decide, by omega, by rw [l5]; omega, by unfold jdh; omega, fun hm => ?_, fun hm => ?_⟩
    · refine ⟨by unfold jdh; omega, fun i ha hb => by
      have hi : i = 1 ∨ i = 2 ∨ i = 3 ∨ i = 4 := by omega
      rcases hi with rfl | rfl | rfl | rfl <;> (unfold jdh; omega)⟩
    · exact absurd hm (by decide)
  refine scan_step (fun c6 => ?_) (fun c6 => ?_)
  · show MonOK _ _ _ _
    dsimp only
    refine ⟨by decide, by decide, by omega, by rw [l6]; omega, by unfold jdh; omega, fun hm => ?_, fun hm => ?_⟩
    · refine ⟨by unfold jdh; omega, fun i ha hb => by
      have hi : i = 1 ∨ i = 2 ∨ i = 3 ∨ i = 4 ∨ i = 5 := by omega
      rcases hi with rfl | rfl | rfl | rfl | rfl <;> (unfold jdh; omega)⟩
    · exact absurd hm (by decide)
  exact absurd h1 (by omega)
theorem tab_355 {y : Int} (hl : leapB y = false) (hz : ydays y = 355) : (mlen y 1 = 30 ∧ moff y 1 = 178) ∧ (mlen y 2 = 29 ∧ moff y 2 = 208) ∧ (mlen y 3 = 30 ∧ moff y 3 = 237) ∧ (mlen y 4 = 29 ∧ moff y 4 = 267) ∧ (mlen y 5 = 30 ∧ moff y 5 = 296) ∧ (mlen y 6 = 29 ∧ moff y 6 = 326) ∧ (mlen y 7 = 30 ∧ moff y 7 = 0) ∧ (mlen y 8 = 30 ∧ moff y 8 = 30) ∧ (mlen y 9 = 30 ∧ moff y 9 = 60) ∧ (mlen y 10 = 29 ∧ moff y 10 = 90) ∧ (mlen y 11 = 30 ∧ moff y 11 = 119) ∧ (mlen y 12 = 29 ∧ moff y 12 = 149) := by
  have hy : ymon y = 12 := by unfold ymon; rw [hl]; decide
  have l1 : mlen y 1 = 30 := by unfold mlen; rw [hz, hl]; decide
  have l2 : mlen y 2 = 29 := by unfold mlen; rw [hz, hl]; decide
  have l3 : mlen y 3 = 30 := by unfold mlen; rw [hz, hl]; decide
  have l4 : mlen y 4 = 29 := by unfold mlen; rw [hz, hl]; decide
  have l5 : mlen y 5 = 30 := by unfold mlen; rw [hz, hl]; decide
  have l6 : mlen y 6 = 29 := by unfold mlen; rw [hz, hl]; decide
  have l7 : mlen y 7 = 30 := by unfold mlen; rw [hz, hl]; decide
  have l8 : mlen y 8 = 30 := by unfold mlen; rw [hz, hl]; decide
  have l9 : mlen y 9 = 30 := by unfold mlen; rw [hz, hl]; decide
  have l10 : mlen y 10 = 29 := by unfold mlen; rw [hz, hl]; decide
  have l11 : mlen y 11 = 30 := by unfold mlen; rw [hz, hl]; decide
  have l12 : mlen y 12 = 29 := by unfold mlen; rw [hz, hl]; decide
  have e0 : rangeKs 7 (ymon y + 1 - 7).toNat = [7, 8, 9, 10, 11, 12] := by rw [hy]; decide
  have o1 : moff y 1 = 178 := by unfold moff; rw [e0, show rangeKs 1 ((1 : Int) - 1).toNat = [] by decide, if_pos (by decide)]; simp only [msum, List.map, List.sum_cons, List.sum_nil, l7, l8, l9, l10, l11, l12]; decide
  have o2 : moff y 2 = 208 := by unfold moff; rw [e0, show rangeKs 1 ((2 : Int) - 1).toNat = [1] by decide, if_pos (by decide)]; simp only [msum, List.map, List.sum_cons, List.sum_nil, l7, l8, l9, l10, l11, l12, l1]; decide
  have o3 : moff y 3 = 237 := by unfold moff; rw [e0, show rangeKs 1 ((3 : Int) - 1).toNat = [1, 2] by decide, if_pos (by decide)]; simp only [msum, List.map, List.sum_cons, List.sum_nil, l7, l8, l9, l10, l11, l12, l1, l2]; decide
  have o4 : moff y 4 = 267 := by unfold moff; rw [e0, show rangeKs 1 ((4 : Int) - 1).toNat = [1, 2, 3] by decide, if_pos (by decide)]; simp only [msum, List.map, List.sum_cons, List.sum_nil, l7, l8, l9, l10, l11, l12, l1, l2, l3]; decide
  have o5 : moff y 5 = 296 := by unfold moff; rw [e0, show rangeKs 1 ((5 : Int) - 1).toNat = [1, 2, 3, 4] by decide, if_pos (by decide)]; simp only [msum, List.map, List.sum_cons, List.sum_nil, l7, l8, l9, l10, l11, l12, l1, l2, l3, l4]; decide
  have o6 : moff y 6 = 326 := by unfold moff; rw [e0, show rangeKs 1 ((6 : Int) - 1).toNat = [1, 2, 3, 4, 5] by decide, if_pos (by decide)]; simp only [msum, List.map, List.sum_cons, List.sum_nil, l7, l8, l9, l10, l11, l12, l1, l2, l3, l4, l5]; decide
  have o7 : moff y 7 = 0 := by unfold moff; rw [show rangeKs 7 ((7 : Int) - 7).toNat = [] by decide, if_neg (by decide)]; rfl -- simp only [msum, List.map, List.sum_cons, List.sum_nil]; decide
  have o8 : moff y 8 = 30 := by unfold moff; rw [show rangeKs 7 ((8 : Int) - 7).toNat = [7] by decide, if_neg (by decide)]; simp only [msum, List.map, List.sum_cons, List.sum_nil, l7]; decide
  have o9 : moff y 9 = 60 := by unfold moff; rw [show rangeKs 7 ((9 : Int) - 7).toNat = [7, 8] by decide, if_neg (by decide)]; simp only [msum, List.map, List.sum_cons, List.sum_nil, l7, l8]; decide
  have o10 : moff y 10 = 90 := by unfold moff; rw [show rangeKs 7 ((10 : Int) - 7).toNat = [7, 8, 9] by decide, if_neg (by decide)]; simp only [msum, List.map, List.sum_cons, List.sum_nil, l7, l8, l9]; decide
  have o11 : moff y 11 = 119 := by unfold moff; rw [show rangeKs 7 ((11 : Int) - 7).toNat = [7, 8, 9, 10] by decide, if_neg (by decide)]; simp only [msum, List.map, List.sum_cons, List.sum_nil, l7, l8, l9, l10]; decide
  have o12 : moff y 12 = 149 := by unfold moff; rw [show rangeKs 7 ((12 : Int) - 7).toNat = [7, 8, 9, 10, 11] by decide, if_neg (by decide)]; simp only [msum, List.map, List.sum_cons, List.sum_nil, l7, l8, l9, l10, l11]; decide
  exact ⟨⟨l1, o1⟩, ⟨l2, o2⟩, ⟨l3, o3⟩, ⟨l4, o4⟩, ⟨l5, o5⟩, ⟨l6, o6⟩, ⟨l7, o7⟩, ⟨l8, o8⟩, ⟨l9, o9⟩, ⟨l10, o10⟩, ⟨l11, o11⟩, ⟨l12, o12⟩⟩
theorem mon_355 {y l : Int} (hl : leapB y = false) (hz : ydays y = 355) (h0 : 0 ≤ l) (h1 : l < 355) : MonOK y l (scanM 355 l).1 (scanM 355 l).2 := by
  obtain ⟨⟨l1, o1⟩, ⟨l2, o2⟩, ⟨l3, o3⟩, ⟨l4, o4⟩, ⟨l5, o5⟩, ⟨l6, o6⟩, ⟨l7, o7⟩, ⟨l8, o8⟩, ⟨l9, o9⟩, ⟨l10, o10⟩, ⟨l11, o11⟩, ⟨l12, o12⟩⟩ := tab_355 hl hz
  have e : lmonths 355 = [(7, 30), (8, 30), (9, 30), (10, 29), (11, 30), (12, 29), (1, 30), (2, 29), (3, 30), (4, 29), (5, 30), (6, 29)] := by decide
  show MonP y l (scanM 355 l)
  unfold scanM
  rw [e]
  clear e hl hz
  refine scan_step (fun c7 => ?_) (fun c7 => ?_)
  · show MonOK _ _ _ _
    dsimp only
    refine ⟨by decide, by decide, by omega, by rw [l7]; omega, by unfold jdh; omega, fun hm => ?_, fun hm => ?_⟩
    · exact absurd hm (by decide)
    · refine ⟨by unfold jdh; omega, fun i ha hb => by omega⟩
  refine scan_step (fun c8 => ?_) (fun c8 => ?_)
  · show MonOK _ _ _ _
    dsimp only
    refine ⟨by decide, by decide, by omega, by rw [l8]; omega, by unfold jdh; omega, fun hm => ?_, fun hm => ?_⟩
    · exact absurd hm (by decide)
    · refine ⟨by unfold jdh; omega, fun i ha hb => by
      have hi : i = 7 := by omega
      rcases hi with rfl <;> (unfold jdh; omega)⟩
  refine scan_step (fun c9 => ?_) (fun c9 => ?_)
  · show MonOK _ _ _ _
    dsimp only
    refine ⟨by decide, by decide, by omega, by rw [l9]; omega, by unfold jdh; omega, fun hm => ?_, fun hm => ?_⟩
    · exact absurd hm (by decide)
    · refine ⟨by unfold jdh; omega, fun i ha hb => by
      have hi : i = 7 ∨ i = 8 := by omega
      rcases hi with rfl | rfl <;> (unfold jdh; omega)⟩
  refine scan_step (fun c10 => ?_) (fun c10 => ?_)
  · show MonOK _ _ _ _
    dsimp only
    refine ⟨by decide, by decide, by omega, by rw [l10]; omega, by unfold jdh; omega, fun hm => ?_, fun hm => ?_⟩
    · exact absurd hm (by decide)
    · refine ⟨by unfold jdh; omega, fun i ha hb => by
      have hi : i = 7 ∨ i = 8 ∨ i = 9 := by omega
      rcases hi with rfl | rfl | rfl <;> (unfold jdh; omega)⟩
  refine scan_step (fun c11 => ?_) (fun c11 => ?_)
  · show MonOK _ _ _ _
    dsimp only
    refine ⟨by decide, by decide, by omega, by rw [l11]; omega, by unfold jdh; omega, fun hm => ?_, fun hm => ?_⟩
    · exact absurd hm (by decide)
    · refine ⟨by unfold jdh; omega, fun i ha hb => by
      have hi : i = 7 ∨ i = 8 ∨ i = 9 ∨ i = 10 := by omega
      rcases hi with rfl | rfl | rfl | rfl <;> (unfold jdh; omega)⟩
  refine scan_step (fun c12 => ?_) (fun c12 => ?_)
  · show MonOK _ _ _ _
    dsimp only
    refine ⟨by decide, by decide, by omega, by rw [l12]; omega, by unfold jdh; omega, fun hm => ?_, fun hm => ?_⟩
    · exact absurd hm (by decide)
    · refine ⟨by unfold jdh; omega, fun i ha hb => by
      have hi : i = 7 ∨ i = 8 ∨ i = 9 ∨ i = 10 ∨ i = 11 := by omega
      rcases hi with rfl | rfl | rfl | rfl | rfl <;> (unfold jdh; omega)⟩
  refine scan_step (fun c1 => ?_) (fun c1 => ?_)
  · show MonOK _ _ _ _
    dsimp only
    refine ⟨by decide, by decide, by omega, by rw [l1]; omega, by unfold jdh; omega, fun hm => ?_, fun hm => ?_⟩
    · refine ⟨by unfold jdh; omega, fun i ha hb => by omega⟩
    · exact absurd hm (by decide)
  refine scan_step (fun c2 => ?_) (fun c2 => ?_)
  · show MonOK _ _ _ _
    dsimp only
    refine ⟨by decide, by decide, by omega, by rw [l2]; omega, by unfold jdh; omega, fun hm => ?_, fun hm => ?_⟩
    · refine ⟨by unfold jdh; omega, fun i ha hb => by
      have hi : i = 1 := by omega
      rcases hi with rfl <;> (unfold jdh; omega)⟩
    · exact absurd hm (by decide)
  refine scan_step (fun c3 => ?_) (fun c3 => ?_)
  · show MonOK _ _ _ _
    dsimp only
    refine ⟨by decide, by decide, by omega, by rw [l3]; omega, by unfold jdh; omega, fun hm => ?_, fun hm => ?_⟩
    · refine ⟨by unfold jdh; omega, fun i ha hb => by
      have hi : i = 1 ∨ i = 2 := by omega
      rcases hi with rfl | rfl <;> (unfold jdh; omega)⟩
    · exact absurd hm (by decide)
  refine scan_step (fun c4 => ?_) (fun c4 => ?_)
  · show MonOK _ _ _ _
    dsimp only
    refine ⟨by decide, by decide, by omega, by rw [l4]; omega, by unfold jdh; omega, fun hm => ?_, fun hm => ?_⟩
    · refine ⟨by unfold jdh; omega, fun i ha hb => by
      have hi : i = 1 ∨ i = 2 ∨ i = 3 := by omega
      rcases hi with rfl | rfl | rfl <;> (unfold jdh; omega)⟩
    · exact absurd hm (by decide)
  refine scan_step (fun c5 => ?_) (fun c5 => ?_)
  · show MonOK _ _ _ _
    dsimp only
    refine ⟨by decide, by decide, by omega, by rw [l5]; omega, by unfold jdh; omega, fun hm => ?_, fun hm => ?_⟩
    · refine ⟨by unfold jdh; omega, fun i ha hb => by
      have hi : i = 1 ∨ i = 2 ∨ i = 3 ∨ i = 4 := by omega
      rcases hi with rfl | rfl | rfl | rfl <;> (unfold jdh; omega)⟩
    · exact absurd hm (by decide)
  refine scan_step (fun c6 => ?_) (fun c6 => ?_)
  · show MonOK _ _ _ _
    dsimp only
    refine ⟨by decide, by decide, by omega, by rw [l6]; omega, by unfold jdh; omega, fun hm => ?_, fun hm => ?_⟩
    · refine ⟨by unfold jdh; omega, fun i ha hb => by
      have hi : i = 1 ∨ i = 2 ∨ i = 3 ∨ i = 4 ∨ i = 5 := by omega
      rcases hi with rfl | rfl | rfl | rfl | rfl <;> (unfold jdh; omega)⟩
    · exact absurd hm (by decide)
  exact absurd h1 (by omega)
theorem tab_383 {y : Int} (hl : leapB y = true) (hz : ydays y = 383) : (mlen y 1 = 30 ∧ moff y 1 = 206) ∧ (mlen y 2 = 29 ∧ moff y 2 = 236) ∧ (mlen y 3 = 30 ∧ moff y 3 = 265) ∧ (mlen y 4 = 29 ∧ moff y 4 = 295) ∧ (mlen y 5 = 30 ∧ moff y 5 = 324) ∧ (mlen y 6 = 29 ∧ moff y 6 = 354) ∧ (mlen y 7 = 30 ∧ moff y 7 = 0) ∧ (mlen y 8 = 29 ∧ moff y 8 = 30) ∧ (mlen y 9 = 29 ∧ moff y 9 = 59) ∧ (mlen y 10 = 29 ∧ moff y 10 = 88) ∧ (mlen y 11 = 30 ∧ moff y 11 = 117) ∧ (mlen y 12 = 30 ∧ moff y 12 = 147) ∧ (mlen y 13 = 29 ∧ moff y 13 = 177) := by
  have hy : ymon y = 13 := by unfold ymon; rw [hl]; decide
  have l1 : mlen y 1 = 30 := by unfold mlen; rw [hz, hl]; decide
  have l2 : mlen y 2 = 29 := by unfold mlen; rw [hz, hl]; decide
  have l3 : mlen y 3 = 30 := by unfold mlen; rw [hz, hl]; decide
  have l4 : mlen y 4 = 29 := by unfold mlen; rw [hz, hl]; decide
  have l5 : mlen y 5 = 30 := by unfold mlen; rw [hz, hl]; decide
  have l6 : mlen y 6 = 29 := by unfold mlen; rw [hz, hl]; decide
  have l7 : mlen y 7 = 30 := by unfold mlen; rw [hz, hl]; decide
  have l8 : mlen y 8 = 29 := by unfold mlen; rw [hz, hl]; decide
  have l9 : mlen y 9 = 29 := by unfold mlen; rw [hz, hl]; decide
  have l10 : mlen y 10 = 29 := by unfold mlen; rw [hz, hl]; decide
  have l11 : mlen y 11 = 30 := by unfold mlen; rw [hz, hl]; decide
  have l12 : mlen y 12 = 30 := by unfold mlen; rw [hz, hl]; decide
  have l13 : mlen y 13 = 29 := by unfold mlen; rw [hz, hl]; decide
  have e0 : rangeKs 7 (ymon y + 1 - 7).toNat = [7, 8, 9, 10, 11, 12, 13] := by rw [hy]; decide
  have o1 : moff y 1 = 206 := by unfold moff; rw [e0, show rangeKs 1 ((1 : Int) - 1).toNat = [] by decide, if_pos (by decide)]; simp only [msum, List.map, List.sum_cons, List.sum_nil, l7, l8, l9, l10, l11, l12, l13]; decide
  have o2 : moff y 2 = 236 := by unfold moff; rw [e0, show rangeKs 1 ((2 : Int) - 1).toNat = [1] by decide, if_pos (by decide)]; simp only [msum, List.map, List.sum_cons, List.sum_nil, l7, l8, l9, l10, l11, l12, l13, l1]; decide
  have o3 : moff y 3 = 265 := by unfold moff; rw [e0, show rangeKs 1 ((3 : Int) - 1).toNat = [1, 2] by decide, if_pos (by decide)]; simp only [msum, List.map, List.sum_cons, List.sum_nil, l7, l8, l9, l10, l11, l12, l13, l1, l2]; decide
  have o4 : moff y 4 = 295 := by unfold moff; rw [e0, show rangeKs 1 ((4 : Int) - 1).toNat = [1, 2, 3] by decide, if_pos (by decide)]; simp only [msum, List.map, List.sum_cons, List.sum_nil, l7, l8, l9, l10, l11, l12, l13, l1, l2, l3]; decide
  have o5 : moff y 5 = 324 := by unfold moff; rw [e0, show rangeKs 1 ((5 : Int) - 1).toNat = [1, 2, 3, 4] by decide, if_pos (by decide)]; simp only [msum, List.map, List.sum_cons, List.sum_nil, l7, l8, l9, l10, l11, l12, l13, l1, l2, l3, l4]; decide
  have o6 : moff y 6 = 354 := by unfold moff; rw [e0, show rangeKs 1 ((6 : Int) - 1).toNat = [1, 2, 3, 4, 5] by decide, if_pos (by decide)]; simp only [msum, List.map, List.sum_cons, List.sum_nil, l7, l8, l9, l10, l11, l12, l13, l1, l2, l3, l4, l5]; decide
  have o7 : moff y 7 = 0 := by unfold moff; rw [show rangeKs 7 ((7 : Int) - 7).toNat = [] by decide, if_neg (by decide)]; rfl -- simp only [msum, List.map, List.sum_cons, List.sum_nil]; decide
  have o8 : moff y 8 = 30 := by unfold moff; rw [show rangeKs 7 ((8 : Int) - 7).toNat = [7] by decide, if_neg (by decide)]; simp only [msum, List.map, List.sum_cons, List.sum_nil, l7]; decide
  have o9 : moff y 9 = 59 := by unfold moff; rw [show rangeKs 7 ((9 : Int) - 7).toNat = [7, 8] by decide, if_neg (by decide)]; simp only [msum, List.map, List.sum_cons, List.sum_nil, l7, l8]; decide
  have o10 : moff y 10 = 88 := by unfold moff; rw [show rangeKs 7 ((10 : Int) - 7).toNat = [7, 8, 9] by decide, if_neg (by decide)]; simp only [msum, List.map, List.sum_cons, List.sum_nil, l7, l8, l9]; decide
  have o11 : moff y 11 = 117 := by unfold moff; rw [show rangeKs 7 ((11 : Int) - 7).toNat = [7, 8, 9, 10] by decide, if_neg (by decide)]; simp only [msum, List.map, List.sum_cons, List.sum_nil, l7, l8, l9, l10]; decide
  have o12 : moff y 12 = 147 := by unfold moff; rw [show rangeKs 7 ((12 : Int) - 7).toNat = [7, 8, 9, 10, 11] by decide, if_neg (by decide)]; simp only [msum, List.map, List.sum_cons, List.sum_nil, l7, l8, l9, l10, l11]; decide
  have o13 : moff y 13 = 177 := by unfold moff; rw [show rangeKs 7 ((13 : Int) - 7).toNat = [7, 8, 9, 10, 11, 12] by decide, if_neg (by decide)]; simp only [msum, List.map, List.sum_cons, List.sum_nil, l7, l8, l9, l10, l11, l12]; decide
  exact ⟨⟨l1, o1⟩, ⟨l2, o2⟩, ⟨l3, o3⟩, ⟨l4, o4⟩, ⟨l5, o5⟩, ⟨l6, o6⟩, ⟨l7, o7⟩, ⟨l8, o8⟩, ⟨l9, o9⟩, ⟨l10, o10⟩, ⟨l11, o11⟩, ⟨l12, o12⟩, ⟨l13, o13⟩⟩
theorem mon_383 {y l : Int} (hl : leapB y = true) (hz : ydays y = 383) (h0 : 0 ≤ l) (h1 : l < 383) : MonOK y l (scanM 383 l).1 (scanM 383 l).2 := by
  obtain ⟨⟨l1, o1⟩, ⟨l2, o2⟩, ⟨l3, o3⟩, ⟨l4, o4⟩, ⟨l5, o5⟩, ⟨l6, o6⟩, ⟨l7, o7⟩, ⟨l8, o8⟩, ⟨l9, o9⟩, ⟨l10, o10⟩, ⟨l11, o11⟩, ⟨l12, o12⟩, ⟨l13, o13⟩⟩ := tab_383 hl hz
  have e : lmonths 383 = [(7, 30), (8, 29), (9, 29), (10, 29), (11, 30), (12, 30), (13, 29), (1, 30), (2, 29), (3, 30), (4, 29), (5, 30), (6, 29)] := by decide
  show MonP y l (scanM 383 l)
  unfold scanM
  rw [e]
  clear e hl hz
  refine scan_step (fun c7 => ?_) (fun c7 => ?_)
  · show MonOK _ _ _ _
    dsimp only
    refine ⟨by decide, by decide, by omega, by rw [l7]; omega, by unfold jdh; omega, fun hm => ?_, fun hm => ?_⟩
    · exact absurd hm (by decide)
    · refine ⟨by unfold jdh; omega, fun i ha hb => by omega⟩
  refine scan_step (fun c8 => ?_) (fun c8 => ?_)
  · show MonOK _ _ _ _
    dsimp only
    refine ⟨by decide, by decide, by omega, by rw [l8]; omega, by unfold jdh; omega, fun hm => ?_, fun hm => ?_⟩
    · exact absurd hm (by decide)
    · refine ⟨by unfold jdh; omega, fun i ha hb => by
      have hi : i = 7 := by omega
      rcases hi with rfl <;> (unfold jdh; omega)⟩
  refine scan_step (fun c9 => ?_) (fun c9 => ?_)
  · show MonOK _ _ _ _
    dsimp only
    refine ⟨by decide, by decide, by omega, by rw [l9]; omega, by unfold jdh; omega, fun hm => ?_, fun hm => ?_⟩
    · exact absurd hm (by decide)
    · refine ⟨by unfold jdh; omega, fun i ha hb => by
      have hi : i = 7 ∨ i = 8 := by omega
      rcases hi with rfl | rfl <;> (unfold jdh; omega)⟩
  refine scan_step (fun c10 => ?_) (fun c10 => ?_)
  · show MonOK _ _ _ _
    dsimp only
    refine ⟨by decide, by decide, by omega, by rw [l10]; omega, by unfold jdh; omega, fun hm => ?_, fun hm => ?_⟩
    · exact absurd hm (by decide)
    · refine ⟨by unfold jdh; omega, fun i ha hb => by
      have hi : i = 7 ∨ i = 8 ∨ i = 9 := by omega
      rcases hi with rfl | rfl | rfl <;> (unfold jdh; omega)⟩
  refine scan_step (fun c11 => ?_) (fun c11 => ?_)
  · show MonOK _ _ _ _
    dsimp only
    refine ⟨by decide, by decide, by omega, by rw [l11]; omega, by unfold jdh; omega, fun hm => ?_, fun hm => ?_⟩
    · exact absurd hm (by decide)
    · refine ⟨by unfold jdh; omega, fun i ha hb => by
      have hi : i = 7 ∨ i = 8 ∨ i = 9 ∨ i = 10 := by omega
      rcases hi with rfl | rfl | rfl | rfl <;> (unfold jdh; omega)⟩
  refine scan_step (fun c12 => ?_) (fun c12 => ?_)
  · show MonOK _ _ _ _
    dsimp only
    refine ⟨by decide, by decide, by omega, by rw [l12]; omega, by unfold jdh; omega, fun hm => ?_, fun hm => ?_⟩
    · exact absurd hm (by decide)
    · refine ⟨by unfold jdh; omega, fun i ha hb => by
      have hi : i = 7 ∨ i = 8 ∨ i = 9 ∨ i = 10 ∨ i = 11 := by omega
      rcases hi with rfl | rfl | rfl | rfl | rfl <;> (unfold jdh; omega)⟩
  refine scan_step (fun c13 => ?_) (fun c13 => ?_)
  · show MonOK _ _ _ _
    dsimp only
    refine ⟨by decide, by decide, by omega, by rw [l13]; omega, by unfold jdh; omega, fun hm => ?_, fun hm => ?_⟩
    · exact absurd hm (by decide)
    · refine ⟨by unfold jdh; omega, fun i ha hb => by
      have hi : i = 7 ∨ i = 8 ∨ i = 9 ∨ i = 10 ∨ i = 11 ∨ i = 12 := by omega
      rcases hi with rfl | rfl | rfl | rfl | rfl | rfl <;> (unfold jdh; omega)⟩
  refine scan_step (fun c1 => ?_) (fun c1 => ?_)
  · show MonOK _ _ _ _
    dsimp only
    refine ⟨by decide, by decide, by omega, by rw [l1]; omega, by unfold jdh; omega, fun hm => ?_, fun hm => ?_⟩
    · refine ⟨by unfold jdh; omega, fun i ha hb => by omega⟩
    · exact absurd hm (by decide)
  refine scan_step (fun c2 => ?_) (fun c2 => ?_)
  · show MonOK _ _ _ _
    dsimp only
    refine ⟨by decide, by decide, by omega, by rw [l2]; omega, by unfold jdh; omega, fun hm => ?_, fun hm => ?_⟩
    · refine ⟨by unfold jdh; omega, fun i ha hb => by
      have hi : i = 1 := by omega
      rcases hi with rfl <;> (unfold jdh; omega)⟩
    · exact absurd hm (by decide)
  refine scan_step (fun c3 => ?_) (fun c3 => ?_)
  · show MonOK _ _ _ _
    dsimp only
    refine ⟨by decide, by decide, by omega, by rw [l3]; omega, by unfold jdh; omega, fun hm => ?_, fun hm => ?_⟩
    · refine ⟨by unfold jdh; omega, fun i ha hb => by
      have hi : i = 1 ∨ i = 2 := by omega
      rcases hi with rfl | rfl <;> (unfold jdh; omega)⟩
    · exact absurd hm (by decide)
  refine scan_step (fun c4 => ?_) (fun c4 => ?_)
  · show MonOK _ _ _ _
    dsimp only
    refine ⟨by decide, by decide, by omega, by rw [l4]; omega, by unfold jdh; omega, fun hm => ?_, fun hm => ?_⟩
    · refine ⟨by unfold jdh; omega, fun i ha hb => by
      have hi : i = 1 ∨ i = 2 ∨ i = 3 := by omega
      rcases hi with rfl | rfl | rfl <;> (unfold jdh; omega)⟩
    · exact absurd hm (by decide)
  refine scan_step (fun c5 => ?_) (fun c5 => ?_)
  · show MonOK _ _ _ _
    dsimp only
    refine ⟨by decide, by decide, by omega, by rw [l5]; omega, by unfold jdh; omega, fun hm => ?_, fun hm => ?_⟩
    · refine ⟨by unfold jdh; omega, fun i ha hb => by
      have hi : i = 1 ∨ i = 2 ∨ i = 3 ∨ i = 4 := by omega
      rcases hi with rfl | rfl | rfl | rfl <;> (unfold jdh; omega)⟩
    · exact absurd hm (by decide)
  refine scan_step (fun c6 => ?_) (fun c6 => ?_)
  · show MonOK _ _ _ _
    dsimp only
    refine ⟨by decide, by decide, by omega, by rw [l6]; omega, by unfold jdh; omega, fun hm => ?_, fun hm => ?_⟩
    · refine ⟨by unfold jdh; omega, fun i ha hb => by
      have hi : i = 1 ∨ i = 2 ∨ i = 3 ∨ i = 4 ∨ i = 5 := by omega
      rcases hi with rfl | rfl | rfl | rfl | rfl <;> (unfold jdh; omega)⟩
    · exact absurd hm (by decide)
  exact absurd h1 (by omega)
theorem tab_384 {y : Int} (hl : leapB y = true) (hz : ydays y = 384) : (mlen y 1 = 30 ∧ moff y 1 = 207) ∧ (mlen y 2 = 29 ∧ moff y 2 = 237) ∧ (mlen y 3 = 30 ∧ moff y 3 = 266) ∧ (mlen y 4 = 29 ∧ moff y 4 = 296) ∧ (mlen y 5 = 30 ∧ moff y 5 = 325) ∧ (mlen y 6 = 29 ∧ moff y 6 = 355) ∧ (mlen y 7 = 30 ∧ moff y 7 = 0) ∧ (mlen y 8 = 29 ∧ moff y 8 = 30) ∧ (mlen y 9 = 30 ∧ moff y 9 = 59) ∧ (mlen y 10 = 29 ∧ moff y 10 = 89) ∧ (mlen y 11 = 30 ∧ moff y 11 = 118) ∧ (mlen y 12 = 30 ∧ moff y 12 = 148) ∧ (mlen y 13 = 29 ∧ moff y 13 = 178) := by
  have hy : ymon y = 13 := by unfold ymon; rw [hl]; decide
  have l1 : mlen y 1 = 30 := by unfold mlen; rw [hz, hl]; decide
  have l2 : mlen y 2 = 29 := by unfold mlen; rw [hz, hl]; decide
  have l3 : mlen y 3 = 30 := by unfold mlen; rw [hz, hl]; decide
  have l4 : mlen y 4 = 29 := by unfold mlen; rw [hz, hl]; decide
  have l5 : mlen y 5 = 30 := by unfold mlen; rw [hz, hl]; decide
  have l6 : mlen y 6 = 29 := by unfold mlen; rw [hz, hl]; decide
  have l7 : mlen y 7 = 30 := by unfold mlen; rw [hz, hl]; decide
  have l8 : mlen y 8 = 29 := by unfold mlen; rw [hz, hl]; decide
  have l9 : mlen y 9 = 30 := by unfold mlen; rw [hz, hl]; decide
  have l10 : mlen y 10 = 29 := by unfold mlen; rw [hz, hl]; decide
  have l11 : mlen y 11 = 30 := by unfold mlen; rw [hz, hl]; decide
  have l12 : mlen y 12 = 30 := by unfold mlen; rw [hz, hl]; decide
  have l13 : mlen y 13 = 29 := by unfold mlen; rw [hz, hl]; decide
  have e0 : rangeKs 7 (ymon y + 1 - 7).toNat = [7, 8, 9, 10, 11, 12, 13] := by rw [hy]; decide
  have o1 : moff y 1 = 207 := by unfold moff; rw [e0, show rangeKs 1 ((1 : Int) - 1).toNat = [] by decide, if_pos (by decide)]; simp only [msum, List.map, List.sum_cons, List.sum_nil, l7, l8, l9, l10, l11, l12, l13]; decide
  have o2 : moff y 2 = 237 := by unfold moff; rw [e0, show rangeKs 1 ((2 : Int) - 1).toNat = [1] by decide, if_pos (by decide)]; simp only [msum, List.map, List.sum_cons, List.sum_nil, l7, l8, l9, l10, l11, l12, l13, l1]; decide
  have o3 : moff y 3 = 266 := by unfold moff; rw [e0, show rangeKs 1 ((3 : Int) - 1).toNat = [1, 2] by decide, if_pos (by decide)]; simp only [msum, List.map, List.sum_cons, List.sum_nil, l7, l8, l9, l10, l11, l12, l13, l1, l2]; decide
  have o4 : moff y 4 = 296 := by unfold moff; rw [e0, show rangeKs 1 ((4 : Int) - 1).toNat = [1, 2, 3] by decide, if_pos (by decide)]; simp only [msum, List.map, List.sum_cons, List.sum_nil, l7, l8, l9, l10, l11, l12, l13, l1, l2, l3]; decide
  have o5 : moff y 5 = 325 := by unfold moff; rw [e0, show rangeKs 1 ((5 : Int) - 1).toNat = [1, 2, 3, 4] by decide, if_pos (by decide)]; simp only [msum, List.map, List.sum_cons, List.sum_nil, l7, l8, l9, l10, l11, l12, l13, l1, l2, l3, l4]; decide
  have o6 : moff y 6 = 355 := by unfold moff; rw [e0, show rangeKs 1 ((6 : Int) - 1).toNat = [1, 2, 3, 4, 5] by decide, if_pos (by decide)]; simp only [msum, List.map, List.sum_cons, List.sum_nil, l7, l8, l9, l10, l11, l12, l13, l1, l2, l3, l4, l5]; decide
  have o7 : moff y 7 = 0 := by unfold moff; rw [show rangeKs 7 ((7 : Int) - 7).toNat = [] by decide, if_neg (by decide)]; rfl -- simp only [msum, List.map, List.sum_cons, List.sum_nil]; decide
  have o8 : moff y 8 = 30 := by unfold moff; rw [show rangeKs 7 ((8 : Int) - 7).toNat = [7] by decide, if_neg (by decide)]; simp only [msum, List.map, List.sum_cons, List.sum_nil, l7]; decide
  have o9 : moff y 9 = 59 := by unfold moff; rw [show rangeKs 7 ((9 : Int) - 7).toNat = [7, 8] by decide, if_neg (by decide)]; simp only [msum, List.map, List.sum_cons, List.sum_nil, l7, l8]; decide
  have o10 : moff y 10 = 89 := by unfold moff; rw [show rangeKs 7 ((10 : Int) - 7).toNat = [7, 8, 9] by decide, if_neg (by decide)]; simp only [msum, List.map, List.sum_cons, List.sum_nil, l7, l8, l9]; decide
  have o11 : moff y 11 = 118 := by unfold moff; rw [show rangeKs 7 ((11 : Int) - 7).toNat = [7, 8, 9, 10] by decide, if_neg (by decide)]; simp only [msum, List.map, List.sum_cons, List.sum_nil, l7, l8, l9, l10]; decide
  have o12 : moff y 12 = 148 := by unfold moff; rw [show rangeKs 7 ((12 : Int) - 7).toNat = [7, 8, 9, 10, 11] by decide, if_neg (by decide)]; simp only [msum, List.map, List.sum_cons, List.sum_nil, l7, l8, l9, l10, l11]; decide
  have o13 : moff y 13 = 178 := by unfold moff; rw [show rangeKs 7 ((13 : Int) - 7).toNat = [7, 8, 9, 10, 11, 12] by decide, if_neg (by decide)]; simp only [msum, List.map, List.sum_cons, List.sum_nil, l7, l8, l9, l10, l11, l12]; decide
  exact ⟨⟨l1, o1⟩, ⟨l2, o2⟩, ⟨l3, o3⟩, ⟨l4, o4⟩, ⟨l5, o5⟩, ⟨l6, o6⟩, ⟨l7, o7⟩, ⟨l8, o8⟩, ⟨l9, o9⟩, ⟨l10, o10⟩, ⟨l11, o11⟩, ⟨l12, o12⟩, ⟨l13, o13⟩⟩
theorem mon_384 {y l : Int} (hl : leapB y = true) (hz : ydays y = 384) (h0 : 0 ≤ l) (h1 : l < 384) : MonOK y l (scanM 384 l).1 (scanM 384 l).2 := by
  obtain ⟨⟨l1, o1⟩, ⟨l2, o2⟩, ⟨l3, o3⟩, ⟨l4, o4⟩, ⟨l5, o5⟩, ⟨l6, o6⟩, ⟨l7, o7⟩, ⟨l8, o8⟩, ⟨l9, o9⟩, ⟨l10, o10⟩, ⟨l11, o11⟩, ⟨l12, o12⟩, ⟨l13, o13⟩⟩ := tab_384 hl hz
  have e : lmonths 384 = [(7, 30), (8, 29), (9, 30), (10, 29), (11, 30), (12, 30), (13, 29), (1, 30), (2, 29), (3, 30), (4, 29), (5, 30), (6, 29)] := by decide
  show MonP y l (scanM 384 l)
  unfold scanM
  rw [e]
  clear e hl hz
  refine scan_step (fun c7 => ?_) (fun c7 => ?_)
  · show MonOK _ _ _ _
    dsimp only
    refine ⟨by decide, by decide, by omega, by rw [l7]; omega, by unfold jdh; omega, fun hm => ?_, fun hm => ?_⟩
    · exact absurd hm (by decide)
    · refine ⟨by unfold jdh; omega, fun i ha hb => by omega⟩
  refine scan_step (fun c8 => ?_) (fun c8 => ?_)
  · show MonOK _ _ _ _
    dsimp only
    refine ⟨by decide, by decide, by omega, by rw [l8]; omega, by unfold jdh; omega, fun hm => ?_, fun hm => ?_⟩
    · exact absurd hm (by decide)
    · refine ⟨by unfold jdh; omega, fun i ha hb => by
      have hi : i = 7 := by omega
      rcases hi with rfl <;> (unfold jdh; omega)⟩
  refine scan_step (fun c9 => ?_) (fun c9 => ?_)
  · show MonOK _ _ _ _
    dsimp only
    refine ⟨by decide, by decide, by omega, by rw [l9]; omega, by unfold jdh; omega, fun hm => ?_, fun hm => ?_⟩
    · exact absurd hm (by decide)
    · refine ⟨by unfold jdh; omega, fun i ha hb => by
      have hi : i = 7 ∨ i = 8 := by omega
      rcases hi with rfl | rfl <;> (unfold jdh; omega)⟩
  refine scan_step (fun c10 => ?_) (fun c10 => ?_)
  · show MonOK _ _ _ _
    dsimp only
    refine ⟨by decide, by decide, by omega, by rw [l10]; omega, by unfold jdh; omega, fun hm => ?_, fun hm => ?_⟩
    · exact absurd hm (by decide)
    · refine ⟨by unfold jdh; omega, fun i ha hb => by
      have hi : i = 7 ∨ i = 8 ∨ i = 9 := by omega
      rcases hi with rfl | rfl | rfl <;> (unfold jdh; omega)⟩
  refine scan_step (fun c11 => ?_) (fun c11 => ?_)
  · show MonOK _ _ _ _
    dsimp only
    refine ⟨by decide, by decide, by omega, by rw [l11]; omega, by unfold jdh; omega, fun hm => ?_, fun hm => ?_⟩
    · exact absurd hm (by decide)
    · refine ⟨by unfold jdh; omega, fun i ha hb => by
      have hi : i = 7 ∨ i = 8 ∨ i = 9 ∨ i = 10 := by omega
      rcases hi with rfl | rfl | rfl | rfl <;> (unfold jdh; omega)⟩
  refine scan_step (fun c12 => ?_) (fun c12 => ?_)
  · show MonOK _ _ _ _
    dsimp only
    refine ⟨by decide, by decide, by omega, by rw [l12]; omega, by unfold jdh; omega, fun hm => ?_, fun hm => ?_⟩
    · exact absurd hm (by decide)
    · refine ⟨by unfold jdh; omega, fun i ha hb => by
      have hi : i = 7 ∨ i = 8 ∨ i = 9 ∨ i = 10 ∨ i = 11 := by omega
      rcases hi with rfl | rfl | rfl | rfl | rfl <;> (unfold jdh; omega)⟩
  refine scan_step (fun c13 => ?_) (fun c13 => ?_)
  · show MonOK _ _ _ _
    dsimp only
    refine ⟨by decide, by decide, by omega, by rw [l13]; omega, by unfold jdh; omega, fun hm => ?_, fun hm => ?_⟩
    · exact absurd hm (by decide)
    · refine ⟨by unfold jdh; omega, fun i ha hb => by
      have hi : i = 7 ∨ i = 8 ∨ i = 9 ∨ i = 10 ∨ i = 11 ∨ i = 12 := by omega
      rcases hi with rfl | rfl | rfl | rfl | rfl | rfl <;> (unfold jdh; omega)⟩
  refine scan_step (fun c1 => ?_) (fun c1 => ?_)
  · show MonOK _ _ _ _
    dsimp only
    refine ⟨by decide, by decide, by omega, by rw [l1]; omega, by unfold jdh; omega, fun hm => ?_, fun hm => ?_⟩
    · refine ⟨by unfold jdh; omega, fun i ha hb => by omega⟩
    · exact absurd hm (by decide)
  refine scan_step (fun c2 => ?_) (fun c2 => ?_)
  · show MonOK _ _ _ _
    dsimp only
    refine ⟨by decide, by decide, by omega, by rw [l2]; omega, by unfold jdh; omega, fun hm => ?_, fun hm => ?_⟩
    · refine ⟨by unfold jdh; omega, fun i ha hb => by
      have hi : i = 1 := by omega
      rcases hi with rfl <;> (unfold jdh; omega)⟩
    · exact absurd hm (by decide)
  refine scan_step (fun c3 => ?_) (fun c3 => ?_)
  · show MonOK _ _ _ _
    dsimp only
    refine ⟨by decide, by decide, by omega, by rw [l3]; omega, by unfold jdh; omega, fun hm => ?_, fun hm => ?_⟩
    · refine ⟨by unfold jdh; omega, fun i ha hb => by
      have hi : i = 1 ∨ i = 2 := by omega
      rcases hi with rfl | rfl <;> (unfold jdh; omega)⟩
    · exact absurd hm (by decide)
  refine scan_step (fun c4 => ?_) (fun c4 => ?_)
  · show MonOK _ _ _ _
    dsimp only
    refine ⟨by decide, by decide, by omega, by rw [l4]; omega, by unfold jdh; omega, fun hm => ?_, fun hm => ?_⟩
    · refine ⟨by unfold jdh; omega, fun i ha hb => by
      have hi : i = 1 ∨ i = 2 ∨ i = 3 := by omega
      rcases hi with rfl | rfl | rfl <;> (unfold jdh; omega)⟩
    · exact absurd hm (by decide)
  refine scan_step (fun c5 => ?_) (fun c5 => ?_)
  · show MonOK _ _ _ _
    dsimp only
    refine ⟨by decide, by decide, by omega, by rw [l5]; omega, by unfold jdh; omega, fun hm => ?_, fun hm => ?_⟩
    · refine ⟨by unfold jdh; omega, fun i ha hb => by
      have hi : i = 1 ∨ i = 2 ∨ i = 3 ∨ i = 4 := by omega
      rcases hi with rfl | rfl | rfl | rfl <;> (unfold jdh; omega)⟩
    · exact absurd hm (by decide)
  refine scan_step (fun c6 => ?_) (fun c6 => ?_)
  · show MonOK _ _ _ _
    dsimp only
    refine ⟨by decide, by decide, by omega, by rw [l6]; omega, by unfold jdh; omega, fun hm => ?_, fun hm => ?_⟩
    · refine ⟨by unfold jdh; omega, fun i ha hb => by
      have hi : i = 1 ∨ i = 2 ∨ i = 3 ∨ i = 4 ∨ i = 5 := by omega
      rcases hi with rfl | rfl | rfl | rfl | rfl <;> (unfold jdh; omega)⟩
    · exact absurd hm (by decide)
  exact absurd h1 (by omega)
theorem tab_385 {y : Int} (hl : leapB y = true) (hz : ydays y = 385) : (mlen y 1 = 30 ∧ moff y 1 = 208) ∧ (mlen y 2 = 29 ∧ moff y 2 = 238) ∧ (mlen y 3 = 30 ∧ moff y 3 = 267) ∧ (mlen y 4 = 29 ∧ moff y 4 = 297) ∧ (mlen y 5 = 30 ∧ moff y 5 = 326) ∧ (mlen y 6 = 29 ∧ moff y 6 = 356) ∧ (mlen y 7 = 30 ∧ moff y 7 = 0) ∧ (mlen y 8 = 30 ∧ moff y 8 = 30) ∧ (mlen y 9 = 30 ∧ moff y 9 = 60) ∧ (mlen y 10 = 29 ∧ moff y 10 = 90) ∧ (mlen y 11 = 30 ∧ moff y 11 = 119) ∧ (mlen y 12 = 30 ∧ moff y 12 = 149) ∧ (mlen y 13 = 29 ∧ moff y 13 = 179) := by
  have hy : ymon y = 13 := by unfold ymon; rw [hl]; decide
  have l1 : mlen y 1 = 30 := by unfold mlen; rw [hz, hl]; decide
  have l2 : mlen y 2 = 29 := by unfold mlen; rw [hz, hl]; decide
  have l3 : mlen y 3 = 30 := by unfold mlen; rw [hz, hl]; decide
  have l4 : mlen y 4 = 29 := by unfold mlen; rw [hz, hl]; decide
  have l5 : mlen y 5 = 30 := by unfold mlen; rw [hz, hl]; decide
  have l6 : mlen y 6 = 29 := by unfold mlen; rw [hz, hl]; decide
  have l7 : mlen y 7 = 30 := by unfold mlen; rw [hz, hl]; decide
  have l8 : mlen y 8 = 30 := by unfold mlen; rw [hz, hl]; decide
  have l9 : mlen y 9 = 30 := by unfold mlen; rw [hz, hl]; decide
  have l10 : mlen y 10 = 29 := by unfold mlen; rw [hz, hl]; decide
  have l11 : mlen y 11 = 30 := by unfold mlen; rw [hz, hl]; decide
  have l12 : mlen y 12 = 30 := by unfold mlen; rw [hz, hl]; decide
  have l13 : mlen y 13 = 29 := by unfold mlen; rw [hz, hl]; decide
  have e0 : rangeKs 7 (ymon y + 1 - 7).toNat = [7, 8, 9, 10, 11, 12, 13] := by rw [hy]; decide
  have o1 : moff y 1 = 208 := by unfold moff; rw [e0, show rangeKs 1 ((1 : Int) - 1).toNat = [] by decide, if_pos (by decide)]; simp only [msum, List.map, List.sum_cons, List.sum_nil, l7, l8, l9, l10, l11, l12, l13]; decide
  have o2 : moff y 2 = 238 := by unfold moff; rw [e0, show rangeKs 1 ((2 : Int) - 1).toNat = [1] by decide, if_pos (by decide)]; simp only [msum, List.map, List.sum_cons, List.sum_nil, l7, l8, l9, l10, l11, l12, l13, l1]; decide
  have o3 : moff y 3 = 267 := by unfold moff; rw [e0, show rangeKs 1 ((3 : Int) - 1).toNat = [1, 2] by decide, if_pos (by decide)]; simp only [msum, List.map, List.sum_cons, List.sum_nil, l7, l8, l9, l10, l11, l12, l13, l1, l2]; decide
  have o4 : moff y 4 = 297 := by unfold moff; rw [e0, show rangeKs 1 ((4 : Int) - 1).toNat = [1, 2, 3] by decide, if_pos (by decide)]; simp only [msum, List.map, List.sum_cons, List.sum_nil, l7, l8, l9, l10, l11, l12, l13, l1, l2, l3]; decide
  have o5 : moff y 5 = 326 := by unfold moff; rw [e0, show rangeKs 1 ((5 : Int) - 1).toNat = [1, 2, 3, 4] by decide, if_pos (by decide)]; simp only [msum, List.map, List.sum_cons, List.sum_nil, l7, l8, l9, l10, l11, l12, l13, l1, l2, l3, l4]; decide
  have o6 : moff y 6 = 356 := by unfold moff; rw [e0, show rangeKs 1 ((6 : Int) - 1).toNat = [1, 2, 3, 4, 5] by decide, if_pos (by decide)]; simp only [msum, List.map, List.sum_cons, List.sum_nil, l7, l8, l9, l10, l11, l12, l13, l1, l2, l3, l4, l5]; decide
  have o7 : moff y 7 = 0 := by unfold moff; rw [show rangeKs 7 ((7 : Int) - 7).toNat = [] by decide, if_neg (by decide)]; rfl -- simp only [msum, List.map, List.sum_cons, List.sum_nil]; decide
  have o8 : moff y 8 = 30 := by unfold moff; rw [show rangeKs 7 ((8 : Int) - 7).toNat = [7] by decide, if_neg (by decide)]; simp only [msum, List.map, List.sum_cons, List.sum_nil, l7]; decide
  have o9 : moff y 9 = 60 := by unfold moff; rw [show rangeKs 7 ((9 : Int) - 7).toNat = [7, 8] by decide, if_neg (by decide)]; simp only [msum, List.map, List.sum_cons, List.sum_nil, l7, l8]; decide
  have o10 : moff y 10 = 90 := by unfold moff; rw [show rangeKs 7 ((10 : Int) - 7).toNat = [7, 8, 9] by decide, if_neg (by decide)]; simp only [msum, List.map, List.sum_cons, List.sum_nil, l7, l8, l9]; decide
  have o11 : moff y 11 = 119 := by unfold moff; rw [show rangeKs 7 ((11 : Int) - 7).toNat = [7, 8, 9, 10] by decide, if_neg (by decide)]; simp only [msum, List.map, List.sum_cons, List.sum_nil, l7, l8, l9, l10]; decide
  have o12 : moff y 12 = 149 := by unfold moff; rw [show rangeKs 7 ((12 : Int) - 7).toNat = [7, 8, 9, 10, 11] by decide, if_neg (by decide)]; simp only [msum, List.map, List.sum_cons, List.sum_nil, l7, l8, l9, l10, l11]; decide
  have o13 : moff y 13 = 179 := by unfold moff; rw [show rangeKs 7 ((13 : Int) - 7).toNat = [7, 8, 9, 10, 11, 12] by decide, if_neg (by decide)]; simp only [msum, List.map, List.sum_cons, List.sum_nil, l7, l8, l9, l10, l11, l12]; decide
  exact ⟨⟨l1, o1⟩, ⟨l2, o2⟩, ⟨l3, o3⟩, ⟨l4, o4⟩, ⟨l5, o5⟩, ⟨l6, o6⟩, ⟨l7, o7⟩, ⟨l8, o8⟩, ⟨l9, o9⟩, ⟨l10, o10⟩, ⟨l11, o11⟩, ⟨l12, o12⟩, ⟨l13, o13⟩⟩
theorem mon_385 {y l : Int} (hl : leapB y = true) (hz : ydays y = 385) (h0 : 0 ≤ l) (h1 : l < 385) : MonOK y l (scanM 385 l).1 (scanM 385 l).2 := by
  obtain ⟨⟨l1, o1⟩, ⟨l2, o2⟩, ⟨l3, o3⟩, ⟨l4, o4⟩, ⟨l5, o5⟩, ⟨l6, o6⟩, ⟨l7, o7⟩, ⟨l8, o8⟩, ⟨l9, o9⟩, ⟨l10, o10⟩, ⟨l11, o11⟩, ⟨l12, o12⟩, ⟨l13, o13⟩⟩ := tab_385 hl hz
  have e : lmonths 385 = [(7, 30), (8, 30), (9, 30), (10, 29), (11, 30), (12, 30), (13, 29), (1, 30), (2, 29), (3, 30), (4, 29), (5, 30), (6, 29)] := by decide
  show MonP y l (scanM 385 l)
  unfold scanM
  rw [e]
  clear e hl hz
  refine scan_step (fun c7 => ?_) (fun c7 => ?_)
  · show MonOK _ _ _ _
    dsimp only
    refine ⟨by decide, by decide, by omega, by rw [l7]; omega, by unfold jdh; omega, fun hm => ?_, fun hm => ?_⟩
    · exact absurd hm (by decide)
    · refine ⟨by unfold jdh; omega, fun i ha hb => by omega⟩
  refine scan_step (fun c8 => ?_) (fun c8 => ?_)
  · show MonOK _ _ _ _
    dsimp only
    refine ⟨by decide, by decide, by omega, by rw [l8]; omega, by unfold jdh; omega, fun hm => ?_, fun hm => ?_⟩
    · exact absurd hm (by decide)
    · refine ⟨by unfold jdh; omega, fun i ha hb => by
      have hi : i = 7 := by omega
      rcases hi with rfl <;> (unfold jdh; omega)⟩
  refine scan_step (fun c9 => ?_) (fun c9 => ?_)
  · show MonOK _ _ _ _
    dsimp only
    refine ⟨by decide, by decide, by omega, by rw [l9]; omega, by unfold jdh; omega, fun hm => ?_, fun hm => ?_⟩
    · exact absurd hm (by decide)
    · refine ⟨by unfold jdh; omega, fun i ha hb => by
      have hi : i = 7 ∨ i = 8 := by omega
      rcases hi with rfl | rfl <;> (unfold jdh; omega)⟩
  refine scan_step (fun c10 => ?_) (fun c10 => ?_)
  · show MonOK _ _ _ _
    dsimp only
    refine ⟨by decide, by decide, by omega, by rw [l10]; omega, by unfold jdh; omega, fun hm => ?_, fun hm => ?_⟩
    · exact absurd hm (by decide)
    · refine ⟨by unfold jdh; omega, fun i ha hb => by
      have hi : i = 7 ∨ i = 8 ∨ i = 9 := by omega
      rcases hi with rfl | rfl | rfl <;> (unfold jdh; omega)⟩
  refine scan_step (fun c11 => ?_) (fun c11 => ?_)
  · show MonOK _ _ _ _
    dsimp only
    refine ⟨by decide, by decide, by omega, by rw [l11]; omega, by unfold jdh; omega, fun hm => ?_, fun hm => ?_⟩
    · exact absurd hm (by decide)
    · refine ⟨by unfold jdh; omega, fun i ha hb => by
      have hi : i = 7 ∨ i = 8 ∨ i = 9 ∨ i = 10 := by omega
      rcases hi with rfl | rfl | rfl | rfl <;> (unfold jdh; omega)⟩
  refine scan_step (fun c12 => ?_) (fun c12 => ?_)
  · show MonOK _ _ _ _
    dsimp only
    refine ⟨by decide, by decide, by omega, by rw [l12]; omega, by unfold jdh; omega, fun hm => ?_, fun hm => ?_⟩
    · exact absurd hm (by decide)
    · refine ⟨by unfold jdh; omega, fun i ha hb => by
      have hi : i = 7 ∨ i = 8 ∨ i = 9 ∨ i = 10 ∨ i = 11 := by omega
      rcases hi with rfl | rfl | rfl | rfl | rfl <;> (unfold jdh; omega)⟩
  refine scan_step (fun c13 => ?_) (fun c13 => ?_)
  · show MonOK _ _ _ _
    dsimp only
    refine ⟨by decide, by decide, by omega, by rw [l13]; omega, by unfold jdh; omega, fun hm => ?_, fun hm => ?_⟩
    · exact absurd hm (by decide)
    · refine ⟨by unfold jdh; omega, fun i ha hb => by
      have hi : i = 7 ∨ i = 8 ∨ i = 9 ∨ i = 10 ∨ i = 11 ∨ i = 12 := by omega
      rcases hi with rfl | rfl | rfl | rfl | rfl | rfl <;> (unfold jdh; omega)⟩
  refine scan_step (fun c1 => ?_) (fun c1 => ?_)
  · show MonOK _ _ _ _
    dsimp only
    refine ⟨by decide, by decide, by omega, by rw [l1]; omega, by unfold jdh; omega, fun hm => ?_, fun hm => ?_⟩
    · refine ⟨by unfold jdh; omega, fun i ha hb => by omega⟩
    · exact absurd hm (by decide)
  refine scan_step (fun c2 => ?_) (fun c2 => ?_)
  · show MonOK _ _ _ _
    dsimp only
    refine ⟨by decide, by decide, by omega, by rw [l2]; omega, by unfold jdh; omega, fun hm => ?_, fun hm => ?_⟩
    · refine ⟨by unfold jdh; omega, fun i ha hb => by
      have hi : i = 1 := by omega
      rcases hi with rfl <;> (unfold jdh; omega)⟩
    · exact absurd hm (by decide)
  refine scan_step (fun c3 => ?_) (fun c3 => ?_)
  · show MonOK _ _ _ _
    dsimp only
    refine ⟨by decide, by decide, by omega, by rw [l3]; omega, by unfold jdh; omega, fun hm => ?_, fun hm => ?_⟩
    · refine ⟨by unfold jdh; omega, fun i ha hb => by
      have hi : i = 1 ∨ i = 2 := by omega
      rcases hi with rfl | rfl <;> (unfold jdh; omega)⟩
    · exact absurd hm (by decide)
  refine scan_step (fun c4 => ?_) (fun c4 => ?_)
  · show MonOK _ _ _ _
    dsimp only
    refine ⟨by decide, by decide, by omega, by rw [l4]; omega, by unfold jdh; omega, fun hm => ?_, fun hm => ?_⟩
    · refine ⟨by unfold jdh; omega, fun i ha hb => by
      have hi : i = 1 ∨ i = 2 ∨ i = 3 := by omega
      rcases hi with rfl | rfl | rfl <;> (unfold jdh; omega)⟩
    · exact absurd hm (by decide)
  refine scan_step (fun c5 => ?_) (fun c5 => ?_)
  · show MonOK _ _ _ _
    dsimp only
    refine ⟨by decide, by decide, by omega, by rw [l5]; omega, by unfold jdh; omega, fun hm => ?_, fun hm => ?_⟩
    · refine ⟨by unfold jdh; omega, fun i ha hb => by
      have hi : i = 1 ∨ i = 2 ∨ i = 3 ∨ i = 4 := by omega
      rcases hi with rfl | rfl | rfl | rfl <;> (unfold jdh; omega)⟩
    · exact absurd hm (by decide)
  refine scan_step (fun c6 => ?_) (fun c6 => ?_)
  · show MonOK _ _ _ _
    dsimp only
    refine ⟨by decide, by decide, by omega, by rw [l6]; omega, by unfold jdh; omega, fun hm => ?_, fun hm => ?_⟩
    · refine ⟨by unfold jdh; omega, fun i ha hb => by
      have hi : i = 1 ∨ i = 2 ∨ i = 3 ∨ i = 4 ∨ i = 5 := by omega
      rcases hi with rfl | rfl | rfl | rfl | rfl <;> (unfold jdh; omega)⟩
    · exact absurd hm (by decide)
  exact absurd h1 (by omega)
theorem mon_ok {y l : Int} (h0 : 0 ≤ l) (h1 : l < ydays y) : MonOK y l (scanM (ydays y) l).1 (scanM (ydays y) l).2 := by
  cases hl : leapB y with
  | false =>
    have hb := ydays_c hl
    have : ydays y = 353 ∨ ydays y = 354 ∨ ydays y = 355 := by omega
    rcases this with h | h | h <;> rw [h] at h1 ⊢
    · exact mon_353 hl h h0 h1
    · exact mon_354 hl h h0 h1
    · exact mon_355 hl h h0 h1
  | true =>
    have hb := ydays_l hl
    have : ydays y = 383 ∨ ydays y = 384 ∨ ydays y = 385 := by omega
    rcases this with h | h | h <;> rw [h] at h1 ⊢
    · exact mon_383 hl h h0 h1
    · exact mon_384 hl h h0 h1
    · exact mon_385 hl h h0 h1
/-- Passover is 163 days ahead of the next 1st of Tishri -/
theorem pass_eq (y : Int) : jdh y 1 15 + 1 = springF y := by
  have hg := gauss y
  have hz : ydays y = tish (y + 1) - tish y := rfl
  cases hl : leapB y with
  | false =>
    have hb := ydays_c hl
    have : ydays y = 353 ∨ ydays y = 354 ∨ ydays y = 355 := by omega
    rcases this with h | h | h
    · have := (tab_353 hl h).1.2; unfold jdh; omega
    · have := (tab_354 hl h).1.2; unfold jdh; omega
    · have := (tab_355 hl h).1.2; unfold jdh; omega
  | true =>
    have hb := ydays_l hl
    have : ydays y = 383 ∨ ydays y = 384 ∨ ydays y = 385 := by omega
    rcases this with h | h | h
    · have := (tab_383 hl h).1.2; unfold jdh; omega
    · have := (tab_384 hl h).1.2; unfold jdh; omega
    · have := (tab_385 hl h).1.2; unfold jdh; omega
theorem jdg_mar (y : Int) : jdg y 3 1 = 1721119 + 365 * y + y / 4 - y / 100 + y / 400 := by
  unfold jdg gadj
  rw [if_neg (by decide)]
  cases h : gleapB y with
  | true =>
    rw [gleapB_iff] at h
    simp only [if_true]
    omega
  | false =>
    have h' : ¬ (gleapB y = true) := by rw [h]; decide
    rw [gleapB_iff] at h'
    simp only [Bool.false_eq_true, if_false]
    omega
theorem jdg_hi {y m d : Int} (h : 3 ≤ m) : jdg y m d = jdg y 3 1 + ((367 * m - 362) / 12 - 61) + d - 1 := by
  unfold jdg gadj
  rw [if_neg (show ¬ m ≤ 2 by omega), if_neg (show ¬ (3 : Int) ≤ 2 by decide)]
  omega
theorem jdg_lo {y m d : Int} (h : m ≤ 2) : jdg y m d = jdg y 1 1 + (367 * m - 362) / 12 + d - 1 := by
  unfold jdg gadj
  rw [if_pos h, if_pos (show (1 : Int) ≤ 2 by decide)]
  omega
theorem jdg_nextjan (y : Int) : jdg (y + 1) 1 1 = jdg y 3 1 + 306 := by
  rw [jdg_jan, jdg_mar, show y + 1 - 1 = y by omega]
  omega
theorem jan_up {y y' : Int} (h : y < y') : jdg (y + 1) 1 1 ≤ jdg y' 1 1 := by
  by_cases e : y' = y + 1
  · rw [e]; omega
  · rw [jdg_jan, jdg_jan]; omega
/-- a date's year by its number -/
theorem year_uniq {y y' k : Int} (h0 : jdg y 1 1 ≤ k) (h1 : k < jdg (y + 1) 1 1) (h0' : jdg y' 1 1 ≤ k) (h1' : k < jdg (y' + 1) 1 1) : y = y' := by
  by_cases a : y < y'
  · have := jan_up a; omega
  · by_cases b : y' < y
    · have := jan_up b; omega
    · omega
theorem gyr_iff {k G : Int} : gyr k = G ↔ janF G ≤ k + 1 ∧ k + 1 < janF (G + 1) := by
  have hj : ∀ y, janF y = jdg y 1 1 + 1 := by
    intro y; rw [jdg_jan]; unfold janF; omega
  rw [hj, hj]
  obtain ⟨_, _, _, _, _, h0, h1⟩ := gdate (k := k)
  constructor
  · intro h; rw [h] at h0 h1; omega
  · rintro ⟨a, b⟩
    exact year_uniq h0 h1 (by omega) (by omega)
theorem jdg_one (y m d : Int) : jdg y m d = jdg y m 1 + d - 1 := by unfold jdg; omega
theorem feb_len (y : Int) : jdg y 3 1 = jdg y 1 1 + 31 + glen y 2 := by
  unfold glen jdg gadj
  rw [if_pos (show (1 : Int) ≤ 2 by decide), if_neg (show ¬ (3 : Int) ≤ 2 by decide), if_pos rfl]
  cases gleapB y <;> simp <;> omega
theorem mon_up {y m m' : Int} (h1 : 1 ≤ m) (h2 : m < m') (h3 : m' ≤ 12) : jdg y m 1 + glen y m ≤ jdg y m' 1 := by
  have hf := feb_len y
  have hg : 28 ≤ glen y 2 ∧ glen y 2 ≤ 29 := by
    unfold glen; rw [if_pos rfl]; split <;> omega
  have hl : ∀ x, x ≠ 2 → glen y x = if x = 4 ∨ x = 6 ∨ x = 9 ∨ x = 11 then 30 else 31 := by
    intro x hx; unfold glen; rw [if_neg hx]
  have hm : m = 1 ∨ m = 2 ∨ m = 3 ∨ m = 4 ∨ m = 5 ∨ m = 6 ∨ m = 7 ∨ m = 8 ∨ m = 9 ∨ m = 10 ∨ m = 11 := by omega
  by_cases hb : 3 ≤ m'
  · rw [jdg_hi hb]
    rcases hm with rfl | rfl | rfl | rfl | rfl | rfl | rfl | rfl | rfl | rfl | rfl
    · rw [hl 1 (by decide), if_neg (by decide)]; omega
    · rw [jdg_lo (m := 2) (by decide)]; omega
    all_goals (rw [hl _ (by decide), jdg_hi (d := 1) (by decide)]; first | (rw [if_neg (by decide)]; omega) | (rw [if_pos (by decide)]; omega))
  · have e : m' = 2 := by omega
    have e' : m = 1 := by omega
    subst e; subst e'
    rw [hl 1 (by decide), if_neg (by decide), jdg_lo (m := 2) (by decide)]; omega
theorem in_year {y m d : Int} (h1 : 1 ≤ m) (h2 : m ≤ 12) (h3 : 1 ≤ d) (h4 : d ≤ glen y m) : jdg y 1 1 ≤ jdg y m d ∧ jdg y m d < jdg (y + 1) 1 1 := by
  have hd := jdg_one y m d
  have hn := jdg_nextjan y
  have hf := feb_len y
  constructor
  · by_cases e : m = 1
    · subst e; omega
    · have := mon_up (y := y) (m := 1) (m' := m) (by decide) (by omega) h2
      have hl : glen y 1 = 31 := by unfold glen; rw [if_neg (by decide), if_neg (by decide)]
      omega
  · have h12 := jdg_hi (y := y) (m := 12) (d := 1) (by decide)
    by_cases e : m = 12
    · subst e
      have hl : glen y 12 = 31 := by unfold glen; rw [if_neg (by decide), if_neg (by decide)]
      omega
    · have := mon_up (y := y) (m := m) (m' := 12) h1 (by omega) (by decide)
      omega
/-- a date is told by its number -/
theorem date_uniq {y m d y' m' d' k : Int} (h1 : 1 ≤ m) (h2 : m ≤ 12) (h3 : 1 ≤ d) (h4 : d ≤ glen y m) (h5 : jdg y m d = k) (g1 : 1 ≤ m') (g2 : m' ≤ 12) (g3 : 1 ≤ d') (g4 : d' ≤ glen y' m') (g5 : jdg y' m' d' = k) : (y, m, d) = (y', m', d') := by
  have a := in_year h1 h2 h3 h4
  have b := in_year g1 g2 g3 g4
  rw [h5] at a
  rw [g5] at b
  have e := year_uniq a.1 a.2 b.1 b.2
  subst e
  have c := jdg_one y m d
  have c' := jdg_one y m' d'
  have e : m = m' := by
    by_cases x : m < m'
    · have := mon_up (y := y) h1 x g2; omega
    · by_cases x' : m' < m
      · have := mon_up (y := y) g1 x' h2; omega
      · omega
  subst e
  have : d = d' := by omega
  rw [this]
/-- the law's way to the civil date -/
theorem civ_parts (n : Int) : n - 1 = jdg (civY n) 3 1 + civL n ∧ 0 ≤ civL n ∧ (civL n ≤ 364 ∨ (civL n = 365 ∧ gleapB (civY n + 1) = true)) := by
  rw [jdg_mar, gleapB_iff]
  have hH : civH n = if 3 < (n - 1721120) % 146097 / 36524 then 3 else (n - 1721120) % 146097 / 36524 := rfl
  have hR : civR n = (n - 1721120) % 146097 - 36524 * civH n := rfl
  have hS : civS n = civR n - 1461 * (civR n / 1461) := rfl
  have hO : civO n = if 3 < civS n / 365 then 3 else civS n / 365 := rfl
  have hL : civL n = civS n - 365 * civO n := rfl
  have hY : civY n = 400 * ((n - 1721120) / 146097) + 100 * civH n + 4 * (civR n / 1461) + civO n := rfl
  have hn : n = 1721120 + 146097 * ((n - 1721120) / 146097) + (n - 1721120) % 146097 := by omega
  have ht : 0 ≤ (n - 1721120) % 146097 ∧ (n - 1721120) % 146097 < 146097 := by omega
  generalize (n - 1721120) / 146097 = Q at *
  generalize (n - 1721120) % 146097 = t at *
  generalize civH n = h at *
  have hh : 0 ≤ h ∧ h ≤ 3 ∧ 0 ≤ t - 36524 * h ∧ (t - 36524 * h < 36524 ∨ (h = 3 ∧ t - 36524 * h = 36524)) := by
    split at hH <;> omega
  clear hH
  generalize civR n = R at *
  have hf : 0 ≤ R / 1461 ∧ R / 1461 ≤ 24 := by omega
  have hs : 0 ≤ R - 1461 * (R / 1461) ∧ R - 1461 * (R / 1461) < 1461 := by omega
  have hx : R / 1461 = 24 → R - 1461 * (R / 1461) < 1460 ∨ h = 3 := by omega
  generalize R / 1461 = f at *
  generalize civS n = S at *
  generalize civO n = o at *
  have ho : 0 ≤ o ∧ o ≤ 3 ∧ 0 ≤ S - 365 * o ∧ (S - 365 * o < 365 ∨ (o = 3 ∧ S = 1460)) := by
    split at hO <;> omega
  clear hO
  have e4 : civY n / 4 = 100 * Q + 25 * h + f := by omega
  have e100 : civY n / 100 = 4 * Q + h := by omega
  have e400 : civY n / 400 = Q := by omega
  rw [e4, e100, e400]
  generalize civY n = Y at *
  generalize civL n = l at *
  refine ⟨by omega, by omega, ?_⟩
  rcases ho.2.2.2 with c | c
  · exact .inl (by omega)
  · refine .inr ⟨by omega, by omega, ?_⟩
    by_cases c2 : f = 24
    · have : h = 3 := by omega
      exact .inr (by omega)
    · exact .inl (by omega)
theorem scan_stepI {P : Int × Int → Prop} {a l mo : Int} {r : List Int} (hp : l < a → P (l, mo)) (hn : ¬ l < a → P (scanI r (l - a) (mo + 1))) : P (scanI (a :: r) l mo) := by
  show P (if l < a then (l, mo) else scanI r (l - a) (mo + 1))
  by_cases h : l < a
  · rw [if_pos h]; exact hp h
  · rw [if_neg h]; exact hn h
def CivP (n : Int) (p : Int × Int) : Prop :=
  ∃ y m d : Int, (if 12 < p.2 then (civY n + 1, p.2 - 12, p.1 + 1) else (civY n, p.2, p.1 + 1)) = (y, m, d) ∧ 1 ≤ m ∧ m ≤ 12 ∧ 1 ≤ d ∧ d ≤ glen y m ∧ jdg y m d = n - 1
theorem glen_n {y x : Int} (hx : x ≠ 2) : glen y x = if x = 4 ∨ x = 6 ∨ x = 9 ∨ x = 11 then 30 else 31 := by unfold glen; rw [if_neg hx]
theorem civ_scan (n : Int) : CivP n (scanI clens (civL n) 3) := by
  obtain ⟨h1, h2, h3⟩ := civ_parts n
  have hj := jdg_nextjan (civY n)
  have hh := fun m d h => jdg_hi (y := civY n) (m := m) (d := d) h
  have hl := fun m d h => jdg_lo (y := civY n + 1) (m := m) (d := d) h
  generalize hc : civL n = l at *
  unfold clens
  refine scan_stepI (fun c3 => ?_) (fun c3 => ?_)
  · refine ⟨civY n, 3, _, rfl, by decide, by decide, ?_, ?_, ?_⟩
    · show 1 ≤ _ + (1 : Int); omega
    · rw [glen_n (by decide), if_neg (by decide)]; show _ + (1 : Int) ≤ _; omega
    · rw [hh _ _ (by decide)]; show _ + (_ + (1 : Int)) - 1 = _; omega
  refine scan_stepI (fun c4 => ?_) (fun c4 => ?_)
  · refine ⟨civY n, 4, _, rfl, by decide, by decide, ?_, ?_, ?_⟩
    · show 1 ≤ _ + (1 : Int); omega
    · rw [glen_n (by decide), if_pos (by decide)]; show _ + (1 : Int) ≤ _; omega
    · rw [hh _ _ (by decide)]; show _ + (_ + (1 : Int)) - 1 = _; omega
  refine scan_stepI (fun c5 => ?_) (fun c5 => ?_)
  · refine ⟨civY n, 5, _, rfl, by decide, by decide, ?_, ?_, ?_⟩
    · show 1 ≤ _ + (1 : Int); omega
    · rw [glen_n (by decide), if_neg (by decide)]; show _ + (1 : Int) ≤ _; omega
    · rw [hh _ _ (by decide)]; show _ + (_ + (1 : Int)) - 1 = _; omega
  refine scan_stepI (fun c6 => ?_) (fun c6 => ?_)
  · refine ⟨civY n, 6, _, rfl, by decide, by decide, ?_, ?_, ?_⟩
    · show 1 ≤ _ + (1 : Int); omega
    · rw [glen_n (by decide), if_pos (by decide)]; show _ + (1 : Int) ≤ _; omega
    · rw [hh _ _ (by decide)]; show _ + (_ + (1 : Int)) - 1 = _; omega
  refine scan_stepI (fun c7 => ?_) (fun c7 => ?_)
  · refine ⟨civY n, 7, _, rfl, by decide, by decide, ?_, ?_, ?_⟩
    · show 1 ≤ _ + (1 : Int); omega
    · rw [glen_n (by decide), if_neg (by decide)]; show _ + (1 : Int) ≤ _; omega
    · rw [hh _ _ (by decide)]; show _ + (_ + (1 : Int)) - 1 = _; omega
  refine scan_stepI (fun c8 => ?_) (fun c8 => ?_)
  · refine ⟨civY n, 8, _, rfl, by decide, by decide, ?_, ?_, ?_⟩
    · show 1 ≤ _ + (1 : Int); omega
    · rw [glen_n (by decide), if_neg (by decide)]; show _ + (1 : Int) ≤ _; omega
    · rw [hh _ _ (by decide)]; show _ + (_ + (1 : Int)) - 1 = _; omega
  refine scan_stepI (fun c9 => ?_) (fun c9 => ?_)
  · refine ⟨civY n, 9, _, rfl, by decide, by decide, ?_, ?_, ?_⟩
    · show 1 ≤ _ + (1 : Int); omega
    · rw [glen_n (by decide), if_pos (by decide)]; show _ + (1 : Int) ≤ _; omega
    · rw [hh _ _ (by decide)]; show _ + (_ + (1 : Int)) - 1 = _; omega
  refine scan_stepI (fun c10 => ?_) (fun c10 => ?_)
  · refine ⟨civY n, 10, _, rfl, by decide, by decide, ?_, ?_, ?_⟩
    · show 1 ≤ _ + (1 : Int); omega
    · rw [glen_n (by decide), if_neg (by decide)]; show _ + (1 : Int) ≤ _; omega
    · rw [hh _ _ (by decide)]; show _ + (_ + (1 : Int)) - 1 = _; omega
  refine scan_stepI (fun c11 => ?_) (fun c11 => ?_)
  · refine ⟨civY n, 11, _, rfl, by decide, by decide, ?_, ?_, ?_⟩
    · show 1 ≤ _ + (1 : Int); omega
    · rw [glen_n (by decide), if_pos (by decide)]; show _ + (1 : Int) ≤ _; omega
    · rw [hh _ _ (by decide)]; show _ + (_ + (1 : Int)) - 1 = _; omega
  refine scan_stepI (fun c12 => ?_) (fun c12 => ?_)
  · refine ⟨civY n, 12, _, rfl, by decide, by decide, ?_, ?_, ?_⟩
    · show 1 ≤ _ + (1 : Int); omega
    · rw [glen_n (by decide), if_neg (by decide)]; show _ + (1 : Int) ≤ _; omega
    · rw [hh _ _ (by decide)]; show _ + (_ + (1 : Int)) - 1 = _; omega
  refine scan_stepI (fun c13 => ?_) (fun c13 => ?_)
  · refine ⟨civY n + 1, 1, _, rfl, by decide, by decide, ?_, ?_, ?_⟩
    · show 1 ≤ _ + (1 : Int); omega
    · rw [glen_n (by decide), if_neg (by decide)]; show _ + (1 : Int) ≤ _; omega
    · rw [hl _ _ (by decide)]; show _ + (_ + (1 : Int)) - 1 = _; omega
  show CivP n (l - 31 - 30 - 31 - 30 - 31 - 31 - 30 - 31 - 30 - 31 - 31, 3 + 1 + 1 + 1 + 1 + 1 + 1 + 1 + 1 + 1 + 1 + 1)
  refine ⟨civY n + 1, 2, l - 31 - 30 - 31 - 30 - 31 - 31 - 30 - 31 - 30 - 31 - 31 + 1, rfl, by decide, by decide, ?_, ?_, ?_⟩
  · omega
  · unfold glen
    rw [if_pos rfl]
    rcases h3 with z | ⟨z, z'⟩
    · split <;> omega
    · rw [if_pos z']; omega
  · rw [hl _ _ (by decide)]; omega
theorem civ_eq (k : Int) : civF (k + 1) = (gyr k, gmo k, gda k) := by
  obtain ⟨y, m, d, e, a1, a2, a3, a4, a5⟩ := civ_scan (k + 1)
  obtain ⟨g1, g2, g3, g4, g5, _, _⟩ := gdate (k := k)
  show (if 12 < (scanI clens (civL (k + 1)) 3).2 then _ else _) = _
  rw [e]
  exact date_uniq a1 a2 a3 a4 (by omega) g1 g2 g3 g4 g5
/-- the law's way to the Julian date -/
abbrev julT (L : Int) : Prop :=
  (if 12 < (scanI mlens L 3).2 then (scanI mlens L 3).2 - 12 else (scanI mlens L 3).2) = (if (L + 123) * 10000 / 306001 < 14 then (L + 123) * 10000 / 306001 - 1 else (L + 123) * 10000 / 306001 - 13) ∧
  (12 < (scanI mlens L 3).2 ↔ ¬ (if (L + 123) * 10000 / 306001 < 14 then (L + 123) * 10000 / 306001 - 1 else (L + 123) * 10000 / 306001 - 13) > 2) ∧
  (scanI mlens L 3).1 + 1 = L + 123 - 306001 * ((L + 123) * 10000 / 306001) / 10000
theorem julT_all : ∀ L ∈ List.range 366, julT (L : Int) := by decide +kernel
theorem jul_eq (k : Int) : julF (k + 1) = jul3 k := by
  have hL : julL (k + 1) = (k + 1 - 1721118) % 1461 - 365 * (if 3 < (k + 1 - 1721118) % 1461 / 365 then 3 else (k + 1 - 1721118) % 1461 / 365) := rfl
  have hP : julP (k + 1) = 4 * ((k + 1 - 1721118) / 1461) + (if 3 < (k + 1 - 1721118) % 1461 / 365 then 3 else (k + 1 - 1721118) % 1461 / 365) := rfl
  have hn : k + 1 = 1721118 + 1461 * ((k + 1 - 1721118) / 1461) + (k + 1 - 1721118) % 1461 := by omega
  have ht : 0 ≤ (k + 1 - 1721118) % 1461 ∧ (k + 1 - 1721118) % 1461 < 1461 := by omega
  generalize (k + 1 - 1721118) / 1461 = R at *
  generalize (k + 1 - 1721118) % 1461 = t at *
  generalize hp : (if 3 < t / 365 then 3 else t / 365) = p at *
  have hpb : 0 ≤ p ∧ p ≤ 3 ∧ 0 ≤ t - 365 * p ∧ (t - 365 * p ≤ 364 ∨ (p = 3 ∧ t - 365 * p ≤ 365)) := by
    subst hp
    split <;> omega
  clear hp
  have hc : (4 * (k + 1 + 1524) - 489) / 1461 = 4716 + 4 * R + p := by omega
  have hd : 1461 * (4716 + 4 * R + p) / 4 = 1722519 + 1461 * R + 365 * p := by omega
  have hbd : k + 1 + 1524 - (1722519 + 1461 * R + 365 * p) = julL (k + 1) + 123 := by omega
  have hLb : 0 ≤ julL (k + 1) ∧ julL (k + 1) < 366 := by omega
  have hT : julT (julL (k + 1)) := by
    have := julT_all (julL (k + 1)).toNat (List.mem_range.mpr (by omega))
    rw [show ((julL (k + 1)).toNat : Int) = julL (k + 1) by omega] at this
    exact this
  obtain ⟨t1, t2, t3⟩ := hT
  unfold julF jul3
  simp only [hc, hd, hbd]
  rw [← t1]
  rw [← t1] at t2
  by_cases h12 : 12 < (scanI mlens (julL (k + 1)) 3).2
  · have t2' := t2.mp h12
    rw [if_pos h12] at t2' ⊢
    rw [if_pos h12, if_neg t2', t3, hP]
    refine Prod.ext ?_ (Prod.ext rfl rfl)
    show _ = _
    omega
  · have t2' : (scanI mlens (julL (k + 1)) 3).2 > 2 := by
      have := fun z => h12 (t2.mpr z)
      rw [if_neg h12] at this
      exact Decidable.not_not.mp this
    rw [if_neg h12]
    rw [if_neg h12, if_pos t2', t3, hP]
    refine Prod.ext ?_ (Prod.ext rfl rfl)
    show _ = _
    omega
/-- the count's first guess is not too far -/
theorem count_ok {y k : Int} (hk : 347995 ≤ k) (h : k < tish (y + 1) + 1) : -5 < (k - 347995) * 98496 / 35975351 ∧ (k - 347995) * 98496 / 35975351 ≤ y + 1 := by
  have a := tish_post (y + 1)
  have b : post (y + 1) ≤ 2 := by unfold post; repeat' split; all_goals omega
  have c := dly0_eq (y + 1)
  have d := cpar_bd (y + 1)
  have e : 19 * cmon (y + 1) ≤ 235 * y + 1 := by unfold cmon; omega
  constructor
  · omega
  · omega
theorem tish_one : tish 1 = 347996 := by decide
end

/- L1 -/
/- letters instead of long terms -/
abbrev RetZ (h₀ : Heap) (L : Addr) (m : Str → Option Value) (news : List (Addr × Obj)) (s : Shared) (Q : Value → Shared → Prop) (P : Int → Prop) : Prop :=
  ∀ (z : Int) (t : Tok) (h' : Heap) (tk' : Nat), P z → Fr h₀ L h' m → News h₀ L h' news → Q (.int z t) { s with heap := h', toks := tk' }
abbrev AskZ (w : World) (D : Nat) (f : Addr) (vs : List Value) (P : Int → Prop) : Prop :=
  ∀ (p : Program) (loose : List Str) (mean : ExcName → Option Value) (mg mb : Str → Option Value) (dp un : Nat) (gd : Option (List Code)) (cn : Str) (cs : Scope) (a : Addr) (ccd : Value) (cl : List (Str × Addr)) (outer : List Env) (A₀ : Around) (base h₀ : Heap) (L : Addr) (m : Str → Option Value) (news : List (Addr × Obj)) (s : Shared) (Q E : Value → Shared → Prop),
    Below A₀ base outer h₀ → Fr h₀ L s.heap m → (hd.heap_39 w.params).In h₀ → News h₀ L s.heap news → Top p loose mean mg mb h₀ → cs.kind = .function →
    dp + D < recursionLimit → un + 8 * D < cLine → RetZ h₀ L m news s Q P →
      wpAny (model PySem.Challenge.pw_ad5029_01 w) (ktrTop dp un gd cn cs L a ccd cl outer) (call (.ref f) vs) Q E s
theorem ask_z {w : World} {D : Nat} {f : Addr} {vs : List Value} {v : Int} {P : Int → Prop} (h : Ask w D f vs (fun t => .int v t)) (hp : P v) : AskZ w D f vs P :=
  fun _ _ _ _ _ _ _ _ _ _ _ _ _ _ _ _ _ _ _ _ _ _ _ B F X N T hk hd hu hret => h _ _ _ _ _ _ _ _ _ _ _ _ _ _ _ _ _ _ _ _ _ _ _ B F X N T hk hd hu fun t h' tk' F' N' => hret v t h' tk' hp F' N'

theorem tish_hi {y : Int} (h : 1 ≤ y) (h2 : y ≤ 110000000) : 347996 ≤ tish y ∧ tish y ≤ 366 * y + 348000 := by
  have a := tish_post y
  have b : 0 ≤ post y ∧ post y ≤ 2 := by unfold post; repeat' split; all_goals omega
  have c := dly0_eq y
  have d := cpar_bd y
  have e : 19 * cmon y ≤ 235 * y - 234 ∧ 0 ≤ cmon y := by unfold cmon; omega
  constructor <;> omega

theorem ask_sprA (w : World) (y : Int) (t : Tok) (h1 : 1 ≤ y) (h2 : y ≤ 100000000) : AskZ w 3 192 [.int (y - 1) t] (fun z => z + 161 = tish y ∧ 347996 ≤ tish y ∧ tish y ≤ 36600400000) := by
  refine ask_z (ask_spring w (y - 1) t (by omega) (by omega)) ?_
  have g := gauss (y - 1)
  rw [show y - 1 + 1 = y by omega] at g
  have := tish_hi (y := y) h1 (by omega)
  omega
theorem ask_sprB (w : World) (y : Int) (t : Tok) (h1 : 1 ≤ y) (h2 : y ≤ 100000000) : AskZ w 3 192 [.int y t] (fun z => z + 161 = tish (y + 1) ∧ 353 ≤ tish (y + 1) - tish y ∧ tish (y + 1) - tish y ≤ 385) := by
  refine ask_z (ask_spring w y t (by omega) (by omega)) ?_
  have g := gauss y
  have b := ydays_bd y
  unfold ydays at b
  omega
local macro_rules | `(tactic| tm_at "on call ref") => `(tactic| (k_here; (with_reducible show wpAny _ _ (call (Value.ref 192) [Value.int _ _]) _ _ _); k_dflt (refine' (ask_sprB _ _ _ ?c0 ?c1) _ _ _ _ _ _ _ _ _ _ _ _ _ _ _ _ _ _ _ _ _ _ _ ?k1 ?k2 ?k3 ?k4 ?k5 ?kK ?kd ?ku ?_); (case k1 => k_asm); (case k2 => k_asm); (case k3 => k_asm); (case k4 => k_asm); (case k5 => k_asm); (case kK => first | exact rfl | assumption); (case kd => ktr_room); (case ku => ktr_units); (case c0 => omega); (case c1 => omega); intro z9 t9 h9 tk9 ⟨hz9, hz8, hz7⟩ F9 N9; (try dsimp only); (try k_fold); skip))
local macro_rules | `(tactic| tm_at "on call ref") => `(tactic| (k_here; (with_reducible show wpAny _ _ (call (Value.ref 192) [Value.int (_ - 1) _]) _ _ _); k_dflt (refine' (ask_sprA _ _ _ ?c0 ?c1) _ _ _ _ _ _ _ _ _ _ _ _ _ _ _ _ _ _ _ _ _ _ _ ?k1 ?k2 ?k3 ?k4 ?k5 ?kK ?kd ?ku ?_); (case k1 => k_asm); (case k2 => k_asm); (case k3 => k_asm); (case k4 => k_asm); (case k5 => k_asm); (case kK => first | exact rfl | assumption); (case kd => ktr_room); (case ku => ktr_units); (case c0 => omega); (case c1 => omega); intro z9 t9 h9 tk9 ⟨hz9, hz8, hz7⟩ F9 N9; (try dsimp only); (try k_fold); skip))

section
variable {prog : Program} {w : World} {A : Around} {E : Value → Shared → Prop} {s : Shared} {t u : Tok} {Q : Value → Shared → Prop}
theorem r_year {x : Int} (h : ∀ y, 1 ≤ y → y ≤ 100000000 → Q (.int y s.toks) { s with toks := s.toks + 1 }) : wpAny (model prog w) A (binaryOp .Add (.int 1 t) (.int (x % 100000000) u)) Q E s :=
  wpAny_add_int (h _ (by omega) (by omega))
theorem r_left {a z1 z2 : Int} (hS : 0 < z2 + 163 - (z1 + 163)) (h : ∀ l, 0 ≤ l → l < z2 + 163 - (z1 + 163) → Q (.int l s.toks) { s with toks := s.toks + 1 }) : wpAny (model prog w) A (binaryOp .Mod (.int a t) (.int (z2 + 163 - (z1 + 163)) u)) Q E s :=
  mod_int' (by omega) (h _ (by rw [Int.fmod_eq_emod_of_nonneg _ (by omega)]; exact Int.emod_nonneg _ (by omega)) (by rw [Int.fmod_eq_emod_of_nonneg _ (by omega)]; exact Int.emod_lt_of_pos _ hS))
theorem r_number {z1 l : Int} (h : ∀ k, k + 1 = z1 + 163 + l → Q (.int (k + 1) s.toks) { s with toks := s.toks + 1 }) : wpAny (model prog w) A (binaryOp .Add (.int (z1 + 163) t) (.int l u)) Q E s :=
  wpAny_add_int (by have := h (z1 + 163 + l - 1) (by omega); rw [show z1 + 163 + l - 1 + 1 = z1 + 163 + l by omega] at this; exact this)
end
local macro_rules | `(tactic| tm_at "on binaryOp Add int int") => `(tactic| (k_here; (with_reducible refine' r_year ?_); intro y9 hy9 hy8; (try dsimp only); (try k_fold)))
local macro_rules | `(tactic| tm_at "on binaryOp Mod int int") => `(tactic| (k_here; (with_reducible refine' r_left ?hS ?_); (case hS => omega); intro l9 hl9 hl8; (try dsimp only); (try k_fold)))
local macro_rules | `(tactic| tm_at "on binaryOp Add int int") => `(tactic| (k_here; (with_reducible rename (0 ≤ _) => hl9); (with_reducible refine' r_number ?_); intro k9 hk9; (try dsimp only); (try k_fold)))

/- the months' loop -/
structure MonA (y l k d M : Int) : Prop where
  ok : MonOK y l d M
  m1 : 1 ≤ M
  m2 : M ≤ 13
  d1 : 0 ≤ d
  d2 : d ≤ 29
  num : jdh y M (d + 1) = k
  yd : ydays y = tish (y + 1) - tish y
theorem mon_a {y l k z1 z2 : Int} (h1 : z1 + 161 = tish y) (h2 : z2 + 161 = tish (y + 1)) (h0 : 0 ≤ l) (hl : l < z2 + 163 - (z1 + 163)) (hk : k + 1 = z1 + 163 + l) :
    MonA y l k (scanM (z2 + 163 - (z1 + 163)) l).1 (scanM (z2 + 163 - (z1 + 163)) l).2 := by
  have e : z2 + 163 - (z1 + 163) = ydays y := by unfold ydays; omega
  rw [e] at hl ⊢
  have M := mon_ok h0 hl
  have b := mlen_bd y (scanM (ydays y) l).2
  have c := M.d2
  have n := M.num
  exact ⟨M, M.m1, M.m2, M.d1, by omega, by omega, rfl⟩
section
variable {prog : Program} {w : World} {A : Around} {E : Value → Shared → Prop} {s : Shared} {env : Env} {h₀ : Heap} {target : Expr} {body : List Stmt} {Q : Flow → Shared → Prop}
theorem loop_months {y l k z1 z2 : Int} {ax : Addr} {c0 : Nat} {vs : List Value} {m₀ : Str → Option Value} {tail news : List (Addr × Obj)} {tl0 tm0 : Tok}
    (h1 : z1 + 161 = tish y) (h2 : z2 + 161 = tish (y + 1)) (h0 : 0 ≤ l) (hl : l < z2 + 163 - (z1 + 163)) (hk : k + 1 = z1 + 163 + l)
    {L : Addr} (hL : env.locals = L) (hh : A.handled = none) (F : Fr h₀ L s.heap m₀) (N : News h₀ L s.heap (tail ++ news)) (hm : (ax, listOf vs.toArray c0) ∈ tail) (hp : PairsIn tail (lmonths (z2 + 163 - (z1 + 163))) vs)
    (hj : m₀ (Str.ofString "left") = some (.int l tl0)) (hkm : m₀ (Str.ofString "month") = some (.int 7 tm0))
    (turn : ∀ (a b : Int) (D : Addr) (t1 t2 : Tok) (c : Nat) (l mo : Int) (tl tm : Tok) (u : Option Value) (I : Addr) (it : Obj) (h : Heap) (tk : Nat), (D, tup2 a t1 b t2 c) ∈ (I, it) :: (tail ++ news) → Fr h₀ L h (curM m₀ (Str.ofString "left") (Str.ofString "month") (Str.ofString "length") l tl mo tm u) → News h₀ L h ((I, it) :: (tail ++ news)) →
      wpAny (model prog w) A (assign target env (.ref D)) (fun _ s₂ => wpAny (model prog w) A (execs body env) (SPost h₀ L m₀ (Str.ofString "left") (Str.ofString "month") (Str.ofString "length") ((I, it) :: (tail ++ news)) l b l a (l - b) a { s with heap := h, toks := tk }) E s₂) E { s with heap := h, toks := tk })
    (done : ∀ (d M : Int) (tl tm : Tok) (u : Option Value) (h : Heap) (tk : Nat), MonA y l k d M → Fr h₀ L h (curM m₀ (Str.ofString "left") (Str.ofString "month") (Str.ofString "length") d tl M tm u) → News h₀ L h news → Q .next { s with heap := h, toks := tk }) :
    wpAny (model prog w) A (pyIter (.ref ax)) (fun it s₂ => TurnsAt prog w A h₀ env target body Q E it s₂) E s := by
  subst hL
  exact loop_pairs (Str.ofString "left") (Str.ofString "month") (Str.ofString "length") hh F N (List.mem_append_left _ hm) rfl rfl (hp.all2 fun _ h => List.mem_append_left _ h) hj hkm turn
    fun tl tm u h tk F' N' => done _ _ tl tm u h tk (mon_a h1 h2 h0 hl hk) F' fun p hp => N' p (List.mem_append_right _ hp)
end
local macro_rules | `(tactic| tm_at "on exec For Tuple Call cons nil") => `(tactic| (k_here; (with_reducible rename Fr _ _ _ _ => lF'); k_dflt (refine' For_turns ?F ?_ ?hs ?hE); (case F => with_unfolding_all exact lF'); (case hs => (intro _; with_unfolding_all rfl)); (case hE => passes_own); k_whole))
local macro_rules | `(tactic| tm_at "on pyIter ref") => `(tactic| ((with_reducible show wpAny _ _ (pyIter (Value.ref _)) (fun it s₂ => TurnsAt _ _ _ _ _ _ _ _ _ it s₂) _ _); k_here; (rename PairsIn _ _ _ => lP'); (rename Fr _ _ _ _ => lF'); (rename News _ _ _ _ => lN'); (with_unfolding_all refine' loop_months (by assumption) (by assumption) (by assumption) (by assumption) (by assumption) ?hL (by rfl) lF' lN' ?zm lP' ?zj ?zk ?zt ?zn); (case hL => with_unfolding_all rfl); (case zm => assumption); (case zj => with_unfolding_all rfl); (case zk => with_unfolding_all rfl); (all_goals (try clear lF' lN' lP')); (case' zt => intro a9 b9 D9 t19 t29 c9 l9 mo9 tl9 tm9 u9 I9 it9 h9 tk9 hm9 F9 N9); (case' zn => intro d9 M9 tl9 tm9 u9 h9 tk9 hM9 F9 N9; (have hM1 := hM9.m1; have hM2 := hM9.m2; have hM3 := hM9.d1; have hM4 := hM9.d2; have hM5 := hM9.num; have hM6 := hM9.yd)); (all_goals (try dsimp only)); (all_goals (try k_fold))))

/- M1 -/
theorem ask_fromh_law (w : World) (y l k d M : Int) (t : Tok) (hM : MonA y l k d M) (h1 : 1 ≤ y) (h2 : y ≤ 100000000) (h3 : 0 ≤ l) (h4 : l < tish (y + 1) - tish y) : Ask3 w 9 134 [.float (fh (jdh y M (d + 1))) t] y M (d + 1) := by
  have ok := hM.ok
  have n := ok.num
  have hy := tish_hi (y := y) h1 (by omega)
  have hy1 := tish_hi (y := y + 1) (by omega) (by omega)
  have e := jdh_day y M (d + 1)
  have e2 := jdh_day y M (mlen y M)
  have hd := ok.d2
  have hc := count_ok (y := y) (k := jdh y M (d + 1)) (by omega) (by omega)
  have e3 : jdh y M (d + 1) - jdh y M 1 + 1 = d + 1 := by omega
  by_cases h7 : M < 7
  · have lo := ok.lo h7
    have := ask_fromh_a w (jdh y M (d + 1)) y M t (by omega) (by omega) (by omega) (by omega) (by omega) (by omega) (fun i _ hi => tish_mono hi) hc.2 hc.1 ok.m1 (by omega) (by omega) (fun i a b => by have := lo.2 i a b; omega) (by omega) (by have := ok.d1; omega)
    rw [e3] at this
    exact this
  · have hi := ok.hi (by omega)
    have := ask_fromh_b w (jdh y M (d + 1)) y M t (by omega) (by omega) (by omega) (by omega) (by omega) (by omega) (fun i _ hi => tish_mono hi) hc.2 hc.1 (by omega) ok.m2 (by omega) (fun i a b => by have := hi.2 i a b; omega) (by omega) (by have := ok.d1; omega)
    rw [e3] at this
    exact this
local macro_rules | `(tactic| tm_at "on call ref") => `(tactic| (k_here; (with_reducible show wpAny _ _ (call (Value.ref 134) _) _ _ _); k_dflt (refine' (ask_fromh_law _ _ _ _ _ _ _ ?c0 ?c1 ?c2 ?c3 ?c4) _ _ _ _ _ _ _ _ _ _ _ _ _ _ _ _ _ _ _ _ _ _ _ ?k1 ?k2 ?k3 ?k4 ?k5 ?kK ?kd ?ku ?_); (case c0 => assumption); (case c1 => omega); (case c2 => omega); (case c3 => omega); (case c4 => omega); (case k1 => k_asm); (case k2 => k_asm); (case k3 => k_asm); (case k4 => k_asm); (case k5 => k_asm); (case kK => first | exact rfl | assumption); (case kd => ktr_room); (case ku => ktr_units); intro D9 t19 t29 t39 n9 h9 tk9 F9 N9 l9; (try dsimp only); (try k_fold)))

theorem ask_togreg_k (w : World) (y mo d k : Int) (t t2 t3 : Tok) (hk : jdh y mo d = k) (hy : -6 < y) (hy2 : y < 130000000) (hm1 : 1 ≤ mo) (hm2 : mo ≤ 13) (hd0 : 1 ≤ d) (hd1 : d ≤ 30) (hj0 : 300000 < k) (hj1 : k < 50000000000) : Ask3 w 8 148 [.int y t, .int mo t2, .int d t3] (gyr k) (gmo k) (gda k) := by
  subst hk
  exact ask_togreg w y mo d t t2 t3 hy hy2 hm1 hm2 hd0 hd1 hj0 hj1
theorem ask_civ_k (w : World) (k : Int) (t : Tok) (h0 : 300000 < k) (h1 : k < 40000000000) : Ask3w w 2 220 [.int (k + 1) t] (gyr k) (gmo k) (gda k) := by
  have := ask_lciv w (k + 1) t (by omega) (by omega)
  rw [civ_eq] at this
  exact this
theorem ask_ljul_k (w : World) (k : Int) (t : Tok) (h0 : 300000 < k) (h1 : k < 40000000000) : Ask3w w 2 206 [.int (k + 1) t] (jul3 k).1 (jul3 k).2.1 (jul3 k).2.2 := by
  have := ask_ljul w (k + 1) t (by omega) (by omega)
  rw [jul_eq] at this
  exact this
theorem ask_juli_k (w : World) (k : Int) (t t2 t3 : Tok) (h0 : 300000 < k) (h1 : k < 40000000000) : Ask3 w 4 178 [.int (gyr k) t, .int (gmo k) t2, .int (gda k) t3] (jul3 k).1 (jul3 k).2.1 (jul3 k).2.2 := by
  obtain ⟨a1, a2, a3, a4, a5, _, _⟩ := gdate (k := k)
  have b := gyr_bd (k := k) (by omega) (by omega)
  have := ask_juli w (gyr k) (gmo k) (gda k) t t2 t3 (by omega) (by omega) a1 a2 a3 a4 (by omega) (by omega)
  rw [a5] at this
  exact this
local macro_rules | `(tactic| tm_at "on call ref") => `(tactic| (k_here; (with_reducible show wpAny _ _ (call (Value.ref 148) _) _ _ _); k_dflt (refine' (ask_togreg_k _ _ _ _ _ _ _ _ ?ck ?c0 ?c1 ?c2 ?c3 ?c4 ?c5 ?c6 ?c7) _ _ _ _ _ _ _ _ _ _ _ _ _ _ _ _ _ _ _ _ _ _ _ ?k1 ?k2 ?k3 ?k4 ?k5 ?kK ?kd ?ku ?_); (case ck => assumption); (case c0 => omega); (case c1 => omega); (case c2 => omega); (case c3 => omega); (case c4 => omega); (case c5 => omega); (case c6 => omega); (case c7 => omega); (case k1 => k_asm); (case k2 => k_asm); (case k3 => k_asm); (case k4 => k_asm); (case k5 => k_asm); (case kK => first | exact rfl | assumption); (case kd => ktr_room); (case ku => ktr_units); intro D9 t19 t29 t39 n9 h9 tk9 F9 N9 l9; (try dsimp only); (try k_fold)))
local macro_rules | `(tactic| tm_at "on call ref") => `(tactic| (k_here; (with_reducible show wpAny _ _ (call (Value.ref 220) _) _ _ _); k_dflt (refine' (ask_civ_k _ _ _ ?c0 ?c1) _ _ _ _ _ _ _ _ _ _ _ _ _ _ _ _ _ _ _ _ _ _ _ ?k1 ?k2 ?k3 ?k4 ?k5 ?kK ?kd ?ku ?_); (case c0 => omega); (case c1 => omega); (case k1 => k_asm); (case k2 => k_asm); (case k3 => k_asm); (case k4 => k_asm); (case k5 => k_asm); (case kK => first | exact rfl | assumption); (case kd => ktr_room); (case ku => ktr_units); intro D9 t19 t29 t39 n9 h9 tk9 F9 N9; (try dsimp only); (try k_fold)))
local macro_rules | `(tactic| tm_at "on call ref") => `(tactic| (k_here; (with_reducible show wpAny _ _ (call (Value.ref 206) _) _ _ _); k_dflt (refine' (ask_ljul_k _ _ _ ?c0 ?c1) _ _ _ _ _ _ _ _ _ _ _ _ _ _ _ _ _ _ _ _ _ _ _ ?k1 ?k2 ?k3 ?k4 ?k5 ?kK ?kd ?ku ?_); (case c0 => omega); (case c1 => omega); (case k1 => k_asm); (case k2 => k_asm); (case k3 => k_asm); (case k4 => k_asm); (case k5 => k_asm); (case kK => first | exact rfl | assumption); (case kd => ktr_room); (case ku => ktr_units); intro D9 t19 t29 t39 n9 h9 tk9 F9 N9; (try dsimp only); (try k_fold)))
local macro_rules | `(tactic| tm_at "on call ref") => `(tactic| (k_here; (with_reducible show wpAny _ _ (call (Value.ref 178) _) _ _ _); k_dflt (refine' (ask_juli_k _ _ _ _ _ ?c0 ?c1) _ _ _ _ _ _ _ _ _ _ _ _ _ _ _ _ _ _ _ _ _ _ _ ?k1 ?k2 ?k3 ?k4 ?k5 ?kK ?kd ?ku ?_); (case c0 => omega); (case c1 => omega); (case k1 => k_asm); (case k2 => k_asm); (case k3 => k_asm); (case k4 => k_asm); (case k5 => k_asm); (case kK => first | exact rfl | assumption); (case kd => ktr_room); (case ku => ktr_units); intro D9 t19 t29 t39 n9 h9 tk9 F9 N9 l9; (try dsimp only); (try k_fold)))

def CivMk : Prop := True
def JCiv (h₀ : Heap) (L : Addr) (m : Str → Option Value) (news : List (Addr × Obj)) (s : Shared) (fl : Flow) (s' : Shared) : Prop :=
  fl = .next ∧ ∃ (G : Int) (tG : Tok) (h' : Heap) (tk' : Nat), (-3760 < G ∧ G ≤ 100000000) ∧ s' = { s with heap := h', toks := tk' } ∧ Fr h₀ L h' (fun y => if y = Str.ofString "civil" then some (.int G tG) else m y) ∧ News h₀ L h' news
theorem JCiv.intro {h₀ h' : Heap} {L : Addr} {m : Str → Option Value} {news : List (Addr × Obj)} {s : Shared} {tk' : Nat} {G : Int} {tG : Tok} (F : Fr h₀ L h' (fun y => if y = Str.ofString "civil" then some (.int G tG) else m y)) (N : News h₀ L h' news) (h1 : -3760 < G) (h2 : G ≤ 100000000) :
    JCiv h₀ L m news s .next { s with heap := h', toks := tk' } := ⟨rfl, G, tG, h', tk', ⟨h1, h2⟩, rfl, F, N⟩
def JNext (h₀ : Heap) (L : Addr) (m : Str → Option Value) (news : List (Addr × Obj)) (s : Shared) (fl : Flow) (s' : Shared) : Prop :=
  fl = .next ∧ ∃ (h' : Heap) (tk' : Nat), s' = { s with heap := h', toks := tk' } ∧ Fr h₀ L h' m ∧ News h₀ L h' news
theorem JNext.intro {h₀ h' : Heap} {L : Addr} {m : Str → Option Value} {news : List (Addr × Obj)} {s : Shared} {tk' : Nat} (F : Fr h₀ L h' m) (N : News h₀ L h' news) : JNext h₀ L m news s .next { s with heap := h', toks := tk' } := ⟨rfl, h', tk', rfl, F, N⟩
/-- the day due: the first year's, the second year's, none -/
def PD (G k1 k2 : Int) (v : Value) : Prop :=
  (∃ t, v = .int (k1 + 1) t ∧ gyr k1 = G) ∨ (∃ t, v = .int (k2 + 1) t ∧ gyr k1 ≠ G ∧ gyr k2 = G) ∨ (v = .none ∧ gyr k1 ≠ G ∧ gyr k2 ≠ G)
theorem PD.or {G k1 k2 : Int} {v : Value} (h : PD G k1 k2 v) : (∃ t, v = .int (k1 + 1) t ∧ gyr k1 = G) ∨ (∃ t, v = .int (k2 + 1) t ∧ gyr k1 ≠ G ∧ gyr k2 = G) ∨ (v = .none ∧ gyr k1 ≠ G ∧ gyr k2 ≠ G) := h
theorem gyr_not {k G : Int} : gyr k ≠ G ↔ k + 1 < janF G ∨ janF (G + 1) ≤ k + 1 := by
  rw [Ne, gyr_iff]; omega
theorem PD.ia {G k1 k2 x : Int} {t : Tok} (e : x = k1 + 1) (h1 : janF G ≤ k1 + 1) (h2 : k1 + 1 < janF (G + 1)) : PD G k1 k2 (.int x t) := .inl ⟨t, by rw [e], gyr_iff.mpr ⟨h1, h2⟩⟩
theorem PD.ib {G k1 k2 x : Int} {t : Tok} (e : x = k2 + 1) (h : k1 + 1 < janF G ∨ janF (G + 1) ≤ k1 + 1) (h1 : janF G ≤ k2 + 1) (h2 : k2 + 1 < janF (G + 1)) : PD G k1 k2 (.int x t) := .inr (.inl ⟨t, by rw [e], gyr_not.mpr h, gyr_iff.mpr ⟨h1, h2⟩⟩)
theorem PD.ic {G k1 k2 : Int} (h : k1 + 1 < janF G ∨ janF (G + 1) ≤ k1 + 1) (h2 : k2 + 1 < janF G ∨ janF (G + 1) ≤ k2 + 1) : PD G k1 k2 .none := .inr (.inr ⟨rfl, gyr_not.mpr h, gyr_not.mpr h2⟩)
theorem PD.ra {G k1 k2 : Int} {v : Value} (hP : PD G k1 k2 v) (hA : gyr k1 = G) : ∃ t, v = .int (k1 + 1) t := by
  rcases hP with ⟨t, e, _⟩ | ⟨t, _, h, _⟩ | ⟨_, h, _⟩
  · exact ⟨t, e⟩
  · exact absurd hA h
  · exact absurd hA h
theorem PD.rb {G k1 k2 : Int} {v : Value} (hP : PD G k1 k2 v) (hA : gyr k1 ≠ G) (hB : gyr k2 = G) : ∃ t, v = .int (k2 + 1) t := by
  rcases hP with ⟨t, _, h⟩ | ⟨t, e, _⟩ | ⟨_, _, h⟩
  · exact absurd h hA
  · exact ⟨t, e⟩
  · exact absurd hB h
theorem PD.rc {G k1 k2 : Int} {v : Value} (hP : PD G k1 k2 v) (hA : gyr k1 ≠ G) (hB : gyr k2 ≠ G) : v = .none := by
  rcases hP with ⟨t, _, h⟩ | ⟨t, _, _, h⟩ | ⟨e, _⟩
  · exact absurd h hA
  · exact absurd h hB
  · exact e
def JDue (h₀ : Heap) (L : Addr) (m : Str → Option Value) (news : List (Addr × Obj)) (s : Shared) (G k1 k2 : Int) (v : Value) (s' : Shared) : Prop :=
  PD G k1 k2 v ∧ ∃ (h' : Heap) (tk' : Nat), s' = { s with heap := h', toks := tk' } ∧ Fr h₀ L h' m ∧ News h₀ L h' news
theorem JDue.intro {h₀ h' : Heap} {L : Addr} {m : Str → Option Value} {news : List (Addr × Obj)} {s : Shared} {tk' : Nat} {G k1 k2 : Int} {v : Value} (hP : PD G k1 k2 v) (F : Fr h₀ L h' m) (N : News h₀ L h' news) : JDue h₀ L m news s G k1 k2 v { s with heap := h', toks := tk' } := ⟨hP, h', tk', rfl, F, N⟩
/-- the feast's two numbers -/
structure FM (G k1 k2 : Int) : Prop where
  e1 : jdh (G + 3760) 1 15 = k1
  e2 : jdh (G + 3760 + 1) 1 15 = k2
structure OM (G k1 k2 : Int) : Prop where
  e1 : tish (G + 3760) + 1 = k1
  e2 : tish (G + 3760 + 1) + 1 = k2
section
variable {M : Model} {A : Around} {E : Value → Shared → Prop} {s : Shared} {h₀ : Heap} {L : Addr} {m : Str → Option Value} {news : List (Addr × Obj)}
theorem join_civ {st : Stmt} {env : Env} {Q : Flow → Shared → Prop} (_F : Fr h₀ L s.heap m) (_N : News h₀ L s.heap news)
    (hb : CivMk → wpAny M A (exec st env) (JCiv h₀ L m news s) E s)
    (k : CivMk → ∀ (G : Int) (tG : Tok) (h' : Heap) (tk' : Nat), -3760 < G → G ≤ 100000000 → Fr h₀ L h' (fun y => if y = Str.ofString "civil" then some (.int G tG) else m y) → News h₀ L h' news → Q .next { s with heap := h', toks := tk' }) :
    wpAny M A (exec st env) Q E s := by
  refine wpAny_mono (hb trivial) ?_ fun _ _ e => e
  rintro fl s' ⟨rfl, G, tG, h', tk', ⟨h1, h2⟩, rfl, F', N'⟩
  exact k trivial G tG h' tk' h1 h2 F' N'
theorem join_next {st : Stmt} {env : Env} {Q : Flow → Shared → Prop} (_F : Fr h₀ L s.heap m) (_N : News h₀ L s.heap news)
    (hb : wpAny M A (exec st env) (JNext h₀ L m news s) E s)
    (k : ∀ (h' : Heap) (tk' : Nat), Fr h₀ L h' m → News h₀ L h' news → Q .next { s with heap := h', toks := tk' }) :
    wpAny M A (exec st env) Q E s := by
  refine wpAny_mono hb ?_ fun _ _ e => e
  rintro fl s' ⟨rfl, h', tk', rfl, F', N'⟩
  exact k h' tk' F' N'
theorem join_due {f : Value} {vs : List Value} {Q : Value → Shared → Prop} (G k1 k2 : Int) (_F : Fr h₀ L s.heap m) (_N : News h₀ L s.heap news)
    (hb : wpAny M A (call f vs) (JDue h₀ L m news s G k1 k2) E s)
    (k : ∀ (v : Value) (h' : Heap) (tk' : Nat), PD G k1 k2 v → Fr h₀ L h' m → News h₀ L h' news → Q v { s with heap := h', toks := tk' }) :
    wpAny M A (call f vs) Q E s := by
  refine wpAny_mono hb ?_ fun _ _ e => e
  rintro v s' ⟨hP, h', tk', rfl, F', N'⟩
  exact k v h' tk' hP F' N'
theorem due_open {D : Addr} {G : Int} {t : Tok} {Q : Value → Shared → Prop} (F : Fr h₀ L s.heap m) (N : News h₀ L s.heap news)
    (hb : ∀ k1 k2, OM G k1 k2 → tish (G + 3760) + 1 = k1 → tish (G + 3760 + 1) + 1 = k2 → wpAny M A (call (.ref 232) [.ref D, .int G t]) (JDue h₀ L m news s G k1 k2) E s)
    (k : ∀ (k1 k2 : Int) (v : Value) (h' : Heap) (tk' : Nat), OM G k1 k2 → tish (G + 3760) + 1 = k1 → tish (G + 3760 + 1) + 1 = k2 → PD G k1 k2 v → Fr h₀ L h' m → News h₀ L h' news → Q v { s with heap := h', toks := tk' }) :
    wpAny M A (call (.ref 232) [.ref D, .int G t]) Q E s :=
  join_due G _ _ F N (hb _ _ ⟨rfl, rfl⟩ rfl rfl) fun v h' tk' hP F' N' => k _ _ v h' tk' ⟨rfl, rfl⟩ rfl rfl hP F' N'
theorem due_feast {D : Addr} {G k1 k2 : Int} {t : Tok} {Q : Value → Shared → Prop} (H : FM G k1 k2) (F : Fr h₀ L s.heap m) (N : News h₀ L s.heap news)
    (hb : wpAny M A (call (.ref 232) [.ref D, .int G t]) (JDue h₀ L m news s G k1 k2) E s)
    (k : ∀ (v : Value) (h' : Heap) (tk' : Nat), PD G k1 k2 v → Fr h₀ L h' m → News h₀ L h' news → Q v { s with heap := h', toks := tk' }) :
    wpAny M A (call (.ref 232) [.ref D, .int G t]) Q E s := join_due G k1 k2 F N hb k
theorem due_feast_a {D : Addr} {G k1 k2 : Int} {t : Tok} {Q : Value → Shared → Prop} (_H : FM G k1 k2) (hA : gyr k1 = G) (F : Fr h₀ L s.heap m) (N : News h₀ L s.heap news)
    (hb : wpAny M A (call (.ref 232) [.ref D, .int G t]) (JDue h₀ L m news s G k1 k2) E s)
    (k : ∀ (t : Tok) (h' : Heap) (tk' : Nat), Fr h₀ L h' m → News h₀ L h' news → Q (.int (k1 + 1) t) { s with heap := h', toks := tk' }) :
    wpAny M A (call (.ref 232) [.ref D, .int G t]) Q E s :=
  join_due G k1 k2 F N hb fun v h' tk' hP F' N' => by
    obtain ⟨t, e⟩ := PD.ra hP hA
    rw [e]
    exact k t h' tk' F' N'
theorem due_feast_b {D : Addr} {G k1 k2 : Int} {t : Tok} {Q : Value → Shared → Prop} (_H : FM G k1 k2) (hA : gyr k1 ≠ G) (hB : gyr k2 = G) (F : Fr h₀ L s.heap m) (N : News h₀ L s.heap news)
    (hb : wpAny M A (call (.ref 232) [.ref D, .int G t]) (JDue h₀ L m news s G k1 k2) E s)
    (k : ∀ (t : Tok) (h' : Heap) (tk' : Nat), Fr h₀ L h' m → News h₀ L h' news → Q (.int (k2 + 1) t) { s with heap := h', toks := tk' }) :
    wpAny M A (call (.ref 232) [.ref D, .int G t]) Q E s :=
  join_due G k1 k2 F N hb fun v h' tk' hP F' N' => by
    obtain ⟨t, e⟩ := PD.rb hP hA hB
    rw [e]
    exact k t h' tk' F' N'
theorem due_feast_c {D : Addr} {G k1 k2 : Int} {t : Tok} {Q : Value → Shared → Prop} (_H : FM G k1 k2) (hA : gyr k1 ≠ G) (hB : gyr k2 ≠ G) (F : Fr h₀ L s.heap m) (N : News h₀ L s.heap news)
    (hb : wpAny M A (call (.ref 232) [.ref D, .int G t]) (JDue h₀ L m news s G k1 k2) E s)
    (k : ∀ (h' : Heap) (tk' : Nat), Fr h₀ L h' m → News h₀ L h' news → Q (.none) { s with heap := h', toks := tk' }) :
    wpAny M A (call (.ref 232) [.ref D, .int G t]) Q E s :=
  join_due G k1 k2 F N hb fun v h' tk' hP F' N' => by
    rw [PD.rc hP hA hB]
    exact k h' tk' F' N'
theorem fork_feast {G : Int} {t : Tok} {Q : Value → Shared → Prop}
    (hA : ∀ k1 k2, FM G k1 k2 → jdh (G + 3760) 1 15 = k1 → jdh (G + 3760 + 1) 1 15 = k2 → gyr k1 = G → janF G ≤ k1 + 1 → k1 + 1 < janF (G + 1) → wpAny M A (call (.ref 246) [.int G t]) Q E s)
    (hB : ∀ k1 k2, FM G k1 k2 → jdh (G + 3760) 1 15 = k1 → jdh (G + 3760 + 1) 1 15 = k2 → gyr k1 ≠ G → (k1 + 1 < janF G ∨ janF (G + 1) ≤ k1 + 1) → gyr k2 = G → janF G ≤ k2 + 1 → k2 + 1 < janF (G + 1) → wpAny M A (call (.ref 246) [.int G t]) Q E s)
    (hC : ∀ k1 k2, FM G k1 k2 → jdh (G + 3760) 1 15 = k1 → jdh (G + 3760 + 1) 1 15 = k2 → gyr k1 ≠ G → (k1 + 1 < janF G ∨ janF (G + 1) ≤ k1 + 1) → gyr k2 ≠ G → (k2 + 1 < janF G ∨ janF (G + 1) ≤ k2 + 1) → wpAny M A (call (.ref 246) [.int G t]) Q E s) :
    wpAny M A (call (.ref 246) [.int G t]) Q E s := by
  by_cases a : gyr (jdh (G + 3760) 1 15) = G
  · have a' := gyr_iff.mp a
    exact hA _ _ ⟨rfl, rfl⟩ rfl rfl a a'.1 a'.2
  · have a' := gyr_not.mp a
    by_cases b : gyr (jdh (G + 3760 + 1) 1 15) = G
    · have b' := gyr_iff.mp b
      exact hB _ _ ⟨rfl, rfl⟩ rfl rfl a a' b b'.1 b'.2
    · exact hC _ _ ⟨rfl, rfl⟩ rfl rfl a a' b (gyr_not.mp b)
end
local macro_rules | `(tactic| tm_at "on exec If") => `(tactic| ((with_reducible show wpAny _ _ (exec (Stmt.If (Expr.Compare _ _ [Expr.Constant (Const.int 1) _ _] _) _ (_ :: _) _) _) _ _ _); (fail_if_success (with_reducible rename CivMk => mkQ)); k_here; (rename Fr _ _ _ _ => lF'); (rename News _ _ _ _ => lN'); (refine' join_civ lF' lN' ?jct ?jcn); (case' jct => intro mk9); (case' jcn => intro mk9 G9 tG9 h9 tk9 hG9 hG8 F9 N9); (all_goals (try dsimp only)); (all_goals (try k_fold))))
local macro_rules | `(tactic| tm_at "on JCiv") => `(tactic| ((rename Fr _ _ _ _ => lF'); (refine' JCiv.intro lF' ?zN ?z1 ?z2); (case zN => first | k_asm | (refine' cb_drop ?cbN ?cbS; (case cbN => assumption); (case cbS => kcj_all))); (case z1 => omega); (case z2 => omega)))
local macro_rules | `(tactic| tm_at "on JNext") => `(tactic| ((refine' JNext.intro ?zF ?zN); (case zF => k_asm); (case zN => first | k_asm | (refine' cb_drop ?cbN ?cbS; (case cbN => assumption); (case cbS => kcj_all)))))
local macro_rules | `(tactic| tm_at "on JDue") => `(tactic| ((refine' JDue.intro ?zP ?zF ?zN); (case zF => k_asm); (case zN => first | k_asm | (refine' cb_drop ?cbN ?cbS; (case cbN => assumption); (case cbS => kcj_all))); (case zP => first | exact PD.ic (by omega) (by omega) | exact PD.ia (by omega) (by omega) (by omega) | exact PD.ib (by omega) (by omega) (by omega) (by omega))))
local macro_rules | `(tactic| tm_at "on exec If") => `(tactic| ((with_reducible show wpAny _ _ (exec (Stmt.If (Expr.UnaryOp _ (Expr.Call _ [Expr.Call _ _ _ _, _] _ _) _) _ _ _) _) _ _ _); (fail_if_success (with_reducible show wpAny _ _ _ (JNext _ _ _ _ _) _ _)); k_here; (rename PD _ _ _ _ => hP); (rename Fr _ _ _ _ => lF'); (rename News _ _ _ _ => lN'); (refine' join_next lF' lN' ?jnt ?jnn); (case' jnt => rcases PD.or hP with ⟨t9, e9, hA9⟩ | ⟨t9, e9, hA9, hB9⟩ | ⟨e9, hA9, hB9⟩ <;> subst e9); (case' jnn => intro h9 tk9 F9 N9); (all_goals (try dsimp only)); (all_goals (try k_fold))))
local macro_rules | `(tactic| tm_at "on call ref") => `(tactic| (k_here; (with_reducible show wpAny _ _ (call (Value.ref 232) [Value.ref _, Value.int _ _]) _ _ _); (fail_if_success (with_reducible show wpAny _ _ _ (JDue _ _ _ _ _ _ _ _) _ _)); (fail_if_success (with_reducible rename FM _ _ _ => fmQ)); (rename Fr _ _ _ _ => lF'); (rename News _ _ _ _ => lN'); (refine' due_open lF' lN' ?dot ?don); (case' dot => (intro k19 k29 hO9 hk19 hk29; refine wpAny_call ?_; k_dflt (tm_at "mine enter"))); (case' don => intro k19 k29 v9 h9 tk9 hO9 hk19 hk29 hP9 F9 N9); (all_goals (try dsimp only)); (all_goals (try k_fold))))
local macro_rules | `(tactic| tm_at "on call ref") => `(tactic| (k_here; (with_reducible show wpAny _ _ (call (Value.ref 232) [Value.ref _, Value.int _ _]) _ _ _); (fail_if_success (with_reducible show wpAny _ _ _ (JDue _ _ _ _ _ _ _ _) _ _)); (with_reducible rename FM _ _ _ => hF9); (rename Fr _ _ _ _ => lF'); (rename News _ _ _ _ => lN'); (refine' due_feast_c hF9 ?cA ?cB lF' lN' (wpAny_call ?_) (fun h9 tk9 F9 N9 => ?_)); (case cA => assumption); (case cB => assumption); (first | (k_dflt (tm_at "mine enter")) | skip); (all_goals (try dsimp only)); (all_goals (try k_fold))))
local macro_rules | `(tactic| tm_at "on call ref") => `(tactic| (k_here; (with_reducible show wpAny _ _ (call (Value.ref 232) [Value.ref _, Value.int _ _]) _ _ _); (fail_if_success (with_reducible show wpAny _ _ _ (JDue _ _ _ _ _ _ _ _) _ _)); (with_reducible rename FM _ _ _ => hF9); (rename Fr _ _ _ _ => lF'); (rename News _ _ _ _ => lN'); (refine' due_feast_b hF9 ?cA ?cB lF' lN' (wpAny_call ?_) (fun t9 h9 tk9 F9 N9 => ?_)); (case cA => assumption); (case cB => assumption); (first | (k_dflt (tm_at "mine enter")) | skip); (all_goals (try dsimp only)); (all_goals (try k_fold))))
local macro_rules | `(tactic| tm_at "on call ref") => `(tactic| (k_here; (with_reducible show wpAny _ _ (call (Value.ref 232) [Value.ref _, Value.int _ _]) _ _ _); (fail_if_success (with_reducible show wpAny _ _ _ (JDue _ _ _ _ _ _ _ _) _ _)); (with_reducible rename FM _ _ _ => hF9); (rename Fr _ _ _ _ => lF'); (rename News _ _ _ _ => lN'); (refine' due_feast_a hF9 ?cA lF' lN' (wpAny_call ?_) (fun t9 h9 tk9 F9 N9 => ?_)); (case cA => assumption); (first | (k_dflt (tm_at "mine enter")) | skip); (all_goals (try dsimp only)); (all_goals (try k_fold))))

theorem ask_spr1 (w : World) (G : Int) (t : Tok) (h1 : -3760 < G) (h2 : G ≤ 100000000) : AskZ w 3 192 [.int (G + 3759) t] (fun z => z + 161 = tish (G + 3760) ∧ 347996 ≤ tish (G + 3760) ∧ tish (G + 3760) ≤ 37000000000) := by
  refine ask_z (ask_spring w (G + 3759) t (by omega) (by omega)) ?_
  have g := gauss (G + 3759)
  rw [show G + 3759 + 1 = G + 3760 by omega] at g
  have := tish_hi (y := G + 3760) (by omega) (by omega)
  omega
theorem ask_spr2 (w : World) (G : Int) (t : Tok) (h1 : -3760 < G) (h2 : G ≤ 100000000) : AskZ w 3 192 [.int (G + 3760) t] (fun z => z + 161 = tish (G + 3760 + 1) ∧ z = jdh (G + 3760) 1 15 + 1 ∧ 347996 ≤ tish (G + 3760 + 1) ∧ tish (G + 3760 + 1) ≤ 37000000000) := by
  refine ask_z (ask_spring w (G + 3760) t (by omega) (by omega)) ?_
  have g := gauss (G + 3760)
  have p := pass_eq (G + 3760)
  have := tish_hi (y := G + 3760 + 1) (by omega) (by omega)
  omega
theorem ask_spr3 (w : World) (G : Int) (t : Tok) (h1 : -3760 < G) (h2 : G ≤ 100000000) : AskZ w 3 192 [.int (G + 3761) t] (fun z => z = jdh (G + 3760 + 1) 1 15 + 1 ∧ 347000 ≤ z ∧ z ≤ 37000000000) := by
  refine ask_z (ask_spring w (G + 3761) t (by omega) (by omega)) ?_
  have g := gauss (G + 3761)
  have p := pass_eq (G + 3761)
  rw [show G + 3761 = G + 3760 + 1 by omega] at *
  have := tish_hi (y := G + 3760 + 1 + 1) (by omega) (by omega)
  omega
local macro_rules | `(tactic| tm_at "on call ref") => `(tactic| (k_here; (with_reducible show wpAny _ _ (call (Value.ref 192) [Value.int (_ + 3759) _]) _ _ _); k_dflt (refine' (ask_spr1 _ _ _ ?c0 ?c1) _ _ _ _ _ _ _ _ _ _ _ _ _ _ _ _ _ _ _ _ _ _ _ ?k1 ?k2 ?k3 ?k4 ?k5 ?kK ?kd ?ku ?_); (case k1 => k_asm); (case k2 => k_asm); (case k3 => k_asm); (case k4 => k_asm); (case k5 => k_asm); (case kK => first | exact rfl | assumption); (case kd => ktr_room); (case ku => ktr_units); (case c0 => omega); (case c1 => omega); intro z9 t9 h9 tk9 ⟨hz9, hz8, hz7⟩ F9 N9; (try dsimp only); (try k_fold); skip))
local macro_rules | `(tactic| tm_at "on call ref") => `(tactic| (k_here; (with_reducible show wpAny _ _ (call (Value.ref 192) [Value.int (_ + 3760) _]) _ _ _); k_dflt (refine' (ask_spr2 _ _ _ ?c0 ?c1) _ _ _ _ _ _ _ _ _ _ _ _ _ _ _ _ _ _ _ _ _ _ _ ?k1 ?k2 ?k3 ?k4 ?k5 ?kK ?kd ?ku ?_); (case k1 => k_asm); (case k2 => k_asm); (case k3 => k_asm); (case k4 => k_asm); (case k5 => k_asm); (case kK => first | exact rfl | assumption); (case kd => ktr_room); (case ku => ktr_units); (case c0 => omega); (case c1 => omega); intro z9 t9 h9 tk9 ⟨hz9, hz8, hz7, hz6⟩ F9 N9; (try dsimp only); (try k_fold); skip))
local macro_rules | `(tactic| tm_at "on call ref") => `(tactic| (k_here; (with_reducible show wpAny _ _ (call (Value.ref 192) [Value.int (_ + 3761) _]) _ _ _); k_dflt (refine' (ask_spr3 _ _ _ ?c0 ?c1) _ _ _ _ _ _ _ _ _ _ _ _ _ _ _ _ _ _ _ _ _ _ _ ?k1 ?k2 ?k3 ?k4 ?k5 ?kK ?kd ?ku ?_); (case k1 => k_asm); (case k2 => k_asm); (case k3 => k_asm); (case k4 => k_asm); (case k5 => k_asm); (case kK => first | exact rfl | assumption); (case kd => ktr_room); (case ku => ktr_units); (case c0 => omega); (case c1 => omega); intro z9 t9 h9 tk9 ⟨hz9, hz8, hz7⟩ F9 N9; (try dsimp only); (try k_fold); skip))
theorem open_a (w : World) (G : Int) (t : Tok) {k1 k2 : Int} (hM : OM G k1 k2) (hG0 : -3760 < G) (hG2 : G ≤ 100000000) (hb1 : 300000 < k1) (hb2 : k1 < 40000000000) (hb3 : 300000 < k2) (hb4 : k2 < 40000000000) (hA : gyr k1 = G) : Ask3w w 14 239 [.int G t] (gyr k1) (gmo k1) (gda k1) := by
  obtain ⟨e1, e2⟩ := hM
  subst e1; subst e2
  exact ask_open_A w G t hG0 (by omega) ⟨hb1, by omega⟩ ⟨hb3, by omega⟩ hA
theorem open_b (w : World) (G : Int) (t : Tok) {k1 k2 : Int} (hM : OM G k1 k2) (hG0 : -3760 < G) (hG2 : G ≤ 100000000) (hb1 : 300000 < k1) (hb2 : k1 < 40000000000) (hb3 : 300000 < k2) (hb4 : k2 < 40000000000) (hA : gyr k1 ≠ G) (hB : gyr k2 = G) : Ask3w w 14 239 [.int G t] (gyr k2) (gmo k2) (gda k2) := by
  obtain ⟨e1, e2⟩ := hM
  subst e1; subst e2
  exact ask_open_B w G t hG0 (by omega) ⟨hb1, by omega⟩ ⟨hb3, by omega⟩ hA hB
theorem open_c (w : World) (G : Int) (t : Tok) {k1 k2 : Int} (hM : OM G k1 k2) (hG0 : -3760 < G) (hG2 : G ≤ 100000000) (hb1 : 300000 < k1) (hb2 : k1 < 40000000000) (hb3 : 300000 < k2) (hb4 : k2 < 40000000000) (hA : gyr k1 ≠ G) (hB : gyr k2 ≠ G) : AskL w 14 239 [.int G t] (fun t => .str (Str.ofString "refused") t) := by
  obtain ⟨e1, e2⟩ := hM
  subst e1; subst e2
  exact ask_open_C w G t hG0 (by omega) ⟨hb1, by omega⟩ ⟨hb3, by omega⟩ hA hB
local macro_rules | `(tactic| tm_at "on call ref") => `(tactic| (k_here; (with_reducible show wpAny _ _ (call (Value.ref 239) _) _ _ _); (with_reducible rename OM _ _ _ => hM9); k_dflt (refine' (open_a _ _ _ hM9 ?c0 ?c1 ?c2 ?c3 ?c4 ?c5 ?cA) _ _ _ _ _ _ _ _ _ _ _ _ _ _ _ _ _ _ _ _ _ _ _ ?k1 ?k2 ?k3 ?k4 ?k5 ?kK ?kd ?ku ?_); (case cA => assumption); (case c0 => omega); (case c1 => omega); (case c2 => omega); (case c3 => omega); (case c4 => omega); (case c5 => omega); (case k1 => k_asm); (case k2 => k_asm); (case k3 => k_asm); (case k4 => k_asm); (case k5 => k_asm); (case kK => first | exact rfl | assumption); (case kd => ktr_room); (case ku => ktr_units); intro D9 t19 t29 t39 n9 h9 tk9 F9 N9; (try dsimp only); (try k_fold)))
local macro_rules | `(tactic| tm_at "on call ref") => `(tactic| (k_here; (with_reducible show wpAny _ _ (call (Value.ref 239) _) _ _ _); (with_reducible rename OM _ _ _ => hM9); k_dflt (refine' (open_b _ _ _ hM9 ?c0 ?c1 ?c2 ?c3 ?c4 ?c5 ?cA ?cB) _ _ _ _ _ _ _ _ _ _ _ _ _ _ _ _ _ _ _ _ _ _ _ ?k1 ?k2 ?k3 ?k4 ?k5 ?kK ?kd ?ku ?_); (case cA => assumption); (case cB => assumption); (case c0 => omega); (case c1 => omega); (case c2 => omega); (case c3 => omega); (case c4 => omega); (case c5 => omega); (case k1 => k_asm); (case k2 => k_asm); (case k3 => k_asm); (case k4 => k_asm); (case k5 => k_asm); (case kK => first | exact rfl | assumption); (case kd => ktr_room); (case ku => ktr_units); intro D9 t19 t29 t39 n9 h9 tk9 F9 N9; (try dsimp only); (try k_fold)))
local macro_rules | `(tactic| tm_at "on call ref") => `(tactic| (k_here; (with_reducible show wpAny _ _ (call (Value.ref 239) _) _ _ _); (with_reducible rename OM _ _ _ => hM9); k_dflt (refine' (open_c _ _ _ hM9 ?c0 ?c1 ?c2 ?c3 ?c4 ?c5 ?cA ?cB) _ _ _ _ _ _ _ _ _ _ _ _ _ _ _ _ _ _ _ _ ?k1 ?k2 ?k3 ?k4 ?k5 ?kK ?kd ?ku ?_); (case cA => assumption); (case cB => assumption); (case c0 => omega); (case c1 => omega); (case c2 => omega); (case c3 => omega); (case c4 => omega); (case c5 => omega); (case k1 => k_asm); (case k2 => k_asm); (case k3 => k_asm); (case k4 => k_asm); (case k5 => k_asm); (case kK => first | exact rfl | assumption); (case kd => ktr_room); (case ku => ktr_units); intro t9 h9 tk9 F9 N9; (try dsimp only); (try k_fold)))
theorem feast_a (w : World) (G : Int) (t : Tok) {k1 k2 : Int} (hM : FM G k1 k2) (hG0 : -3760 < G) (hG2 : G ≤ 100000000) (hb1 : 300000 < k1) (hb2 : k1 < 40000000000) (hb3 : 300000 < k2) (hb4 : k2 < 40000000000) (hA : gyr k1 = G) : Ask3w w 14 246 [.int G t] (gyr k1) (gmo k1) (gda k1) := by
  obtain ⟨e1, e2⟩ := hM
  subst e1; subst e2
  exact ask_feast_A w G t hG0 (by omega) ⟨hb1, by omega⟩ ⟨hb3, by omega⟩ hA
theorem feast_b (w : World) (G : Int) (t : Tok) {k1 k2 : Int} (hM : FM G k1 k2) (hG0 : -3760 < G) (hG2 : G ≤ 100000000) (hb1 : 300000 < k1) (hb2 : k1 < 40000000000) (hb3 : 300000 < k2) (hb4 : k2 < 40000000000) (hA : gyr k1 ≠ G) (hB : gyr k2 = G) : Ask3w w 14 246 [.int G t] (gyr k2) (gmo k2) (gda k2) := by
  obtain ⟨e1, e2⟩ := hM
  subst e1; subst e2
  exact ask_feast_B w G t hG0 (by omega) ⟨hb1, by omega⟩ ⟨hb3, by omega⟩ hA hB
theorem feast_c (w : World) (G : Int) (t : Tok) {k1 k2 : Int} (hM : FM G k1 k2) (hG0 : -3760 < G) (hG2 : G ≤ 100000000) (hb1 : 300000 < k1) (hb2 : k1 < 40000000000) (hb3 : 300000 < k2) (hb4 : k2 < 40000000000) (hA : gyr k1 ≠ G) (hB : gyr k2 ≠ G) : AskL w 14 246 [.int G t] (fun t => .str (Str.ofString "refused") t) := by
  obtain ⟨e1, e2⟩ := hM
  subst e1; subst e2
  exact ask_feast_C w G t hG0 (by omega) ⟨hb1, by omega⟩ ⟨hb3, by omega⟩ hA hB
local macro_rules | `(tactic| tm_at "on call ref") => `(tactic| (k_here; (with_reducible show wpAny _ _ (call (Value.ref 246) _) _ _ _); (with_reducible rename FM _ _ _ => hM9); k_dflt (refine' (feast_a _ _ _ hM9 ?c0 ?c1 ?c2 ?c3 ?c4 ?c5 ?cA) _ _ _ _ _ _ _ _ _ _ _ _ _ _ _ _ _ _ _ _ _ _ _ ?k1 ?k2 ?k3 ?k4 ?k5 ?kK ?kd ?ku ?_); (case cA => assumption); (case c0 => omega); (case c1 => omega); (case c2 => omega); (case c3 => omega); (case c4 => omega); (case c5 => omega); (case k1 => k_asm); (case k2 => k_asm); (case k3 => k_asm); (case k4 => k_asm); (case k5 => k_asm); (case kK => first | exact rfl | assumption); (case kd => ktr_room); (case ku => ktr_units); intro D9 t19 t29 t39 n9 h9 tk9 F9 N9; (try dsimp only); (try k_fold)))
local macro_rules | `(tactic| tm_at "on call ref") => `(tactic| (k_here; (with_reducible show wpAny _ _ (call (Value.ref 246) _) _ _ _); (with_reducible rename FM _ _ _ => hM9); k_dflt (refine' (feast_b _ _ _ hM9 ?c0 ?c1 ?c2 ?c3 ?c4 ?c5 ?cA ?cB) _ _ _ _ _ _ _ _ _ _ _ _ _ _ _ _ _ _ _ _ _ _ _ ?k1 ?k2 ?k3 ?k4 ?k5 ?kK ?kd ?ku ?_); (case cA => assumption); (case cB => assumption); (case c0 => omega); (case c1 => omega); (case c2 => omega); (case c3 => omega); (case c4 => omega); (case c5 => omega); (case k1 => k_asm); (case k2 => k_asm); (case k3 => k_asm); (case k4 => k_asm); (case k5 => k_asm); (case kK => first | exact rfl | assumption); (case kd => ktr_room); (case ku => ktr_units); intro D9 t19 t29 t39 n9 h9 tk9 F9 N9; (try dsimp only); (try k_fold)))
local macro_rules | `(tactic| tm_at "on call ref") => `(tactic| (k_here; (with_reducible show wpAny _ _ (call (Value.ref 246) _) _ _ _); (with_reducible rename FM _ _ _ => hM9); k_dflt (refine' (feast_c _ _ _ hM9 ?c0 ?c1 ?c2 ?c3 ?c4 ?c5 ?cA ?cB) _ _ _ _ _ _ _ _ _ _ _ _ _ _ _ _ _ _ _ _ ?k1 ?k2 ?k3 ?k4 ?k5 ?kK ?kd ?ku ?_); (case cA => assumption); (case cB => assumption); (case c0 => omega); (case c1 => omega); (case c2 => omega); (case c3 => omega); (case c4 => omega); (case c5 => omega); (case k1 => k_asm); (case k2 => k_asm); (case k3 => k_asm); (case k4 => k_asm); (case k5 => k_asm); (case kK => first | exact rfl | assumption); (case kd => ktr_room); (case ku => ktr_units); intro t9 h9 tk9 F9 N9; (try dsimp only); (try k_fold)))

local macro_rules | `(tactic| tm_at "on call ref") => `(tactic| (k_here; (with_reducible show wpAny _ _ (call (Value.ref 246) [Value.int _ _]) _ _ _); (fail_if_success (with_reducible rename FM _ _ _ => fmQ)); (refine' fork_feast ?ffA ?ffB ?ffC); (case' ffA => intro k19 k29 hF9 hk19 hk29 hA9 hA8 hA7); (case' ffB => intro k19 k29 hF9 hk19 hk29 hA9 hA8 hB9 hB8 hB7); (case' ffC => intro k19 k29 hF9 hk19 hk29 hA9 hA8 hB9 hB8)))

/- Pn -/
open PyProof.Rows.LCg PyProof.Rows.LCt
set_option maxHeartbeats 2000000
/-- a tuple that stands in the frame's ground -/
def GTup (g : Heap) (D : Addr) (its : Array Value) : Prop := ∃ c, g.get? D = some ({ cls := .type "tuple", data := .seq its c } : Obj)
theorem GTup.at {g h : Heap} {D L : Addr} {its : Array Value} {m : Str → Option Value} (x : GTup g D its) (F : Fr g L h m) : h.IsTuple D its := let ⟨c, e⟩ := x; ⟨_, F.keep _ _ e, rfl, c, rfl⟩
/-- such a tuple as the source of a list comprehension with one test -/
def SrcTup (prog : Program) (w : World) (A : Around) (h₀ : Heap) (L : Addr) (m : Str → Option Value) (env : Env) (ct elt : Expr) (x : Str) (scope : Scope) (cl : List (Str × Addr)) (Fin : Shared → List Value → List (Addr × Obj) → Prop) (xv : Value) (s₁ : Shared) : Prop :=
  ∃ (ax : Addr) (its : Array Value) (news : List (Addr × Obj)), xv = .ref ax ∧ A.handled = none ∧ Fr h₀ L s₁.heap m ∧ News h₀ L s₁.heap news ∧ GTup h₀ ax its ∧ its.size ≤ sizeLine ∧
    ∀ g, CompRestT prog w A h₀ L m env ct elt x scope cl { s₁ with heap := g } (fun _ => True) (fun i v => its[i]? = some v) (Fin { s₁ with heap := g }) its.size 0 [] news
section
variable {prog : Program} {w : World} {A : Around} {E : Value → Shared → Prop} {s : Shared} {h₀ : Heap} {L : Addr} {m : Str → Option Value} {env : Env}
theorem SrcTup.intro {ct elt : Expr} {x : Str} {scope : Scope} {cl : List (Str × Addr)} {Fin : Shared → List Value → List (Addr × Obj) → Prop} {ax : Addr} {its : Array Value} {news : List (Addr × Obj)} {s₁ : Shared}
    (hh : A.handled = none) (F : Fr h₀ L s₁.heap m) (N : News h₀ L s₁.heap news) (hm : GTup h₀ ax its) (hsz : its.size ≤ sizeLine)
    (h : ∀ g, CompRestT prog w A h₀ L m env ct elt x scope cl { s₁ with heap := g } (fun _ => True) (fun i v => its[i]? = some v) (Fin { s₁ with heap := g }) its.size 0 [] news) :
    SrcTup prog w A h₀ L m env ct elt x scope cl Fin (.ref ax) s₁ := ⟨ax, its, news, rfl, hh, F, N, hm, hsz, h⟩
theorem comp_tup {ct elt iter : Expr} {x : Str} {px : Pos} {scope : Scope} {cl : List (Str × Addr)} {pos : Pos} {Q : Value → Shared → Prop} (_F₀ : Fr h₀ L s.heap m)
    (hclos : closureFor scope env = pure cl) (hcell : ∀ y ∈ scope.names, y.2 ≠ .cell) (hkind : scope.kind = .function)
    (hnames : ∀ y ∈ scope.names, y.2 = .local → scope.names.lookup y.1 = some .local) (hx : scope.names.lookup x = some .local)
    (h : wpAny (model prog w) A (eval iter env) (SrcTup prog w A h₀ L m env ct elt x scope cl (fun s₂ => FinE h₀ L m s₂ Q)) E s)
    (hs : ∀ x, foldedSetIterable iter env x = pure x := by intro _; rfl) :
    wpAny (model prog w) A (eval (.ListComp elt [⟨.Name x px, iter, [ct], 0⟩] scope pos) env) Q E s := by
  rw [eval_ListComp]
  refine wpAny_comprehension_free (use := none) rfl hs hclos hkind hnames (wpAny_mono h ?_ fun _ _ e => e)
  rintro xv s₁ ⟨ax, its, news, rfl, hh, F, N, hm, hsz, R⟩
  have ht : s₁.heap.IsTuple ax its := hm.at F
  have hlt : ax < s₁.heap.objs.size := by obtain ⟨_, e, _⟩ := ht; exact Heap.lt_size e
  refine wpAny_pyIter_tuple ht ?_
  generalize hH : s₁.heap.push { cls := .type "tuple_iterator", data := .fields #[.ref ax, .int 0 0] } = H
  have up : ∀ b o, s₁.heap.get? b = some o → H.get? b = some o := fun b o e => hH ▸ Heap.get?_push_of_some _ e
  have hI : H.get? s₁.heap.objs.size = some { cls := .type "tuple_iterator", data := .fields #[.ref ax, .int 0 0] } := hH ▸ Heap.get?_push_size _ rfl
  have hsize : H.objs.size = s₁.heap.objs.size + 1 := by rw [← hH, Heap.size_push]
  refine block_T (s₂ := { s₁ with heap := H }) (Walks.tuple hh s₁.heap.objs.size ax (Nat.ne_of_lt hlt) its) hsz (fun i h st => by obtain ⟨o, e, _⟩ := st.1; exact ⟨o, e⟩) ?_ hcell hkind hx ⟨⟨_, hI, rfl, rfl⟩, ht.at (fun o e => up _ o e)⟩ (fun b hb => ?_)
    (F.keeps up) (N.grown up) (Nat.ne_of_lt F.ns.lt) (next_is_new F) (fun p hp => Nat.ne_of_lt (Heap.lt_size (N p hp).1)) trivial (R _) ?_
  · intro i h h' o nw st e e' k N' _
    refine ⟨?_, let ⟨c, z⟩ := hm; ⟨_, k _ _ z, rfl, c, rfl⟩⟩
    obtain ⟨o', q, r⟩ := st.1
    rw [e] at q
    cases q
    exact ⟨o, e', r⟩
  · show b < H.objs.size
    rw [hsize]
    have hb' : b = s₁.heap.objs.size ∨ b = ax := by simpa using hb
    rcases hb' with rfl | rfl
    · exact Nat.lt_succ_self _
    · exact Nat.lt_succ_of_lt hlt
  · intro D C h tk m' ys news' F' N' o1 hn hC₀ hD₀ hCL hDL hCD offC fin
    refine ⟨m', hn, fun h'' hs'' => fin D h'' tk (F'.change hs'' hCL hC₀) (fun p hp => ?_) o1⟩
    refine ⟨hs''.extBut _ _ ?_ (N' p hp).1, (N' p hp).2⟩
    rcases List.mem_cons.mp hp with rfl | hp
    · exact Ne.symm hCD
    · exact offC p hp
end
section
variable {prog : Program} {w : World} {A A₀ : Around} {E : Value → Shared → Prop} {s : Shared} {K : Frag} {L : Addr} {h₀ base : Heap} {m mg mb : Str → Option Value} {news : List (Addr × Obj)} {p : Program} {loose : List Str} {mean : ExcName → Option Value}
/-- a call entered with an empty ledger; what stands stands in the new ground -/
theorem code_full2 {env : Env} {outer : List Env} {R : Result → Shared → Prop} {name qual : Str} {params : Arguments} {body : List Stmt} {scope : Scope} {dV kV doc pm cdv ct oc : Value} {an od : Option Addr} {osl : Array (Option Value)} {f : Addr} {args : Args} {binds : List (Str × Value)}
    {D : Addr} {its : Array Value} (hT : GTup s.heap D its)
    (B : Below A₀ base outer h₀) (F : Fr h₀ L s.heap m) (X₀ : K.In h₀) (N : News h₀ L s.heap news) (T : Top p loose mean mg mb h₀) (hA : A.frames = some (env :: outer)) (hf : env.frame = some L) (hke : env.scope.kind = .function)
    (ho : K.lookup f = some ⟨oc, od, .func (fnOf name qual params body scope dV kV doc pm an cdv ct), osl⟩) (hcd : codeIn K cdv qual = true) (hroom : A.depth < recursionLimit)
    (hbind : BindsTo s (fnOf name qual params body scope dV kV doc pm an cdv ct) args binds) (hloc : ∀ y ∈ binds, scope.names.lookup y.1 = some .local)
    (h : ∀ g L' h₁, GTup g D its → Fr g L' h₁ (fun y => binds.reverse.lookup y) → News g L' h₁ [] → Below A base (env :: outer) g → K.In g → Top p loose mean mg mb g →
      wpAny (model prog w) (A.deeper (envOf qual scope L' f cdv)) (execs body (envOf qual scope L' f cdv))
        (fun fl s' => LeaveF h₀ L m news g R (match fl with | .ret v => v | _ => .none) s')
        (fun e s' => wpAny (model prog w) (A.deeper (envOf qual scope L' f cdv)) (leaving (envOf qual scope L' f cdv) e) (fun _ s'' => R (.error e) s'') (fun e' s'' => R (.error e') s'') s')
        { s with heap := h₁, toks := s.toks + binds.length })
    (hco : scope.isCoroutine = false) (hgen : scope.isGenerator = false) (hk : scope.kind = .function)
    (hcell : ∀ x ∈ scope.names, x.2 ≠ .cell) : codeAny (model prog w) A (.call (.ref f) args) R s := by
  have N0 : News h₀ L s.heap [] := fun _ hp => nomatch hp
  obtain ⟨FG, BG, st, _⟩ := groundX (R := R) B F N0 hA hf hke
  refine codeAny_call_def (fd := fnOf name qual params body scope dV kV doc pm an cdv ct) (body := body) (binds := binds) hroom ((X₀.keeps F.keep) _ _ ho) rfl (T.nolimit.keeps F.keep) (codeRec_of (X₀.keeps F.keep) hcd) rfl hbind hcell hloc (fun h₁ hns hk₁ => ?_) hco hgen hk
  refine wpAny_mono (h s.heap s.heap.objs.size h₁ hT ⟨hns, hk₁, Nat.le_refl _⟩ (fun _ hp => nomatch hp) BG (X₀.keeps F.keep) (T.keeps F.keep)) (fun fl s' hl => ?_) fun _ _ y => y
  obtain ⟨L', m', news', F', N', k⟩ := hl
  obtain ⟨oL, es, ep, hL, hLd, hLk, hLf⟩ := F.ns
  refine k ⟨⟨oL, es, ep, F'.keep L oL hL, hLd, hLk, hLf⟩, fun b o e => F'.keep b o (F.keep b o e), F.above⟩ fun q hq => ?_
  rcases List.mem_append.mp hq with hq | hq
  · refine ⟨(N' q hq).1, fun e => ?_, ?_⟩
    · have := (N' q hq).2.2; rw [e, hL] at this; cases this
    · cases z : h₀.get? q.1 with
      | none => rfl
      | some o => have := (N' q hq).2.2; rw [F.keep _ _ z] at this; cases this
  · exact ⟨F'.keep _ _ (N q hq).1, (N q hq).2.1, (N q hq).2.2⟩
theorem g_isi {D : Addr} {its : Array Value} {Q : Value → Shared → Prop} (hT : GTup h₀ D its) (F : Fr h₀ L s.heap m) (h : Q (.bool true) s) : wpAny (model prog w) A (call (.builtin "isinstance") [.ref D, .type "tuple"]) Q E s := by
  obtain ⟨o, e, c, _⟩ := hT.at F
  exact IsiPair.tuple_tuple e c h
theorem g_len {D : Addr} {x y z : Value} {Q : Value → Shared → Prop} (hT : GTup h₀ D #[x, y, z]) (F : Fr h₀ L s.heap m) (h : Q (.int 3 (s.toks + 1)) { s with toks := s.toks + 1 + 1 }) : wpAny (model prog w) A (call (.builtin "len") [.ref D]) Q E s :=
  len_tuple (hT.at F) (by show (3 : Int) < 2 ^ 63; decide) h
end
local macro_rules | `(tactic| tm_at "on call builtin:isinstance") => `(tactic| (k_here; (with_reducible show wpAny _ _ (call (.builtin "isinstance") [.ref _, .type "tuple"]) _ _ _); (refine' g_isi ?k1 ?k2 ?_); (case k1 => assumption); (case k2 => k_asm); k_whole))
local macro_rules | `(tactic| tm_at "on call builtin:len") => `(tactic| (k_here; (refine' g_len ?k1 ?k2 ?_); (case k1 => assumption); (case k2 => k_asm); k_whole))
local macro_rules | `(tactic| tm_at "on eval ListComp") => `(tactic| (k_here; lct_look; lcg_calm; k_dflt (refine comp_tup (_F₀ := by k_asm) (by with_unfolding_all rfl) (by decide) (by rfl) (by decide) (by rfl) ?_)))
local macro_rules | `(tactic| tm_at "on SrcTup") => `(tactic| (k_here; k_dflt (refine SrcTup.intro (by rfl) (by k_asm) (by k_asm) (by assumption) (by first | size_fits | exact Nat.le_of_ble_eq_true rfl) ?_; intro g'; lct_lit)))
local macro_rules | `(tactic| tm_at "mine full2") => `(tactic| (refine' code_full2 ?kT ?k1 ?k2 ?k3 ?k4 ?k5 ?kA ?kF ?kK ?k6 ?k7 ?k8 ?k9 ?kB ?_ ?c2 ?c3 ?c4 ?c5; (case kT => assumption); (case kA => exact rfl); (case kF => exact rfl); (case kK => first | exact rfl | assumption); (case k1 => k_asm); (case k2 => k_asm); (case k3 => k_asm); (case k4 => k_asm); (case k5 => k_asm); (case k6 => k_is); (case k7 => k_is); (case k8 => ktr_room); (case k9 => first | exact BindsTo.of_eq rfl | exact binds_K (by k_in) rfl (by k_is) rfl rfl rfl); (case c5 => decide); (case kB => exact locs rfl); (case c2 => exact rfl); (case c3 => exact rfl); (case c4 => exact rfl); k_whole; intro g' L' h' hT' F' N' B' X' T'; (try dsimp only); (try k_fold)))
theorem ret_true {h₀ h' : Heap} {L : Addr} {m : Str → Option Value} {news news' : List (Addr × Obj)} {s : Shared} {Q : Value → Shared → Prop} {tk' : Nat} {b : Bool} (hret : Ret h₀ L m news s Q (fun _ => .bool true)) (F : Fr h₀ L h' m) (N : News h₀ L h' (news' ++ news)) (e : b = true) : Q (.bool b) { s with heap := h', toks := tk' } := by
  subst e
  exact hret 0 h' tk' F fun p hp => N p (List.mem_append_right _ hp)
theorem ask_plain (w : World) (D : Addr) (a b c : Int) (t1 t2 t3 : Tok) (n : Nat) :
   ∀ (p : Program) (loose : List Str) (mean : ExcName → Option Value) (mg mb : Str → Option Value) (dp un : Nat) (gd : Option (List Code)) (cn : Str) (cs : Scope) (a' : Addr) (ccd : Value) (cl : List (Str × Addr)) (outer : List Env) (A₀ : Around) (base h₀ : Heap) (L : Addr) (m : Str → Option Value) (news : List (Addr × Obj)) (s : Shared) (Q E : Value → Shared → Prop),
    Below A₀ base outer h₀ → Fr h₀ L s.heap m → (hd.heap_39 w.params).In h₀ → News h₀ L s.heap news → Top p loose mean mg mb h₀ → cs.kind = .function →
    dp + 3 < recursionLimit → un + 8 * 3 < cLine → (D, tup3 a t1 b t2 c t3 n) ∈ news → Ret h₀ L m news s Q (fun _ => .bool true) →
      wpAny (model PySem.Challenge.pw_ad5029_01 w) (ktrTop dp un gd cn cs L a' ccd cl outer) (call (.ref 225) [.ref D]) Q E s := by
  intro p loose mean mg mb dp un gd cn cs a' ccd cl outer A₀ base h₀ L m news s Q E B F X N T hk hd hu hm hret
  have hT : GTup s.heap D #[.int a t1, .int b t2, .int c t3] := ⟨n, (N _ hm).1⟩
  refine wpAny_call ?_
  k_dflt (tm_at "mine full2")
  k_steps
  all_goals (refine' ret_true hret ?zF ?zN ?zE; (case zF => k_asm); (case zN => k_asm); (case zE => rfl))
local macro_rules | `(tactic| tm_at "on call ref") => `(tactic| (k_here; (with_reducible show wpAny _ _ (call (Value.ref 225) [Value.ref _]) _ _ _); (rename News _ _ _ _ => lN'); k_dflt (refine' (ask_plain _ _ _ _ _ _ _ _ _) _ _ _ _ _ _ _ _ _ _ _ _ _ _ _ _ _ _ _ _ _ _ _ ?k1 ?k2 ?k3 lN' ?k5 ?kK ?kd ?ku (by k_mem) ?_); (case k1 => k_asm); (case k2 => k_asm); (case k3 => k_asm); (case k5 => k_asm); (case kK => first | exact rfl | assumption); (case kd => ktr_room); (case ku => ktr_units); intro t9 h9 tk9 F9 N9; (try dsimp only); (try k_fold)))
section
variable {prog : Program} {w : World} {A : Around} {E : Value → Shared → Prop} {s : Shared} {t u : Tok} {Q : Value → Shared → Prop}
theorem r_get0 {a b c : Int} (h : Q (.int (a + 163) s.toks) { s with toks := s.toks + 1 }) : wpAny (model prog w) A (binaryOp .Add (.int ([a, b, c].getD (Int.toNat 0) 0) t) (.int 163 u)) Q E s := wpAny_add_int h
theorem r_get1 {a b c : Int} (h : Q (.int (b + 163) s.toks) { s with toks := s.toks + 1 }) : wpAny (model prog w) A (binaryOp .Add (.int ([a, b, c].getD (Int.toNat 1) 0) t) (.int 163 u)) Q E s := wpAny_add_int h
end
local macro_rules | `(tactic| tm_at "on binaryOp Add int int") => `(tactic| (k_here; first | (with_reducible refine' r_get0 ?_) | (with_reducible refine' r_get1 ?_)))
local macro_rules | `(tactic| tm_at "on call ref") => `(tactic| (k_here; (with_reducible show wpAny _ _ (call (Value.ref 213) _) _ _ _); k_dflt (refine' (ask_january _ _ _ ?c0 ?c1) _ _ _ _ _ _ _ _ _ _ _ _ _ _ _ _ _ _ _ _ _ _ _ ?k1 ?k2 ?k3 ?k4 ?k5 ?kK ?kd ?ku ?_); (case k1 => k_asm); (case k2 => first | k_asm | with_unfolding_all assumption); (case k3 => k_asm); (case k4 => first | k_asm | with_unfolding_all assumption); (case k5 => k_asm); (case kK => first | exact rfl | assumption); (case kd => ktr_room); (case ku => ktr_units); (case c0 => omega); (case c1 => omega); intro t9 h9 tk9 F9 N9; (try dsimp only); (try k_fold)))
theorem menu_bd (n : Nat) : 0 ≤ [(22000 : Int), 57000, 101000].getD n 0 ∧ [(22000 : Int), 57000, 101000].getD n 0 ≤ 101000 := by
  match n with
  | 0 => decide
  | 1 => decide
  | 2 => decide
  | n + 3 => simp
theorem JCiv.menu {h₀ h' : Heap} {L : Addr} {m : Str → Option Value} {news : List (Addr × Obj)} {s : Shared} {tk' : Nat} {n : Nat} {x : Int} {tG : Tok} (F : Fr h₀ L h' (fun y => if y = Str.ofString "civil" then some (.int ([(22000 : Int), 57000, 101000].getD n 0 + x % 13000) tG) else m y)) (N : News h₀ L h' news) :
    JCiv h₀ L m news s .next { s with heap := h', toks := tk' } := by
  have b := menu_bd n
  exact JCiv.intro F N (by omega) (by omega)
local macro_rules | `(tactic| tm_at "on JCiv") => `(tactic| ((rename Fr _ _ _ _ => lF'); (refine' JCiv.menu lF' ?zN); (case zN => first | k_asm | (refine' cb_drop ?cbN ?cbS; (case cbN => assumption); (case cbS => kcj_all)))))

/- Law -/
set_option maxHeartbeats 16000000
theorem ask_civ_k1 (w : World) {G k1 k2 : Int} (_hF : FM G k1 k2) (n : Int) (t : Tok) (hn : n = k1 + 1) (h0 : 300000 < k1) (h1 : k1 < 40000000000) : Ask3w w 2 220 [.int n t] (gyr k1) (gmo k1) (gda k1) := by
  subst hn
  exact ask_civ_k w k1 t h0 h1
local macro_rules | `(tactic| tm_at "on call ref") => `(tactic| (k_here; (with_reducible show wpAny _ _ (call (Value.ref 220) _) _ _ _); (with_reducible rename FM _ _ _ => hM9); k_dflt (refine' (ask_civ_k1 _ hM9 _ _ ?cn ?c0 ?c1) _ _ _ _ _ _ _ _ _ _ _ _ _ _ _ _ _ _ _ _ _ _ _ ?k1 ?k2 ?k3 ?k4 ?k5 ?kK ?kd ?ku ?_); (case cn => omega); (case c0 => omega); (case c1 => omega); (case k1 => k_asm); (case k2 => k_asm); (case k3 => k_asm); (case k4 => k_asm); (case k5 => k_asm); (case kK => first | exact rfl | assumption); (case kd => ktr_room); (case ku => ktr_units); intro D9 t19 t29 t39 n9 h9 tk9 F9 N9; (try dsimp only); (try k_fold)))
theorem ask_civ_k2 (w : World) {G k1 k2 : Int} (_hF : FM G k1 k2) (n : Int) (t : Tok) (hn : n = k2 + 1) (h0 : 300000 < k2) (h1 : k2 < 40000000000) : Ask3w w 2 220 [.int n t] (gyr k2) (gmo k2) (gda k2) := by
  subst hn
  exact ask_civ_k w k2 t h0 h1
local macro_rules | `(tactic| tm_at "on call ref") => `(tactic| (k_here; (with_reducible show wpAny _ _ (call (Value.ref 220) _) _ _ _); (with_reducible rename FM _ _ _ => hM9); k_dflt (refine' (ask_civ_k2 _ hM9 _ _ ?cn ?c0 ?c1) _ _ _ _ _ _ _ _ _ _ _ _ _ _ _ _ _ _ _ _ _ _ _ ?k1 ?k2 ?k3 ?k4 ?k5 ?kK ?kd ?ku ?_); (case cn => omega); (case c0 => omega); (case c1 => omega); (case k1 => k_asm); (case k2 => k_asm); (case k3 => k_asm); (case k4 => k_asm); (case k5 => k_asm); (case kK => first | exact rfl | assumption); (case kd => ktr_room); (case ku => ktr_units); intro D9 t19 t29 t39 n9 h9 tk9 F9 N9; (try dsimp only); (try k_fold)))
theorem ask_ljul_k1 (w : World) {G k1 k2 : Int} (_hF : FM G k1 k2) (n : Int) (t : Tok) (hn : n = k1 + 1) (h0 : 300000 < k1) (h1 : k1 < 40000000000) : Ask3w w 2 206 [.int n t] ((jul3 k1).1) ((jul3 k1).2.1) ((jul3 k1).2.2) := by
  subst hn
  exact ask_ljul_k w k1 t h0 h1
local macro_rules | `(tactic| tm_at "on call ref") => `(tactic| (k_here; (with_reducible show wpAny _ _ (call (Value.ref 206) _) _ _ _); (with_reducible rename FM _ _ _ => hM9); k_dflt (refine' (ask_ljul_k1 _ hM9 _ _ ?cn ?c0 ?c1) _ _ _ _ _ _ _ _ _ _ _ _ _ _ _ _ _ _ _ _ _ _ _ ?k1 ?k2 ?k3 ?k4 ?k5 ?kK ?kd ?ku ?_); (case cn => omega); (case c0 => omega); (case c1 => omega); (case k1 => k_asm); (case k2 => k_asm); (case k3 => k_asm); (case k4 => k_asm); (case k5 => k_asm); (case kK => first | exact rfl | assumption); (case kd => ktr_room); (case ku => ktr_units); intro D9 t19 t29 t39 n9 h9 tk9 F9 N9; (try dsimp only); (try k_fold)))
theorem ask_ljul_k2 (w : World) {G k1 k2 : Int} (_hF : FM G k1 k2) (n : Int) (t : Tok) (hn : n = k2 + 1) (h0 : 300000 < k2) (h1 : k2 < 40000000000) : Ask3w w 2 206 [.int n t] ((jul3 k2).1) ((jul3 k2).2.1) ((jul3 k2).2.2) := by
  subst hn
  exact ask_ljul_k w k2 t h0 h1
local macro_rules | `(tactic| tm_at "on call ref") => `(tactic| (k_here; (with_reducible show wpAny _ _ (call (Value.ref 206) _) _ _ _); (with_reducible rename FM _ _ _ => hM9); k_dflt (refine' (ask_ljul_k2 _ hM9 _ _ ?cn ?c0 ?c1) _ _ _ _ _ _ _ _ _ _ _ _ _ _ _ _ _ _ _ _ _ _ _ ?k1 ?k2 ?k3 ?k4 ?k5 ?kK ?kd ?ku ?_); (case cn => omega); (case c0 => omega); (case c1 => omega); (case k1 => k_asm); (case k2 => k_asm); (case k3 => k_asm); (case k4 => k_asm); (case k5 => k_asm); (case kK => first | exact rfl | assumption); (case kd => ktr_room); (case ku => ktr_units); intro D9 t19 t29 t39 n9 h9 tk9 F9 N9; (try dsimp only); (try k_fold)))
theorem law_holds : PySem.Challenge.rw_ad5029_01.Holds := by
  refine hd ?_
  k_go0
  all_goals try k_fold
  k_steps
end Mine
set_option maxRecDepth 100000 in
set_option maxHeartbeats 8000000 in
theorem PySem.Challenge.cw_ad5029_01_holds : PySem.Challenge.rw_ad5029_01.Holds := by
  exact Mine.law_holds
