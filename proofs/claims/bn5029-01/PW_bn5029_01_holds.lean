import PyProof.Rows.All
import Wide.All
import OpenK.AllK
import Wide.FinOn
import PySem.Challenge.RW_bn5029_01
open PySem PySem.W PyProof.Rows
set_option Elab.async false
set_option maxRecDepth 100000 in
set_option maxHeartbeats 8000000 in
open_top Mine.hd for PySem.Challenge.rw_bn5029_01

namespace Mine

/-- a contract: the call of the text's def at address `f` on `vs` gives a value of which `R` holds; the caller's frame and ledger stand -/
def Ct (n : Nat) (w : World) (mean : ExcName → Option Value) (mg mb : Str → Option Value) (f : Addr) (vs : List Value) (R : Value → Prop) : Prop :=
  ∀ (dp un : Nat) (gd : Option (List Code)) (cn : Str) (cs : Scope) (a : Addr) (ccd : Value) (cl : List (Str × Addr)) (outer : List Env) (A₀ : Around) (base h₀ : Heap) (L : Addr) (m : Str → Option Value) (news : List (Addr × Obj)) (s : Shared) (Q E : Value → Shared → Prop),
    Below A₀ base outer h₀ → Fr h₀ L s.heap m → (hd.heap_39 w.params).In h₀ → News h₀ L s.heap news → Top hd.view_39 (looseW hd.view_39 [Str.ofString "find_matching_paren"]) mean mg mb h₀ → cs.kind = .function →
    dp + n < recursionLimit → un + 8 * n < cLine →
    (∀ (v : Value) (h' : Heap) (tk' : Nat), R v → Fr h₀ L h' m → News h₀ L h' news → Q v { s with heap := h', toks := tk' }) →
    wpAny (model PySem.Challenge.rw_bn5029_01.row.prog w) (ktrTop dp un gd cn cs L a ccd cl outer) (call (.ref f) vs) Q E s

/-- the plain scanner: codes, place, mode (0 out, 1 in single quotes, 2 in double quotes), depth -/
def sc : List Nat → Int → Nat → Int → Option Int
  | [], _, _, _ => none
  | c :: cs, i, q, d =>
    if q = 1 then (if c = 39 then sc cs (i + 1) 0 d else sc cs (i + 1) 1 d)
    else if q = 2 then (if c = 34 then sc cs (i + 1) 0 d else sc cs (i + 1) 2 d)
    else if c = 39 then sc cs (i + 1) 1 d
    else if c = 34 then sc cs (i + 1) 2 d
    else if c = 40 then sc cs (i + 1) 0 (d + 1)
    else if c = 41 then (if d - 1 = 0 then some i else sc cs (i + 1) 0 (d - 1))
    else sc cs (i + 1) 0 d
def fmAt (x : Str) (i d : Int) (a b : Bool) : Option Int := sc (x.cps.toList.drop i.toNat) i (if a then 1 else if b then 2 else 0) d
def FmR (x : Str) (k : Int) (v : Value) : Prop := match fmAt x k 0 false false with
  | none => v = .none
  | some j => ∃ t, v = .int j t

theorem item_code {x : Str} {i : Int} (h0 : 0 ≤ i) (h1 : i < (x.length : Int)) (c : Nat) : (Txt.item x i == (⟨#[c]⟩ : Str)) = decide (x.cps.getD i.toNat 0 = c) := by
  rw [item_meets ⟨h0, h1⟩]
  by_cases e : x.cps.getD i.toNat 0 = c
  · rw [e]; simp
  · rw [decide_eq_false e, beq_eq_false_iff_ne]
    intro h
    injection h with h
    simp at h
    exact e (by simpa using h)
theorem drop_at {x : Str} {i : Int} (h0 : 0 ≤ i) (h1 : i < (x.length : Int)) : x.cps.toList.drop i.toNat = x.cps.getD i.toNat 0 :: x.cps.toList.drop (i + 1).toNat := by
  have h : i.toNat < x.cps.toList.length := by
    have : x.length = x.cps.size := rfl
    rw [Array.length_toList]; omega
  rw [List.drop_eq_getElem_cons h]
  have e : (i + 1).toNat = i.toNat + 1 := by omega
  rw [e]
  congr 1
  have hs : i.toNat < x.cps.size := by simpa using h
  simp [Array.getD, hs]
theorem c39 : Str.ofString "'" = ⟨#[39]⟩ := by decide
theorem c34 : Str.ofString "\"" = ⟨#[34]⟩ := by decide
theorem c40 : Str.ofString "(" = ⟨#[40]⟩ := by decide
theorem c41 : Str.ofString ")" = ⟨#[41]⟩ := by decide
section
variable {x : Str} {i d : Int} {a b : Bool} {R : Option Int}
theorem fm_step (h0 : 0 ≤ i) (h1 : i < (x.length : Int)) : fmAt x i d a b =
    if a = true then (if (Txt.item x i == Str.ofString "'") = true then fmAt x (i + 1) d false false else fmAt x (i + 1) d true false)
    else if b = true then (if (Txt.item x i == Str.ofString "\"") = true then fmAt x (i + 1) d false false else fmAt x (i + 1) d false true)
    else if (Txt.item x i == Str.ofString "'") = true then fmAt x (i + 1) d true false
    else if (Txt.item x i == Str.ofString "\"") = true then fmAt x (i + 1) d false true
    else if (Txt.item x i == Str.ofString "(") = true then fmAt x (i + 1) (d + 1) false false
    else if (Txt.item x i == Str.ofString ")") = true then (if d - 1 = 0 then some i else fmAt x (i + 1) (d - 1) false false)
    else fmAt x (i + 1) d false false := by
  rw [c39, c34, c40, c41, item_code h0 h1, item_code h0 h1, item_code h0 h1, item_code h0 h1]
  unfold fmAt
  rw [drop_at h0 h1]
  cases a <;> cases b <;> simp [sc]
theorem fm_s1 (hR : fmAt x i d a b = R) (h0 : 0 ≤ i) (hab : (a && b) = false) (h1 : i < (x.length : Int)) (ha : a = true) (hc : (Txt.item x i == Str.ofString "'") = true) (h2 : i + 1 < (x.length : Int)) (hc2 : (Txt.item x (i + 1) == Str.ofString "'") = true) :
    0 ≤ i + 2 ∧ i + 2 ≤ (x.length : Int) ∧ (a && b) = false ∧ fmAt x (i + 2) d a b = R := by
  refine ⟨by omega, by omega, hab, ?_⟩
  subst ha
  have hb : b = false := by simpa using hab
  subst hb
  rw [← hR, fm_step h0 h1, if_pos rfl, if_pos hc, fm_step (by omega) h2, if_neg (by decide), if_neg (by decide), if_pos hc2, show i + 1 + 1 = i + 2 from by omega]
theorem fm_s2 (hR : fmAt x i d a b = R) (h0 : 0 ≤ i) (hab : (a && b) = false) (h1 : i < (x.length : Int)) (ha : a = true) (hc : (Txt.item x i == Str.ofString "'") = true) :
    0 ≤ i + 1 ∧ i + 1 ≤ (x.length : Int) ∧ (false && b) = false ∧ fmAt x (i + 1) d false b = R := by
  refine ⟨by omega, by omega, rfl, ?_⟩
  subst ha
  have hb : b = false := by simpa using hab
  subst hb
  rw [← hR, fm_step h0 h1, if_pos rfl, if_pos hc]
theorem fm_s3 (hR : fmAt x i d a b = R) (h0 : 0 ≤ i) (hab : (a && b) = false) (h1 : i < (x.length : Int)) (ha : a = true) (hc : (Txt.item x i == Str.ofString "'") = false) :
    0 ≤ i + 1 ∧ i + 1 ≤ (x.length : Int) ∧ (a && b) = false ∧ fmAt x (i + 1) d a b = R := by
  refine ⟨by omega, by omega, hab, ?_⟩
  subst ha
  have hb : b = false := by simpa using hab
  subst hb
  rw [← hR, fm_step h0 h1, if_pos rfl, if_neg (by rw [hc]; decide)]
theorem fm_d1 (hR : fmAt x i d a b = R) (h0 : 0 ≤ i) (hab : (a && b) = false) (h1 : i < (x.length : Int)) (ha : a = false) (hb : b = true) (hc : (Txt.item x i == Str.ofString "\"") = true) (h2 : i + 1 < (x.length : Int)) (hc2 : (Txt.item x (i + 1) == Str.ofString "\"") = true) :
    0 ≤ i + 2 ∧ i + 2 ≤ (x.length : Int) ∧ (a && b) = false ∧ fmAt x (i + 2) d a b = R := by
  refine ⟨by omega, by omega, hab, ?_⟩
  subst ha hb
  have hn : ¬ (Txt.item x (i + 1) == Str.ofString "'") = true := by
    rw [c34, item_code (by omega) h2] at hc2
    rw [c39, item_code (by omega) h2]
    have := of_decide_eq_true hc2
    rw [this]; decide
  rw [← hR, fm_step h0 h1, if_neg (by decide), if_pos rfl, if_pos hc, fm_step (by omega) h2, if_neg (by decide), if_neg (by decide), if_neg hn, if_pos hc2, show i + 1 + 1 = i + 2 from by omega]
theorem fm_d2 (hR : fmAt x i d a b = R) (h0 : 0 ≤ i) (hab : (a && b) = false) (h1 : i < (x.length : Int)) (ha : a = false) (hb : b = true) (hc : (Txt.item x i == Str.ofString "\"") = true) :
    0 ≤ i + 1 ∧ i + 1 ≤ (x.length : Int) ∧ (a && false) = false ∧ fmAt x (i + 1) d a false = R := by
  refine ⟨by omega, by omega, by simp, ?_⟩
  subst ha hb
  rw [← hR, fm_step h0 h1, if_neg (by decide), if_pos rfl, if_pos hc]
theorem fm_d3 (hR : fmAt x i d a b = R) (h0 : 0 ≤ i) (hab : (a && b) = false) (h1 : i < (x.length : Int)) (ha : a = false) (hb : b = true) (hc : (Txt.item x i == Str.ofString "\"") = false) :
    0 ≤ i + 1 ∧ i + 1 ≤ (x.length : Int) ∧ (a && b) = false ∧ fmAt x (i + 1) d a b = R := by
  refine ⟨by omega, by omega, hab, ?_⟩
  subst ha hb
  rw [← hR, fm_step h0 h1, if_neg (by decide), if_pos rfl, if_neg (by rw [hc]; decide)]
theorem fm_o1 (hR : fmAt x i d a b = R) (h0 : 0 ≤ i) (h1 : i < (x.length : Int)) (ha : a = false) (hb : b = false) (hc : (Txt.item x i == Str.ofString "'") = true) :
    0 ≤ i + 1 ∧ i + 1 ≤ (x.length : Int) ∧ (true && b) = false ∧ fmAt x (i + 1) d true b = R := by
  refine ⟨by omega, by omega, by simpa using hb, ?_⟩
  subst ha hb
  rw [← hR, fm_step h0 h1, if_neg (by decide), if_neg (by decide), if_pos hc]
theorem fm_o2 (hR : fmAt x i d a b = R) (h0 : 0 ≤ i) (h1 : i < (x.length : Int)) (ha : a = false) (hb : b = false) (hq : (Txt.item x i == Str.ofString "'") = false) (hc : (Txt.item x i == Str.ofString "\"") = true) :
    0 ≤ i + 1 ∧ i + 1 ≤ (x.length : Int) ∧ (a && true) = false ∧ fmAt x (i + 1) d a true = R := by
  refine ⟨by omega, by omega, by simpa using ha, ?_⟩
  subst ha hb
  rw [← hR, fm_step h0 h1, if_neg (by decide), if_neg (by decide), if_neg (by rw [hq]; decide), if_pos hc]
theorem fm_o3 (hR : fmAt x i d a b = R) (h0 : 0 ≤ i) (h1 : i < (x.length : Int)) (ha : a = false) (hb : b = false) (hq : (Txt.item x i == Str.ofString "'") = false) (hp : (Txt.item x i == Str.ofString "\"") = false) (hc : (Txt.item x i == Str.ofString "(") = true) :
    0 ≤ i + 1 ∧ i + 1 ≤ (x.length : Int) ∧ (a && b) = false ∧ fmAt x (i + 1) (d + 1) a b = R := by
  refine ⟨by omega, by omega, by simp [ha], ?_⟩
  subst ha hb
  rw [← hR, fm_step h0 h1, if_neg (by decide), if_neg (by decide), if_neg (by rw [hq]; decide), if_neg (by rw [hp]; decide), if_pos hc]
theorem fm_o4 (hR : fmAt x i d a b = R) (h0 : 0 ≤ i) (h1 : i < (x.length : Int)) (ha : a = false) (hb : b = false) (hq : (Txt.item x i == Str.ofString "'") = false) (hp : (Txt.item x i == Str.ofString "\"") = false) (ho : (Txt.item x i == Str.ofString "(") = false) (hc : (Txt.item x i == Str.ofString ")") = true) (hd : ¬ d - 1 = 0) :
    0 ≤ i + 1 ∧ i + 1 ≤ (x.length : Int) ∧ (a && b) = false ∧ fmAt x (i + 1) (d - 1) a b = R := by
  refine ⟨by omega, by omega, by simp [ha], ?_⟩
  subst ha hb
  rw [← hR, fm_step h0 h1, if_neg (by decide), if_neg (by decide), if_neg (by rw [hq]; decide), if_neg (by rw [hp]; decide), if_neg (by rw [ho]; decide), if_pos hc, if_neg hd]
theorem fm_o5 (hR : fmAt x i d a b = R) (h0 : 0 ≤ i) (h1 : i < (x.length : Int)) (ha : a = false) (hb : b = false) (hq : (Txt.item x i == Str.ofString "'") = false) (hp : (Txt.item x i == Str.ofString "\"") = false) (ho : (Txt.item x i == Str.ofString "(") = false) (hc : (Txt.item x i == Str.ofString ")") = false) :
    0 ≤ i + 1 ∧ i + 1 ≤ (x.length : Int) ∧ (a && b) = false ∧ fmAt x (i + 1) d a b = R := by
  refine ⟨by omega, by omega, by simp [ha], ?_⟩
  subst ha hb
  rw [← hR, fm_step h0 h1, if_neg (by decide), if_neg (by decide), if_neg (by rw [hq]; decide), if_neg (by rw [hp]; decide), if_neg (by rw [ho]; decide), if_neg (by rw [hc]; decide)]
theorem fm_ret {k : Int} {t : Tok} (hR : fmAt x i d a b = fmAt x k 0 false false) (h0 : 0 ≤ i) (h1 : i < (x.length : Int)) (ha : a = false) (hb : b = false) (hq : (Txt.item x i == Str.ofString "'") = false) (hp : (Txt.item x i == Str.ofString "\"") = false) (ho : (Txt.item x i == Str.ofString "(") = false) (hc : (Txt.item x i == Str.ofString ")") = true) (hd : d - 1 = 0) :
    FmR x k (.int i t) := by
  subst ha hb
  rw [fm_step h0 h1, if_neg (by decide), if_neg (by decide), if_neg (by rw [hq]; decide), if_neg (by rw [hp]; decide), if_neg (by rw [ho]; decide), if_pos hc, if_pos hd] at hR
  unfold FmR
  rw [← hR]
  exact ⟨t, rfl⟩
theorem fm_none {k : Int} (hR : fmAt x i d a b = fmAt x k 0 false false) (h0 : 0 ≤ i) (h1 : ¬ i < (x.length : Int)) : FmR x k .none := by
  have e : fmAt x i d a b = none := by
    unfold fmAt
    rw [List.drop_eq_nil_of_le (by
      have : x.length = x.cps.size := rfl
      rw [Array.length_toList]; omega)]
    rfl
  unfold FmR
  rw [← hR, e]
end

theorem Ct.use {n : Nat} {w : World} {mean : ExcName → Option Value} {mg mb : Str → Option Value} {f : Addr} {vs : List Value} {R : Value → Prop}
    {dp un : Nat} {gd : Option (List Code)} {cn : Str} {cs : Scope} {a : Addr} {ccd : Value} {cl : List (Str × Addr)} {outer : List Env} {A₀ : Around} {base h₀ : Heap} {L : Addr} {m : Str → Option Value} {news : List (Addr × Obj)} {s : Shared} {Q E : Value → Shared → Prop}
    (B : Below A₀ base outer h₀) (F : Fr h₀ L s.heap m) (X : (hd.heap_39 w.params).In h₀) (N : News h₀ L s.heap news) (T : Top hd.view_39 (looseW hd.view_39 [Str.ofString "find_matching_paren"]) mean mg mb h₀) (hk : cs.kind = .function)
    (C : Ct n w mean mg mb f vs R) (hdp : dp + n < recursionLimit) (hun : un + 8 * n < cLine)
    (ret : ∀ (v : Value) (h' : Heap) (tk' : Nat), R v → Fr h₀ L h' m → News h₀ L h' news → Q v { s with heap := h', toks := tk' }) :
    wpAny (model PySem.Challenge.rw_bn5029_01.row.prog w) (ktrTop dp un gd cn cs L a ccd cl outer) (call (.ref f) vs) Q E s := C _ _ _ _ _ _ _ _ _ _ _ _ _ _ _ _ _ _ B F X N T hk hdp hun ret

set_option maxRecDepth 100000 in
set_option maxHeartbeats 8000000 in
theorem fmp_ct (w : World) (mean : ExcName → Option Value) (mg mb : Str → Option Value) (x : Str) (t : Tok) (k : Int) (u : Tok)
    (h0 : 0 ≤ k) (h1 : k < (x.length : Int)) (hl : x.length ≤ 1048576) (h2 : (Txt.item x k == Str.ofString "(") = true) : Ct 3 w mean mg mb 22 [.str x t, .int k u] (FmR x k) := by
  unfold Ct
  w_on
  k_fill
  intro dp un gd cn cs a ccd cl outer A₀ base h₀ L m news s Q E B F X N T hk hdp hun hret
  refine wpAny_call ?_
  k_dflt (refine' code_def ?k1 ?k2 ?k3 ?k4 ?k5 ?kA ?kF ?kK ?k6 ?k7 ?k8 ?k9 ?kB ?_ ?c2 ?c3 ?c4 ?c5; (case kA => exact rfl); (case kF => exact rfl); (case kK => assumption); (case k1 => k_asm); (case k2 => k_asm); (case k3 => k_asm); (case k4 => k_asm); (case k5 => k_asm); (case k6 => k_is); (case k7 => k_is); (case k8 => ktr_room); (case k9 => exact binds_K (by k_in) rfl (by k_is) rfl rfl rfl); (case c5 => decide); (case kB => exact locs rfl); (case c2 => exact rfl); (case c3 => exact rfl); (case c4 => exact rfl); k_whole; intro g' L' h' FG' F' N' B' X' T'; (try dsimp only); (try k_lift B'); (try k_fold))
  k_with "state" => (first
    | exact ⟨h0, Int.le_of_lt h1, rfl, rfl⟩
    | exact fm_s1 (by assumption) (by assumption) (by assumption) (by assumption) (by assumption) (by assumption) (by assumption) (by assumption)
    | exact fm_s2 (by assumption) (by assumption) (by assumption) (by assumption) (by assumption) (by assumption)
    | exact fm_s3 (by assumption) (by assumption) (by assumption) (by assumption) (by assumption) (by assumption)
    | exact fm_d1 (by assumption) (by assumption) (by assumption) (by assumption) (by assumption) (by assumption) (by assumption) (by assumption) (by assumption)
    | exact fm_d2 (by assumption) (by assumption) (by assumption) (by assumption) (by assumption) (by assumption) (by assumption)
    | exact fm_d3 (by assumption) (by assumption) (by assumption) (by assumption) (by assumption) (by assumption) (by assumption)
    | exact fm_o1 (by assumption) (by assumption) (by assumption) (by assumption) (by assumption) (by assumption)
    | exact fm_o2 (by assumption) (by assumption) (by assumption) (by assumption) (by assumption) (by assumption) (by assumption)
    | exact fm_o3 (by assumption) (by assumption) (by assumption) (by assumption) (by assumption) (by assumption) (by assumption) (by assumption)
    | exact fm_o4 (by assumption) (by assumption) (by assumption) (by assumption) (by assumption) (by assumption) (by assumption) (by assumption) (by assumption) (by assumption)
    | exact fm_o5 (by assumption) (by assumption) (by assumption) (by assumption) (by assumption) (by assumption) (by assumption) (by assumption) (by assumption))
  k_with "exec While Compare cons nil" => k_while (fun script i d a b => 0 ≤ i ∧ i ≤ (x.length : Int) ∧ (a && b) = false ∧ fmAt x i d a b = fmAt x k 0 false false) (fun script i _ _ _ => x.length - i.toNat) "i" "depth" "in_single" "in_double"
  k_steps
  · exact hret _ _ _ (fm_ret (by assumption) (by assumption) (by assumption) (by assumption) (by assumption) (by assumption) (by assumption) (by assumption) (by assumption) (by assumption)) (by k_asm) (by k_asm)
  · exact hret _ _ _ (fm_none (by assumption) (by assumption) (by assumption)) (by k_asm) (by k_asm)
set_option maxRecDepth 100000 in
set_option maxHeartbeats 8000000 in
theorem fmp_ct1 (w : World) (mean : ExcName → Option Value) (mg mb : Str → Option Value) (x : Str) (t : Tok)
    (h1 : 0 < (x.length : Int)) (hl : x.length ≤ 1048576) (h2 : (Txt.item x 0 == Str.ofString "(") = true) : Ct 3 w mean mg mb 22 [.str x t] (FmR x 0) := by
  unfold Ct
  w_on
  k_fill
  intro dp un gd cn cs a ccd cl outer A₀ base h₀ L m news s Q E B F X N T hk hdp hun hret
  refine wpAny_call ?_
  k_dflt (refine' code_def ?k1 ?k2 ?k3 ?k4 ?k5 ?kA ?kF ?kK ?k6 ?k7 ?k8 ?k9 ?kB ?_ ?c2 ?c3 ?c4 ?c5; (case kA => exact rfl); (case kF => exact rfl); (case kK => assumption); (case k1 => k_asm); (case k2 => k_asm); (case k3 => k_asm); (case k4 => k_asm); (case k5 => k_asm); (case k6 => k_is); (case k7 => k_is); (case k8 => ktr_room); (case k9 => exact binds_K (by k_in) rfl (by k_is) rfl rfl rfl); (case c5 => decide); (case kB => exact locs rfl); (case c2 => exact rfl); (case c3 => exact rfl); (case c4 => exact rfl); k_whole; intro g' L' h' FG' F' N' B' X' T'; (try dsimp only); (try k_lift B'); (try k_fold))
  k_with "state" => (first
    | exact ⟨Int.le_refl 0, Int.le_of_lt h1, rfl, rfl⟩
    | exact fm_s1 (by assumption) (by assumption) (by assumption) (by assumption) (by assumption) (by assumption) (by assumption) (by assumption)
    | exact fm_s2 (by assumption) (by assumption) (by assumption) (by assumption) (by assumption) (by assumption)
    | exact fm_s3 (by assumption) (by assumption) (by assumption) (by assumption) (by assumption) (by assumption)
    | exact fm_d1 (by assumption) (by assumption) (by assumption) (by assumption) (by assumption) (by assumption) (by assumption) (by assumption) (by assumption)
    | exact fm_d2 (by assumption) (by assumption) (by assumption) (by assumption) (by assumption) (by assumption) (by assumption)
    | exact fm_d3 (by assumption) (by assumption) (by assumption) (by assumption) (by assumption) (by assumption) (by assumption)
    | exact fm_o1 (by assumption) (by assumption) (by assumption) (by assumption) (by assumption) (by assumption)
    | exact fm_o2 (by assumption) (by assumption) (by assumption) (by assumption) (by assumption) (by assumption) (by assumption)
    | exact fm_o3 (by assumption) (by assumption) (by assumption) (by assumption) (by assumption) (by assumption) (by assumption) (by assumption)
    | exact fm_o4 (by assumption) (by assumption) (by assumption) (by assumption) (by assumption) (by assumption) (by assumption) (by assumption) (by assumption) (by assumption)
    | exact fm_o5 (by assumption) (by assumption) (by assumption) (by assumption) (by assumption) (by assumption) (by assumption) (by assumption) (by assumption))
  k_with "exec While Compare cons nil" => k_while (fun script i d a b => 0 ≤ i ∧ i ≤ (x.length : Int) ∧ (a && b) = false ∧ fmAt x i d a b = fmAt x 0 0 false false) (fun script i _ _ _ => x.length - i.toNat) "i" "depth" "in_single" "in_double"
  k_steps
  · exact hret _ _ _ (fm_ret (by assumption) (by assumption) (by assumption) (by assumption) (by assumption) (by assumption) (by assumption) (by assumption) (by assumption) (by assumption)) (by k_asm) (by k_asm)
  · exact hret _ _ _ (fm_none (by assumption) (by assumption) (by assumption)) (by k_asm) (by k_asm)
end Mine

namespace Mine
local macro_rules | `(tactic| walk_at "execs nil") => `(tactic| (k_here; dsimp only))
local macro_rules | `(tactic| walk_at "truthy bool") => `(tactic| (k_here; dsimp only))
theorem FmR_inv {x : Str} {k : Int} {v : Value} (h : FmR x k v) : (fmAt x k 0 false false = none ∧ v = .none) ∨ ∃ j t, fmAt x k 0 false false = some j ∧ v = .int j t := by
  unfold FmR at h
  split at h
  · exact .inl ⟨by assumption, h⟩
  · obtain ⟨t, e⟩ := h
    exact .inr ⟨_, t, by assumption, e⟩
def sopOf (x y : Str) : Str :=
  if (y.length : Int) < 2 then x else if (Txt.item y 0 != Str.ofString "(") = true then x else if (Txt.item y (-1) != Str.ofString ")") = true then x
  else match fmAt y 0 0 false false with
    | some j => if j = (y.length : Int) - 1 then Txt.slice y (some 1) (some (-1)) else x
    | none => x
section
variable {x y : Str}
theorem sop_1 {t : Tok} (h : (y.length : Int) < 2) : ∃ t', Value.str x t = .str (sopOf x y) t' := ⟨t, by unfold sopOf; rw [if_pos h]⟩
theorem sop_2 {t : Tok} (h : ¬ (y.length : Int) < 2) (h2 : (Txt.item y 0 != Str.ofString "(") = true) : ∃ t', Value.str x t = .str (sopOf x y) t' := ⟨t, by unfold sopOf; rw [if_neg h, if_pos h2]⟩
theorem sop_3 {t : Tok} (h : ¬ (y.length : Int) < 2) (h2 : (Txt.item y 0 != Str.ofString "(") = false) (h3 : (Txt.item y (-1) != Str.ofString ")") = true) : ∃ t', Value.str x t = .str (sopOf x y) t' :=
  ⟨t, by unfold sopOf; rw [if_neg h, if_neg (by rw [h2]; decide), if_pos h3]⟩
theorem sop_4 {t : Tok} (h : ¬ (y.length : Int) < 2) (h2 : (Txt.item y 0 != Str.ofString "(") = false) (h3 : (Txt.item y (-1) != Str.ofString ")") = false) (h4 : fmAt y 0 0 false false = none) : ∃ t', Value.str x t = .str (sopOf x y) t' :=
  ⟨t, by unfold sopOf; rw [if_neg h, if_neg (by rw [h2]; decide), if_neg (by rw [h3]; decide), h4]⟩
theorem sop_5 {t : Tok} {j : Int} (h : ¬ (y.length : Int) < 2) (h2 : (Txt.item y 0 != Str.ofString "(") = false) (h3 : (Txt.item y (-1) != Str.ofString ")") = false) (h4 : fmAt y 0 0 false false = some j) (h5 : j = (y.length : Int) - 1) : ∃ t', Value.str (Txt.slice y (some 1) (some (-1))) t = .str (sopOf x y) t' :=
  ⟨t, by unfold sopOf; rw [if_neg h, if_neg (by rw [h2]; decide), if_neg (by rw [h3]; decide), h4]; dsimp only; rw [if_pos h5]⟩
theorem sop_6 {t : Tok} {j : Int} (h : ¬ (y.length : Int) < 2) (h2 : (Txt.item y 0 != Str.ofString "(") = false) (h3 : (Txt.item y (-1) != Str.ofString ")") = false) (h4 : fmAt y 0 0 false false = some j) (h5 : j ≠ (y.length : Int) - 1) : ∃ t', Value.str x t = .str (sopOf x y) t' :=
  ⟨t, by unfold sopOf; rw [if_neg h, if_neg (by rw [h2]; decide), if_neg (by rw [h3]; decide), h4]; dsimp only; rw [if_neg h5]⟩
end
set_option maxRecDepth 100000 in
set_option maxHeartbeats 8000000 in
theorem sop_ct (w : World) (mean : ExcName → Option Value) (mg mb : Str → Option Value) (x : Str) (t : Tok)
    (hl : x.length ≤ 1000) (y : Str) (hy : Txt.strip x = y) (hyl : y.length ≤ x.length) : Ct 6 w mean mg mb 29 [.str x t] (fun v => ∃ t, v = .str (sopOf x y) t) := by
  unfold Ct
  w_on
  k_fill
  intro dp un gd cn cs a ccd cl outer A₀ base h₀ L m news s Q E B F X N T hk hdp hun hret
  refine wpAny_call ?_
  k_dflt cell_enter
  k_with_none
  k_with "call builtin:str.strip" => (refine KXw.strip hy (by size_fits) ?_; intro _ _)
  k_with "call ref" => (refine' Ct.use ?k1 ?k2 ?k3 ?k4 ?k5 ?k6 (fmp_ct w mean mg mb _ _ _ _ ?h0 ?h1 ?hl ?h2) ?kd ?ku ?_; (case k1 => k_asm); (case k2 => k_asm); (case k3 => k_asm); (case k4 => k_asm); (case k5 => k_asm); (case k6 => first | exact rfl | assumption); (case h0 => decide); (case h1 => omega); (case hl => omega); (case h2 => simpa using ‹(Txt.item y 0 != Str.ofString "(") = false›); (case kd => ktr_room); (case ku => ktr_units); intro v9 h9 tk9 hR9 F9 N9; (try dsimp only); (try k_fold); rcases FmR_inv hR9 with ⟨e9, rfl⟩ | ⟨j9, t9, e9, rfl⟩)
  k_steps
  · exact hret _ _ _ (sop_1 (by assumption)) (by k_asm) (by k_asm)
  · exact hret _ _ _ (sop_2 (by assumption) (by assumption)) (by k_asm) (by k_asm)
  · exact hret _ _ _ (sop_3 (by assumption) (by assumption) (by assumption)) (by k_asm) (by k_asm)
  · exact hret _ _ _ (sop_4 (by assumption) (by assumption) (by assumption) (by assumption)) (by k_asm) (by k_asm)
  · exact hret _ _ _ (sop_5 (by assumption) (by assumption) (by assumption) (by assumption) (by assumption)) (by k_asm) (by k_asm)
  · exact hret _ _ _ (sop_6 (by assumption) (by assumption) (by assumption) (by assumption) (by assumption)) (by k_asm) (by k_asm)
@[irreducible] def sop (x : Str) : Str := sopOf x (Txt.strip x)
open PySem.Builtin.Str PySem.Builtin in
theorem strip_len (x : Str) : (Txt.strip x).length ≤ x.length := by
  have e : Txt.strip x = strSub x (stripLo Unicode.isSpace true x) (stripHi Unicode.isSpace true x (stripLo Unicode.isSpace true x)) := by
    unfold Txt.strip
    exact PyProof.Rows.stripBy_eq _ _ _ _
  obtain ⟨a1, _, _⟩ := lo_facts Unicode.isSpace x
  obtain ⟨_, b1, _, _⟩ := hi_facts Unicode.isSpace x _ a1
  rw [e]
  rw [KWd.sub_len' x b1]
  omega
theorem sop_ct2 (w : World) (mean : ExcName → Option Value) (mg mb : Str → Option Value) (x : Str) (t : Tok) (hl : x.length ≤ 1000) : Ct 6 w mean mg mb 29 [.str x t] (fun v => ∃ t, v = .str (sop x) t) := by
  unfold sop
  exact sop_ct w mean mg mb x t hl _ rfl (strip_len x)
end Mine

namespace Mine
local macro_rules | `(tactic| walk_at "execs nil") => `(tactic| (k_here; dsimp only))
local macro_rules | `(tactic| walk_at "truthy bool") => `(tactic| (k_here; dsimp only))
theorem item_ws {prog : Program} {w : World} {A : Around} {E : Value → Shared → Prop} {s : Shared} {h₀ : Heap} {L : Addr} {news : List (Addr × Obj)} {value slice : PySem.Expr} {D : Addr} {ys : List Value} {nn : Nat} {ws : List PySem.Str} {k : Int} {u : Tok} {Q : Value → Shared → Prop}
    (N : News h₀ L s.heap news) (hm : (D, W.listOf ys.toArray nn) ∈ news) (hw : StrsAre ys ws) (h0 : 0 ≤ k) (h1 : k < (ws.length : Int)) (h9 : ws.length ≤ 9) (h : ∀ t', Q (.str (ws.getD k.toNat PySem.Str.empty) t') s)
    (hs : subscripted slice false (.ref D) (.int k u) = operate [.ref D, .int k u] (getItem (.ref D) (.int k u)) := by with_unfolding_all rfl) :
    wpAny (model prog w) A (subscriptTail value slice (.ref D) (.int k u)) Q E s :=
  KTb.item_list (News.isList N hm) hw h0 h1 (by omega) (fun t' _ => h t') hs
theorem lt_of_rng {k : Int} {n : Nat} (h : k < 0 + (n : Int)) : k < (n : Int) := by omega
local macro_rules | `(tactic| walk_at "subscriptTail Name Name ref int") => `(tactic| (k_here; (with_reducible show wpAny _ _ (subscriptTail _ _ (Value.ref _) (Value.int _ _)) _ _ _); k_dflt (refine' item_ws ?iN ?im ?iS ?ia ?ib ?ic ?_; (case iN => k_asm); (case im => k_mem); (case iS => assumption); (case ia => assumption); (case ib => first | assumption | exact lt_of_rng (by assumption)); (case ic => assumption)); intro _))
def isBr (ws : List Str) (k : Int) : Bool := ws.getD k.toNat Str.empty == Str.ofString "(" || ws.getD k.toNat Str.empty == Str.ofString ")"
def brG (ws : List Str) (l : List Int) (k : Int) : List Int := if isBr ws k = true then l ++ [k] else l
theorem brG_grows (ws : List Str) : KPfGrows (brG ws) := by
  intro l k
  unfold brG
  split
  · simp
  · omega
theorem brG_1 {ws : List Str} {l : List Int} {k : Int} (h : (ws.getD k.toNat Str.empty == Str.ofString "(") = true) : brG ws l k = l ++ [k] := by
  unfold brG isBr; rw [h]; rfl
theorem brG_2 {ws : List Str} {l : List Int} {k : Int} (h : (ws.getD k.toNat Str.empty == Str.ofString ")") = true) : brG ws l k = l ++ [k] := by
  unfold brG isBr; rw [h, Bool.or_true]; rfl
theorem brG_3 {ws : List Str} {l : List Int} {k : Int} (h : (ws.getD k.toNat Str.empty == Str.ofString "(") = false) (h2 : (ws.getD k.toNat Str.empty == Str.ofString ")") = false) : brG ws l k = l := by
  unfold brG isBr; rw [h, h2]; rfl
theorem compEnd_same {h₀ : Heap} {L I C D : Addr} {m : Str → Option Value} {s₁ : Shared} {oI oC oD : Obj} {S : List (Addr × Obj) → Prop} {rest : Value → List (Addr × Obj) → Prop} {y : Value} {h' : Heap} {tk : Nat} {news : List (Addr × Obj)}
    (N : News h₀ L h' ((I, oI) :: (C, oC) :: (D, oD) :: news)) (F : Fr h₀ L h' m) (off : LCg.Off3 I C D news) (hS : S news) (r : rest y news) :
    LCg.CompEnd h₀ L m s₁ I oI C oC D oD S rest y { s₁ with heap := h', toks := tk } := ⟨h', tk, news, rfl, F, N, off, hS, r⟩
section
variable {prog : Program} {w : World} {A : Around} {E : Value → Shared → Prop} {s : Shared} {h₀ : Heap} {L : Addr} {m : Str → Option Value} {news : List (Addr × Obj)}
theorem len_ws {D : Addr} {ys : List Value} {nn : Nat} {ws : List PySem.Str} {Q : Value → Shared → Prop} (N : News h₀ L s.heap news) (hm : (D, W.listOf ys.toArray nn) ∈ news) (hw : StrsAre ys ws) (h9 : ws.length ≤ 9)
    (h : ∀ t tk, Q (.int (ws.length : Int) t) { s with toks := tk }) : wpAny (model prog w) A (call (.builtin "len") [.ref D]) Q E s :=
  kst_len N hm hw.length (by omega) (h _ _)
theorem len_rs {D : Addr} {ys : List Value} {nn : Nat} {rs : List Int} {Q : Value → Shared → Prop} (N : News h₀ L s.heap news) (hm : (D, W.listOf ys.toArray nn) ∈ news) (hw : IntsAre ys rs) (h9 : rs.length ≤ 9)
    (h : ∀ t tk, Q (.int (rs.length : Int) t) { s with toks := tk }) : wpAny (model prog w) A (call (.builtin "len") [.ref D]) Q E s :=
  kst_len N hm hw.length (by omega) (h _ _)
theorem item_rs {value slice : PySem.Expr} {D : Addr} {ys : List Value} {nn : Nat} {rs : List Int} {n : Nat} {k : Int} {u : Tok} {Q : Value → Shared → Prop}
    (N : News h₀ L s.heap news) (hm : (D, W.listOf ys.toArray nn) ∈ news) (hw : IntsAre ys rs) (h0 : 0 ≤ k) (h1 : k < (rs.length : Int)) (h9 : rs.length ≤ 9) (hb : ∀ x ∈ rs, 0 ≤ x ∧ x < (n : Int))
    (h : ∀ t', 0 ≤ rs.getD k.toNat 0 → rs.getD k.toNat 0 < (n : Int) → Q (.int (rs.getD k.toNat 0) t') s)
    (hs : subscripted slice false (.ref D) (.int k u) = operate [.ref D, .int k u] (getItem (.ref D) (.int k u)) := by with_unfolding_all rfl) :
    wpAny (model prog w) A (subscriptTail value slice (.ref D) (.int k u)) Q E s := by
  have hk : k.toNat < rs.length := by omega
  have hx := hb (rs.getD k.toNat 0) (by rw [List.getD_eq_getElem?_getD, List.getElem?_eq_getElem hk]; exact List.getElem_mem _)
  exact ksa_sub N hm hw h0 h1 (by omega) (fun t => h t hx.1 hx.2) hs
theorem mul_none {l : Addr} {k : Nat} {n : Nat} {u : Tok} {Q : Value → Shared → Prop} (F : Fr h₀ L s.heap m) (N : News h₀ L s.heap news) (hm : (l, W.listOf #[.none] k) ∈ news) (h9 : n ≤ 9)
    (h : ∀ P h', Fr h₀ L h' m → News h₀ L h' ((P, W.listOf (List.replicate n Value.none).toArray 0) :: news) → (∀ p ∈ news, p.1 < P) → Q (.ref P) { s with heap := h' }) :
    wpAny (model prog w) A (binaryOp .Mult (.ref l) (.int (n : Int) u)) Q E s := by
  refine mul_list F N (N _ hm).1 (by omega) (by omega) (by simp; omega) fun h' F' N' => ?_
  have e : List.foldl (fun x1 x2 => x1 ++ x2) #[] (List.replicate (if (#[Value.none] : Array Value).isEmpty = true then 0 else ((n : Nat) : Int).toNat) #[Value.none]) = (List.replicate n Value.none).toArray := by
    rw [if_neg (by simp), Int.toNat_natCast]
    have : ∀ (n : Nat) (a : Array Value), List.foldl (fun x1 x2 => x1 ++ x2) a (List.replicate n #[Value.none]) = a ++ (List.replicate n Value.none).toArray := by
      intro n
      induction n with
      | zero => intro a; simp
      | succ n ih => intro a; rw [List.replicate_succ, List.foldl_cons, ih, List.replicate_succ]; apply Array.toList_inj.mp; simp
    rw [this]; simp
  rw [e] at N'
  exact h _ _ F' N' (fun p hp => Heap.lt_size (N p hp).1)
end
local macro_rules | `(tactic| walk_at "subscriptTail Name Name ref int") => `(tactic| (k_here; (with_reducible show wpAny _ _ (subscriptTail _ _ (Value.ref _) (Value.int _ _)) _ _ _); k_dflt (refine' item_rs ?iN ?im ?iS ?ia ?ib ?ic ?id ?_; (case iN => k_asm); (case im => k_mem); (case iS => assumption); (case ia => assumption); (case ib => assumption); (case ic => first | assumption | exact Nat.le_trans (by assumption) (by assumption)); (case id => assumption)); intro _ _ _))
local macro_rules | `(tactic| walk_at "subscriptTail Name BinOp ref int") => `(tactic| (k_here; (with_reducible show wpAny _ _ (subscriptTail _ _ (Value.ref _) (Value.int _ _)) _ _ _); k_dflt (refine' item_rs ?iN ?im ?iS ?ia ?ib ?ic ?id ?_; (case iN => k_asm); (case im => k_mem); (case iS => assumption); (case ia => assumption); (case ib => assumption); (case ic => first | assumption | exact Nat.le_trans (by assumption) (by assumption)); (case id => assumption)); intro _ _ _))
theorem all_ne_app {x : Addr} {r q : List (Addr × Obj)} (h1 : ∀ p ∈ r, p.1 ≠ x) (h2 : ∀ p ∈ q, p.1 ≠ x) : ∀ p ∈ r ++ q, p.1 ≠ x := fun p hp => (List.mem_append.mp hp).elim (h1 p) (h2 p)
theorem mem_allLt {d : Addr} : ∀ {l : List (Addr × Obj)}, AllLt d l → ∀ p ∈ l, p.1 < d
  | [], _, p, hp => nomatch hp
  | a :: r, h, p, hp => by
    rcases List.mem_cons.mp hp with rfl | hp
    · exact h.1
    · exact mem_allLt h.2 p hp
theorem ne_of_allLt {L x : Addr} {r : List (Addr × Obj)} (h : AllLt L r) (hx : @LE.le Nat _ L x) : ∀ p ∈ r, p.1 ≠ x := fun p hp => Nat.ne_of_lt (Nat.lt_of_lt_of_le (mem_allLt h p hp) hx)
theorem ne_of_allLt2 {P : Addr} {r : List (Addr × Obj)} {a b c d e f : Prop} (h : a ∧ b ∧ c ∧ d ∧ e ∧ f ∧ AllLt P r) : ∀ p ∈ r, p.1 ≠ P := fun p hp => Nat.ne_of_lt (mem_allLt h.2.2.2.2.2.2 p hp)
local macro_rules | `(tactic| k_all) => `(tactic| first | assumption | (refine List.forall_mem_cons.mpr ⟨?ka, ?kb⟩; (case ka => k_ne); (case kb => k_all)))
local macro_rules | `(tactic| walk_at "CompSrcT") => `(tactic| (k_here; k_dflt (k_extra "comp")))
local macro_rules | `(tactic| walk_at "CompEnd") => `(tactic| (k_dflt (k_extra "compend")))
local macro_rules | `(tactic| walk_at "KCiEl") => `(tactic| (first | exact kci_el (brG_1 (by assumption)) rfl rfl | exact kci_el (brG_2 (by assumption)) rfl rfl))
local macro_rules | `(tactic| walk_at "KCiNo") => `(tactic| (exact kci_no (brG_3 (by assumption) (by assumption)) rfl))
local macro_rules | `(tactic| walk_at "call builtin:len") => `(tactic| (k_here; (with_reducible show wpAny _ _ (call (Value.builtin "len") [Value.ref _]) _ _ _); k_dflt (first | (refine' len_ws ?iN ?im ?iS ?ic ?_; (case iN => k_asm); (case im => k_mem); (case iS => assumption); (case ic => assumption)) | (refine' len_rs ?iN ?im ?iS ?ic ?_; (case iN => k_asm); (case im => k_mem); (case iS => assumption); (case ic => exact Nat.le_trans (by assumption) (by assumption)))); intro _ _; (try dsimp only)))
local macro_rules | `(tactic| walk_at "binaryOp Mult ref int") => `(tactic| (k_here; (with_reducible show wpAny _ _ (binaryOp _ (Value.ref _) (Value.int _ _)) _ _ _); k_dflt (refine' mul_none ?iF ?iN ?im ?ic ?_; (case iF => k_asm); (case iN => k_asm); (case im => k_mem); (case ic => assumption)); intro P' h' F' N' lP'; (try k_lt lP'); (try dsimp only)))
local macro_rules | `(tactic| walk_at "KCiEl") => `(tactic| (first | exact kci_el (brG_1 (by assumption)) rfl rfl | exact kci_el (brG_2 (by assumption)) rfl rfl | k_dflt (k_extra "el")))
local macro_rules | `(tactic| walk_at "KCiNo") => `(tactic| (first | exact kci_no (brG_3 (by assumption) (by assumption)) rfl | k_dflt (k_extra "no")))
local macro_rules | `(tactic| walk_at "exec For Name Call cons nil") => `(tactic| (k_here; (rename Fr _ _ _ _ => lF'); (with_unfolding_all refine' For_invVF lF' ?k1 ?k2 ?_; (case k1 => exact rfl); (case k2 => exact rfl); k_whole)))
local macro_rules | `(tactic| walk_at "pyIter ref") => `(tactic| (k_here; k_dflt (k_extra "iter")))
local macro_rules | `(tactic| walk_at "InvEndN") => `(tactic| (k_dflt (k_extra "inv")))
local macro_rules | `(tactic| walk_at "KswEnd") => `(tactic| (k_dflt (k_extra "wend")))
local macro_rules | `(tactic| walk_at "exec While Name") => `(tactic| (k_here; k_dflt (k_extra "while")))
/-- the ring's k-th place, and the next one round the ring -/
def ri (rs : List Int) (k : Int) : Int := rs.getD k.toNat 0
def rj (rs : List Int) (k : Int) : Int := rs.getD (Int.fmod (k + 1) (rs.length : Int)).toNat 0
def Adj (ws : List Str) (rs : List Int) (k : Int) : Prop := (ws.getD (ri rs k).toNat Str.empty == Str.ofString "(") = true ∧ (ws.getD (rj rs k).toNat Str.empty == Str.ofString ")") = true
def NoAdjTo (ws : List Str) (rs : List Int) (n : Nat) : Prop := ∀ k : Int, 0 ≤ k → k < (n : Int) → ¬ Adj ws rs k
def flG (i j : Int) (l : List Int) (t : Int) : List Int := if t ≠ i ∧ t ≠ j then l ++ [t] else l
inductive Rch (ws : List Str) : List Int → List (Option Int) → Prop
  | init : Rch ws ((rangeKs 0 ws.length).foldl (brG ws) []) (List.replicate ws.length none)
  | step {rs : List Int} {ps : List (Option Int)} {k : Int} (h : Rch ws rs ps) (h0 : 0 ≤ k) (h1 : k < (rs.length : Int)) (ha : Adj ws rs k) :
      Rch ws (rs.foldl (flG (ri rs k) (rj rs k)) []) (ps.set (ri rs k).toNat (some (rj rs k)))
def OptV (v : Value) (o : Option Int) : Prop := match o with
  | none => v = .none
  | some j => ∃ t, v = .int j t
def PVal (pv : List Value) (ps : List (Option Int)) : Prop := pv.length = ps.length ∧ ∀ k : Nat, OptV (pv.getD k .none) (ps.getD k none)
theorem pval_init (n : Nat) : PVal (List.replicate n .none) (List.replicate n none) := by
  refine ⟨by simp, fun k => ?_⟩
  have e1 : (List.replicate n Value.none).getD k .none = .none := by
    rw [List.getD_eq_getElem?_getD, List.getElem?_replicate]; split <;> rfl
  have e2 : (List.replicate n (none : Option Int)).getD k none = none := by
    rw [List.getD_eq_getElem?_getD, List.getElem?_replicate]; split <;> rfl
  rw [e1, e2]; exact rfl
theorem pval_set {pv : List Value} {ps : List (Option Int)} (h : PVal pv ps) (i : Nat) (j : Int) (t : Tok) : PVal (pv.set i (.int j t)) (ps.set i (some j)) := by
  refine ⟨by rw [List.length_set, List.length_set]; exact h.1, fun k => ?_⟩
  have hk := h.2 k
  rw [List.getD_eq_getElem?_getD, List.getD_eq_getElem?_getD] at hk ⊢
  rw [List.getElem?_set, List.getElem?_set, h.1]
  by_cases e : i = k
  · rw [if_pos e, if_pos e]
    split
    · exact ⟨t, rfl⟩
    · rfl
  · rw [if_neg e, if_neg e]; exact hk
theorem foldl_keep (p : Int → Bool) : ∀ (l a : List Int), l.foldl (fun a t => if p t = true then a ++ [t] else a) a = a ++ l.filter p
  | [], a => by simp
  | t :: l, a => by
    rw [List.foldl_cons, foldl_keep p l, List.filter_cons]
    by_cases h : p t = true
    · rw [if_pos h, if_pos h]; simp
    · rw [if_neg h, if_neg h]
theorem fold_brG (ws : List Str) (l : List Int) : l.foldl (brG ws) [] = l.filter (isBr ws) := by
  have h := foldl_keep (isBr ws) l []
  rw [List.nil_append] at h
  exact h
theorem fold_flG (i j : Int) (l : List Int) : l.foldl (flG i j) [] = l.filter (fun t => decide (t ≠ i ∧ t ≠ j)) := by
  have h := foldl_keep (fun t => decide (t ≠ i ∧ t ≠ j)) l []
  rw [List.nil_append] at h
  rw [← h]
  congr 1
  funext a t
  unfold flG
  simp
theorem rch_facts {ws : List Str} {rs : List Int} {ps : List (Option Int)} (h : Rch ws rs ps) : rs.length ≤ ws.length ∧ ps.length = ws.length ∧ ∀ x ∈ rs, 0 ≤ x ∧ x < (ws.length : Int) := by
  induction h with
  | init =>
    rw [fold_brG]
    refine ⟨Nat.le_trans (List.length_filter_le _ _) (by rw [rangeKs_length]; exact Nat.le_refl _), by simp, fun x hx => ?_⟩
    have := mem_rangeKs (List.mem_filter.mp hx).1
    omega
  | step _ _ _ _ ih =>
    rw [fold_flG]
    refine ⟨Nat.le_trans (List.length_filter_le _ _) ih.1, by rw [List.length_set]; exact ih.2.1, fun x hx => ih.2.2 x (List.mem_filter.mp hx).1⟩
theorem rj_bounds {rs : List Int} {k : Int} (h0 : 0 ≤ k) (h1 : k < (rs.length : Int)) : 0 ≤ Int.fmod (k + 1) (rs.length : Int) ∧ Int.fmod (k + 1) (rs.length : Int) < (rs.length : Int) :=
  ⟨fmod_lo _ (by omega), fmod_hi _ (by omega)⟩
structure PS where
  R : Addr
  rv : List Value
  rs : List Int
  pv : List Value
  ps : List (Option Int)
  oi : Obj
  oj : Obj
  st : Bool
def parLed (P A1 A2 A3 D : Addr) (o3 : Obj) (ys : List Value) (nn : Nat) (news : List (Addr × Obj)) (c : PS) : List (Addr × Obj) :=
  (P, W.listOf c.pv.toArray 0) :: (c.R, LCg.lst c.rv) :: (A3, c.oj) :: (A2, c.oi) :: (A1, o3) :: (D, W.listOf ys.toArray nn) :: news
def parNames (c : PS) : List (Str × Value) := [(Str.ofString "ring", .ref c.R), (Str.ofString "struck", .bool c.st)]
def parFacts (P A1 A2 A3 : Addr) (c : PS) : Prop := IntsAre c.rv c.rs ∧ PVal c.pv c.ps ∧ (∃ v, c.oi.data = .cell v) ∧ (∃ v, c.oj.data = .cell v) ∧ (@Ne Nat A3 c.R) ∧ (@Ne Nat A2 c.R) ∧ (@Ne Nat A1 c.R) ∧ (@Ne Nat c.R P)
def parInv (ws : List Str) (c : PS) : Prop := Rch ws c.rs c.ps ∧ (c.st = false → NoAdjTo ws c.rs c.rs.length)
def parMu (c : PS) : Nat := 2 * c.rs.length + (if c.st = true then 1 else 0)
theorem news_skip2 {h₀ h : Heap} {L : Addr} {a b : Addr × Obj} {r : List (Addr × Obj)} (N : News h₀ L h (a :: b :: r)) : News h₀ L h (a :: r) := fun p hp => N p (by
  rcases List.mem_cons.mp hp with h | h
  · rw [h]; exact List.mem_cons_self
  · exact List.mem_cons_of_mem _ (List.mem_cons_of_mem _ h))
theorem flG_grows (i j : Int) : KPfGrows (flG i j) := by
  intro l k
  unfold flG
  split
  · simp
  · omega
theorem flG_1 {i j t : Int} {l : List Int} (h : t ≠ i) (h2 : t ≠ j) : flG i j l t = l ++ [t] := by unfold flG; rw [if_pos ⟨h, h2⟩]
theorem flG_2 {i j t : Int} {l : List Int} (h : t = i) : flG i j l t = l := by unfold flG; rw [if_neg (fun x => x.1 h)]
theorem flG_3 {i j t : Int} {l : List Int} (h : t = j) : flG i j l t = l := by unfold flG; rw [if_neg (fun x => x.2 h)]
theorem flG_less {rs : List Int} {k : Int} (h0 : 0 ≤ k) (h1 : k < (rs.length : Int)) (j : Int) : (rs.foldl (flG (ri rs k) j) []).length < rs.length := by
  rw [fold_flG]
  have hk : k.toNat < rs.length := by omega
  have hm : ri rs k ∈ rs := by
    unfold ri
    rw [List.getD_eq_getElem?_getD, List.getElem?_eq_getElem hk]; exact List.getElem_mem _
  refine Nat.lt_of_le_of_ne (List.length_filter_le _ _) fun e => ?_
  have := List.filter_eq_self.mp (List.filter_sublist.eq_of_length e) _ hm
  simp at this
section
variable {prog : Program} {w : World} {A : Around} {E : Value → Shared → Prop} {Q : Flow → Shared → Prop} {s : Shared} {env : Env} {h₀ : Heap} {L : Addr}
theorem par_while {test : PySem.Expr} {body : List Stmt} {pos : Pos} {m₀ : Str → Option Value} {P A1 A2 A3 D R : Addr} {x9 : Addr × Obj} {o3 oi oj : Obj} {ys rv pv : List Value} {rs : List Int} {ps : List (Option Int)} {nn : Nat} {news : List (Addr × Obj)} (ws : List Str)
    (F : Fr h₀ L s.heap m₀) (N : News h₀ L s.heap ((P, W.listOf pv.toArray 0) :: x9 :: (R, LCg.lst rv) :: (A3, oj) :: (A2, oi) :: (A1, o3) :: (D, W.listOf ys.toArray nn) :: news))
    (hf : parFacts P A1 A2 A3 ⟨R, rv, rs, pv, ps, oi, oj, true⟩) (hk : m₀ (Str.ofString "ring") = some (.ref R)) (hk2 : m₀ (Str.ofString "struck") = some (.bool true)) (hp : Rch ws rs ps)
    (turn : ∀ (c : PS) (u : Str → Option Value) h tk, parFacts P A1 A2 A3 c → parInv ws c → Fr h₀ L h (kstB (fun z => if [Str.ofString "k"].contains z then u z else m₀ z) (parNames c)) → News h₀ L h (parLed P A1 A2 A3 D o3 ys nn news c) →
      wpAny (model prog w) A (isTrue test env (eval test env)) (fun b s₂ =>
        if b = true then wpAny (model prog w) A (execs body env) (KswPost h₀ L s (parLed P A1 A2 A3 D o3 ys nn news) parNames (parFacts P A1 A2 A3) [Str.ofString "k"] m₀ (parInv ws) parMu Q c) E s₂ else Q .next s₂) E { s with heap := h, toks := tk })
    (hE : PassesOwn (model prog w) A env E := by passes_own) :
    wpAny (model prog w) A (exec (.While test body [] pos) env) Q E s :=
  ksw_while (σ := PS) (parLed P A1 A2 A3 D o3 ys nn news) parNames (parFacts P A1 A2 A3) [Str.ofString "k"] (parInv ws) parMu ⟨R, rv, rs, pv, ps, oi, oj, true⟩ F (news_skip2 N) hf
    (fun p hp => by
      simp only [parNames, List.mem_cons, List.not_mem_nil, or_false] at hp
      rcases hp with rfl | rfl
      · exact hk
      · exact hk2) ⟨hp, fun h => by cases h⟩ turn hE
def iterLed (P A1 A2 A3 D R : Addr) (o3 : Obj) (ys rv pv : List Value) (nn : Nat) (news : List (Addr × Obj)) (c : Obj × Obj) : List (Addr × Obj) :=
  (P, W.listOf pv.toArray 0) :: (R, LCg.lst rv) :: (A3, c.2) :: (A2, c.1) :: (A1, o3) :: (D, W.listOf ys.toArray nn) :: news
def iterFacts (c : Obj × Obj) : Prop := (∃ v, c.1.data = .cell v) ∧ (∃ v, c.2.data = .cell v)
theorem par_iter {body : List Stmt} {r : Addr} {t₀ u₀ v₀ : Tok} {m₀ : Str → Option Value} {P A1 A2 A3 D R : Addr} {o3 oi oj : Obj} {ys rv pv : List Value} {nn : Nat} {news : List (Addr × Obj)} (ws : List Str) (rs : List Int)
    (hh : A.handled = none) (hr : IsRange s.heap r 0 (rs.length : Int) 1 t₀ u₀ v₀) (h9 : rs.length ≤ 9) (F : Fr h₀ env.locals s.heap m₀)
    (N : News h₀ env.locals s.heap ((P, W.listOf pv.toArray 0) :: (R, LCg.lst rv) :: (A3, oj) :: (A2, oi) :: (A1, o3) :: (D, W.listOf ys.toArray nn) :: news)) (hi : ∃ v, oi.data = .cell v) (hj : ∃ v, oj.data = .cell v)
    (turn : ∀ (c : Obj × Obj) (pre : List Int) (k : Int) t (u : Str → Option Value) h tk own, k = 0 + (pre.length : Int) → pre.length < rs.length → OwnOff own ((iterLed P A1 A2 A3 D R o3 ys rv pv nn news (oi, oj)).map (·.1)) → iterFacts c → NoAdjTo ws rs pre.length →
      Fr h₀ env.locals h (fun y => if y = Str.ofString "k" then some (.int k t) else kstB (fun z => if ([] : List Str).contains z then u z else m₀ z) [] y) → News h₀ env.locals h (iterLed P A1 A2 A3 D R o3 ys rv pv nn news c ++ own) →
      wpAny (model prog w) A (execs body env) (InvPostN h₀ env.locals (KstS (iterLed P A1 A2 A3 D R o3 ys rv pv nn news) (fun _ => []) iterFacts (Str.ofString "k") [] m₀ (fun pre _ => NoAdjTo ws rs pre.length) (pre ++ [k])) own ((iterLed P A1 A2 A3 D R o3 ys rv pv nn news (oi, oj)).map (·.1)) { s with heap := h, toks := tk } Q) E { s with heap := h, toks := tk })
    (done : ∀ (c : Obj × Obj) (u : Str → Option Value) h tk, iterFacts c → NoAdjTo ws rs rs.length → Fr h₀ env.locals h (fun y => if y = Str.ofString "k" then u y else kstB (fun z => if ([] : List Str).contains z then u z else m₀ z) [] y) → News h₀ env.locals h (iterLed P A1 A2 A3 D R o3 ys rv pv nn news c) → Q .next { s with heap := h, toks := tk }) :
    wpAny (model prog w) A (pyIter (.ref r)) (fun it s₂ => LoopAtV prog w A h₀ env (Str.ofString "k") body Q E it s₂) E s :=
  kst_range (σ := Obj × Obj) (n := rs.length) (iterLed P A1 A2 A3 D R o3 ys rv pv nn news) (fun _ => []) iterFacts [] (fun pre _ => NoAdjTo ws rs pre.length) (oi, oj) hh hr (small_one (by omega) (by omega) (by omega) (by omega)) (by rw [rangeSize_nat]; omega) F N ⟨hi, hj⟩ (fun _ h => nomatch h) (fun k h0 h1 => by simp at h1; omega) turn
    (fun c u h tk hf hp F' N' => done c u h tk hf (by rwa [rangeKs_length] at hp) F' N')
end
theorem noAdj_succ {ws : List Str} {rs : List Int} {pre : List Int} {k : Int} (h : NoAdjTo ws rs pre.length) (hk : k = 0 + (pre.length : Int)) (ha : ¬ Adj ws rs k) : NoAdjTo ws rs (pre ++ [k]).length := by
  intro q h0 h1
  rw [List.length_append, List.length_singleton] at h1
  by_cases e : q = k
  · rw [e]; exact ha
  · exact h q h0 (by omega)
theorem not_adj1 {ws : List Str} {rs : List Int} {k : Int} (h : (ws.getD (rs.getD k.toNat 0).toNat Str.empty == Str.ofString "(") = false) : ¬ Adj ws rs k := fun ha => by
  have := ha.1; unfold ri at this; rw [h] at this; cases this
theorem not_adj2 {ws : List Str} {rs : List Int} {k : Int} (h : (ws.getD (rs.getD (Int.fmod (k + 1) (rs.length : Int)).toNat 0).toNat Str.empty == Str.ofString ")") = false) : ¬ Adj ws rs k := fun ha => by
  have := ha.2; unfold rj at this; rw [h] at this; cases this
theorem is_adj {ws : List Str} {rs : List Int} {k : Int} (h : (ws.getD (rs.getD k.toNat 0).toNat Str.empty == Str.ofString "(") = true) (h2 : (ws.getD (rs.getD (Int.fmod (k + 1) (rs.length : Int)).toNat 0).toNat Str.empty == Str.ofString ")") = true) : Adj ws rs k := ⟨h, h2⟩
section
variable {prog : Program} {w : World} {A : Around} {E : Value → Shared → Prop} {s s₁ : Shared} {h₀ h' : Heap} {L : Addr} {m m' m₀ : Str → Option Value} {tk : Nat}
theorem set_part {P : Addr} {pv : List Value} {n n' : Nat} {k x : Int} {t u : Tok} {news news' : List (Addr × Obj)} {Q : Unit → Shared → Prop} (F : Fr h₀ L s.heap m) (N : News h₀ L s.heap news) (U : Upd P (W.listOf pv.toArray n) (W.listOf (pv.set k.toNat (.int x u)).toArray n) news news')
    (h0 : 0 ≤ k) (h1 : k < (n' : Int)) (hp : pv.length = n') (h9 : n' ≤ 9)
    (h : ∀ h', Fr h₀ L h' m → News h₀ L h' news' → Q () { s with heap := h' }) :
    wpAny (model prog w) A (setItem (.ref P) (.int k t) (.int x u)) Q E s := by
  obtain ⟨pre, post, rfl, rfl, a, b⟩ := U.split
  have z := N (P, W.listOf pv.toArray n) (List.mem_append.mpr (.inr (.head _)))
  refine ki_setAt z.1 h0 (by omega) (by rw [List.size_toArray]; omega) (h _ (F.change (Heap.SameBut.update ..) z.2.1 z.2.2) (ki_turn _ N a b ?_ ?_))
  · show pv.toArray.setIfInBounds k.toNat (.int x u) = (pv.set k.toNat (.int x u)).toArray
    apply Array.toList_inj.mp
    simp
  · simp
theorem par_inv_end {T : Addr × Obj} {P A1 A2 A3 D R : Addr} {o3 oi oj oi2 oj2 : Obj} {ys rv pv : List Value} {nn : Nat} {news own : List (Addr × Obj)} {ws : List Str} {rs pre : List Int} {kq : Int}
    (F : Fr h₀ L h' m') (N : News h₀ L h' (T :: (P, W.listOf pv.toArray 0) :: (R, LCg.lst rv) :: (A3, oj2) :: (A2, oi2) :: (A1, o3) :: (D, W.listOf ys.toArray nn) :: (news ++ own)))
    (hi : ∃ v, oi2.data = .cell v) (hj : ∃ v, oj2.data = .cell v) (hm : ∀ z, z ≠ Str.ofString "k" → m' z = m₀ z) (hna : NoAdjTo ws rs (pre ++ [kq]).length) :
    InvEndN h₀ L (KstS (iterLed P A1 A2 A3 D R o3 ys rv pv nn news) (fun _ => []) iterFacts (Str.ofString "k") [] m₀ (fun pre _ => NoAdjTo ws rs pre.length) (pre ++ [kq])) own ((iterLed P A1 A2 A3 D R o3 ys rv pv nn news (oi, oj)).map (·.1)) s₁ { s₁ with heap := h', toks := tk } :=
  kst_end (oi2, oj2) F N (fun p hp => List.mem_cons_of_mem _ (List.mem_append_left own hp)) (fun p hp => List.mem_cons_of_mem _ (List.mem_append_right (iterLed P A1 A2 A3 D R o3 ys rv pv nn news (oi2, oj2)) hp)) rfl ⟨hi, hj⟩ (fun _ h => nomatch h) (fun z hz _ _ => hm z hz) hna
theorem par_wend_none {P A1 A2 A3 D R : Addr} {o3 oi2 oj2 : Obj} {ys rv pv : List Value} {nn : Nat} {news : List (Addr × Obj)} {ws : List Str} {rs : List Int} {ps : List (Option Int)} {c : PS}
    (F : Fr h₀ L h' m') (N : News h₀ L h' ((P, W.listOf pv.toArray 0) :: (R, LCg.lst rv) :: (A3, oj2) :: (A2, oi2) :: (A1, o3) :: (D, W.listOf ys.toArray nn) :: news))
    (hf : parFacts P A1 A2 A3 ⟨R, rv, rs, pv, ps, oi2, oj2, false⟩) (h1 : m' (Str.ofString "ring") = some (.ref R)) (h2 : m' (Str.ofString "struck") = some (.bool false))
    (hr : ∀ z, z ≠ Str.ofString "ring" → z ≠ Str.ofString "struck" → z ≠ Str.ofString "k" → m' z = m₀ z) (hp : parInv ws ⟨R, rv, rs, pv, ps, oi2, oj2, false⟩) (hl : rs.length = c.rs.length) (hs : c.st = true) :
    KswEnd h₀ L s₁ (parLed P A1 A2 A3 D o3 ys nn news) parNames (parFacts P A1 A2 A3) [Str.ofString "k"] m₀ (parInv ws) parMu c { s₁ with heap := h', toks := tk } :=
  ksw_end ⟨R, rv, rs, pv, ps, oi2, oj2, false⟩ F N (fun p hp => hp) hf
    (fun p hp => by
      simp only [parNames, List.mem_cons, List.not_mem_nil, or_false] at hp
      rcases hp with rfl | rfl
      · exact h1
      · exact h2)
    (fun z hz hk => hr z (hz _ (.head _)) (hz _ (.tail _ (.head _))) (by simpa using hk)) hp (by
      unfold parMu
      dsimp only
      rw [hs, hl]; simp)
theorem par_wend_some {P A1 A2 A3 D R : Addr} {x8 x9 : Addr × Obj} {o3 oi2 oj2 : Obj} {ys rv pv : List Value} {nn : Nat} {news own : List (Addr × Obj)} {ws : List Str} {rs : List Int} {ps : List (Option Int)} {c : PS}
    (F : Fr h₀ L h' m') (N : News h₀ L h' ((R, LCg.lst rv) :: x8 :: (P, W.listOf pv.toArray 0) :: x9 :: (A3, oj2) :: (A2, oi2) :: (A1, o3) :: (D, W.listOf ys.toArray nn) :: (news ++ own)))
    (hf : parFacts P A1 A2 A3 ⟨R, rv, rs, pv, ps, oi2, oj2, true⟩) (h1 : m' (Str.ofString "ring") = some (.ref R)) (h2 : m' (Str.ofString "struck") = some (.bool true))
    (hr : ∀ z, z ≠ Str.ofString "ring" → z ≠ Str.ofString "struck" → z ≠ Str.ofString "k" → m' z = m₀ z) (hp : Rch ws rs ps) (hl : rs.length < c.rs.length) :
    KswEnd h₀ L s₁ (parLed P A1 A2 A3 D o3 ys nn news) parNames (parFacts P A1 A2 A3) [Str.ofString "k"] m₀ (parInv ws) parMu c { s₁ with heap := h', toks := tk } :=
  ksw_end ⟨R, rv, rs, pv, ps, oi2, oj2, true⟩ F N (fun p hp => by
      simp only [parLed, List.mem_cons, List.mem_append] at hp ⊢
      rcases hp with hp | hp | hp | hp | hp | hp | hp <;> simp only [hp, true_or, or_true]) hf
    (fun p hp => by
      simp only [parNames, List.mem_cons, List.not_mem_nil, or_false] at hp
      rcases hp with rfl | rfl
      · exact h1
      · exact h2)
    (fun z hz hk => hr z (hz _ (.head _)) (hz _ (.tail _ (.head _))) (by simpa using hk)) ⟨hp, fun h => by cases h⟩ (by
      unfold parMu
      dsimp only
      rw [if_pos rfl]; omega)
theorem news_keep {a b c d e f : Addr × Obj} {r : List (Addr × Obj)} {h : Heap} (N : News h₀ L h (a :: b :: c :: d :: e :: f :: r)) : News h₀ L h (a :: f :: r) := fun p hp => N p (by
  simp only [List.mem_cons] at hp ⊢
  rcases hp with hp | hp | hp <;> simp only [hp, true_or, or_true])
end
def ParR (ws : List Str) (vs : List Value) : Prop := ∃ ps rs, PVal vs ps ∧ Rch ws rs ps ∧ NoAdjTo ws rs rs.length
local macro_rules | `(tactic| walk_at "setItem ref int") => `(tactic| (k_here; (with_reducible show wpAny _ _ (setItem (Value.ref _) (Value.int _ _) (Value.int _ _)) _ _ _); k_dflt (refine' set_part ?sF ?sN ?sU ?s0 ?s1 ?sp ?s9 ?_; (case sF => k_asm); (case sN => k_asm); (case sU => k_upd); (case s0 => assumption); (case s1 => assumption); (case sp => assumption); (case s9 => assumption)); intro h' F' N'; (try dsimp only)))
def CtL (n : Nat) (w : World) (mean : ExcName → Option Value) (mg mb : Str → Option Value) (f : Addr) (D : Addr) (ys : List Value) (nn : Nat) (R : List Value → Prop) : Prop :=
  ∀ (dp un : Nat) (gd : Option (List Code)) (cn : Str) (cs : Scope) (a : Addr) (ccd : Value) (cl : List (Str × Addr)) (outer : List Env) (A₀ : Around) (base h₀ : Heap) (L : Addr) (m : Str → Option Value) (news : List (Addr × Obj)) (s : Shared) (Q E : Value → Shared → Prop),
    Below A₀ base outer h₀ → Fr h₀ L s.heap m → (hd.heap_39 w.params).In h₀ → News h₀ L s.heap ((D, W.listOf ys.toArray nn) :: news) → Top hd.view_39 (looseW hd.view_39 [Str.ofString "find_matching_paren"]) mean mg mb h₀ → cs.kind = .function →
    dp + n < recursionLimit → un + 8 * n < cLine →
    (∀ (P : Addr) (vs : List Value) (n' : Nat) (h' : Heap) (tk' : Nat), R vs → Fr h₀ L h' m → News h₀ L h' ((P, W.listOf vs.toArray n') :: (D, W.listOf ys.toArray nn) :: news) → Q (.ref P) { s with heap := h', toks := tk' }) →
    wpAny (model PySem.Challenge.rw_bn5029_01.row.prog w) (ktrTop dp un gd cn cs L a ccd cl outer) (call (.ref f) [.ref D]) Q E s

set_option maxRecDepth 100000 in
set_option maxHeartbeats 600000 in
theorem par_ct (w : World) (mean : ExcName → Option Value) (mg mb : Str → Option Value) (D : Addr) (ys : List Value) (nn : Nat) (ws : List Str)
    (hy : StrsAre ys ws) (hl : ws.length ≤ 9) : CtL 6 w mean mg mb 35 D ys nn (ParR ws) := by
  unfold CtL
  w_on
  k_fill
  intro dp un gd cn cs a ccd cl outer A₀ base h₀ L m news s Q E B F X N T hk hdp hun hret
  refine wpAny_call ?_
  k_dflt (refine' code_defC ?k1 ?k2 ?k3 ?k4 ?k5 ?kA ?kF ?kK ?k6 ?k7 ?k8 ?k9 ?kB ?kD ?_ ?c2 ?c3 ?c4; (case kA => exact rfl); (case kF => exact rfl); (case kK => assumption); (case k1 => k_asm); (case k2 => k_asm); (case k3 => k_asm); (case k4 => k_asm); (case k5 => k_asm); (case k6 => k_is); (case k7 => k_is); (case k8 => ktr_room); (case k9 => exact BindsTo.of_eq rfl); (case kB => exact rfl); (case kD => decide +kernel); (case c2 => exact rfl); (case c3 => exact rfl); (case c4 => exact rfl); k_whole; intro g' L' h' tk' cells' FG' F' N' Y' B' X' T' l1; (try k_lt l1); k_cells Y'; (try simp only [List.cons_append, List.nil_append] at N'); (try dsimp only); (try k_lift B'); (try k_fold))
  obtain ⟨lD0, lN0⟩ := l1
  k_with_none
  k_with "el" => (exact kci_el (flG_1 (by assumption) (by assumption)) rfl rfl)
  k_with "no" => (first | exact kci_no (flG_2 (by assumption)) rfl | exact kci_no (flG_3 (by assumption)) rfl)
  k_with "comp" => (first
    | k_dflt (refine LCt.CompSrcT.range (n := ws.length) (by rfl) (by k_asm) (by k_asm) (by assumption) (small_one (by omega) (by omega) (by omega) (by omega)) (by rw [rangeSize_nat]; omega) (by rw [PySem.sizeLine_eq]; omega) ?_; intro g'; refine' kci_range (brG ws) (fun k' t' I' oI' C' oC' D' m' ys' l' h' tk' E' hlo' hhi' hI' hC' hx' F' N' off' ne' hM' => ?_) ?_ (brG_grows ws); (all_goals (try k_fold)))
    | (k_dflt (refine LCt.CompSrcT.ledger (its := rv.toArray) (by rfl) (by k_asm) (by k_asm) (by k_mem) (by rw [PySem.sizeLine_eq, List.size_toArray, IntsAre.length hri]; omega) ?_; intro g'; refine' kci_list (flG (ri rs kq) (rj rs kq)) hri (fun k' t' I' oI' C' oC' D' m' ys' l' h' tk' E' hk' hI' hC' hx' F' N' off' ne' hM' => ?_) ?_ (flG_grows _ _); (all_goals (try k_fold)))))
  k_with "compend" => (refine' compEnd_same ?cN ?cF ?cO ?cS ?_; (case cN => assumption); (case cF => assumption); (case cO => assumption); (case cS => first | exact True.intro | assumption | exact .inr ⟨_, by k_mem, rfl, _, rfl⟩))
  k_with "while" => (
    (rename News _ _ _ _ => lN'); (rename Fr _ _ _ _ => lF');
    refine' par_while ws lF' lN' ?kf (by rfl) (by rfl) Rch.init ?_
    (case kf => exact ⟨by assumption, pval_init _, ⟨_, by assumption⟩, ⟨_, by assumption⟩, by simp only [*, ne_eq, not_false_eq_true], by simp only [*, ne_eq, not_false_eq_true], by simp only [*, ne_eq, not_false_eq_true], by (dsimp only; omega)⟩)
    clear lF' lN'
    rintro ⟨R, rv, rs, pv, ps, oi, oj, st⟩ u hh tkk hf hp F9 N9
    dsimp only [parLed, parNames, kstB] at F9 N9
    dsimp only [parFacts] at hf
    dsimp only [parInv] at hp
    obtain ⟨hri, hpv, ⟨vi, hoi⟩, ⟨vj, hoj⟩, hR3, hR2, hR1, hRP⟩ := hf
    obtain ⟨hrc, hst⟩ := hp
    obtain ⟨hb1, hb2, hb3⟩ := rch_facts hrc
    (try k_fold)
    skip)
  k_with "inv" => (
    refine' par_inv_end ?vF ?vN ?vi ?vj ?vm ?vn; (case vF => assumption); (case vN => assumption); (case vi => exact ⟨_, by assumption⟩); (case vj => exact ⟨_, by assumption⟩); (case vm => (intro z hz; rw [if_neg hz]; rfl)); (case vn => exact noAdj_succ (by assumption) (by assumption) (by first | exact not_adj1 (by assumption) | exact not_adj2 (by assumption))))
  k_with "wend" => (first
    | (refine' par_wend_none ?vF ?vN ?vf ?v1 ?v2 ?vm ?vp ?vl ?vs; (case vF => assumption); (case vN => assumption); (case vf => exact ⟨hri, hpv, ⟨_, by assumption⟩, ⟨_, by assumption⟩, by assumption, by assumption, by assumption, by assumption⟩); (case v1 => rfl); (case v2 => rfl); (case vp => exact ⟨hrc, fun _ => by assumption⟩); (case vl => rfl); (case vs => assumption); (case vm => (intro z h1 h2 h3; (try dsimp only); rw [if_neg h3]; simp [h1, h2, h3])))
    | (refine' par_wend_some ?vF ?vN ?vf ?v1 ?v2 ?vm ?vp ?vl; (case vF => assumption); (case vN => assumption); (case vf => exact ⟨by assumption, pval_set hpv _ _ _, ⟨_, by assumption⟩, ⟨_, by assumption⟩, by simp only [*, ne_eq, not_false_eq_true], by simp only [*, ne_eq, not_false_eq_true], by simp only [*, ne_eq, not_false_eq_true], Ne.symm (by simp only [*, ne_eq, not_false_eq_true])⟩); (case v1 => rfl); (case v2 => rfl); (case vp => exact Rch.step hrc hk0 hk1 (is_adj (by assumption) (by assumption))); (case vl => exact flG_less hk0 hk1 _); (case vm => (intro z h1 h2 h3; (try dsimp only); simp [h1, h2, h3]))))
  k_with "iter" => (
    (rename News _ _ _ _ => lN'); (rename Fr _ _ _ _ => lF'); (rename IsRange _ _ _ _ _ _ _ _ => rgX);
    refine' par_iter ws rs (by rfl) rgX (by omega) lF' lN' ⟨_, hoi⟩ ⟨_, hoj⟩ ?_ ?_
    all_goals clear lF' lN'
    rintro ⟨oi2, oj2⟩ pre kq tq u hh tkk own hkq hlt hoff ⟨⟨vi2, hoi2⟩, ⟨vj2, hoj2⟩⟩ hna F9 N9
    dsimp only [iterLed, kstB, List.cons_append, List.map_cons] at F9 N9 hoff
    dsimp only at hoi2 hoj2
    have hk0 : 0 ≤ kq := by omega
    have hk1 : kq < (rs.length : Int) := by omega
    obtain ⟨hj0, hj1⟩ := rj_bounds hk0 hk1
    have hn2 : ∀ p ∈ news ++ own, p.1 ≠ L' + 1 + 1 := all_ne_app (ne_of_allLt lN0 (by omega)) (OwnOff.ne hoff (by simp))
    have hn3 : ∀ p ∈ news ++ own, p.1 ≠ L' + 1 + 1 + 1 := all_ne_app (ne_of_allLt lN0 (by omega)) (OwnOff.ne hoff (by simp))
    have hnP : ∀ p ∈ news ++ own, p.1 ≠ _ := all_ne_app (ne_of_allLt2 (by assumption)) (OwnOff.ne hoff (List.mem_cons_self))
    dsimp only at hnP
    have hpl : pv.length = ws.length := hpv.1.trans hb2
    (try k_fold)
    rotate_left
    rintro ⟨oi2, oj2⟩ u hh tkk ⟨⟨vi2, hoi2⟩, ⟨vj2, hoj2⟩⟩ hna F9 N9
    dsimp only [iterLed, kstB] at F9 N9
    dsimp only at hoi2 hoj2
    (try k_fold)
    rotate_right)
  k_steps

  rename News _ _ _ _ => kN
  exact hret _ _ _ _ _ ⟨ps, rs, by assumption, by assumption, hst (by assumption)⟩ (by k_asm) (news_keep kN)
end Mine

namespace Mine
def tabS (x : Int) : Str := ([Str.ofString "(", Str.ofString ")", Str.ofString "(", Str.ofString ")", Str.ofString " a ", Str.ofString "'(\"\\'", Str.ofString "\"')\\\"", Str.ofString "''"] : List Str).getD (Int.fmod x 8).toNat Str.empty

def kd (x : Str) : Int := if (x == Str.ofString "(") = true then 1 else if (x == Str.ofString ")") = true then -1 else 0
def txt (l : List Str) : Str := ⟨(l.flatMap (·.cps.toList)).toArray⟩
def ht (l : List Str) : Int := (l.map kd).sum
def placesOf (l : List Str) : List Int := (List.range l.length).map fun i => ((txt (l.take i)).length : Int)
def heightsOf (l : List Str) : List Int := (List.range (l.length + 1)).map fun i => ht (l.take i)
theorem txt_nil : txt [] = Str.ofString "" := by decide
theorem txt_append (a b : List Str) : txt (a ++ b) = txt a ++ txt b := Str.ext' (by rw [Str.cps_append]; simp [txt])
theorem txt_one (x : Str) : txt [x] = x := Str.ext' (by simp [txt])
theorem txt_snoc (l : List Str) (x : Str) : txt (l ++ [x]) = txt l ++ x := by rw [txt_append, txt_one]
theorem ht_snoc (l : List Str) (x : Str) : ht (l ++ [x]) = ht l + kd x := by simp [ht]
theorem txt_len_le (l : List Str) (h : ∀ x ∈ l, x.length ≤ 5) : (txt l).length ≤ 5 * l.length := by
  induction l with
  | nil => rw [txt_nil]; decide
  | cons a r ih =>
    have e : a :: r = [a] ++ r := rfl
    rw [e, txt_append, txt_one, Str.length_append, List.length_append]
    have h1 := h a (.head _)
    have h2 := ih fun x hx => h x (.tail _ hx)
    simp only [List.length_singleton]
    omega
theorem places_snoc (l : List Str) (x : Str) : placesOf (l ++ [x]) = placesOf l ++ [((txt l).length : Int)] := by
  unfold placesOf
  rw [List.length_append, List.length_singleton, List.range_succ, List.map_append, List.map_singleton]
  congr 1
  · refine List.map_congr_left fun i hi => ?_
    rw [List.take_append_of_le_length (Nat.le_of_lt (List.mem_range.mp hi))]
  · rw [List.take_left]
theorem heights_snoc (l : List Str) (x : Str) : heightsOf (l ++ [x]) = heightsOf l ++ [ht l + kd x] := by
  unfold heightsOf
  rw [List.length_append, List.length_singleton, List.range_succ (n := l.length + 1), List.map_append, List.map_singleton]
  congr 1
  · refine List.map_congr_left fun i hi => ?_
    rw [List.take_append_of_le_length (Nat.le_of_lt_succ (List.mem_range.mp hi))]
  · have e : l.length + 1 = (l ++ [x]).length := by simp
    rw [e, List.take_length, ht_snoc]
theorem heights_len (l : List Str) : (heightsOf l).length = l.length + 1 := by simp [heightsOf]
theorem places_len (l : List Str) : (placesOf l).length = l.length := by simp [placesOf]
theorem heights_last (l : List Str) : (heightsOf l).getD ((heightsOf l).length - 1) 0 = ht l := by
  rw [heights_len]
  simp [heightsOf]
/-- a word of the law's table -/
def IsW (x : Str) : Prop := x = Str.ofString "(" ∨ x = Str.ofString ")" ∨ x = Str.ofString " a " ∨ x = Str.ofString "'(\"\\'" ∨ x = Str.ofString "\"')\\\"" ∨ x = Str.ofString "''"
theorem isW_tab (x : Int) : IsW (tabS x) := by
  have h0 := fmod_lo x (n := 8) (by decide)
  have h1 := fmod_hi x (n := 8) (by decide)
  unfold tabS
  have h2 : ∀ k : Nat, k < 8 → IsW (([Str.ofString "(", Str.ofString ")", Str.ofString "(", Str.ofString ")", Str.ofString " a ", Str.ofString "'(\"\\'", Str.ofString "\"')\\\"", Str.ofString "''"] : List Str).getD k Str.empty) := by
    intro k hk
    match k, hk with
    | 0, _ => exact .inl rfl
    | 1, _ => exact .inr (.inl rfl)
    | 2, _ => exact .inl rfl
    | 3, _ => exact .inr (.inl rfl)
    | 4, _ => exact .inr (.inr (.inl rfl))
    | 5, _ => exact .inr (.inr (.inr (.inl rfl)))
    | 6, _ => exact .inr (.inr (.inr (.inr (.inl rfl))))
    | 7, _ => exact .inr (.inr (.inr (.inr (.inr rfl))))
  exact h2 _ (by omega)
theorem isW_len {x : Str} (h : IsW x) : x.length ≤ 5 ∧ 1 ≤ x.length := by
  rcases h with rfl | rfl | rfl | rfl | rfl | rfl <;> decide
theorem law_words {ys : List Value} {ns : List Int} (h : CarriedAll ys ((ns.take 9).map fun k => PyData.str (tabS k))) : ∃ ws, StrsAre ys ws ∧ ws.length ≤ 9 ∧ ∀ x ∈ ws, IsW x := by
  refine ⟨_, CarriedAll.strsOf (f := tabS) h, ?_, fun x hx => ?_⟩
  · rw [List.length_map, List.length_take]; omega
  · obtain ⟨k, _, rfl⟩ := List.mem_map.mp hx
    exact isW_tab k
theorem l1_facts {l : List Str} (hl : l.length ≤ 9) (hW : ∀ x ∈ l, IsW x) : (txt l).length ≤ 45 ∧ 0 < (heightsOf l).length ∧ (heightsOf l).length ≤ 10 := by
  have h := txt_len_le l fun x hx => (isW_len (hW x hx)).1
  rw [heights_len]
  omega
theorem take_facts {ws : List Str} {i : Nat} {x : Str} (hl : ws.length ≤ 9) (hW : ∀ x ∈ ws, IsW x) (hi : ws[i]? = some x) : (ws.take i).length ≤ 9 ∧ (∀ x ∈ ws.take i, IsW x) ∧ IsW x :=
  ⟨Nat.le_trans (List.length_take_le' _ _) hl, fun y hy => hW y (List.mem_of_mem_take hy), hW x (List.mem_of_getElem? hi)⟩
def turnL (ws : List Str) (r : Nat) : List Str := ws.drop r ++ ws.take r

def whl (y : Str) : Str := Str.ofString "\t(" ++ y ++ Str.ofString ") \n"
/-- the alone ones among the first i words -/
def cntA (ws : List Str) : Nat → Int
  | 0 => 0
  | i + 1 => cntA ws i + (if (ws.getD i Str.empty == Str.ofString "(") = true ∧ fmAt (txt ws ++ txt ws) ((txt (ws.take i)).length : Int) 0 false false = none then 1 else 0)
theorem cnt_no {ws : List Str} {k a : Int} (hk : 0 ≤ k) (ha : a = cntA ws k.toNat) (h : (ws.getD k.toNat Str.empty == Str.ofString "(") = false) : a = cntA ws (k.toNat + 1) := by
  rw [cntA, if_neg (fun x => by rw [h] at x; exact absurd x.1 (by decide)), ← ha]; omega
theorem cnt_none {ws : List Str} {x : Str} {k a : Int} (hx : x = txt ws) (hk : 0 ≤ k) (ha : a = cntA ws k.toNat) (h : (ws.getD k.toNat Str.empty == Str.ofString "(") = true) (hf : fmAt (x ++ x) ((txt (ws.take k.toNat)).length : Int) 0 false false = none) : a + 1 = cntA ws (k.toNat + 1) := by
  rw [cntA, if_pos ⟨h, by rw [← hx]; exact hf⟩, ← ha]
theorem cnt_some {ws : List Str} {x : Str} {k a f : Int} (hx : x = txt ws) (hk : 0 ≤ k) (ha : a = cntA ws k.toNat) (hf : fmAt (x ++ x) ((txt (ws.take k.toNat)).length : Int) 0 false false = some f) : a = cntA ws (k.toNat + 1) := by
  rw [cntA, if_neg (fun y => by rw [← hx, hf] at y; exact absurd y.2 (by simp)), ← ha]; omega
end Mine

namespace Mine
/-- the codes of a row of words -/
def cd (l : List Str) : List Nat := l.flatMap (·.cps.toList)
theorem cd_txt (l : List Str) : (txt l).cps.toList = cd l := by simp [txt, cd]
theorem cd_cons (x : Str) (l : List Str) : cd (x :: l) = x.cps.toList ++ cd l := by simp [cd]
theorem cd_append (a b : List Str) : cd (a ++ b) = cd a ++ cd b := by simp [cd]
theorem txt_len_cons (x : Str) (l : List Str) : (txt (x :: l)).length = x.length + (txt l).length := by
  have e : x :: l = [x] ++ l := rfl
  rw [e, txt_append, txt_one, Str.length_append]
theorem ht_cons (x : Str) (l : List Str) : ht (x :: l) = kd x + ht l := by simp [ht]
theorem ht_nil : ht [] = 0 := rfl
theorem ht_append (a b : List Str) : ht (a ++ b) = ht a + ht b := by simp [ht]
theorem kd_cases {x : Str} (h : IsW x) : (kd x = 1 ∧ x = Str.ofString "(") ∨ (kd x = -1 ∧ x = Str.ofString ")") ∨ kd x = 0 := by
  rcases h with rfl | rfl | rfl | rfl | rfl | rfl
  · exact .inl ⟨by decide, rfl⟩
  · exact .inr (.inl ⟨by decide, rfl⟩)
  · exact .inr (.inr (by decide))
  · exact .inr (.inr (by decide))
  · exact .inr (.inr (by decide))
  · exact .inr (.inr (by decide))
theorem cw1 : (Str.ofString "(").cps.toList = [40] := by decide
theorem cw2 : (Str.ofString ")").cps.toList = [41] := by decide
theorem cw3 : (Str.ofString " a ").cps.toList = [32, 97, 32] := by decide
theorem cw4 : (Str.ofString "'(\"\\'").cps.toList = [39, 40, 34, 92, 39] := by decide
theorem cw5 : (Str.ofString "\"')\\\"").cps.toList = [34, 39, 41, 92, 34] := by decide
theorem cw6 : (Str.ofString "''").cps.toList = [39, 39] := by decide
theorem kw1 : kd (Str.ofString "(") = 1 := by decide
theorem kw2 : kd (Str.ofString ")") = -1 := by decide
theorem kw3 : kd (Str.ofString " a ") = 0 := by decide
theorem kw4 : kd (Str.ofString "'(\"\\'") = 0 := by decide
theorem kw5 : kd (Str.ofString "\"')\\\"") = 0 := by decide
theorem kw6 : kd (Str.ofString "''") = 0 := by decide
theorem lw1 : (Str.ofString "(").length = 1 := by decide
theorem lw2 : (Str.ofString ")").length = 1 := by decide
theorem lw3 : (Str.ofString " a ").length = 3 := by decide
theorem lw4 : (Str.ofString "'(\"\\'").length = 5 := by decide
theorem lw5 : (Str.ofString "\"')\\\"").length = 5 := by decide
theorem lw6 : (Str.ofString "''").length = 2 := by decide
/-- one word, the depth stays above nought -/
theorem sc_go {x : Str} (h : IsW x) (rest : List Nat) (i d : Int) (hd : 0 ≤ d) (hk : 1 ≤ d + kd x) : sc (x.cps.toList ++ rest) i 0 d = sc rest (i + (x.length : Int)) 0 (d + kd x) := by
  rcases h with rfl | rfl | rfl | rfl | rfl | rfl
  · rw [cw1, kw1, lw1]; simp [sc]
  · rw [cw2, kw2, lw2]
    rw [kw2] at hk
    have : ¬ d - 1 = 0 := by omega
    simp only [List.cons_append, List.nil_append, sc]
    rw [if_neg (by decide), if_neg (by decide), if_neg (by decide), if_neg (by decide), if_neg (by decide), if_pos trivial, if_neg this]
    rfl
  · rw [cw3, kw3, lw3]
    simp only [List.cons_append, List.nil_append, sc]
    simp
    congr 1; omega
  · rw [cw4, kw4, lw4]
    simp only [List.cons_append, List.nil_append, sc]
    simp
    congr 1; omega
  · rw [cw5, kw5, lw5]
    simp only [List.cons_append, List.nil_append, sc]
    simp
    congr 1; omega
  · rw [cw6, kw6, lw6]
    simp only [List.cons_append, List.nil_append, sc]
    simp
    congr 1; omega
theorem sc_hit {x : Str} (h : IsW x) (rest : List Nat) (i d : Int) (hd : 1 ≤ d) (hk : d + kd x = 0) : sc (x.cps.toList ++ rest) i 0 d = some i := by
  rcases kd_cases h with ⟨e, _⟩ | ⟨e, rfl⟩ | e
  · omega
  · rw [cw2]
    have : d - 1 = 0 := by omega
    simp only [List.cons_append, List.nil_append, sc]
    rw [if_neg (by decide), if_neg (by decide), if_neg (by decide), if_neg (by decide), if_neg (by decide), if_pos trivial, if_pos this]
  · omega
theorem sc_all : ∀ (l : List Str) (tail : List Nat) (i d : Int), (∀ x ∈ l, IsW x) → 1 ≤ d → (∀ m : Nat, m ≤ l.length → 1 ≤ d + ht (l.take m)) → sc (cd l ++ tail) i 0 d = sc tail (i + ((txt l).length : Int)) 0 (d + ht l)
  | [], tail, i, d, _, _, _ => by
    have e : ((txt []).length : Int) = 0 := by rw [txt_nil]; decide
    rw [e, ht_nil, Int.add_zero, Int.add_zero]; rfl
  | x :: l, tail, i, d, hW, hd, hm => by
    have h1 := hm 1 (by simp)
    rw [List.take_succ_cons, List.take_zero, ht_cons, ht_nil, Int.add_zero] at h1
    rw [cd_cons, List.append_assoc, sc_go (hW x (.head _)) _ i d (by omega) h1, sc_all l tail _ _ (fun y hy => hW y (.tail _ hy)) h1 (fun m hl => ?_), txt_len_cons, ht_cons, Int.natCast_add, Int.add_assoc, Int.add_assoc]
    have h2 := hm (m + 1) (by simp; exact hl)
    rw [List.take_succ_cons, ht_cons] at h2
    omega
theorem sc_find : ∀ (l : List Str) (tail : List Nat) (i d : Int) (m : Nat), (∀ x ∈ l, IsW x) → 1 ≤ d → m < l.length → d + ht (l.take (m + 1)) = 0 → (∀ q : Nat, q ≤ m → 1 ≤ d + ht (l.take q)) → sc (cd l ++ tail) i 0 d = some (i + ((txt (l.take m)).length : Int))
  | [], _, _, _, _, _, _, h, _, _ => absurd h (Nat.not_lt_zero _)
  | x :: l, tail, i, d, 0, hW, hd, _, h0, _ => by
    rw [List.take_succ_cons, List.take_zero, ht_cons, ht_nil, Int.add_zero] at h0
    rw [cd_cons, List.append_assoc, sc_hit (hW x (.head _)) _ i d hd h0, List.take_zero]
    have e : ((txt []).length : Int) = 0 := by rw [txt_nil]; decide
    rw [e, Int.add_zero]
  | x :: l, tail, i, d, m + 1, hW, hd, hl, h0, hq => by
    have h1 := hq 1 (by omega)
    rw [List.take_succ_cons, List.take_zero, ht_cons, ht_nil, Int.add_zero] at h1
    rw [List.take_succ_cons, ht_cons] at h0
    rw [cd_cons, List.append_assoc, sc_go (hW x (.head _)) _ i d (by omega) h1, sc_find l tail _ _ m (fun y hy => hW y (.tail _ hy)) h1 (by simp at hl; omega) (by omega) (fun q hqm => ?_), List.take_succ_cons, txt_len_cons, Int.natCast_add, Int.add_assoc]
    have h2 := hq (q + 1) (by omega)
    rw [List.take_succ_cons, ht_cons] at h2
    omega
theorem dich : ∀ (l : List Str) (d : Int), (∀ x ∈ l, IsW x) → 1 ≤ d → (∀ m : Nat, m ≤ l.length → 1 ≤ d + ht (l.take m)) ∨ ∃ m, m < l.length ∧ d + ht (l.take (m + 1)) = 0 ∧ ∀ q : Nat, q ≤ m → 1 ≤ d + ht (l.take q)
  | [], d, _, hd => .inl fun m _ => by rw [List.take_nil, ht_nil]; omega
  | x :: l, d, hW, hd => by
    have hk := kd_cases (hW x (.head _))
    by_cases h1 : 1 ≤ d + kd x
    · rcases dich l (d + kd x) (fun y hy => hW y (.tail _ hy)) h1 with h | ⟨m, hm, h0, hq⟩
      · refine .inl fun m hm => ?_
        match m with
        | 0 => rw [List.take_zero, ht_nil]; omega
        | m + 1 =>
          have h2 := h m (by simp at hm; omega)
          rw [List.take_succ_cons, ht_cons]; omega
      · refine .inr ⟨m + 1, by simp; omega, by rw [List.take_succ_cons, ht_cons]; omega, fun q hqm => ?_⟩
        match q with
        | 0 => rw [List.take_zero, ht_nil]; omega
        | q + 1 =>
          have h2 := hq q (by omega)
          rw [List.take_succ_cons, ht_cons]; omega
    · refine .inr ⟨0, by simp, ?_, fun q hqm => ?_⟩
      · rw [List.take_succ_cons, List.take_zero, ht_cons, ht_nil]; omega
      · have e : q = 0 := by omega
        rw [e, List.take_zero, ht_nil]; omega
/-- a balanced row -/
def Bal (l : List Str) : Prop := (∀ m : Nat, m ≤ l.length → 0 ≤ ht (l.take m)) ∧ ht l = 0
theorem txt_take_lt {l : List Str} (hW : ∀ x ∈ l, IsW x) {m : Nat} (hm : m < l.length) : (txt (l.take m)).length < (txt l).length := by
  have e : l = l.take m ++ l.drop m := (List.take_append_drop m l).symm
  have h2 : (txt l).length = (txt (l.take m)).length + (txt (l.drop m)).length := by
    conv => lhs; rw [e, txt_append, Str.length_append]
  have h3 : l.drop m = l[m] :: l.drop (m + 1) := List.drop_eq_getElem_cons hm
  rw [h3, txt_len_cons] at h2
  have h4 := (isW_len (hW l[m] (List.getElem_mem hm))).2
  omega
theorem par_cps (y : Str) : (Str.ofString "(" ++ y ++ Str.ofString ")").cps.toList = 40 :: (y.cps.toList ++ [41]) := by
  rw [Str.cps_append, Str.cps_append, Array.toList_append, Array.toList_append, cw1, cw2]; rfl
theorem fm_par {l : List Str} (hW : ∀ x ∈ l, IsW x) : (fmAt (Str.ofString "(" ++ txt l ++ Str.ofString ")") 0 0 false false = some (((txt l).length : Int) + 1)) ↔ Bal l := by
  have e0 : fmAt (Str.ofString "(" ++ txt l ++ Str.ofString ")") 0 0 false false = sc (cd l ++ [41]) 1 0 1 := by
    unfold fmAt
    rw [par_cps, cd_txt]
    show sc (40 :: (cd l ++ [41])) 0 0 0 = _
    simp [sc]
  rw [e0]
  rcases dich l 1 hW (by decide) with h | ⟨m, hm, h0, hq⟩
  · rw [sc_all l [41] 1 1 hW (by decide) h]
    have hl := h l.length (Nat.le_refl _)
    rw [List.take_length] at hl
    have e1 : sc [41] (1 + ((txt l).length : Int)) 0 (1 + ht l) = if (1 + ht l) - 1 = 0 then some (1 + ((txt l).length : Int)) else none := by
      simp only [sc]
      rw [if_neg (by decide), if_neg (by decide), if_neg (by decide), if_neg (by decide), if_neg (by decide), if_pos trivial]
    rw [e1]
    by_cases hz : ht l = 0
    · rw [if_pos (by omega)]
      refine ⟨fun _ => ⟨fun m hm => ?_, hz⟩, fun _ => ?_⟩
      · have := h m hm; omega
      · congr 1; omega
    · rw [if_neg (by omega)]
      exact ⟨fun x => (nomatch x), fun x => absurd x.2 hz⟩
  · rw [sc_find l [41] 1 1 m hW (by decide) hm h0 hq]
    have ht := txt_take_lt hW hm
    refine ⟨fun x => ?_, fun x => ?_⟩
    · have := Option.some.inj x; omega
    · have := x.1 (m + 1) hm; omega

/-! heights of a turning -/
theorem take_drop_app (ws : List Str) (r m : Nat) : ht ((ws.drop r).take m) = ht (ws.take (r + m)) - ht (ws.take r) := by
  have e : ws.take (r + m) = ws.take r ++ (ws.drop r).take m := List.take_add
  rw [e, ht_append]; omega
theorem ht_drop (ws : List Str) (r : Nat) : ht (ws.drop r) = ht ws - ht (ws.take r) := by
  have e := List.take_append_drop r ws
  have h : ht ws = ht (ws.take r) + ht (ws.drop r) := by
    conv => lhs; rw [← e, ht_append]
  omega
theorem ht_turn (ws : List Str) (r : Nat) : ht (turnL ws r) = ht ws := by
  unfold turnL
  rw [ht_append, ht_drop]; omega
theorem ht_turn_lo {ws : List Str} {r m : Nat} (hm : m ≤ ws.length - r) : ht ((turnL ws r).take m) = ht (ws.take (r + m)) - ht (ws.take r) := by
  unfold turnL
  rw [List.take_append_of_le_length (by rw [List.length_drop]; exact hm), take_drop_app]
theorem ht_turn_hi {ws : List Str} {r m : Nat} (hm : m ≤ r) (hr : r ≤ ws.length) : ht ((turnL ws r).take (ws.length - r + m)) = ht ws - ht (ws.take r) + ht (ws.take m) := by
  unfold turnL
  have e : (ws.drop r ++ ws.take r).take (ws.length - r + m) = ws.drop r ++ (ws.take r).take m := by
    rw [List.take_append, List.length_drop, List.take_of_length_le (by rw [List.length_drop]; omega)]
    congr 2; omega
  rw [e, ht_append, ht_drop, List.take_take, Nat.min_eq_left hm]
theorem mem_heights {ws : List Str} {a : Int} : a ∈ heightsOf ws ↔ ∃ m : Nat, m ≤ ws.length ∧ a = ht (ws.take m) := by
  unfold heightsOf
  rw [List.mem_map]
  constructor
  · rintro ⟨m, hm, rfl⟩
    exact ⟨m, by rw [List.mem_range] at hm; omega, rfl⟩
  · rintro ⟨m, hm, rfl⟩
    exact ⟨m, by rw [List.mem_range]; omega, rfl⟩
theorem bal_turn {ws : List Str} {r : Nat} {M : Int} (hr : r ≤ ws.length) (hm : M ∈ heightsOf ws) (hM : ∀ a, a ∈ heightsOf ws → M ≤ a) : Bal (turnL ws r) ↔ (ht ws = 0 ∧ ht (ws.take r) = M) := by
  unfold Bal
  rw [ht_turn]
  have hlen : (turnL ws r).length = ws.length := by
    unfold turnL; rw [List.length_append, List.length_drop, List.length_take]; omega
  rw [hlen]
  constructor
  · rintro ⟨h1, h2⟩
    refine ⟨h2, ?_⟩
    obtain ⟨q, hq, rfl⟩ := mem_heights.mp hm
    have hle := hM (ht (ws.take r)) (mem_heights.mpr ⟨r, hr, rfl⟩)
    by_cases c : r ≤ q
    · have h3 := h1 (q - r) (by omega)
      rw [ht_turn_lo (by omega)] at h3
      have e : r + (q - r) = q := by omega
      rw [e] at h3
      omega
    · have h3 := h1 (ws.length - r + q) (by omega)
      rw [ht_turn_hi (by omega) hr] at h3
      omega
  · rintro ⟨h1, h2⟩
    refine ⟨fun m hm => ?_, h1⟩
    by_cases c : m ≤ ws.length - r
    · rw [ht_turn_lo c]
      have := hM (ht (ws.take (r + m))) (mem_heights.mpr ⟨r + m, by omega, rfl⟩)
      omega
    · obtain ⟨q, rfl⟩ : ∃ q, m = ws.length - r + q := ⟨m - (ws.length - r), by omega⟩
      rw [ht_turn_hi (by omega) hr]
      have := hM (ht (ws.take q)) (mem_heights.mpr ⟨q, by omega, rfl⟩)
      omega
theorem bal_self {ws : List Str} {M : Int} (hm : M ∈ heightsOf ws) (hM : ∀ a, a ∈ heightsOf ws → M ≤ a) : Bal ws ↔ (ht ws = 0 ∧ M = 0) := by
  have h0 : turnL ws 0 = ws := by unfold turnL; simp
  have h := bal_turn (r := 0) (Nat.zero_le _) hm hM
  rw [h0, List.take_zero, ht_nil] at h
  rw [h]
  constructor
  · rintro ⟨a, b⟩; exact ⟨a, b.symm⟩
  · rintro ⟨a, b⟩; exact ⟨a, b.symm⟩
theorem m_fA {ws : List Str} {x : Str} (hz : ht ws ≠ 0) (h : ((fmAt (Str.ofString "(" ++ x ++ Str.ofString ")") 0 0 false false == some ((x.length : Int) + 1)) != (ht ws == 0)) = true) (hx : x = txt ws) (hW : ∀ x ∈ ws, IsW x) : False := by
  subst hx
  have e1 : (ht ws == 0) = false := beq_eq_false_iff_ne.mpr hz
  have e2 : (fmAt (Str.ofString "(" ++ txt ws ++ Str.ofString ")") 0 0 false false == some (((txt ws).length : Int) + 1)) = false := by
    rw [beq_eq_false_iff_ne]
    intro c
    exact hz ((fm_par hW).mp c).2
  rw [e1, e2] at h
  exact absurd h (by decide)
theorem m_fB {ws : List Str} {x : Str} {M : Int} (hz : ht ws = 0) (hm : M ∈ heightsOf ws) (hM : ∀ a, a ∈ heightsOf ws → M ≤ a) (h : ((fmAt (Str.ofString "(" ++ x ++ Str.ofString ")") 0 0 false false == some ((x.length : Int) + 1)) != (M == 0)) = true) (hx : x = txt ws) (hW : ∀ x ∈ ws, IsW x) : False := by
  subst hx
  have hb := bal_self hm hM
  by_cases c : M = 0
  · have e1 : (M == 0) = true := beq_iff_eq.mpr c
    have e2 : (fmAt (Str.ofString "(" ++ txt ws ++ Str.ofString ")") 0 0 false false == some (((txt ws).length : Int) + 1)) = true := beq_iff_eq.mpr ((fm_par hW).mpr (hb.mpr ⟨hz, c⟩))
    rw [e1, e2] at h
    exact absurd h (by decide)
  · have e1 : (M == 0) = false := beq_eq_false_iff_ne.mpr c
    have e2 : (fmAt (Str.ofString "(" ++ txt ws ++ Str.ofString ")") 0 0 false false == some (((txt ws).length : Int) + 1)) = false := by
      rw [beq_eq_false_iff_ne]
      intro q
      exact c (hb.mp ((fm_par hW).mp q)).2
    rw [e1, e2] at h
    exact absurd h (by decide)
end Mine

namespace Mine
section
open PySem.Builtin.Str PySem.Builtin
theorem strip_mid {x z : Str} {p q : List Nat} {a b : Nat} {z1 z2 : List Nat} (hx : x.cps.toList = p ++ (z.cps.toList ++ q)) (hp : ∀ c ∈ p, Unicode.isSpace c = true) (hq : ∀ c ∈ q, Unicode.isSpace c = true)
    (ha : z.cps.toList = a :: z1) (hb : z.cps.toList = z2 ++ [b]) (sa : Unicode.isSpace a = false) (sb : Unicode.isSpace b = false) : Txt.strip x = z := by
  have e : Txt.strip x = strSub x (stripLo Unicode.isSpace true x) (stripHi Unicode.isSpace true x (stripLo Unicode.isSpace true x)) := by
    unfold Txt.strip
    exact PyProof.Rows.stripBy_eq _ _ _ _
  have hlo : stripLo Unicode.isSpace true x = p.length := by
    unfold stripLo
    rw [if_pos rfl, hx, List.takeWhile_append_of_pos hp, ha, List.cons_append, List.takeWhile_cons_of_neg (by rw [sa]; decide), List.append_nil]
  have hlen : x.length = p.length + (z.cps.toList.length + q.length) := by
    have : x.length = x.cps.toList.length := by rw [Array.length_toList]; rfl
    rw [this, hx, List.length_append, List.length_append]
  have hhi : stripHi Unicode.isSpace true x p.length = p.length + z.cps.toList.length := by
    unfold stripHi
    rw [if_pos rfl, hx, List.drop_left, List.reverse_append, List.takeWhile_append_of_pos (fun c hc => hq c (List.mem_reverse.mp hc)), hb, List.reverse_append, List.reverse_singleton, List.singleton_append,
      List.takeWhile_cons_of_neg (by rw [sb]; decide), List.append_nil, List.length_reverse, hlen, hb]
    omega
  rw [e, hlo, hhi]
  refine Str.ext' (Array.toList_inj.mp ?_)
  rw [StrLaws.strSub_toList, hx, List.drop_left, Nat.add_sub_cancel_left, List.take_left]
end
theorem cl1 : (Str.ofString "\t(").cps.toList = [9, 40] := by decide
theorem cl2 : (Str.ofString ") \n").cps.toList = [41, 32, 10] := by decide
theorem cl3 : (Str.ofString "a").cps.toList = [97] := by decide
theorem sp9 : Unicode.isSpace 9 = true := by decide +kernel
theorem sp10 : Unicode.isSpace 10 = true := by decide +kernel
theorem sp32 : Unicode.isSpace 32 = true := by decide +kernel
theorem sp40 : Unicode.isSpace 40 = false := by decide +kernel
theorem sp41 : Unicode.isSpace 41 = false := by decide +kernel
theorem sp97 : Unicode.isSpace 97 = false := by decide +kernel
theorem whl_cps (y : Str) : (Str.ofString "\t(" ++ y ++ Str.ofString ") \n").cps.toList = 9 :: 40 :: (y.cps.toList ++ [41, 32, 10]) := by
  rw [Str.cps_append, Str.cps_append, Array.toList_append, Array.toList_append, cl1, cl2]; rfl
theorem strip_whole (y : Str) : Txt.strip (Str.ofString "\t(" ++ y ++ Str.ofString ") \n") = Str.ofString "(" ++ y ++ Str.ofString ")" := by
  refine strip_mid (p := [9]) (q := [32, 10]) (a := 40) (b := 41) (z1 := y.cps.toList ++ [41]) (z2 := 40 :: y.cps.toList) ?_ ?_ ?_ (par_cps y) ?_ sp40 sp41
  · rw [whl_cps, par_cps]; simp
  · intro c hc
    rw [List.mem_singleton.mp hc]; exact sp9
  · intro c hc
    simp only [List.mem_cons, List.not_mem_nil, or_false] at hc
    rcases hc with rfl | rfl
    · exact sp32
    · exact sp10
  · rw [par_cps]; rfl
theorem item_first {z : Str} {a : Nat} {z1 : List Nat} (h : z.cps.toList = a :: z1) : Txt.item z 0 = ⟨#[a]⟩ := by
  have hl : z.length = z1.length + 1 := by
    have : z.length = z.cps.toList.length := by rw [Array.length_toList]; rfl
    rw [this, h]; rfl
  rw [item_meets ⟨by omega, by omega⟩]
  congr 2
  have : z.cps = (a :: z1).toArray := by rw [← h, Array.toArray_toList]
  rw [this]; rfl
theorem item_end {z : Str} {b : Nat} {z2 : List Nat} (h : z.cps.toList = z2 ++ [b]) : Txt.item z (-1) = ⟨#[b]⟩ := by
  have e : z = Str.empty ++ ⟨(z2 ++ [b]).toArray⟩ := by
    refine Str.ext' (Array.toList_inj.mp ?_)
    rw [Str.cps_append, Array.toList_append, h]; simp [Str.empty]
  rw [e]; exact item_last_right _ _ _
theorem m_item0 (y : Str) : (Txt.item (Str.ofString "(" ++ y ++ Str.ofString ")") 0 == Str.ofString "(") = true := by
  rw [item_first (par_cps y), c40]; exact beq_self_eq_true _
theorem sop_first {x z : Str} {a : Nat} {z1 : List Nat} (hz : Txt.strip x = z) (h : z.cps.toList = a :: z1) (ha : a ≠ 40) : sop x = x := by
  unfold sop sopOf
  rw [hz]
  by_cases c : (z.length : Int) < 2
  · rw [if_pos c]
  · rw [if_neg c, if_pos]
    rw [item_first h, c40, bne_iff_ne]
    intro e
    injection e with e
    simp at e
    exact ha e
theorem sop_end {x z : Str} {b : Nat} {z2 : List Nat} (hz : Txt.strip x = z) (h : z.cps.toList = z2 ++ [b]) (hb : b ≠ 41) : sop x = x := by
  unfold sop sopOf
  rw [hz]
  by_cases c : (z.length : Int) < 2
  · rw [if_pos c]
  · rw [if_neg c]
    by_cases d : (Txt.item z 0 != Str.ofString "(") = true
    · rw [if_pos d]
    · rw [if_neg d, if_pos]
      rw [item_end h, c41, bne_iff_ne]
      intro e
      injection e with e
      simp at e
      exact hb e
theorem m_a1 {y : Str} (h : (sop (Str.ofString "\t(" ++ y ++ Str.ofString ") \n" ++ Str.ofString "a") != Str.ofString "\t(" ++ y ++ Str.ofString ") \n" ++ Str.ofString "a") = true) : False := by
  have e : sop (Str.ofString "\t(" ++ y ++ Str.ofString ") \n" ++ Str.ofString "a") = Str.ofString "\t(" ++ y ++ Str.ofString ") \n" ++ Str.ofString "a" := by
    refine sop_end (z := ⟨(40 :: (y.cps.toList ++ [41, 32, 10, 97])).toArray⟩) (b := 97) (z2 := 40 :: (y.cps.toList ++ [41, 32, 10])) ?_ (by simp) (by decide)
    refine strip_mid (p := [9]) (q := []) (a := 40) (b := 97) (z1 := y.cps.toList ++ [41, 32, 10, 97]) (z2 := 40 :: (y.cps.toList ++ [41, 32, 10])) ?_ ?_ ?_ (by simp) (by simp) sp40 sp97
    · rw [Str.cps_append, Array.toList_append, whl_cps, cl3]; simp
    · intro c hc
      rw [List.mem_singleton.mp hc]; exact sp9
    · intro c hc; exact nomatch hc
  rw [e, bne_self_eq_false] at h
  exact absurd h (by decide)
theorem m_a2 {y : Str} (h : (sop (Str.ofString "a" ++ (Str.ofString "\t(" ++ y ++ Str.ofString ") \n")) != Str.ofString "a" ++ (Str.ofString "\t(" ++ y ++ Str.ofString ") \n")) = true) : False := by
  have e : sop (Str.ofString "a" ++ (Str.ofString "\t(" ++ y ++ Str.ofString ") \n")) = Str.ofString "a" ++ (Str.ofString "\t(" ++ y ++ Str.ofString ") \n") := by
    refine sop_first (z := ⟨(97 :: 9 :: 40 :: (y.cps.toList ++ [41])).toArray⟩) (a := 97) (z1 := 9 :: 40 :: (y.cps.toList ++ [41])) ?_ (by simp) (by decide)
    refine strip_mid (p := []) (q := [32, 10]) (a := 97) (b := 41) (z1 := 9 :: 40 :: (y.cps.toList ++ [41])) (z2 := 97 :: 9 :: 40 :: y.cps.toList) ?_ ?_ ?_ (by simp) (by simp) sp97 sp41
    · rw [Str.cps_append, Array.toList_append, whl_cps, cl3]; simp
    · intro c hc; exact nomatch hc
    · intro c hc
      simp only [List.mem_cons, List.not_mem_nil, or_false] at hc
      rcases hc with rfl | rfl
      · exact sp32
      · exact sp10
  rw [e, bne_self_eq_false] at h
  exact absurd h (by decide)
theorem m_blank : sop (Str.ofString " \n") = Str.ofString " \n" := by
  have h : (Txt.strip (Str.ofString " \n")).length = 0 := by decide +kernel
  unfold sop sopOf
  rw [if_pos (by rw [h]; decide)]
theorem slice_mid (y : Str) : Txt.slice (Str.ofString "(" ++ y ++ Str.ofString ")") (some 1) (some (-1)) = y := by
  have hlen : (Str.ofString "(" ++ y ++ Str.ofString ")").length = y.length + 2 := by
    rw [Str.length_append, Str.length_append, lw1, lw2]; omega
  have e : Txt.slice (Str.ofString "(" ++ y ++ Str.ofString ")") (some 1) (some (-1)) = Txt.slice (Str.ofString "(" ++ y ++ Str.ofString ")") (some 1) (some ((y.length : Int) + 1)) := by
    have h := StrLaws.sliceIdx_neg_hi (some 1) (j := -1) (Str.ofString "(" ++ y ++ Str.ofString ")").length (by decide) (by omega)
    have e2 : (-1 : Int) + ((Str.ofString "(" ++ y ++ Str.ofString ")").length : Int) = (y.length : Int) + 1 := by omega
    rw [e2] at h
    unfold Txt.slice
    rw [h]
  rw [e]
  have h := slice_closesL (x := Str.ofString "(" ++ y ++ Str.ofString ")") (i := 1) (j := (y.length : Int) + 1) (by decide) (by omega) (by omega)
  rw [eq_of_beq h]
  refine Str.ext' (Array.toList_inj.mp ?_)
  rw [par_cps]
  have e3 : ((y.length : Int) + 1 - 1).toNat = y.cps.toList.length := by rw [Array.length_toList]; show _ = y.length; omega
  rw [e3]
  show ((40 :: (y.cps.toList ++ [41])).drop 1).take y.cps.toList.length = y.cps.toList
  rw [List.drop_succ_cons, List.drop_zero, List.take_left]
theorem sop_whole_eq {l : List Str} (hW : ∀ x ∈ l, IsW x) : (Bal l → sop (Str.ofString "\t(" ++ txt l ++ Str.ofString ") \n") = txt l) ∧ (¬ Bal l → sop (Str.ofString "\t(" ++ txt l ++ Str.ofString ") \n") = Str.ofString "\t(" ++ txt l ++ Str.ofString ") \n") := by
  have hf := fm_par hW
  have hlen : (Str.ofString "(" ++ txt l ++ Str.ofString ")").length = (txt l).length + 2 := by
    rw [Str.length_append, Str.length_append, lw1, lw2]; omega
  have h0 : (Txt.item (Str.ofString "(" ++ txt l ++ Str.ofString ")") 0 != Str.ofString "(") = false := by
    rw [item_first (par_cps _), c40]; exact bne_self_eq_false _
  have h1 : (Txt.item (Str.ofString "(" ++ txt l ++ Str.ofString ")") (-1) != Str.ofString ")") = false := by
    rw [item_end (z2 := 40 :: (txt l).cps.toList) (b := 41) (by rw [par_cps]; rfl), c41]; exact bne_self_eq_false _
  unfold sop sopOf
  rw [strip_whole, if_neg (by omega), h0, h1, if_neg (by decide), if_neg (by decide)]
  constructor
  · intro hb
    rw [hf.mpr hb]
    dsimp only
    rw [if_pos (by omega), slice_mid]
  · intro hb
    cases e : fmAt (Str.ofString "(" ++ txt l ++ Str.ofString ")") 0 0 false false with
    | none => rfl
    | some j =>
      dsimp only
      rw [if_neg]
      intro c
      refine hb (hf.mp ?_)
      rw [e]; congr 1; omega
theorem m_due {ws : List Str} {r : Int} {y : Str} {M : Int} (hW : ∀ x ∈ ws, IsW x) (h0 : 0 ≤ r) (h1 : r ≤ (ws.length : Int)) (hy : y = txt (turnL ws r.toNat)) (hz : ht ws = 0) (hm : M ∈ heightsOf ws) (hM : ∀ a, a ∈ heightsOf ws → M ≤ a) (hr : ht (ws.take r.toNat) = M)
    (h : (sop (Str.ofString "\t(" ++ y ++ Str.ofString ") \n") != y) = true) : False := by
  have hT : ∀ x ∈ turnL ws r.toNat, IsW x := fun x hx => (List.mem_append.mp hx).elim (fun q => hW x (List.mem_of_mem_drop q)) (fun q => hW x (List.mem_of_mem_take q))
  have hb := (bal_turn (r := r.toNat) (by omega) hm hM).mpr ⟨hz, hr⟩
  have e := (sop_whole_eq hT).1 hb
  rw [← hy] at e
  rw [e, bne_self_eq_false] at h
  exact absurd h (by decide)
theorem m_wh {ws : List Str} {r : Nat} {y : Str} (hW : ∀ x ∈ ws, IsW x) (hy : y = txt (turnL ws r)) (hb : ¬ Bal (turnL ws r))
    (h : (sop (Str.ofString "\t(" ++ y ++ Str.ofString ") \n") != Str.ofString "\t(" ++ y ++ Str.ofString ") \n") = true) : False := by
  have hT : ∀ x ∈ turnL ws r, IsW x := fun x hx => (List.mem_append.mp hx).elim (fun q => hW x (List.mem_of_mem_drop q)) (fun q => hW x (List.mem_of_mem_take q))
  have e := (sop_whole_eq hT).2 hb
  rw [← hy] at e
  rw [e, bne_self_eq_false] at h
  exact absurd h (by decide)
theorem m_whole1 {ws : List Str} {r : Int} {y : Str} (hW : ∀ x ∈ ws, IsW x) (h0 : 0 ≤ r) (h1 : r ≤ (ws.length : Int)) (hy : y = txt (turnL ws r.toNat)) (hz : ¬ ht ws = 0)
    (h : (sop (Str.ofString "\t(" ++ y ++ Str.ofString ") \n") != Str.ofString "\t(" ++ y ++ Str.ofString ") \n") = true) : False :=
  m_wh hW hy (fun b => hz (by have := b.2; rwa [ht_turn] at this)) h
theorem m_whole2 {ws : List Str} {r : Int} {y : Str} {M : Int} (hW : ∀ x ∈ ws, IsW x) (h0 : 0 ≤ r) (h1 : r ≤ (ws.length : Int)) (hy : y = txt (turnL ws r.toNat)) (hm : M ∈ heightsOf ws) (hM : ∀ a, a ∈ heightsOf ws → M ≤ a) (hr : ¬ ht (ws.take r.toNat) = M)
    (h : (sop (Str.ofString "\t(" ++ y ++ Str.ofString ") \n") != Str.ofString "\t(" ++ y ++ Str.ofString ") \n") = true) : False :=
  m_wh hW hy (fun b => hr ((bal_turn (r := r.toNat) (by omega) hm hM).mp b).2) h
end Mine

namespace Mine
/-- the sum of f over the first q words of the endless turning row -/
def Sg (f : Str → Int) (ws : List Str) : Nat → Int
  | 0 => 0
  | q + 1 => Sg f ws q + f (ws.getD (q % ws.length) Str.empty)
theorem Sg_per (f : Str → Int) (ws : List Str) (q : Nat) : Sg f ws (q + ws.length) = Sg f ws q + Sg f ws ws.length := by
  induction q with
  | zero => rw [Nat.zero_add, Sg, Int.zero_add]
  | succ q ih =>
    have e : q + 1 + ws.length = (q + ws.length) + 1 := by omega
    rw [e, Sg, ih, Sg, Nat.add_mod_right]; omega
theorem Sg_link (f : Str → Int) (ws l : List Str) (a : Nat) (h : ∀ m, m < l.length → l.getD m Str.empty = ws.getD ((a + m) % ws.length) Str.empty) : ∀ m, m ≤ l.length → ((l.take m).map f).sum = Sg f ws (a + m) - Sg f ws a
  | 0, _ => by simp
  | m + 1, hm => by
    have hg : l.getD m Str.empty = l[m] := by rw [List.getD_eq_getElem?_getD, List.getElem?_eq_getElem (by omega)]; rfl
    have e : l.take (m + 1) = l.take m ++ [l[m]] := by rw [List.take_add_one, List.getElem?_eq_getElem (by omega)]; rfl
    rw [e, List.map_append, List.sum_append, Sg_link f ws l a h m (by omega), ← Nat.add_assoc, Sg, ← h m (by omega), hg]
    simp; omega
def Kq (ws : List Str) (q : Nat) : Int := kd (ws.getD (q % ws.length) Str.empty)
def Hq (ws : List Str) (q : Nat) : Int := Sg kd ws q
theorem Hq_succ (ws : List Str) (q : Nat) : Hq ws (q + 1) = Hq ws q + Kq ws q := rfl
theorem Hq_per (ws : List Str) (q : Nat) : Hq ws (q + ws.length) = Hq ws q + Hq ws ws.length := Sg_per _ _ _
theorem Kq_per (ws : List Str) (q : Nat) : Kq ws (q + ws.length) = Kq ws q := by unfold Kq; rw [Nat.add_mod_right]
theorem Kq_mod (ws : List Str) (q : Nat) : Kq ws (q % ws.length) = Kq ws q := by unfold Kq; rw [Nat.mod_mod]
/-- heights from u on come back to that of u at v, and never fall below it between -/
def Dy (ws : List Str) (u v : Nat) : Prop := u ≤ v ∧ Hq ws v = Hq ws u ∧ ∀ q, u ≤ q → q ≤ v → Hq ws u ≤ Hq ws q
theorem Dy.wrap {ws : List Str} {u i j v : Nat} (h1 : Dy ws u i) (h2 : Kq ws i = 1) (h3 : Dy ws (i + 1) j) (h4 : Kq ws j = -1) (h5 : Dy ws (j + 1) v) : Dy ws u v := by
  obtain ⟨a1, a2, a3⟩ := h1
  obtain ⟨b1, b2, b3⟩ := h3
  obtain ⟨c1, c2, c3⟩ := h5
  have e1 := Hq_succ ws i
  have e2 := Hq_succ ws j
  refine ⟨by omega, by omega, fun q hu hv => ?_⟩
  by_cases z1 : q ≤ i
  · exact a3 q hu z1
  · by_cases z2 : q ≤ j
    · have := b3 q (by omega) z2; omega
    · have := c3 q (by omega) hv; omega
theorem Dy.shift {ws : List Str} {u v : Nat} (h : Dy ws u v) : Dy ws (u + ws.length) (v + ws.length) := by
  obtain ⟨a1, a2, a3⟩ := h
  refine ⟨by omega, by rw [Hq_per, Hq_per, a2], fun q hu hv => ?_⟩
  have h := a3 (q - ws.length) (by omega) (by omega)
  have e := Hq_per ws (q - ws.length)
  rw [Nat.sub_add_cancel (by omega)] at e
  rw [Hq_per, e]; omega
/-- the place q of the endless row still stands in the ring -/
def Pr (ws : List Str) (rs : List Int) (q : Nat) : Prop := ((q % ws.length : Nat) : Int) ∈ rs
theorem Pr_per {ws : List Str} {rs : List Int} {q : Nat} : Pr ws rs (q + ws.length) ↔ Pr ws rs q := by unfold Pr; rw [Nat.add_mod_right]
theorem Pr_pers {ws : List Str} {rs : List Int} {q : Nat} : ∀ m : Nat, Pr ws rs (q + ws.length * m) ↔ Pr ws rs q
  | 0 => by rw [Nat.mul_zero, Nat.add_zero]
  | m + 1 => by rw [Nat.mul_succ, ← Nat.add_assoc, Pr_per, Pr_pers m]
theorem first_pr {P : Nat → Prop} : ∀ (d p : Nat), P (p + 1 + d) → ∃ r, p < r ∧ r ≤ p + 1 + d ∧ P r ∧ ∀ s, p < s → s < r → ¬ P s
  | 0, p, h => ⟨p + 1, by omega, by omega, h, fun s h1 h2 => by omega⟩
  | d + 1, p, h => by
    by_cases c : P (p + 1)
    · exact ⟨p + 1, by omega, by omega, c, fun s h1 h2 => by omega⟩
    · obtain ⟨r, h1, h2, h3, h4⟩ := first_pr (P := P) d (p + 1) (by have e : p + 1 + 1 + d = p + 1 + (d + 1) := (by omega); rw [e]; exact h)
      refine ⟨r, by omega, by omega, h3, fun s hs hr => ?_⟩
      by_cases e : s = p + 1
      · rw [e]; exact c
      · exact h4 s (by omega) hr
theorem first_pr' {P : Nat → Prop} {p q : Nat} (h : P q) (hq : p < q) : ∃ r, p < r ∧ r ≤ q ∧ P r ∧ ∀ s, p < s → s < r → ¬ P s := by
  obtain ⟨r, h1, h2, h3, h4⟩ := first_pr (P := P) (q - p - 1) p (by have e : p + 1 + (q - p - 1) = q := (by omega); rw [e]; exact h)
  exact ⟨r, h1, by omega, h3, h4⟩
/-- q comes next after p -/
def Nx (P : Nat → Prop) (p q : Nat) : Prop := P p ∧ P q ∧ p < q ∧ ∀ r, p < r → r < q → ¬ P r
def Con (ws : List Str) (P : Nat → Prop) : Prop := ∀ p q, Nx P p q → Dy ws (p + 1) q
theorem con_init {ws : List Str} {P : Nat → Prop} (h : ∀ q, Kq ws q ≠ 0 → P q) : Con ws P := by
  rintro p q ⟨_, _, hpq, hn⟩
  have hH : ∀ d, p + 1 + d ≤ q → Hq ws (p + 1 + d) = Hq ws (p + 1) := by
    intro d
    induction d with
    | zero => intro _; rfl
    | succ d ih =>
      intro hd
      have k0 : Kq ws (p + 1 + d) = 0 := Classical.byContradiction fun c => hn (p + 1 + d) (by omega) (by omega) (h _ c)
      rw [← Nat.add_assoc, Hq_succ, k0, ih (by omega)]; omega
  refine ⟨by omega, ?_, fun r hr hrq => ?_⟩
  · have := hH (q - p - 1) (by omega)
    have e : p + 1 + (q - p - 1) = q := by omega
    rw [e] at this; exact this
  · have := hH (r - p - 1) (by omega)
    have e : p + 1 + (r - p - 1) = r := by omega
    rw [e] at this; omega
theorem Nx.shift {ws : List Str} {rs : List Int} {p q : Nat} (h : Nx (Pr ws rs) p q) (m : Nat) : Nx (Pr ws rs) (p + ws.length * m) (q + ws.length * m) := by
    obtain ⟨h1, h2, h3, h4⟩ := h
    refine ⟨(Pr_pers m).mpr h1, (Pr_pers m).mpr h2, by omega, fun r hr hq hp => ?_⟩
    obtain ⟨s, rfl⟩ : ∃ s, r = s + ws.length * m := ⟨r - ws.length * m, by omega⟩
    exact h4 s (by omega) (by omega) ((Pr_pers m).mp hp)
theorem mod_split (q n : Nat) : ∃ m, q = q % n + n * m := ⟨q / n, (Nat.mod_add_div q n).symm⟩
/-- two next ones at places a, b: at every place that is a turned, the next is the like turned b -/
theorem Nx.at {ws : List Str} {rs : List Int} {i b r : Nat} (h : Nx (Pr ws rs) i b) (hi : i < ws.length) (hr : r % ws.length = i) : Nx (Pr ws rs) r (b + (r - i)) := by
  obtain ⟨m, hm⟩ := mod_split r ws.length
  rw [hr] at hm
  have := h.shift m
  rw [hm]
  have e : b + (i + ws.length * m - i) = b + ws.length * m := by omega
  rw [e]; exact this
theorem con_strike {ws : List Str} {rs rs' : List Int} {i b : Nat} (hc : Con ws (Pr ws rs)) (hx : Nx (Pr ws rs) i b) (hi : i < ws.length) (hk1 : Kq ws i = 1) (hk2 : Kq ws b = -1)
    (hP : ∀ q, Pr ws rs' q ↔ (Pr ws rs q ∧ q % ws.length ≠ i ∧ q % ws.length ≠ b % ws.length)) : Con ws (Pr ws rs') := by
  rintro p q ⟨hp, hq, hpq, hn⟩
  obtain ⟨hp0, hp1, hp2⟩ := (hP p).mp hp
  obtain ⟨hq0, hq1, hq2⟩ := (hP q).mp hq
  have hkm : ∀ x y, x % ws.length = y % ws.length → Kq ws x = Kq ws y := fun x y e => by rw [← Kq_mod, e, Kq_mod]
  have hkj : ∀ x, x % ws.length = i → Kq ws x = 1 := fun x e => by rw [← Kq_mod, e]; exact hk1
  obtain ⟨r, r1, r2, r3, r4⟩ := first_pr' hq0 hpq
  by_cases c : r = q
  · exact hc p q ⟨hp0, hq0, hpq, by rw [← c]; exact r4⟩
  have hrq : r < q := by omega
  have hr' : ¬ Pr ws rs' r := hn r r1 hrq
  -- one next before: shifting back
  have back : ∀ x y, Nx (Pr ws rs) x y → y % ws.length = b % ws.length → x % ws.length = i := by
    rintro x y ⟨x1, x2, x3, x4⟩ e
    -- lift both by a whole number of turns so that y stands at or above b
    obtain ⟨m1, e1⟩ := mod_split b ws.length
    obtain ⟨m2, e2⟩ := mod_split y ws.length
    have g1 := hx.shift m2
    have g2 : Nx (Pr ws rs) (x + ws.length * m1) (y + ws.length * m1) := Nx.shift ⟨x1, x2, x3, x4⟩ m1
    have ey : b + ws.length * m2 = y + ws.length * m1 := by omega
    rw [ey] at g1
    obtain ⟨a1, a2, a3, a4⟩ := g1
    obtain ⟨b1, b2, b3, b4⟩ := g2
    have ee : x + ws.length * m1 = i + ws.length * m2 := by
      rcases Nat.lt_trichotomy (x + ws.length * m1) (i + ws.length * m2) with z | z | z
      · exact absurd a1 (b4 _ z a3)
      · exact z
      · exact absurd b1 (a4 _ z b3)
    have e3 : (x + ws.length * m1) % ws.length = (i + ws.length * m2) % ws.length := by rw [ee]
    rw [Nat.add_mul_mod_self_left, Nat.add_mul_mod_self_left, Nat.mod_eq_of_lt hi] at e3
    exact e3
  have ri : r % ws.length = i := by
    refine Classical.byContradiction fun c1 => ?_
    by_cases c2 : r % ws.length = b % ws.length
    · exact hp1 (back p r ⟨hp0, r3, r1, r4⟩ c2)
    · exact hr' ((hP r).mpr ⟨r3, c1, c2⟩)
  have hx2 := hx.at hi ri
  obtain ⟨x1, x2, x3, x4⟩ := hx2
  have hkb : Kq ws (b + (r - i)) = -1 := by
    obtain ⟨m, hm⟩ := mod_split r ws.length
    rw [ri] at hm
    have e : b + (r - i) = b + ws.length * m := by omega
    rw [hkm (b + (r - i)) b (by rw [e, Nat.add_mul_mod_self_left])]; exact hk2
  -- the struck partner lies before q
  have hbq : b + (r - i) < q := by
    rcases Nat.lt_trichotomy (b + (r - i)) q with z | z | z
    · exact z
    · exfalso
      obtain ⟨m, hm⟩ := mod_split r ws.length
      rw [ri] at hm
      refine hq2 ?_
      rw [← z]
      have e : b + (r - i) = b + ws.length * m := by omega
      rw [e, Nat.add_mul_mod_self_left]
    · exact absurd hq0 (x4 q hrq z)
  obtain ⟨t, t1, t2, t3, t4⟩ := first_pr' hq0 hbq
  have htq : t = q := by
    refine Classical.byContradiction fun c => ?_
    have ht' : ¬ Pr ws rs' t := hn t (by omega) (by omega)
    have ti : t % ws.length = i := by
      refine Classical.byContradiction fun c1 => ?_
      by_cases c2 : t % ws.length = b % ws.length
      · have := hkj _ (back _ t ⟨x2, t3, t1, t4⟩ c2)
        rw [hkb] at this; exact absurd this (by decide)
      · exact ht' ((hP t).mpr ⟨t3, c1, c2⟩)
    -- t is r turned at least once more
    have hge : r + ws.length ≤ t := by
      obtain ⟨m1, e1⟩ := mod_split r ws.length
      obtain ⟨m2, e2⟩ := mod_split t ws.length
      rw [ri] at e1; rw [ti] at e2
      have : m1 < m2 := by
        refine Classical.byContradiction fun z => ?_
        have := Nat.mul_le_mul_left ws.length (Nat.le_of_not_lt z)
        omega
      have := Nat.mul_le_mul_left ws.length (Nat.succ_le_of_lt this)
      rw [Nat.mul_succ] at this
      omega
    exact hn (p + ws.length) (by omega) (by omega) (Pr_per.mpr hp)
  rw [htq] at t1 t3 t4
  exact Dy.wrap (hc p r ⟨hp0, r3, r1, r4⟩) (hkj r ri) (hc r _ ⟨r3, x2, x3, x4⟩) hkb (hc _ q ⟨x2, hq0, t1, t4⟩)
/-- the end of the striking -/
def NoAd (ws : List Str) (P : Nat → Prop) : Prop := ∀ p q, Nx P p q → ¬ (Kq ws p = 1 ∧ Kq ws q = -1)
theorem all_open {ws : List Str} {P : Nat → Prop} (hW : ∀ q, P q → Kq ws q = 1 ∨ Kq ws q = -1) (hn : NoAd ws P) : ∀ (d p : Nat), P p → Kq ws p = 1 → P (p + d) → Kq ws (p + d) = 1 := by
  intro d
  induction d using Nat.strongRecOn with
  | ind d ih =>
    intro p hp hk hq
    by_cases c : d = 0
    · rw [c]; exact hk
    · obtain ⟨r, r1, r2, r3, r4⟩ := first_pr' hq (show p < p + d by omega)
      have hr : Kq ws r = 1 := (hW r r3).resolve_right fun z => hn p r ⟨hp, r3, r1, r4⟩ ⟨hk, z⟩
      have := ih (p + d - r) (by omega) r r3 hr (by have e : r + (p + d - r) = p + d := (by omega); rw [e]; exact hq)
      have e : r + (p + d - r) = p + d := by omega
      rw [e] at this; exact this
theorem open_up {ws : List Str} {rs : List Int} (hpos : 0 < ws.length) (hc : Con ws (Pr ws rs)) (ho : ∀ q, Pr ws rs q → Kq ws q = 1) : ∀ (d p : Nat), Pr ws rs p → Hq ws (p + 1) ≤ Hq ws (p + 1 + d) := by
  intro d
  induction d using Nat.strongRecOn with
  | ind d ih =>
    intro p hp
    obtain ⟨r, r1, r2, r3, r4⟩ := first_pr' (Pr_per.mpr hp) (show p < p + ws.length by omega)
    obtain ⟨a1, a2, a3⟩ := hc p r ⟨hp, r3, r1, r4⟩
    by_cases c : p + 1 + d ≤ r
    · exact a3 _ (by omega) c
    · have h := ih (p + 1 + d - (r + 1)) (by omega) r r3
      have e : r + 1 + (p + 1 + d - (r + 1)) = p + 1 + d := by omega
      rw [e, Hq_succ, ho r r3, a2] at h
      omega
end Mine

namespace Mine
theorem kd_open {x : Str} (h : (x == Str.ofString "(") = true) : kd x = 1 := by unfold kd; rw [if_pos h]
theorem kd_close {x : Str} (h : (x == Str.ofString ")") = true) : kd x = -1 := by rw [eq_of_beq h]; exact kw2
theorem open_kd {x : Str} (h : kd x = 1) : (x == Str.ofString "(") = true := by
  unfold kd at h
  split at h
  · assumption
  · split at h
    · exact absurd h (by decide)
    · exact absurd h (by decide)
theorem close_kd {x : Str} (h : kd x = -1) : (x == Str.ofString ")") = true := by
  unfold kd at h
  split at h
  · exact absurd h (by decide)
  · split at h
    · assumption
    · exact absurd h (by decide)
theorem kd_not {x : Str} (h1 : (x == Str.ofString "(") = false) (h2 : (x == Str.ofString ")") = false) : kd x = 0 := by
  unfold kd; rw [if_neg (by rw [h1]; decide), if_neg (by rw [h2]; decide)]
theorem br_kd {ws : List Str} {k : Int} (h : isBr ws k = true) : kd (ws.getD k.toNat Str.empty) = 1 ∨ kd (ws.getD k.toNat Str.empty) = -1 := by
  unfold isBr at h
  rcases Bool.or_eq_true _ _ |>.mp h with h | h
  · exact .inl (kd_open h)
  · exact .inr (kd_close h)
theorem kd_br {ws : List Str} {k : Int} (h : kd (ws.getD k.toNat Str.empty) ≠ 0) : isBr ws k = true := by
  unfold isBr
  cases h1 : (ws.getD k.toNat Str.empty == Str.ofString "(") with
  | true => rfl
  | false =>
    cases h2 : (ws.getD k.toNat Str.empty == Str.ofString ")") with
    | true => rfl
    | false => exact absurd (kd_not h1 h2) h
theorem getD_set {α : Type} (l : List α) (i k : Nat) (a d : α) (hi : i < l.length) : (l.set i a).getD k d = if i = k then a else l.getD k d := by
  rw [List.getD_eq_getElem?_getD, List.getElem?_set]
  by_cases e : i = k
  · rw [if_pos e, if_pos e, if_pos hi]; rfl
  · rw [if_neg e, if_neg e, List.getD_eq_getElem?_getD]
theorem getD_in {l : List Int} {i : Nat} (h : i < l.length) : l.getD i 0 ∈ l := by
  rw [List.getD_eq_getElem?_getD, List.getElem?_eq_getElem h]; exact List.getElem_mem _
theorem in_getD {l : List Int} {x : Int} (h : x ∈ l) : ∃ i, i < l.length ∧ l.getD i 0 = x := by
  obtain ⟨i, hi, e⟩ := List.getElem_of_mem h
  exact ⟨i, hi, by rw [List.getD_eq_getElem?_getD, List.getElem?_eq_getElem hi]; exact e⟩
theorem getD_lt {l : List Int} (h : l.Pairwise (· < ·)) {i j : Nat} (hij : i < j) (hj : j < l.length) : l.getD i 0 < l.getD j 0 := by
  rw [List.getD_eq_getElem?_getD, List.getElem?_eq_getElem (Nat.lt_trans hij hj), List.getD_eq_getElem?_getD, List.getElem?_eq_getElem hj]
  exact List.pairwise_iff_getElem.mp h i j _ _ hij
theorem getD_lt' {l : List Int} (h : l.Pairwise (· < ·)) {i j : Nat} (hi : i < l.length) (hj : j < l.length) (hl : l.getD i 0 < l.getD j 0) : i < j := by
  rcases Nat.lt_trichotomy i j with z | z | z
  · exact z
  · rw [z] at hl; omega
  · have := getD_lt h z hi; omega
theorem next_pr {ws : List Str} {rs : List Int} (srt : rs.Pairwise (· < ·)) (bnd : ∀ x ∈ rs, 0 ≤ x ∧ x < (ws.length : Int)) {k : Int} (h0 : 0 ≤ k) (h1 : k < (rs.length : Int)) :
    ∃ b, Nx (Pr ws rs) (ri rs k).toNat b ∧ b ≤ (ri rs k).toNat + ws.length ∧ ((b % ws.length : Nat) : Int) = rj rs k := by
  obtain ⟨q, rfl⟩ : ∃ q : Nat, k = (q : Int) := ⟨k.toNat, by omega⟩
  have hq : q < rs.length := by omega
  have hm := getD_in hq
  have hb := bnd _ hm
  have ea : ri rs (q : Int) = rs.getD q 0 := rfl
  obtain ⟨a, ha⟩ : ∃ a : Nat, rs.getD q 0 = (a : Int) := ⟨(rs.getD q 0).toNat, by omega⟩
  rw [ea, ha, Int.toNat_natCast]
  have han : a < ws.length := by omega
  have pa : Pr ws rs a := by unfold Pr; rw [Nat.mod_eq_of_lt han, ← ha]; exact hm
  by_cases c : q + 1 < rs.length
  · have e1 : (Int.fmod ((q : Int) + 1) (rs.length : Int)).toNat = q + 1 := by
      rw [Int.fmod_eq_emod_of_nonneg _ (by omega), Int.emod_eq_of_lt (by omega) (by omega)]; omega
    have hm2 := getD_in c
    have hb2 := bnd _ hm2
    obtain ⟨b, hbb⟩ : ∃ b : Nat, rs.getD (q + 1) 0 = (b : Int) := ⟨(rs.getD (q + 1) 0).toNat, by omega⟩
    have hbn : b < ws.length := by omega
    have hlt : rs.getD q 0 < rs.getD (q + 1) 0 := getD_lt srt (Nat.lt_succ_self q) c
    refine ⟨b, ⟨pa, ?_, by omega, fun r hr hrb hp => ?_⟩, by omega, ?_⟩
    · unfold Pr; rw [Nat.mod_eq_of_lt hbn, ← hbb]; exact hm2
    · unfold Pr at hp
      rw [Nat.mod_eq_of_lt (by omega)] at hp
      obtain ⟨m, hm3, e⟩ := in_getD hp
      have g1 := getD_lt' srt hq hm3 (by omega)
      have g2 := getD_lt' srt hm3 c (by omega)
      omega
    · unfold rj; rw [e1, hbb, Nat.mod_eq_of_lt hbn]
  · have e0 : (q : Int) + 1 = (rs.length : Int) := by omega
    have e1 : (Int.fmod ((q : Int) + 1) (rs.length : Int)).toNat = 0 := by
      rw [e0, Int.fmod_self]; rfl
    have h00 : 0 < rs.length := by omega
    have hm2 := getD_in h00
    have hb2 := bnd _ hm2
    obtain ⟨b, hbb⟩ : ∃ b : Nat, rs.getD 0 0 = (b : Int) := ⟨(rs.getD 0 0).toNat, by omega⟩
    have hbn : b < ws.length := by omega
    have hle : b ≤ a := by
      by_cases z : q = 0
      · rw [z] at ha; omega
      · have := getD_lt srt (show 0 < q by omega) hq; omega
    refine ⟨b + ws.length, ⟨pa, ?_, by omega, fun r hr hrb hp => ?_⟩, by omega, ?_⟩
    · rw [Pr_per]; unfold Pr; rw [Nat.mod_eq_of_lt hbn, ← hbb]; exact hm2
    · by_cases z : r < ws.length
      · unfold Pr at hp
        rw [Nat.mod_eq_of_lt z] at hp
        obtain ⟨m, hm3, e⟩ := in_getD hp
        have g1 := getD_lt' srt hq hm3 (by omega)
        omega
      · obtain ⟨s, rfl⟩ : ∃ s, r = s + ws.length := ⟨r - ws.length, by omega⟩
        rw [Pr_per] at hp
        unfold Pr at hp
        rw [Nat.mod_eq_of_lt (by omega)] at hp
        obtain ⟨m, hm3, e⟩ := in_getD hp
        have g1 := getD_lt' srt hm3 h00 (by omega)
        omega
    · unfold rj; rw [e1, hbb, Nat.add_mod_right, Nat.mod_eq_of_lt hbn]
/-- the sum of the ring's own heights -/
def Wr (ws : List Str) (rs : List Int) : Nat → Int
  | 0 => 0
  | q + 1 => Wr ws rs q + (if (q : Int) ∈ rs then Kq ws q else 0)
theorem Wr_del {ws : List Str} {rs rs' : List Int} {a c : Nat} (hac : a ≠ c) (ha : (a : Int) ∈ rs) (hc : (c : Int) ∈ rs) (h : ∀ q : Nat, (q : Int) ∈ rs' ↔ ((q : Int) ∈ rs ∧ q ≠ a ∧ q ≠ c)) : ∀ m, Wr ws rs m = Wr ws rs' m + (if a < m then Kq ws a else 0) + (if c < m then Kq ws c else 0)
  | 0 => by simp [Wr]
  | m + 1 => by
    rw [Wr, Wr, Wr_del hac ha hc h m]
    have hm := h m
    by_cases e1 : m = a
    · subst e1
      rw [if_pos ha, if_neg (show ¬ (m : Int) ∈ rs' from fun z => (hm.mp z).2.1 rfl), if_neg (show ¬ m < m by omega), if_pos (show m < m + 1 by omega)]
      by_cases e2 : c < m
      · rw [if_pos e2, if_pos (show c < m + 1 by omega)]; omega
      · rw [if_neg e2, if_neg (show ¬ c < m + 1 by omega)]; omega
    · by_cases e2 : m = c
      · subst e2
        rw [if_pos hc, if_neg (show ¬ (m : Int) ∈ rs' from fun z => (hm.mp z).2.2 rfl), if_neg (show ¬ m < m by omega), if_pos (show m < m + 1 by omega)]
        by_cases e3 : a < m
        · rw [if_pos e3, if_pos (show a < m + 1 by omega)]; omega
        · rw [if_neg e3, if_neg (show ¬ a < m + 1 by omega)] <;> omega
      · have i1 : (if a < m + 1 then Kq ws a else 0) = (if a < m then Kq ws a else 0) := by
          by_cases e3 : a < m
          · rw [if_pos e3, if_pos (show a < m + 1 by omega)]
          · rw [if_neg e3, if_neg (show ¬ a < m + 1 by omega)]
        have i2 : (if c < m + 1 then Kq ws c else 0) = (if c < m then Kq ws c else 0) := by
          by_cases e3 : c < m
          · rw [if_pos e3, if_pos (show c < m + 1 by omega)]
          · rw [if_neg e3, if_neg (show ¬ c < m + 1 by omega)]
        have i3 : (if (m : Int) ∈ rs' then Kq ws m else 0) = (if (m : Int) ∈ rs then Kq ws m else 0) := by
          by_cases e3 : (m : Int) ∈ rs
          · rw [if_pos e3, if_pos (hm.mpr ⟨e3, e1, e2⟩)]
          · rw [if_neg e3, if_neg (fun z => e3 (hm.mp z).1)]
        rw [i1, i2, i3]; omega
structure Inv (ws : List Str) (rs : List Int) (ps : List (Option Int)) : Prop where
  srt : rs.Pairwise (· < ·)
  bnd : ∀ x ∈ rs, 0 ≤ x ∧ x < (ws.length : Int)
  br : ∀ q, Pr ws rs q → Kq ws q = 1 ∨ Kq ws q = -1
  con : Con ws (Pr ws rs)
  sum : Wr ws rs ws.length = Hq ws ws.length
  prs : ∀ i, i < ws.length → Kq ws i = 1 → (Pr ws rs i ∧ ps.getD i none = none) ∨ (¬ Pr ws rs i ∧ ∃ b, ps.getD i none = some ((b % ws.length : Nat) : Int) ∧ i < b ∧ b < i + ws.length ∧ Dy ws (i + 1) b ∧ Kq ws b = -1)
  len : ps.length = ws.length
theorem Kq_lt {ws : List Str} {q : Nat} (h : Kq ws q ≠ 0) : q % ws.length < ws.length := by
  by_cases c : 0 < ws.length
  · exact Nat.mod_lt _ c
  · exfalso
    have e : ws = [] := List.eq_nil_of_length_eq_zero (by omega)
    subst e
    exact h (by unfold Kq; rw [List.getD_eq_getElem?_getD, List.getElem?_nil]; exact kd_not (by decide) (by decide))
theorem inv_init (ws : List Str) : Inv ws ((rangeKs 0 ws.length).foldl (brG ws) []) (List.replicate ws.length none) := by
  have hmem : ∀ x : Int, x ∈ (rangeKs 0 ws.length).foldl (brG ws) [] ↔ (x ∈ rangeKs 0 ws.length ∧ isBr ws x = true) := fun x => by rw [fold_brG, List.mem_filter]
  have hr : ∀ q : Nat, q < ws.length → (q : Int) ∈ rangeKs 0 ws.length := fun q hq => List.mem_map.mpr ⟨q, List.mem_range.mpr hq, by omega⟩
  have hin : ∀ q : Nat, q < ws.length → Kq ws q ≠ 0 → (q : Int) ∈ (rangeKs 0 ws.length).foldl (brG ws) [] := fun q hq hk => (hmem _).mpr ⟨hr q hq, kd_br (by rw [Int.toNat_natCast]; unfold Kq at hk; rwa [Nat.mod_eq_of_lt hq] at hk)⟩
  have hpr : ∀ q, Kq ws q ≠ 0 → Pr ws ((rangeKs 0 ws.length).foldl (brG ws) []) q := fun q hq => hin (q % ws.length) (Kq_lt hq) (by rw [Kq_mod]; exact hq)
  have hbr : ∀ q, Pr ws ((rangeKs 0 ws.length).foldl (brG ws) []) q → Kq ws q = 1 ∨ Kq ws q = -1 := fun q hq => by
    have h := br_kd ((hmem _).mp hq).2
    rw [Int.toNat_natCast] at h
    exact h
  refine ⟨?_, fun x hx => ?_, hbr, con_init hpr, ?_, fun i hi hk => ?_, by simp⟩
  · rw [fold_brG]
    refine List.Pairwise.filter _ ?_
    unfold rangeKs
    refine List.Pairwise.map _ ?_ List.pairwise_lt_range
    intro a b h; omega
  · have := mem_rangeKs ((hmem x).mp hx).1; omega
  · have hw : ∀ m, m ≤ ws.length → Wr ws ((rangeKs 0 ws.length).foldl (brG ws) []) m = Hq ws m := by
      intro m
      induction m with
      | zero => intro _; rfl
      | succ m ih =>
        intro hm
        rw [Wr, ih (by omega), Hq_succ]
        by_cases c : Kq ws m = 0
        · rw [c]; split <;> rfl
        · rw [if_pos (hin m (by omega) c)]
    exact hw _ (Nat.le_refl _)
  · refine .inl ⟨hpr i (by omega), ?_⟩
    rw [List.getD_eq_getElem?_getD, List.getElem?_replicate]; split <;> rfl
theorem inv_step {ws : List Str} {rs : List Int} {ps : List (Option Int)} {k : Int} (h : Inv ws rs ps) (h0 : 0 ≤ k) (h1 : k < (rs.length : Int)) (ha : Adj ws rs k) :
    Inv ws (rs.foldl (flG (ri rs k) (rj rs k)) []) (ps.set (ri rs k).toNat (some (rj rs k))) := by
  obtain ⟨b, hx, hb, hj⟩ := next_pr h.srt h.bnd h0 h1
  have hi0 := h.bnd (ri rs k) (getD_in (by omega))
  obtain ⟨i, hi⟩ : ∃ i : Nat, ri rs k = (i : Int) := ⟨(ri rs k).toNat, by omega⟩
  rw [hi, Int.toNat_natCast] at hx hb
  have hin : i < ws.length := by omega
  have k1 : Kq ws i = 1 := by
    have := kd_open ha.1
    rw [hi, Int.toNat_natCast] at this
    unfold Kq; rw [Nat.mod_eq_of_lt hin]; exact this
  have k2 : Kq ws b = -1 := by
    have := kd_close ha.2
    rw [← hj, Int.toNat_natCast] at this
    exact this
  have hbn : b < i + ws.length := by
    refine Nat.lt_of_le_of_ne hb fun e => ?_
    rw [e, Kq_per, k1] at k2
    exact absurd k2 (by decide)
  rw [← hj, hi]
  have hne : i ≠ b % ws.length := fun e => by
    have := Kq_mod ws b
    rw [← e, k1, k2] at this; exact absurd this (by decide)
  have hmem : ∀ q : Nat, (q : Int) ∈ rs.foldl (flG (i : Int) ((b % ws.length : Nat) : Int)) [] ↔ ((q : Int) ∈ rs ∧ q ≠ i ∧ q ≠ b % ws.length) := fun q => by
    rw [fold_flG, List.mem_filter, decide_eq_true_eq]
    refine ⟨fun z => ⟨z.1, fun e => z.2.1 (by rw [e]), fun e => z.2.2 (by rw [e])⟩, fun z => ⟨z.1, fun e => z.2.1 (Int.ofNat.inj e), fun e => z.2.2 (Int.ofNat.inj e)⟩⟩
  have hP : ∀ q, Pr ws (rs.foldl (flG (i : Int) ((b % ws.length : Nat) : Int)) []) q ↔ (Pr ws rs q ∧ q % ws.length ≠ i ∧ q % ws.length ≠ b % ws.length) := fun q => hmem (q % ws.length)
  have hdy := h.con i b hx
  have hpi : (i : Int) ∈ rs := by
    have := hx.1; unfold Pr at this; rwa [Nat.mod_eq_of_lt hin] at this
  refine ⟨?_, fun x hx => ?_, fun q hq => h.br q ((hP q).mp hq).1, con_strike h.con hx hin k1 k2 hP, ?_, fun a han hka => ?_, by rw [List.length_set]; exact h.len⟩
  · rw [fold_flG]; exact h.srt.filter _
  · rw [fold_flG] at hx; exact h.bnd x (List.mem_filter.mp hx).1
  · have hd := Wr_del (ws := ws) hne hpi hx.2.1 hmem ws.length
    have hlt : b % ws.length < ws.length := Nat.mod_lt _ (by omega)
    rw [if_pos hin, if_pos hlt, k1, Kq_mod, k2, h.sum] at hd
    omega
  · rw [Int.toNat_natCast, getD_set _ _ _ _ _ (by rw [h.len]; exact hin)]
    by_cases e : i = a
    · subst e
      rw [if_pos rfl]
      refine .inr ⟨fun z => ((hP i).mp z).2.1 (Nat.mod_eq_of_lt hin), b, rfl, hx.2.2.1, hbn, hdy, k2⟩
    · rw [if_neg e]
      rcases h.prs a han hka with ⟨c1, c2⟩ | ⟨c1, c2⟩
      · refine .inl ⟨(hP a).mpr ⟨c1, by rw [Nat.mod_eq_of_lt han]; omega, fun z => ?_⟩, c2⟩
        have := Kq_mod ws b
        rw [← z, Kq_mod, hka, k2] at this; exact absurd this (by decide)
      · exact .inr ⟨fun z => c1 ((hP a).mp z).1, c2⟩
theorem inv_of {ws : List Str} {rs : List Int} {ps : List (Option Int)} (h : Rch ws rs ps) : Inv ws rs ps := by
  induction h with
  | init => exact inv_init ws
  | step _ h0 h1 ha ih => exact inv_step ih h0 h1 ha
theorem m_psb {ws : List Str} {rs : List Int} {ps : List (Option Int)} (h : Rch ws rs ps) {k : Int} {j : Int} (hk : ps.getD k.toNat none = some j) : 0 ≤ j ∧ j < (ws.length : Int) := by
  induction h generalizing k j with
  | init =>
    rw [List.getD_eq_getElem?_getD, List.getElem?_replicate] at hk
    split at hk <;> cases hk
  | @step rs ps q h h0 h1 ha ih =>
    have hf := rch_facts h
    have h2 := rj_bounds h0 h1
    have h3 := hf.2.2 _ (getD_in (l := rs) (i := (Int.fmod (q + 1) (rs.length : Int)).toNat) (by omega))
    have h4 := hf.2.2 _ (getD_in (l := rs) (i := q.toNat) (by omega))
    rw [getD_set _ _ _ _ _ (by rw [hf.2.1]; unfold ri; omega)] at hk
    split at hk
    · have := Option.some.inj hk
      rw [← this]; exact h3
    · exact ih hk
theorem noAd_of {ws : List Str} {rs : List Int} {ps : List (Option Int)} (h : Inv ws rs ps) (hn : NoAdjTo ws rs rs.length) : NoAd ws (Pr ws rs) := by
  rintro p q hx ⟨k1, k2⟩
  obtain ⟨k, hk, e⟩ := in_getD hx.1
  obtain ⟨b, hb, _, hj⟩ := next_pr h.srt h.bnd (k := (k : Int)) (by omega) (by omega)
  have ei : ri rs (k : Int) = ((p % ws.length : Nat) : Int) := e
  rw [ei, Int.toNat_natCast] at hb
  have hlt : p % ws.length < ws.length := Kq_lt (by rw [k1]; decide)
  have hb2 := hb.at hlt rfl
  have hq : q = b + (p - p % ws.length) := by
    rcases Nat.lt_trichotomy q (b + (p - p % ws.length)) with z | z | z
    · exact absurd hx.2.1 (hb2.2.2.2 q hx.2.2.1 z)
    · exact z
    · exact absurd hb2.2.1 (hx.2.2.2 _ hb2.2.2.1 z)
  have hqb : q % ws.length = b % ws.length := by
    obtain ⟨m, hm⟩ := mod_split p ws.length
    have e2 : q = b + ws.length * m := by omega
    rw [e2, Nat.add_mul_mod_self_left]
  refine hn (k : Int) (by omega) (by omega) ⟨?_, ?_⟩
  · rw [ei, Int.toNat_natCast]; exact open_kd k1
  · rw [← hj, Int.toNat_natCast, ← hqb]; exact close_kd k2
end Mine

namespace Mine
/-- the length of the endless turning text up to the q-th word -/
def Tq (ws : List Str) (q : Nat) : Int := Sg (fun x => (x.length : Int)) ws q
theorem txt_sum (l : List Str) : ((txt l).length : Int) = (l.map fun x => (x.length : Int)).sum := by
  induction l with
  | nil => rw [txt_nil]; decide
  | cons x l ih => rw [txt_len_cons, Int.natCast_add, ih, List.map_cons, List.sum_cons]
theorem getD_mem {l : List Str} {i : Nat} (h : i < l.length) : l.getD i Str.empty ∈ l := by
  rw [List.getD_eq_getElem?_getD, List.getElem?_eq_getElem h]; exact List.getElem_mem _
theorem take_T {ws : List Str} {i : Nat} (hi : i ≤ ws.length) : ((txt (ws.take i)).length : Int) = Tq ws i := by
  have h := Sg_link (fun x => (x.length : Int)) ws ws 0 (fun m hm => by rw [Nat.zero_add, Nat.mod_eq_of_lt hm]) i hi
  rw [txt_sum, h, Nat.zero_add]
  show _ - (0 : Int) = _
  rw [Int.sub_zero]; rfl
theorem take_H {ws : List Str} : ht ws = Hq ws ws.length := by
  have h := Sg_link kd ws ws 0 (fun m hm => by rw [Nat.zero_add, Nat.mod_eq_of_lt hm]) ws.length (Nat.le_refl _)
  rw [List.take_length, Nat.zero_add] at h
  have e : Sg kd ws 0 = 0 := rfl
  rw [e, Int.sub_zero] at h
  exact h
theorem T_succ {ws : List Str} (q : Nat) : Tq ws (q + 1) = Tq ws q + ((ws.getD (q % ws.length) Str.empty).length : Int) := rfl
theorem T_lt {ws : List Str} (hW : ∀ x ∈ ws, IsW x) (hp : 0 < ws.length) {p : Nat} : ∀ d, Tq ws p < Tq ws (p + 1 + d)
  | 0 => by
    have := (isW_len (hW _ (getD_mem (Nat.mod_lt p hp)))).2
    rw [Nat.add_zero, T_succ]; omega
  | d + 1 => by
    have h := T_lt hW hp (p := p) d
    have := (isW_len (hW _ (getD_mem (Nat.mod_lt (p + 1 + d) hp)))).2
    rw [← Nat.add_assoc, T_succ]; omega
theorem T_mono {ws : List Str} (hW : ∀ x ∈ ws, IsW x) (hp : 0 < ws.length) {p q : Nat} (h : p < q) : Tq ws p < Tq ws q := by
  have := T_lt hW hp (p := p) (q - p - 1)
  have e : p + 1 + (q - p - 1) = q := by omega
  rwa [e] at this
theorem T_per (ws : List Str) (q : Nat) : Tq ws (q + ws.length) = Tq ws q + Tq ws ws.length := Sg_per _ _ _
theorem ws_at {ws : List Str} {i : Nat} (hi : i < ws.length) (hp : (ws.getD i Str.empty == Str.ofString "(") = true) : ws = ws.take i ++ (Str.ofString "(" :: ws.drop (i + 1)) := by
  have e := eq_of_beq hp
  rw [List.getD_eq_getElem?_getD, List.getElem?_eq_getElem hi] at e
  have e2 : ws[i] = Str.ofString "(" := e
  have h3 : ws.drop i = ws[i] :: ws.drop (i + 1) := List.drop_eq_getElem_cons hi
  rw [← e2, ← h3, List.take_append_drop]
theorem two_cps {ws : List Str} {i : Nat} (hi : i < ws.length) (hp : (ws.getD i Str.empty == Str.ofString "(") = true) : (txt ws ++ txt ws).cps.toList = cd (ws.take i) ++ 40 :: cd (ws.drop (i + 1) ++ ws) := by
  rw [Str.cps_append, Array.toList_append, cd_txt]
  conv => lhs; arg 1; rw [ws_at hi hp]
  rw [cd_append, cd_cons, cw1, cd_append]
  simp
theorem cd_len (l : List Str) : (cd l).length = (txt l).length := by
  rw [← cd_txt, Array.length_toList]; rfl
theorem fmt_at {ws : List Str} {i : Nat} (hi : i < ws.length) (hp : (ws.getD i Str.empty == Str.ofString "(") = true) : fmAt (txt ws ++ txt ws) ((txt (ws.take i)).length : Int) 0 false false = sc (cd (ws.drop (i + 1) ++ ws) ++ []) (((txt (ws.take i)).length : Int) + 1) 0 1 := by
  unfold fmAt
  rw [two_cps hi hp, Int.toNat_natCast, ← cd_len, List.drop_left, List.append_nil]
  show sc (40 :: _) _ 0 0 = _
  simp [sc]
theorem row_at {ws : List Str} {i : Nat} (hi : i < ws.length) : ∀ m, m < (ws.drop (i + 1) ++ ws).length → (ws.drop (i + 1) ++ ws).getD m Str.empty = ws.getD ((i + 1 + m) % ws.length) Str.empty := by
  intro m hm
  rw [List.length_append, List.length_drop] at hm
  rw [List.getD_eq_getElem?_getD, List.getD_eq_getElem?_getD]
  by_cases c : m < ws.length - (i + 1)
  · rw [List.getElem?_append_left (by rw [List.length_drop]; exact c), List.getElem?_drop, Nat.mod_eq_of_lt (by omega)]
  · rw [List.getElem?_append_right (by rw [List.length_drop]; omega), List.length_drop]
    have e : i + 1 + m = (m - (ws.length - (i + 1))) + ws.length := by omega
    rw [e, Nat.add_mod_right, Nat.mod_eq_of_lt (by omega)]
theorem row_H {ws : List Str} {i m : Nat} (hi : i < ws.length) (hm : m ≤ (ws.drop (i + 1) ++ ws).length) : ht ((ws.drop (i + 1) ++ ws).take m) = Hq ws (i + 1 + m) - Hq ws (i + 1) := Sg_link kd ws _ (i + 1) (row_at hi) m hm
theorem row_T {ws : List Str} {i m : Nat} (hi : i < ws.length) (hm : m ≤ (ws.drop (i + 1) ++ ws).length) : ((txt ((ws.drop (i + 1) ++ ws).take m)).length : Int) = Tq ws (i + 1 + m) - Tq ws (i + 1) := by
  rw [txt_sum]; exact Sg_link _ ws _ (i + 1) (row_at hi) m hm
theorem row_W {ws : List Str} (hW : ∀ x ∈ ws, IsW x) (i : Nat) : ∀ x ∈ ws.drop (i + 1) ++ ws, IsW x := fun x hx => (List.mem_append.mp hx).elim (fun q => hW x (List.mem_of_mem_drop q)) (hW x)
theorem fmt_none {ws : List Str} (hW : ∀ x ∈ ws, IsW x) {i : Nat} (hi : i < ws.length) (hp : (ws.getD i Str.empty == Str.ofString "(") = true) (h : ∀ d, Hq ws (i + 1) ≤ Hq ws (i + 1 + d)) : fmAt (txt ws ++ txt ws) ((txt (ws.take i)).length : Int) 0 false false = none := by
  rw [fmt_at hi hp, sc_all _ [] _ 1 (row_W hW i) (by decide) (fun m hm => by
    rw [row_H hi hm]
    have := h m; omega)]
  rfl
theorem fmt_some {ws : List Str} (hW : ∀ x ∈ ws, IsW x) {i b : Nat} (hi : i < ws.length) (hp : (ws.getD i Str.empty == Str.ofString "(") = true) (h1 : i < b) (h2 : b < i + ws.length) (hd : Dy ws (i + 1) b) (hk : Kq ws b = -1) : fmAt (txt ws ++ txt ws) ((txt (ws.take i)).length : Int) 0 false false = some (Tq ws b) := by
  obtain ⟨a1, a2, a3⟩ := hd
  have hl : (ws.drop (i + 1) ++ ws).length = ws.length - (i + 1) + ws.length := by rw [List.length_append, List.length_drop]
  have eb : i + 1 + (b - (i + 1)) = b := by omega
  rw [fmt_at hi hp, sc_find _ [] _ 1 (b - (i + 1)) (row_W hW i) (by decide) (by omega) ?_ (fun q hq => ?_)]
  · rw [row_T hi (by omega), eb, take_T (by omega)]
    have e := T_succ (ws := ws) i
    rw [Nat.mod_eq_of_lt hi, eq_of_beq hp, lw1] at e
    congr 1; omega
  · rw [row_H hi (by omega), ← Nat.add_assoc, eb, Hq_succ, hk, a2]; omega
  · rw [row_H hi (by omega)]
    have := a3 (i + 1 + q) (by omega) (by omega)
    omega
theorem Kq_open {ws : List Str} {i : Nat} (hi : i < ws.length) (hp : (ws.getD i Str.empty == Str.ofString "(") = true) : Kq ws i = 1 := by
  unfold Kq; rw [Nat.mod_eq_of_lt hi]; exact kd_open hp
theorem Kq_pers {ws : List Str} (q m : Nat) : Kq ws (q + ws.length * m) = Kq ws q := by
  unfold Kq; rw [Nat.add_mul_mod_self_left]
theorem all_open2 {ws : List Str} {rs : List Int} {ps : List (Option Int)} (h : Inv ws rs ps) (hn : NoAdjTo ws rs rs.length) {p : Nat} (hp : Pr ws rs p) (hk : Kq ws p = 1) (q : Nat) (hq : Pr ws rs q) : Kq ws q = 1 := by
  have hl : 0 < ws.length := Nat.lt_of_le_of_lt (Nat.zero_le _) (Kq_lt (q := p) (by rw [hk]; decide))
  have hge : p ≤ q + ws.length * p := Nat.le_trans (Nat.le_mul_of_pos_left p hl) (Nat.le_add_left _ _)
  have e : p + (q + ws.length * p - p) = q + ws.length * p := by omega
  have := all_open h.br (noAd_of h hn) (q + ws.length * p - p) p hp hk (by rw [e]; exact (Pr_pers p).mpr hq)
  rwa [e, Kq_pers] at this
theorem alone {ws : List Str} {rs : List Int} {ps : List (Option Int)} (hW : ∀ x ∈ ws, IsW x) (h : Inv ws rs ps) (hn : NoAdjTo ws rs rs.length) {i : Nat} (hi : i < ws.length) (hp : (ws.getD i Str.empty == Str.ofString "(") = true) (hr : Pr ws rs i) : fmAt (txt ws ++ txt ws) ((txt (ws.take i)).length : Int) 0 false false = none :=
  fmt_none hW hi hp fun d => open_up (by omega) h.con (fun q hq => all_open2 h hn hr (Kq_open hi hp) q hq) d i hr
theorem m_none {ws : List Str} {x : Str} {rs : List Int} {ps : List (Option Int)} {k f : Int} (hx : x = txt ws) (hW : ∀ x ∈ ws, IsW x) (h : Rch ws rs ps) (hn : NoAdjTo ws rs rs.length) (h0 : 0 ≤ k) (h1 : k < (ws.length : Int)) (hp : (ws.getD k.toNat Str.empty == Str.ofString "(") = true)
    (hk : ps.getD k.toNat none = none) (hf : fmAt (x ++ x) ((txt (ws.take k.toNat)).length : Int) 0 false false = some f) : False := by
  subst hx
  have hI := inv_of h
  have hi : k.toNat < ws.length := by omega
  rcases hI.prs _ hi (Kq_open hi hp) with ⟨c1, _⟩ | ⟨_, b, c2, _⟩
  · rw [alone hW hI hn hi hp c1] at hf; cases hf
  · rw [hk] at c2; cases c2
theorem m_some {ws : List Str} {x : Str} {rs : List Int} {ps : List (Option Int)} {k f j : Int} (hx : x = txt ws) (hW : ∀ x ∈ ws, IsW x) (h : Rch ws rs ps) (hn : NoAdjTo ws rs rs.length) (h0 : 0 ≤ k) (h1 : k < (ws.length : Int)) (hp : (ws.getD k.toNat Str.empty == Str.ofString "(") = true)
    (hk : ps.getD k.toNat none = some j) (hf : fmAt (x ++ x) ((txt (ws.take k.toNat)).length : Int) 0 false false = some f) :
    ((txt (ws.take k.toNat)).length : Int) < f ∧ f < ((txt (ws.take k.toNat)).length : Int) + (x.length : Int) ∧ Int.fmod f (x.length : Int) = ((txt (ws.take j.toNat)).length : Int) := by
  subst hx
  have hI := inv_of h
  have hi : k.toNat < ws.length := by omega
  have hl : 0 < ws.length := by omega
  rcases hI.prs _ hi (Kq_open hi hp) with ⟨_, c1⟩ | ⟨_, b, c2, g1, g2, g3, g4⟩
  · rw [hk] at c1; cases c1
  · rw [hk] at c2
    have ej := Option.some.inj c2
    rw [fmt_some hW hi hp g1 g2 g3 g4] at hf
    have ef := Option.some.inj hf
    have eT : ((txt ws).length : Int) = Tq ws ws.length := by
      have := take_T (ws := ws) (Nat.le_refl _)
      rwa [List.take_length] at this
    have t0 : (0 : Int) ≤ Tq ws (b % ws.length) := by
      rw [← take_T (Nat.le_of_lt (Nat.mod_lt b hl))]; omega
    have t1 := T_mono hW hl (Nat.mod_lt b hl)
    have t2 := T_mono hW hl g1
    have t3 := T_mono hW hl g2
    rw [T_per] at t3
    rw [ej, Int.toNat_natCast, take_T (Nat.le_of_lt (Nat.mod_lt b hl)), take_T (Nat.le_of_lt hi), eT, ← ef]
    refine ⟨t2, t3, ?_⟩
    rw [Int.fmod_eq_emod_of_nonneg _ (by omega)]
    by_cases c : b < ws.length
    · rw [Nat.mod_eq_of_lt c] at t0 t1 ⊢
      exact Int.emod_eq_of_lt t0 t1
    · obtain ⟨a, rfl⟩ : ∃ a, b = a + ws.length := ⟨b - ws.length, by omega⟩
      rw [Nat.add_mod_right, Nat.mod_eq_of_lt (by omega)] at t0 t1 ⊢
      rw [T_per, Int.add_emod_right]
      exact Int.emod_eq_of_lt t0 t1
theorem m_pos1 {ws : List Str} {x : Str} {k : Int} (hx : x = txt ws) (hW : ∀ x ∈ ws, IsW x) (h0 : 0 ≤ k) (h1 : k < (ws.length : Int)) : ((txt (ws.take k.toNat)).length : Int) < ((x ++ x).length : Int) ∧ 0 < x.length := by
  subst hx
  have := txt_take_lt hW (m := k.toNat) (by omega)
  rw [Str.length_append]
  omega
theorem m_item2 {ws : List Str} {x : Str} {k : Int} (hx : x = txt ws) (hW : ∀ x ∈ ws, IsW x) (h0 : 0 ≤ k) (h1 : k < (ws.length : Int)) (hp : (ws.getD k.toNat Str.empty == Str.ofString "(") = true) : (Txt.item (x ++ x) ((txt (ws.take k.toNat)).length : Int) == Str.ofString "(") = true := by
  have hq := m_pos1 hx hW h0 h1
  subst hx
  rw [PySem.W.item_meets ⟨by omega, hq.1⟩, Int.toNat_natCast]
  have e : (txt ws ++ txt ws).cps = (cd (ws.take k.toNat) ++ 40 :: cd (ws.drop (k.toNat + 1) ++ ws)).toArray := by
    rw [← two_cps (by omega) hp, Array.toArray_toList]
  rw [e, ← cd_len]
  have e2 : (cd (ws.take k.toNat) ++ 40 :: cd (ws.drop (k.toNat + 1) ++ ws)).toArray.getD (cd (ws.take k.toNat)).length 0 = 40 := by
    simp
  rw [e2, c40]; exact beq_self_eq_true _
theorem m_cnt {ws : List Str} {rs : List Int} {ps : List (Option Int)} (hW : ∀ x ∈ ws, IsW x) (h : Rch ws rs ps) (hn : NoAdjTo ws rs rs.length) : cntA ws ws.length = max (ht ws) 0 := by
  have hI := inv_of h
  have hpr : ∀ i : Nat, i < ws.length → (Pr ws rs i ↔ (i : Int) ∈ rs) := fun i hi => by unfold Pr; rw [Nat.mod_eq_of_lt hi]
  have key : ∀ i, i < ws.length → (((ws.getD i Str.empty == Str.ofString "(") = true ∧ fmAt (txt ws ++ txt ws) ((txt (ws.take i)).length : Int) 0 false false = none) ↔ ((i : Int) ∈ rs ∧ Kq ws i = 1)) := fun i hi => by
    constructor
    · rintro ⟨a, b⟩
      refine ⟨?_, Kq_open hi a⟩
      rcases hI.prs i hi (Kq_open hi a) with ⟨c1, _⟩ | ⟨_, d, _, g1, g2, g3, g4⟩
      · exact (hpr i hi).mp c1
      · rw [fmt_some hW hi a g1 g2 g3 g4] at b; cases b
    · rintro ⟨a, b⟩
      have hp : (ws.getD i Str.empty == Str.ofString "(") = true := by
        unfold Kq at b; rw [Nat.mod_eq_of_lt hi] at b; exact open_kd b
      exact ⟨hp, alone hW hI hn hi hp ((hpr i hi).mpr a)⟩
  have hs := hI.sum
  rw [← take_H] at hs
  by_cases c : ∃ p, Pr ws rs p ∧ Kq ws p = 1
  · obtain ⟨p, p1, p2⟩ := c
    have ho := all_open2 hI hn p1 p2
    have hc : ∀ m, m ≤ ws.length → cntA ws m = Wr ws rs m ∧ 0 ≤ cntA ws m := by
      intro m
      induction m with
      | zero => intro _; exact ⟨rfl, Int.le_refl _⟩
      | succ m ih =>
        intro hm
        obtain ⟨i1, i2⟩ := ih (by omega)
        have k := key m (by omega)
        rw [cntA, Wr]
        by_cases z : (m : Int) ∈ rs
        · have z2 := ho m ((hpr m (by omega)).mpr z)
          rw [if_pos (k.mpr ⟨z, z2⟩), if_pos z, z2]; omega
        · rw [if_neg (fun y => z (k.mp y).1), if_neg z]; omega
    have := hc ws.length (Nat.le_refl _)
    omega
  · have hc : ∀ m, m ≤ ws.length → cntA ws m = 0 ∧ Wr ws rs m ≤ 0 := by
      intro m
      induction m with
      | zero => intro _; exact ⟨rfl, Int.le_refl _⟩
      | succ m ih =>
        intro hm
        obtain ⟨i1, i2⟩ := ih (by omega)
        have k := key m (by omega)
        rw [cntA, Wr, if_neg (fun y => c ⟨m, (hpr m (by omega)).mpr (k.mp y).1, (k.mp y).2⟩)]
        by_cases z : (m : Int) ∈ rs
        · have z1 := (hpr m (by omega)).mpr z
          have z2 := (hI.br m z1).resolve_left fun y => c ⟨m, z1, y⟩
          rw [if_pos z, z2]; omega
        · rw [if_neg z]; omega
    have := hc ws.length (Nat.le_refl _)
    omega
end Mine

namespace Mine
theorem m_blankB : (sop (Str.ofString " \n") == Str.ofString " \n") = true := by rw [m_blank]; exact beq_self_eq_true _
end Mine
namespace Mine
local macro_rules | `(tactic| walk_at "execs nil") => `(tactic| (k_here; dsimp only))
local macro_rules | `(tactic| walk_at "truthy bool") => `(tactic| (k_here; dsimp only))
local macro_rules | `(tactic| walk_at "CompSrc") => `(tactic| (k_here; k_dflt (k_extra "comp")))
local macro_rules | `(tactic| walk_at "CompEnd") => `(tactic| (k_dflt (k_extra "compend")))
local macro_rules | `(tactic| walk_at "KCtEl") => `(tactic| (exact kct_el rfl rfl rfl))
structure LS where
  tx : Str
  tt : Tok
  pv : List Value
  pn : Nat
  hv : List Value
  hn : Nat
def l1Led (Ha Pa D Ca : Addr) (oc : Obj) (ys : List Value) (c : LS) : List (Addr × Obj) :=
  [(Ha, W.listOf c.hv.toArray c.hn), (Pa, W.listOf c.pv.toArray c.pn), (D, LCg.lst ys), (Ca, oc)]
def L1F (l : List Str) (c : LS) : Prop := c.tx = txt l ∧ IntsAre c.pv (placesOf l) ∧ IntsAre c.hv (heightsOf l)
def L1J (Ha Pa D Ca : Addr) (oc : Obj) (ys : List Value) (m₀ : Str → Option Value) (l : List Str) (m : Str → Option Value) (nx : List (Addr × Obj)) : Prop :=
  ∃ c, nx = l1Led Ha Pa D Ca oc ys c ∧ L1F l c ∧ m (Str.ofString "text") = some (.str c.tx c.tt) ∧ ∀ z, z ≠ Str.ofString "word" → z ≠ Str.ofString "text" → m z = m₀ z
section
variable {prog : Program} {w : World} {A : Around} {E : Value → Shared → Prop} {Q : Flow → Shared → Prop} {s s₁ : Shared} {env : Env} {h₀ h' : Heap} {m m' m₀ : Str → Option Value} {tk : Nat}
theorem fr_two {L : Addr} {h : Heap} {m₁ : Str → Option Value} {v u : Option Value} (h1 : m₁ (Str.ofString "text") = u) (h2 : ∀ z, z ≠ Str.ofString "word" → z ≠ Str.ofString "text" → m₁ z = m₀ z)
    (F : Fr h₀ L h (fun y => if y = Str.ofString "word" then v else m₁ y)) : Fr h₀ L h (fun y => if y = Str.ofString "word" then v else if y = Str.ofString "text" then u else m₀ y) := by
  have e : (fun y => if y = Str.ofString "word" then v else m₁ y) = fun y => if y = Str.ofString "word" then v else if y = Str.ofString "text" then u else m₀ y := by
    funext y
    by_cases a : y = Str.ofString "word"
    · rw [if_pos a, if_pos a]
    · rw [if_neg a, if_neg a]
      by_cases b : y = Str.ofString "text"
      · rw [if_pos b, b]; exact h1
      · rw [if_neg b]; exact h2 y a b
  rw [← e]; exact F
theorem law_iter1 {body : List Stmt} {Ha Pa D Ca : Addr} {x0 x1 : Addr × Obj} {oc : Obj} {ys : List Value} {ws : List Str} {t0 t1 : Tok}
    (hh : A.handled = none) (hw : StrsAre ys ws) (F : Fr h₀ env.locals s.heap m₀) (N : News h₀ env.locals s.heap [x0, (Ha, W.listOf #[.int 0 t0] 0), (Pa, W.listOf #[] 0), (D, LCg.lst ys), x1, (Ca, oc)])
    (ht : m₀ (Str.ofString "text") = some (.str (Str.ofString "") t1))
    (turn : ∀ i (x : Str) (c : LS) t h tk own, ws[i]? = some x → OwnOff own [Ha, Pa, D, Ca] → L1F (ws.take i) c → Fr h₀ env.locals h (fun y => if y = Str.ofString "word" then some (.str x t) else if y = Str.ofString "text" then some (.str c.tx c.tt) else m₀ y) → News h₀ env.locals h (l1Led Ha Pa D Ca oc ys c ++ own) →
      wpAny (model prog w) A (execs body env) (InvPostG h₀ env.locals (fun m' nx => (D, LCg.lst ys) ∈ nx ∧ L1J Ha Pa D Ca oc ys m₀ (ws.take (i + 1)) m' nx) own { s with heap := h, toks := tk } Q) E { s with heap := h, toks := tk })
    (done : ∀ (c : LS) (u : Option Value) h tk, L1F ws c → Fr h₀ env.locals h (fun y => if y = Str.ofString "word" then u else if y = Str.ofString "text" then some (.str c.tx c.tt) else m₀ y) → News h₀ env.locals h (l1Led Ha Pa D Ca oc ys c) → Q .next { s with heap := h, toks := tk }) :
    wpAny (model prog w) A (pyIter (.ref D)) (fun it s₂ => LoopAtV prog w A h₀ env (Str.ofString "word") body Q E it s₂) E s := by
  have N0 : News h₀ env.locals s.heap (l1Led Ha Pa D Ca oc ys ⟨Str.ofString "", t1, [], 0, [.int 0 t0], 0⟩) := fun p hp => N p (by
    simp only [l1Led, List.mem_cons, List.not_mem_nil, or_false] at hp ⊢
    rcases hp with hp | hp | hp | hp <;> simp only [hp, true_or, or_true])
  refine kdl_iter (fun i m nx => L1J Ha Pa D Ca oc ys m₀ (ws.take i) m nx) hh (List.Mem.tail _ (List.Mem.tail _ (List.Mem.head _))) F N0 ⟨_, rfl, ⟨by rw [List.take_zero, txt_nil], .nil, .cons _ _ .nil⟩, ht, fun _ _ _ => rfl⟩ ?_ ?_
  · rintro i v m₁ nx h tk own hv hoff - ⟨c, rfl, hc, h1, h2⟩ F₁ N₁
    have hi : i < ws.length := by
      rw [← hw.length]; exact (List.getElem?_eq_some_iff.mp hv).1
    obtain ⟨t, e⟩ := StrsAre.at hw (j := i) (List.getElem?_eq_getElem hi)
    rw [hv] at e
    cases e
    exact turn i _ c t h tk own (List.getElem?_eq_getElem hi) hoff hc (fr_two h1 h2 F₁) N₁
  · rintro m₁ nx h tk ⟨c, rfl, hc, h1, h2⟩ F₁ N₁
    rw [List.take_of_length_le (by rw [hw.length]; exact Nat.le_refl _)] at hc
    refine done c (m₁ (Str.ofString "word")) h tk hc ?_ N₁
    refine fr_two h1 h2 ?_
    have e : (fun y => if y = Str.ofString "word" then m₁ (Str.ofString "word") else m₁ y) = m₁ := by
      funext y
      by_cases a : y = Str.ofString "word"
      · rw [if_pos a, a]
      · rw [if_neg a]
    rw [e]; exact F₁
theorem l1_end {L Ha Pa D Ca : Addr} {oc : Obj} {ys : List Value} {ws : List Str} {i : Nat} {x : Str} {c : LS} {own : List (Addr × Obj)} {tt t1 t2 : Tok} {pn hn : Nat} {v : Int}
    (F : Fr h₀ L h' m') (N : News h₀ L h' ((Ha, W.listOf (c.hv ++ [Value.int v t2]).toArray hn) :: (Pa, W.listOf (c.pv ++ [Value.int (c.tx.length : Int) t1]).toArray pn) :: (D, LCg.lst ys) :: (Ca, oc) :: own))
    (hi : ws[i]? = some x) (hoff : OwnOff own [Ha, Pa, D, Ca]) (hc : L1F (ws.take i) c) (htx : m' (Str.ofString "text") = some (.str (c.tx ++ x) tt)) (hm : ∀ z, z ≠ Str.ofString "word" → z ≠ Str.ofString "text" → m' z = m₀ z)
    (hv : v = ht (ws.take i) + kd x) :
    InvEndG h₀ L (fun m' nx => (D, LCg.lst ys) ∈ nx ∧ L1J Ha Pa D Ca oc ys m₀ (ws.take (i + 1)) m' nx) own s₁ { s₁ with heap := h', toks := tk } := by
  have e : ws.take (i + 1) = ws.take i ++ [x] := by simp [List.take_add_one, hi]
  subst hv
  refine InvEndG.intro (nx := l1Led Ha Pa D Ca oc ys ⟨c.tx ++ x, tt, _, pn, _, hn⟩) F N ⟨List.Mem.tail _ (List.Mem.tail _ (List.Mem.head _)), ⟨_, rfl, ?_, htx, hm⟩⟩ hoff (fun p hp => List.mem_append_left own hp) (fun p hp => List.mem_append_right (l1Led Ha Pa D Ca oc ys ⟨c.tx ++ x, tt, _, pn, _, hn⟩) hp)
  rw [e]
  refine ⟨by rw [txt_snoc, hc.1], ?_, ?_⟩
  · rw [places_snoc, ← hc.1]; exact IntsAre.append hc.2.1 (.cons _ _ .nil)
  · rw [heights_snoc]; exact IntsAre.append hc.2.2 (.cons _ _ .nil)
theorem item_last {news : List (Addr × Obj)} {L D : Addr} {value slice : PySem.Expr} {hv : List Value} {l : List Str} {n : Nat} {u : Tok} {Q : Value → Shared → Prop} (N : News h₀ L s.heap news) (hm : (D, W.listOf hv.toArray n) ∈ news) (hi : IntsAre hv (heightsOf l)) (h9 : l.length ≤ 9)
    (h : ∀ t, Q (.int (ht l) t) s)
    (h1 : subscripted slice false (.ref D) (.int (-1) u) = operate [.ref D, .int (-1) u] (getItem (.ref D) (.int (-1) u)) := by with_unfolding_all rfl) (hg : ∀ r, letTemporaryGo value (.ref D) r = pure () := by intro _; with_unfolding_all rfl) :
    wpAny (model prog w) A (subscriptTail value slice (.ref D) (.int (-1) u)) Q E s := by
  have hl := heights_len l
  refine item_list_ints_neg (News.isList N hm) hi (by omega) (by omega) (by omega) ?_ h1 hg
  intro t
  have e : ((-1 : Int) + ((heightsOf l).length : Int)).toNat = (heightsOf l).length - 1 := by omega
  rw [e, heights_last]
  exact h t
theorem sl_from {news : List (Addr × Obj)} {L D : Addr} {value slice : PySem.Expr} {ys : List Value} {nn : Nat} {r : Int} {t : Tok} {Q : Value → Shared → Prop} (F : Fr h₀ L s.heap m) (N : News h₀ L s.heap news) (hm : (D, W.listOf ys.toArray nn) ∈ news) (h0 : 0 ≤ r) (h9 : ys.length ≤ 9)
    (h : ∀ D' h', Fr h₀ L h' m → News h₀ L h' ((D', W.listOf (ys.drop r.toNat).toArray 0) :: news) → (∀ p ∈ news, p.1 < D') → Q (.ref D') { s with heap := h' })
    (hs : subscripted slice false (.ref D) (.ref s.heap.objs.size) = operate [.ref s.heap.objs.size, .ref D] (getItem (.ref D) (.ref s.heap.objs.size))) (ht : ∀ r, letTemporaryGo value (.ref D) r = pure ()) :
    wpAny (model prog w) A (subscriptTail value slice (.ref D) (.ref s.heap.objs.size)) Q E { s with heap := s.heap.push { cls := .type "slice", data := .fields #[.int r t, .none, .none] } } := by
  refine kmk_slice F N (News.isList N hm) (lo := some r) (hi := none) (.int _ _) .none (fun D' h' F' N' l1 => h D' h' F' ?_ l1) hs ht (by rw [PySem.sizeLine_eq, List.size_toArray]; omega)
  have e := slicePick_from' ys.toArray r.toNat
  rw [Int.toNat_of_nonneg h0] at e
  rw [e] at N'
  exact N'
theorem sl_upto {news : List (Addr × Obj)} {L D : Addr} {value slice : PySem.Expr} {ys : List Value} {nn : Nat} {r : Int} {t : Tok} {Q : Value → Shared → Prop} (F : Fr h₀ L s.heap m) (N : News h₀ L s.heap news) (hm : (D, W.listOf ys.toArray nn) ∈ news) (h0 : 0 ≤ r) (h9 : ys.length ≤ 9)
    (h : ∀ D' h', Fr h₀ L h' m → News h₀ L h' ((D', W.listOf (ys.take r.toNat).toArray 0) :: news) → (∀ p ∈ news, p.1 < D') → Q (.ref D') { s with heap := h' })
    (hs : subscripted slice false (.ref D) (.ref s.heap.objs.size) = operate [.ref s.heap.objs.size, .ref D] (getItem (.ref D) (.ref s.heap.objs.size))) (ht : ∀ r, letTemporaryGo value (.ref D) r = pure ()) :
    wpAny (model prog w) A (subscriptTail value slice (.ref D) (.ref s.heap.objs.size)) Q E { s with heap := s.heap.push { cls := .type "slice", data := .fields #[.none, .int r t, .none] } } := by
  refine kmk_slice F N (News.isList N hm) (lo := none) (hi := some r) .none (.int _ _) (fun D' h' F' N' l1 => h D' h' F' ?_ l1) hs ht (by rw [PySem.sizeLine_eq, List.size_toArray]; omega)
  have e := slicePick_upto' ys.toArray r.toNat
  rw [Int.toNat_of_nonneg h0] at e
  rw [e] at N'
  exact N'
theorem add_two {news : List (Addr × Obj)} {L D1 D2 : Addr} {ys zs : List Value} {n1 n2 : Nat} {Q : Value → Shared → Prop} (F : Fr h₀ L s.heap m) (N : News h₀ L s.heap news) (h1 : (D1, W.listOf ys.toArray n1) ∈ news) (h2 : (D2, W.listOf zs.toArray n2) ∈ news) (h9 : ys.length + zs.length ≤ 100)
    (h : ∀ D' h', Fr h₀ L h' m → News h₀ L h' ((D', W.listOf (ys ++ zs).toArray 0) :: news) → (∀ p ∈ news, p.1 < D') → Q (.ref D') { s with heap := h' }) : wpAny (model prog w) A (binaryOp .Add (.ref D1) (.ref D2)) Q E s :=
  add_lists F N (News.isList N h1) (News.isList N h2) (fun h' F' N' => h _ h' F' N' fun p hp => Heap.lt_size (N p hp).1) (by rw [PySem.sizeLine_eq]; omega)
theorem join_eq (l : List Str) : Txt.join (Str.ofString "") l = Str.join ⟨#[]⟩ l := by
  have e : Str.ofString "" = ⟨#[]⟩ := by decide
  exact eq_of_beq (PyProof.Rows.join_closes (sep := Str.ofString "") (sep' := ⟨#[]⟩) (ys := l) e)
theorem join_nil_txt : ∀ l : List Str, Str.join ⟨#[]⟩ l = txt l
  | [] => rfl
  | a :: r => by
    have e2 : a :: r = [a] ++ r := rfl
    rw [PyProof.Rows.join_nil_cons, join_nil_txt r, e2, txt_append, txt_one]
theorem join_txt (l : List Str) : Txt.join (Str.ofString "") l = txt l := by rw [join_eq, join_nil_txt]
theorem join_ws {news : List (Addr × Obj)} {L D : Addr} {us : List Value} {nn : Nat} {l : List Str} {t : Tok} {Q : Value → Shared → Prop} (N : News h₀ L s.heap news) (hm : (D, W.listOf us.toArray nn) ∈ news) (hu : StrsAre us l) (hl : l.length ≤ 9) (hW : ∀ x ∈ l, IsW x)
    (h : ∀ y t' k, y = txt l → y.length ≤ 45 → Q (.str y t') { s with toks := k }) : wpAny (model prog w) A (call (.builtin "str.join") [.str (Str.ofString "") t, .ref D]) Q E s := by
  have h5 : (l.map (·.length)).sum ≤ 5 * l.length := by
    clear h hu hl
    induction l with
    | nil => simp
    | cons a r ih =>
      have h1 := (isW_len (hW a (.head _))).1
      have h2 := ih fun x hx => hW x (.tail _ hx)
      rw [List.map_cons, List.sum_cons, List.length_cons]; omega
  refine join_listW (News.isList N hm) hu (by decide) (by omega) fun t' k => ?_
  rw [join_txt]
  exact h _ t' k rfl (l1_facts hl hW).1
theorem item_hs {news : List (Addr × Obj)} {L D : Addr} {value slice : PySem.Expr} {hv : List Value} {l : List Str} {n : Nat} {r : Int} {u : Tok} {Q : Value → Shared → Prop} (N : News h₀ L s.heap news) (hm : (D, W.listOf hv.toArray n) ∈ news) (hi : IntsAre hv (heightsOf l)) (h0 : 0 ≤ r) (h1 : r ≤ (l.length : Int)) (h9 : l.length ≤ 9)
    (h : ∀ t, Q (.int (ht (l.take r.toNat)) t) s)
    (hs : subscripted slice false (.ref D) (.int r u) = operate [.ref D, .int r u] (getItem (.ref D) (.int r u)) := by with_unfolding_all rfl) :
    wpAny (model prog w) A (subscriptTail value slice (.ref D) (.int r u)) Q E s := by
  have hl := heights_len l
  refine ksa_sub N hm hi h0 (by omega) (by omega) (fun t => ?_) hs
  have e : (heightsOf l).getD r.toNat 0 = ht (l.take r.toNat) := by
    have hr : r.toNat < l.length + 1 := by omega
    unfold heightsOf
    rw [List.getD_eq_getElem?_getD, List.getElem?_map, List.getElem?_range hr]; rfl
  rw [e]; exact h t
theorem item_ps {news : List (Addr × Obj)} {L D : Addr} {value slice : PySem.Expr} {pv : List Value} {l : List Str} {n : Nat} {r : Int} {u : Tok} {Q : Value → Shared → Prop} (N : News h₀ L s.heap news) (hm : (D, W.listOf pv.toArray n) ∈ news) (hi : IntsAre pv (placesOf l)) (h0 : 0 ≤ r) (h1 : r < (l.length : Int)) (h9 : l.length ≤ 9)
    (h : ∀ t, Q (.int ((txt (l.take r.toNat)).length : Int) t) s)
    (hs : subscripted slice false (.ref D) (.int r u) = operate [.ref D, .int r u] (getItem (.ref D) (.int r u)) := by with_unfolding_all rfl) :
    wpAny (model prog w) A (subscriptTail value slice (.ref D) (.int r u)) Q E s := by
  have hl := places_len l
  refine ksa_sub N hm hi h0 (by omega) (by omega) (fun t => ?_) hs
  have e : (placesOf l).getD r.toNat 0 = ((txt (l.take r.toNat)).length : Int) := by
    have hr : r.toNat < l.length := by omega
    unfold placesOf
    rw [List.getD_eq_getElem?_getD, List.getElem?_map, List.getElem?_range hr]; rfl
  rw [e]; exact h t
theorem min_hs {news : List (Addr × Obj)} {L D : Addr} {hv : List Value} {l : List Str} {n : Nat} {Q : Value → Shared → Prop} (F : Fr h₀ L s.heap m) (N : News h₀ L s.heap news) (hm : (D, W.listOf hv.toArray n) ∈ news) (hi : IntsAre hv (heightsOf l)) (hh : A.handled = none)
    (h : ∀ h' M (t : Tok) tk, Fr h₀ L h' m → News h₀ L h' news → M ∈ heightsOf l → (∀ a, a ∈ heightsOf l → M ≤ a) → Q (.int M t) { s with heap := h', toks := tk }) : wpAny (model prog w) A (call (.builtin "min") [.ref D]) Q E s :=
  kso_min F N (News.isList N hm) hi (by rw [heights_len]; omega) hh h
theorem turn_facts {ws : List Str} {r : Int} (hl : ws.length ≤ 9) (hW : ∀ x ∈ ws, IsW x) : (turnL ws r.toNat).length ≤ 9 ∧ ∀ x ∈ turnL ws r.toNat, IsW x := by
  refine ⟨?_, fun x hx => ?_⟩
  · unfold turnL; rw [List.length_append, List.length_drop, List.length_take]; omega
  · rcases List.mem_append.mp hx with h | h
    · exact hW x (List.mem_of_mem_drop h)
    · exact hW x (List.mem_of_mem_take h)
theorem cmp_fm {x : Str} {k j : Int} {v : Value} {u : Tok} {Q : Value → Shared → Prop} (hR : FmR x k v) (h : Q (.bool (fmAt x k 0 false false == some j)) s) : wpAny (model prog w) A (compareOp .Eq v (.int j u)) Q E s := by
  rcases FmR_inv hR with ⟨e, rfl⟩ | ⟨i, t, e, rfl⟩
  · rw [e] at h
    exact EqNone.eq_none_int h
  · rw [e] at h
    refine PyProof.Rows.eq_int ?_
    have q : (some i == some j) = (i == j) := by simp
    rwa [q] at h
theorem CtL.use {n : Nat} {w : World} {mean : ExcName → Option Value} {mg mb : Str → Option Value} {f D : Addr} {ys : List Value} {nn : Nat} {R : List Value → Prop}
    {dp un : Nat} {gd : Option (List Code)} {cn : Str} {cs : Scope} {a : Addr} {ccd : Value} {cl : List (Str × Addr)} {outer : List Env} {A₀ : Around} {base h₀ : Heap} {L : Addr} {m : Str → Option Value} {news : List (Addr × Obj)} {s : Shared} {Q E : Value → Shared → Prop}
    (B : Below A₀ base outer h₀) (F : Fr h₀ L s.heap m) (X : (hd.heap_39 w.params).In h₀) (N : News h₀ L s.heap ((D, W.listOf ys.toArray nn) :: news)) (T : Top hd.view_39 (looseW hd.view_39 [Str.ofString "find_matching_paren"]) mean mg mb h₀) (hk : cs.kind = .function)
    (C : CtL n w mean mg mb f D ys nn R) (hdp : dp + n < recursionLimit) (hun : un + 8 * n < cLine)
    (ret : ∀ (P : Addr) (vs : List Value) (n' : Nat) (h' : Heap) (tk' : Nat), R vs → Fr h₀ L h' m → News h₀ L h' ((P, W.listOf vs.toArray n') :: (D, W.listOf ys.toArray nn) :: news) → Q (.ref P) { s with heap := h', toks := tk' }) :
    wpAny (model PySem.Challenge.rw_bn5029_01.row.prog w) (ktrTop dp un gd cn cs L a ccd cl outer) (call (.ref f) [.ref D]) Q E s := C _ _ _ _ _ _ _ _ _ _ _ _ _ _ _ _ _ _ B F X N T hk hdp hun ret
theorem news_rot {L : Addr} {h : Heap} {a b d c : Addr × Obj} (N : News h₀ L h [a, b, d, c]) : News h₀ L h (d :: [a, b, c]) := fun p hp => N p (by
  simp only [List.mem_cons, List.not_mem_nil, or_false] at hp ⊢
  rcases hp with hp | hp | hp | hp <;> simp only [hp, true_or, or_true])
theorem item_pv_some {news : List (Addr × Obj)} {L D : Addr} {value slice : PySem.Expr} {vs : List Value} {ps : List (Option Int)} {n : Nat} {r j : Int} {u : Tok} {Q : Value → Shared → Prop} (N : News h₀ L s.heap news) (hm : (D, W.listOf vs.toArray n) ∈ news) (hp : PVal vs ps) (h0 : 0 ≤ r) (h9 : ps.length ≤ 9) (hj : ps.getD r.toNat none = some j)
    (h : ∀ t, Q (.int j t) s)
    (hs : subscripted slice false (.ref D) (.int r u) = operate [.ref D, .int r u] (getItem (.ref D) (.int r u)) := by with_unfolding_all rfl) :
    wpAny (model prog w) A (subscriptTail value slice (.ref D) (.int r u)) Q E s := by
  have hk : r.toNat < ps.length := by
    refine Decidable.byContradiction fun hc => ?_
    rw [List.getD_eq_getElem?_getD, List.getElem?_eq_none (by omega)] at hj
    cases hj
  have hk' : r.toNat < vs.length := by rw [hp.1]; exact hk
  have hv := hp.2 r.toNat
  rw [hj] at hv
  obtain ⟨t, ht⟩ := hv
  have hl := News.isList N hm
  refine tail_any hl.typeIs slot_list_getitem.lookup (wpAny_getItem_list hl h0 (by omega) (x := .int j t) ?_ (h t)) hs
  rw [List.getD_eq_getElem?_getD, List.getElem?_eq_getElem hk'] at ht
  rw [List.getElem?_toArray, List.getElem?_eq_getElem hk']
  exact congrArg some ht
theorem item_pv {news : List (Addr × Obj)} {L D : Addr} {value slice : PySem.Expr} {vs : List Value} {ps : List (Option Int)} {n : Nat} {r : Int} {u : Tok} {Q : Value → Shared → Prop} (N : News h₀ L s.heap news) (hm : (D, W.listOf vs.toArray n) ∈ news) (hp : PVal vs ps) (h0 : 0 ≤ r) (h1 : r < (ps.length : Int)) (h9 : ps.length ≤ 9)
    (hN : ps.getD r.toNat none = none → Q .none s) (hS : ∀ j t, ps.getD r.toNat none = some j → Q (.int j t) s)
    (hs : subscripted slice false (.ref D) (.int r u) = operate [.ref D, .int r u] (getItem (.ref D) (.int r u)) := by with_unfolding_all rfl) :
    wpAny (model prog w) A (subscriptTail value slice (.ref D) (.int r u)) Q E s := by
  cases e : ps.getD r.toNat none with
  | some j => exact item_pv_some N hm hp h0 h9 e (fun t => hS j t e) hs
  | none =>
    have hk' : r.toNat < vs.length := by rw [hp.1]; omega
    have hv := hp.2 r.toNat
    rw [e] at hv
    have hv' : vs.getD r.toNat .none = .none := hv
    have hl := News.isList N hm
    refine tail_any hl.typeIs slot_list_getitem.lookup (wpAny_getItem_list hl h0 (by omega) (x := .none) ?_ (hN e)) hs
    rw [List.getD_eq_getElem?_getD, List.getElem?_eq_getElem hk'] at hv'
    rw [List.getElem?_toArray, List.getElem?_eq_getElem hk']
    exact congrArg some hv'
theorem P_at {P : Nat → Int → Prop} {pre : List Int} {k a : Int} (hk : k = 0 + (pre.length : Int)) (h : P pre.length a) : P k.toNat a := by
  have e : k.toNat = pre.length := by omega
  rw [e]; exact h
def l3St : List Str := [Str.ofString "found"]
def l3Ps (c : Int × Tok) : List (Str × Value) := [(Str.ofString "alone", .int c.1 c.2)]
theorem law_iter3 {body : List Stmt} {r : Addr} {t₀ u₀ v₀ : Tok} {led : List (Addr × Obj)} {n : Nat} {a0 : Int} {ta0 : Tok} (P : Nat → Int → Prop)
    (hh : A.handled = none) (hr : IsRange s.heap r 0 (n : Int) 1 t₀ u₀ v₀) (h9 : n ≤ 9) (F : Fr h₀ env.locals s.heap m₀) (N : News h₀ env.locals s.heap led) (ha : m₀ (Str.ofString "alone") = some (.int a0 ta0)) (hp : P 0 a0)
    (turn : ∀ (pre : List Int) (k : Int) t (a : Int) (ta : Tok) (u : Str → Option Value) h tk own, 0 ≤ k → k < (n : Int) → pre.length = k.toNat → P k.toNat a →
      Fr h₀ env.locals h (fun y => if y = Str.ofString "i" then some (.int k t) else kstB (fun z => if l3St.contains z then u z else m₀ z) (l3Ps (a, ta)) y) → News h₀ env.locals h (led ++ own) →
      wpAny (model prog w) A (execs body env) (InvPostN h₀ env.locals (KstS (fun _ : Int × Tok => led) l3Ps (fun _ => True) (Str.ofString "i") l3St m₀ (fun pre c => P pre.length c.1) (pre ++ [k])) own (led.map (·.1)) { s with heap := h, toks := tk } Q) E { s with heap := h, toks := tk })
    (done : ∀ (a : Int) (ta : Tok) (u : Str → Option Value) h tk, P n a → Fr h₀ env.locals h (fun y => if y = Str.ofString "i" then u y else kstB (fun z => if l3St.contains z then u z else m₀ z) (l3Ps (a, ta)) y) → News h₀ env.locals h led → Q .next { s with heap := h, toks := tk }) :
    wpAny (model prog w) A (pyIter (.ref r)) (fun it s₂ => LoopAtV prog w A h₀ env (Str.ofString "i") body Q E it s₂) E s :=
  kst_range (σ := Int × Tok) (n := n) (fun _ => led) l3Ps (fun _ => True) l3St (fun pre c => P pre.length c.1) (a0, ta0) hh hr (small_one (by omega) (by omega) (by omega) (by omega)) (by rw [rangeSize_nat]; omega) F N trivial
    (fun p hp => by
      simp only [l3Ps, List.mem_cons, List.not_mem_nil, or_false] at hp
      rw [hp]; exact ha) hp
    (fun c pre k t u h tk own hk hlt _ _ hP F' N' => turn pre k t c.1 c.2 u h tk own (by omega) (by omega) (by omega) (P_at hk hP) F' N')
    (fun c u h tk _ hP F' N' => done c.1 c.2 u h tk (by rwa [rangeKs_length] at hP) F' N')
theorem l3_end {L : Addr} {led news' own : List (Addr × Obj)} {pre : List Int} {P : Nat → Int → Prop} {a k : Int} {ta : Tok} (F : Fr h₀ L h' m') (N : News h₀ L h' news') (hn : ∀ p ∈ led, p ∈ news') (ho : ∀ p ∈ own, p ∈ news') (ha : m' (Str.ofString "alone") = some (.int a ta))
    (hm : ∀ z, z ≠ Str.ofString "i" → z ≠ Str.ofString "alone" → z ≠ Str.ofString "found" → m' z = m₀ z) (hk : pre.length = k.toNat) (hP : P (k.toNat + 1) a) :
    InvEndN h₀ L (KstS (fun _ : Int × Tok => led) l3Ps (fun _ => True) (Str.ofString "i") l3St m₀ (fun pre c => P pre.length c.1) (pre ++ [k])) own (led.map (·.1)) s₁ { s₁ with heap := h', toks := tk } :=
  kst_end (a, ta) F N hn ho rfl trivial (fun p hp => by
      simp only [l3Ps, List.mem_cons, List.not_mem_nil, or_false] at hp
      rw [hp]; exact ha)
    (fun z hz h2 h3 => hm z hz (h2 _ (.head _)) (by simpa [l3St] using h3)) (by
      show P (pre ++ [k]).length a
      rw [List.length_append, List.length_singleton, hk]; exact hP)
theorem ln1 : (Str.ofString "\t(").length = 2 := by decide
theorem ln2 : (Str.ofString ") \n").length = 3 := by decide
theorem ln3 : (Str.ofString "a").length = 1 := by decide
theorem ln4 : (Str.ofString "(").length = 1 := by decide
theorem ln5 : (Str.ofString ")").length = 1 := by decide
theorem ln6 : (Str.ofString " \n").length = 2 := by decide
theorem kd_1 {x : Str} (h : (x == Str.ofString "(") = true) : kd x = 1 := by unfold kd; rw [if_pos h]
theorem kd_2 {x : Str} (h : (x == Str.ofString "(") = false) (h2 : (x == Str.ofString ")") = true) : kd x = -1 := by unfold kd; rw [if_neg (by rw [h]; decide), if_pos h2]
theorem kd_3 {x : Str} (h : (x == Str.ofString "(") = false) (h2 : (x == Str.ofString ")") = false) : kd x = 0 := by unfold kd; rw [if_neg (by rw [h]; decide), if_neg (by rw [h2]; decide)]
def l2Led (Ha Pa D Ca : Addr) (oc : Obj) (ys hv pv : List Value) (hn pn : Nat) : List (Addr × Obj) := [(Ha, W.listOf hv.toArray hn), (Pa, W.listOf pv.toArray pn), (D, LCg.lst ys), (Ca, oc)]
def l2St : List Str := [Str.ofString "turning", Str.ofString "whole", Str.ofString "due"]
theorem law_iter2 {body : List Stmt} {r : Addr} {t₀ u₀ v₀ : Tok} {Ha Pa D Ca : Addr} {oc : Obj} {ys hv pv : List Value} {hn pn : Nat} {b : Int} (n : Nat)
    (hh : A.handled = none) (hr : IsRange s.heap r 0 b 1 t₀ u₀ v₀) (hb : b = (n : Int)) (h9 : n ≤ 9) (F : Fr h₀ env.locals s.heap m₀) (N : News h₀ env.locals s.heap (l2Led Ha Pa D Ca oc ys hv pv hn pn))
    (turn : ∀ (pre : List Int) (k : Int) t (u : Str → Option Value) h tk own, 0 ≤ k → k < (n : Int) → OwnOff own [Ha, Pa, D, Ca] →
      Fr h₀ env.locals h (fun y => if y = Str.ofString "r" then some (.int k t) else kstB (fun z => if l2St.contains z then u z else m₀ z) [] y) → News h₀ env.locals h (l2Led Ha Pa D Ca oc ys hv pv hn pn ++ own) →
      wpAny (model prog w) A (execs body env) (InvPostN h₀ env.locals (KstS (fun _ : Unit => l2Led Ha Pa D Ca oc ys hv pv hn pn) (fun _ => []) (fun _ => True) (Str.ofString "r") l2St m₀ (fun _ _ => True) (pre ++ [k])) own [Ha, Pa, D, Ca] { s with heap := h, toks := tk } Q) E { s with heap := h, toks := tk })
    (done : ∀ (u : Str → Option Value) h tk, Fr h₀ env.locals h (fun y => if y = Str.ofString "r" then u y else kstB (fun z => if l2St.contains z then u z else m₀ z) [] y) → News h₀ env.locals h (l2Led Ha Pa D Ca oc ys hv pv hn pn) → Q .next { s with heap := h, toks := tk }) :
    wpAny (model prog w) A (pyIter (.ref r)) (fun it s₂ => LoopAtV prog w A h₀ env (Str.ofString "r") body Q E it s₂) E s := by
  subst hb
  exact kst_range (σ := Unit) (n := n) (fun _ => l2Led Ha Pa D Ca oc ys hv pv hn pn) (fun _ => []) (fun _ => True) l2St (fun _ _ => True) () hh hr (small_one (by omega) (by omega) (by omega) (by omega)) (by rw [rangeSize_nat]; omega) F N trivial (fun _ h => nomatch h) trivial
    (fun _ pre k t u h tk own hk hlt hoff _ _ F' N' => turn pre k t u h tk own (by omega) (by omega) hoff F' N')
    (fun _ u h tk _ _ F' N' => done u h tk F' N')
theorem l2_end {L : Addr} {led news' own : List (Addr × Obj)} {adr : List Addr} {pre : List Int} (F : Fr h₀ L h' m') (N : News h₀ L h' news') (hn : ∀ p ∈ led, p ∈ news') (ho : ∀ p ∈ own, p ∈ news') (ha : led.map (·.1) = adr) (hm : ∀ z, z ≠ Str.ofString "r" → l2St.contains z = false → m' z = m₀ z) :
    InvEndN h₀ L (KstS (fun _ : Unit => led) (fun _ => []) (fun _ => True) (Str.ofString "r") l2St m₀ (fun _ _ => True) pre) own adr s₁ { s₁ with heap := h', toks := tk } :=
  kst_end () F N hn ho ha trivial (fun _ h => nomatch h) (fun z hz _ hk => hm z hz hk) trivial
end

local macro_rules | `(tactic| k_all) => `(tactic| first | assumption | (refine List.forall_mem_cons.mpr ⟨?ka, ?kb⟩; (case ka => k_ne); (case kb => k_all)))
local macro_rules | `(tactic| walk_at "exec For Name Name cons nil") => `(tactic| (k_here; (rename Fr _ _ _ _ => lF'); (with_unfolding_all refine' For_invVF lF' ?k1 ?k2 ?_; (case k1 => exact rfl); (case k2 => exact rfl); k_whole)))
local macro_rules | `(tactic| walk_at "exec For Name Call cons nil") => `(tactic| (k_here; (rename Fr _ _ _ _ => lF'); (with_unfolding_all refine' For_invVF lF' ?k1 ?k2 ?_; (case k1 => exact rfl); (case k2 => exact rfl); k_whole)))
local macro_rules | `(tactic| walk_at "pyIter ref") => `(tactic| (k_here; k_dflt (k_extra "iter")))
local macro_rules | `(tactic| walk_at "InvPostG") => `(tactic| (dsimp only [InvPostG]))
local macro_rules | `(tactic| walk_at "InvEndG") => `(tactic| (k_dflt (k_extra "endg")))
local macro_rules | `(tactic| walk_at "subscriptTail Name UnaryOp ref int") => `(tactic| (k_here; (with_reducible show wpAny _ _ (subscriptTail _ _ (Value.ref _) (Value.int _ _)) _ _ _); k_dflt (refine' item_last ?iN ?im ?iS ?ib ?_; (case iN => k_asm); (case im => k_mem); (case iS => assumption); (case ib => assumption)); intro _))
local macro_rules | `(tactic| walk_at "call builtin:len") => `(tactic| (k_here; (with_reducible show wpAny _ _ (call (Value.builtin "len") [Value.ref _]) _ _ _); k_dflt (refine' len_ws ?iN ?im ?iS ?ic ?_; (case iN => k_asm); (case im => k_mem); (case iS => assumption); (case ic => assumption)); intro _ _; (try dsimp only)))
local macro_rules | `(tactic| walk_at "binaryOp Add ref ref") => `(tactic| (k_dflt (k_extra "add")))
local macro_rules | `(tactic| walk_at "call ref") => `(tactic| (k_here; k_dflt (k_extra "callref")))
local macro_rules | `(tactic| walk_at "subscriptTail Name Slice ref ref") => `(tactic| (k_here; k_dflt (k_extra "slice")))
local macro_rules | `(tactic| walk_at "call builtin:str.join") => `(tactic| (k_here; k_dflt (k_extra "join")))
local macro_rules | `(tactic| walk_at "call builtin:min") => `(tactic| (k_here; (with_reducible show wpAny _ _ (call (Value.builtin "min") [Value.ref _]) _ _ _); k_dflt (refine' min_hs ?kF ?kN ?km ?ki ?kh ?_; (case kF => k_asm); (case kN => k_asm); (case km => k_mem); (case ki => assumption); (case kh => rfl)); intro h' M' t' tk' F' N' mM' mL'; (try dsimp only)))
local macro_rules | `(tactic| walk_at "subscriptTail Name Name ref int") => `(tactic| (k_here; (with_reducible show wpAny _ _ (subscriptTail _ _ (Value.ref _) (Value.int _ _)) _ _ _); k_dflt (first
  | (refine' item_hs ?iN ?im ?iS ?ia ?ib ?ic ?_; (case iN => k_asm); (case im => k_mem); (case iS => assumption); (case ia => assumption); (case ib => assumption); (case ic => assumption))
  | (refine' item_ps ?iN ?im ?iS ?ia ?ib ?ic ?_; (case iN => k_asm); (case im => k_mem); (case iS => assumption); (case ia => assumption); (case ib => assumption); (case ic => assumption))
  | (refine' item_ws ?iN ?im ?iS ?ia ?ib ?ic ?_; (case iN => k_asm); (case im => k_mem); (case iS => assumption); (case ia => assumption); (case ib => assumption); (case ic => assumption))); intro _))
local macro_rules | `(tactic| walk_at "exec Return some") => `(tactic| (k_here; (with_reducible show wpAny _ _ (exec (Stmt.Return (some (Expr.Constant (Const.bool false) _ _)) _) _) _ _ _); k_dflt (k_extra "retF")))
local macro_rules | `(tactic| walk_at "compareOp Eq") => `(tactic| (k_here; k_dflt (refine' cmp_fm ?hR ?_; (case hR => assumption))))
local macro_rules | `(tactic| walk_at "subscriptTail Name Name ref int") => `(tactic| (k_here; (with_reducible show wpAny _ _ (subscriptTail _ _ (Value.ref _) (Value.int _ _)) _ _ _); k_dflt (k_extra "pv")))
local macro_rules | `(tactic| walk_at "subscriptTail Name Subscript ref int") => `(tactic| (k_here; (with_reducible show wpAny _ _ (subscriptTail _ _ (Value.ref _) (Value.int _ _)) _ _ _); k_dflt (k_extra "psub")))
local macro_rules | `(tactic| walk_at "InvEndN") => `(tactic| (k_dflt (k_extra "endn")))
local macro_rules | `(tactic| walk_at "call builtin:list.append") => `(tactic| (k_here; (with_reducible show wpAny _ _ (call (Value.builtin _) [Value.ref _, _]) _ _ _); k_dflt (refine' append_K ?k1 ?k2 ?k3 ?_ ?z; (case k1 => k_asm); (case k2 => k_asm); (case k3 => k_upd); (case z => (rw [PySem.sizeLine_eq]; (try simp only [List.size_toArray, Array.size_push, List.length_append]); omega)); k_whole); intro h' F' N'; (try simp only [List.push_toArray] at N')))
set_option maxRecDepth 100000 in
set_option maxHeartbeats 4000000 in
theorem test : PySem.Challenge.rw_bn5029_01.Holds := by
  refine hd ?_
  w_on
  w_strict k_go0
  (all_goals try k_fold)
  k_with_none
  k_with "table" => skip
  k_with "comp" => (k_dflt (refine LCg.CompSrc.ledger (by rfl) (by k_asm) (by k_asm) (by k_mem) (by size_fits) ?_; intro g'; refine' kct_list tabS (by assumption) (fun k' t' I' oI' C' oC' D' m' ys' h' tk' E' hk' hC' hx' F' N' off' ne' hM' => ?_) ?_; (all_goals (try k_fold))))
  k_with "compend" => (refine' compEnd_same ?cN ?cF ?cO ?cS ?_; (case cN => assumption); (case cF => assumption); (case cO => assumption); (case cS => first | exact True.intro | assumption | exact .inr ⟨_, by k_mem, rfl, _, rfl⟩))
  k_with "endg" => (refine' l1_end (c := ⟨tx, tt, pv, pn, hv, hn⟩) ?eF ?eN hi hoff hcF ?et ?em ?ev; (case eF => assumption); (case eN => assumption); (case et => rfl); (case em => (intro z h1 h2; (try dsimp only); rw [if_neg h2, if_neg h1, if_neg h2])); (case ev => first | rw [kd_1 (by assumption)] | rw [kd_2 (by assumption) (by assumption)] | rw [kd_3 (by assumption) (by assumption)]))
  k_with "slice" => (first
    | (refine' sl_from ?kF ?kN ?km ?k0 ?k9 ?_ ?ks ?kt; (case kF => k_asm); (case kN => k_asm); (case km => k_mem); (case k0 => assumption); (case k9 => (rw [StrsAre.length hws]; exact hw9)); (case ks => with_unfolding_all rfl); (case kt => intro _; with_unfolding_all rfl); intro D' h' F' N' l1; (try k_lt l1); (try dsimp only))
    | (refine' sl_upto ?kF ?kN ?km ?k0 ?k9 ?_ ?ks ?kt; (case kF => k_asm); (case kN => k_asm); (case km => k_mem); (case k0 => assumption); (case k9 => (rw [StrsAre.length hws]; exact hw9)); (case ks => with_unfolding_all rfl); (case kt => intro _; with_unfolding_all rfl); intro D' h' F' N' l1; (try k_lt l1); (try dsimp only)))
  k_with "add" => (refine' add_two ?kF ?kN ?k1 ?k2 ?k9 ?_; (case kF => k_asm); (case kN => k_asm); (case k1 => k_mem); (case k2 => k_mem); (case k9 => (rw [List.length_drop, List.length_take, StrsAre.length hws]; omega)); intro D' h' F' N' l1; (try k_lt l1); (try dsimp only))
  k_with "join" => (refine' join_ws ?kN ?km (l := turnL ws r.toNat) ?ks (turn_facts hw9 hwW).1 (turn_facts hw9 hwW).2 ?_; (case kN => k_asm); (case km => k_mem); (case ks => exact StrsAre.append' (StrsAre.drop' hws _) (StrsAre.take' hws _)); intro y t' tk' hy hy45; (try dsimp only))
  k_with "callref" => (first
    | (refine' Ct.use ?k1 ?k2 ?k3 ?k4 ?k5 ?k6 (sop_ct2 _ _ _ _ _ _ ?hl) ?kd ?ku ?_; (case k2 => k_asm); (case k4 => k_asm); (case k1 => k_asm); (case k3 => k_asm); (case k5 => k_asm); (case k6 => first | exact rfl | assumption); (case hl => (simp only [Str.length_append, ln1, ln2, ln3, ln6]; omega)); (case kd => ktr_room); (case ku => ktr_units); intro v9 h9 tk9 hR9 F9 N9; (obtain ⟨t9, rfl⟩ := hR9); (try dsimp only); (try k_fold))
    | (refine' Ct.use ?k1 ?k2 ?k3 ?k4 ?k5 ?k6 (fmp_ct1 _ _ _ _ _ _ ?h1 ?hl ?h2) ?kd ?ku ?_; (case k2 => k_asm); (case k4 => k_asm); (case k1 => k_asm); (case k3 => k_asm); (case k5 => k_asm); (case k6 => first | exact rfl | assumption); (case h1 => (simp only [Str.length_append, ln4, ln5]; omega)); (case hl => (simp only [Str.length_append, ln4, ln5]; omega)); (case h2 => exact m_item0 _); (case kd => ktr_room); (case ku => ktr_units); intro v9 h9 tk9 hR9 F9 N9; (try dsimp only); (try k_fold))
    | (refine' CtL.use ?k1 ?k2 ?k3 ?k4 ?k5 ?k6 (par_ct _ _ _ _ _ _ _ ws hws hw9) ?kd ?ku ?_; (case k2 => k_asm); (case k4 => exact news_rot (by k_asm)); (case k1 => k_asm); (case k3 => k_asm); (case k5 => k_asm); (case k6 => first | exact rfl | assumption); (case kd => ktr_room); (case ku => ktr_units); intro P9 vs9 n9 h9 tk9 hR9 F9 N9; (obtain ⟨ps, rs, hpv, hrc, hna⟩ := hR9); (try dsimp only); (try k_fold))
    | (refine' Ct.use ?k1 ?k2 ?k3 ?k4 ?k5 ?k6 (fmp_ct _ _ _ _ _ _ _ _ ?h0 ?h1 ?hl ?h2) ?kd ?ku ?_; (case k2 => k_asm); (case k4 => k_asm); (case k1 => k_asm); (case k3 => k_asm); (case k5 => k_asm); (case k6 => first | exact rfl | assumption); (case h0 => exact Int.natCast_nonneg _); (case h1 => exact (m_pos1 hc1 hwW (by assumption) (by assumption)).1); (case hl => (simp only [Str.length_append]; omega)); (case h2 => exact m_item2 hc1 hwW (by assumption) (by assumption) (by assumption)); (case kd => ktr_room); (case ku => ktr_units); intro v9 h9 tk9 hR9 F9 N9; (try dsimp only); (try k_fold); rcases FmR_inv hR9 with ⟨e9, rfl⟩ | ⟨j9, t9, e9, rfl⟩))
  k_with "retF" => (exfalso; first
    | exact m_a1 (by with_reducible assumption)
    | exact m_a2 (by with_reducible assumption)
    | exact m_due hwW (by with_reducible assumption) (by with_reducible assumption) (by with_reducible assumption) (by with_reducible assumption) (by with_reducible assumption) (by with_reducible assumption) (by with_reducible assumption) (by with_reducible assumption)
    | exact m_whole1 hwW (by with_reducible assumption) (by with_reducible assumption) (by with_reducible assumption) (by with_reducible assumption) (by with_reducible assumption)
    | exact m_whole2 hwW (by with_reducible assumption) (by with_reducible assumption) (by with_reducible assumption) (by with_reducible assumption) (by with_reducible assumption) (by with_reducible assumption) (by with_reducible assumption)
    | exact m_fA (by with_reducible assumption) (by with_reducible assumption) hc1 hwW
    | exact m_fB (by with_reducible assumption) (by with_reducible assumption) (by with_reducible assumption) (by with_reducible assumption) hc1 hwW
    | exact m_none hc1 hwW hrc hna (by with_reducible assumption) (by with_reducible assumption) (by with_reducible assumption) hpn (by with_reducible assumption)
    | exact absurd (m_some hc1 hwW hrc hna (by with_reducible assumption) (by with_reducible assumption) (by with_reducible assumption) hpj (by with_reducible assumption)).1 (by with_reducible assumption)
    | exact absurd (m_some hc1 hwW hrc hna (by with_reducible assumption) (by with_reducible assumption) (by with_reducible assumption) hpj (by with_reducible assumption)).2.1 (by with_reducible assumption)
    | exact absurd (m_some hc1 hwW hrc hna (by with_reducible assumption) (by with_reducible assumption) (by with_reducible assumption) hpj (by with_reducible assumption)).2.2 (by with_reducible assumption))
  k_with "pv" => (first
    | (refine' item_pv_some ?vN ?vm hpv ?v0 ?v9 ?vj ?_; (case vN => k_asm); (case vm => k_mem); (case v0 => assumption); (case v9 => assumption); (case vj => assumption); intro _)
    | (refine' item_pv ?vN ?vm hpv ?v0 ?v1 ?v9 ?_ ?_; (case vN => k_asm); (case vm => k_mem); (case v0 => assumption); (case v1 => assumption); (case v9 => assumption); intro hpn; rotate_left; intro j tj hpj; (obtain ⟨hj0, hj1⟩ := m_psb hrc hpj); rotate_right))
  k_with "psub" => (refine' item_ps ?iN ?im ?iS ?ia ?ib ?ic ?_; (case iN => k_asm); (case im => k_mem); (case iS => assumption); (case ia => assumption); (case ib => assumption); (case ic => assumption); intro _)
  k_with "iter" => (
    (rename IsRange _ _ _ _ _ _ _ _ => rgX); (rename News _ _ _ _ => lN'); (rename Fr _ _ _ _ => lF');
    refine' law_iter3 (n := ws.length) (fun i a => a = cntA ws i) (by rfl) rgX hw9 lF' lN' (by rfl) rfl ?_ ?_
    all_goals clear lF' lN'
    intro pre k tk3 a ta u hh tkk own hk0 hk1 hpre hP F9 N9
    dsimp only [l3Ps, kstB, List.cons_append, List.nil_append] at F9 N9
    have hps9 : ps.length ≤ 9 := by rw [(rch_facts hrc).2.1]; exact hw9
    have hk2 : k < (ps.length : Int) := by rw [(rch_facts hrc).2.1]; exact hk1
    have hps0 := (m_pos1 hc1 hwW hk0 hk1).2
    (try k_fold)
    rotate_left
    intro a ta u hh tkk hP F9 N9
    dsimp only [l3Ps, kstB, List.cons_append, List.nil_append] at F9 N9
    have hcnt : (a == if 0 > ht ws then 0 else ht ws) = true := by
      have h := hP.trans (m_cnt hwW hrc hna)
      rw [h]
      by_cases q : 0 > ht ws
      · rw [if_pos q]; exact beq_iff_eq.mpr (by omega)
      · rw [if_neg q]; exact beq_iff_eq.mpr (by omega)
    (try k_fold)
    rotate_right)
  k_with "endn" => (first
    | (refine' l2_end ?eF ?eN ?en ?eo rfl ?em; (case eF => assumption); (case eN => assumption); (case en => exact fun p hp => List.Mem.tail _ (List.Mem.tail _ (List.Mem.tail _ (List.mem_append_left _ hp)))); (case eo => exact fun p hp => List.Mem.tail _ (List.Mem.tail _ (List.Mem.tail _ (List.mem_append_right (l2Led _ _ _ _ _ _ _ _ _ _) hp)))); (case em => (intro z h1 h2; have h3 := h2; simp only [l2St, List.contains_cons, List.contains_nil, Bool.or_false, Bool.or_eq_false_iff, beq_eq_false_iff_ne, ne_eq] at h3; (try dsimp only); rw [if_neg h3.2.2, if_neg h3.2.1, if_neg h3.1, if_neg h1, if_neg (by rw [h2]; decide)])))
    | (refine' l3_end (P := fun i a => a = cntA ws i) ?eF ?eN ?en ?eo ?ea ?em hpre ?eP; (case eF => assumption); (case eN => assumption); (case en => exact fun p hp => List.mem_append_left own hp); (case eo => exact fun p hp => List.mem_append_right [_, _, _, _, _] hp); (case ea => rfl); (case em => (intro z h1 h2 h3; (try dsimp only); simp [h1, h2, h3, l3St])); (case eP => first | exact cnt_no hk0 hP (by assumption) | exact cnt_none hc1 hk0 hP (by assumption) (by assumption) | exact cnt_some hc1 hk0 hP (by assumption))))
  k_with "iter" => (
    (obtain ⟨ws, hws, hw9, hwW⟩ := law_words (by assumption)); (rename News _ _ _ _ => lN'); (rename Fr _ _ _ _ => lF');
    refine' law_iter1 (by rfl) hws lF' lN' (by rfl) ?_ ?_
    all_goals clear lF' lN'
    rintro i x ⟨tx, tt, pv, pn, hv, hn⟩ t hh tkk own hi hoff hcF F9 N9
    dsimp only [l1Led, List.cons_append, List.nil_append] at F9 N9
    obtain ⟨hc1, hc2, hc3⟩ := id hcF
    dsimp only at hc1 hc2 hc3
    obtain ⟨hk1, hk2, hk3⟩ := take_facts hw9 hwW hi
    obtain ⟨hq1, hq2, hq3⟩ := l1_facts hk1 hk2
    rw [← hc1] at hq1
    have hx5 := (isW_len hk3).1
    have hpv9 : pv.length ≤ 9 := by rw [hc2.length, places_len]; exact hk1
    have hhv9 : hv.length ≤ 10 := by rw [hc3.length]; exact hq3
    have hoH : ∀ p ∈ own, p.1 ≠ _ := OwnOff.ne hoff (List.Mem.head _)
    have hoP : ∀ p ∈ own, p.1 ≠ _ := OwnOff.ne hoff (List.Mem.tail _ (List.Mem.head _))
    (try k_fold)
    rotate_left
    rintro ⟨tx, tt, pv, pn, hv, hn⟩ u hh tkk ⟨hc1, hc2, hc3⟩ F9 N9
    dsimp only [l1Led, List.cons_append, List.nil_append] at F9 N9
    dsimp only at hc1 hc2 hc3
    obtain ⟨hq1, hq2, hq3⟩ := l1_facts hw9 hwW
    rw [← hc1] at hq1
    (try k_fold)
    rotate_right)
  k_with "iter" => (
    (rename IsRange _ _ _ _ _ _ _ _ => rgX); (rename News _ _ _ _ => lN'); (rename Fr _ _ _ _ => lF');
    refine' law_iter2 (max ws.length 1) (by rfl) rgX (by split <;> omega) (by omega) lF' lN' ?_ ?_
    all_goals clear lF' lN'
    intro pre r tr u hh tkk own hr0 hr1 hoff F9 N9
    dsimp only [l2Led, kstB, List.cons_append, List.nil_append] at F9 N9
    have hr2 : r ≤ (ws.length : Int) := by omega
    (try k_fold)
    rotate_left
    intro u hh tkk F9 N9
    dsimp only [l2Led, kstB, List.cons_append, List.nil_append] at F9 N9
    (try k_fold)
    rotate_right)
  repeat' (first | (k_unfold; (try dsimp only)) | walk1 | (dsimp only; walk1) | (leave1; (try dsimp only)) | fail "no step")
  all_goals (rw [m_blankB]; kc_close)
end Mine

theorem PySem.Challenge.cw_bn5029_01_holds : PySem.Challenge.rw_bn5029_01.Holds := by
  exact Mine.test
