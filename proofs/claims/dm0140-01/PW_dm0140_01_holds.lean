import PyProof.Rows.All
import Wide.All
import OpenK.AllK
import Wide.FinOn
import PySem.Challenge.RW_dm0140_01
set_option Elab.async false

section
open PySem PySem.W PyProof.Rows
namespace Mine

theorem runs_toks {M : Model} {Γ : Ctx} {p : Pos} {t : Sem Fin} {fs : List PySem.Frame} {s : Shared} {e : End} {s' : Shared}
    (h : Runs M Γ p t fs s e s') : s.toks ≤ s'.toks := by
  induction h with
  | done | raise | yield => exact Nat.le_refl _
  | again _ _ ih | rule _ ih | «at» _ ih | load _ _ ih | update _ _ ih | loadIfAlive _ ih | point _ ih | alloc _ ih | ask _ ih | choose _ _ ih | os _ ih | handled _ ih | genState _ _ ih | stack _ ih | thread _ ih | newGen _ ih | callSusp _ ih | resumeJustStarted _ _ _ ih | resumeThrowFresh _ _ ih | resumeRunning _ _ ih | resumeFinished _ _ ih | segSuspOut _ _ ih => exact ih
  | fresh _ ih => exact Nat.le_of_succ_le ih
  | call _ _ ih₁ ih₂ | segRet _ _ ih₁ ih₂ | segGen _ _ ih₁ ih₂ | segSuspGen _ _ _ _ ih₁ ih₂ => exact Nat.le_trans ih₁ ih₂
  | resumeFresh _ _ _ _ ih₁ ih₂ | resumeSuspended _ _ _ _ ih₁ ih₂ => exact Nat.le_trans ih₁ ih₂

theorem wakes_toks {M : Model} {Γ : Ctx} {p : Pos} {g : Nat} {r : Resume} {s : Shared} {res : GenResult} {s' : Shared}
    (h : Wakes M Γ p g r s res s') : s.toks ≤ s'.toks := by
  unfold Wakes at h
  cases hg : s.gens[g]? with
  | none => simp only [hg] at h
  | some gs =>
    simp only [hg] at h
    cases gs with
    | fresh c =>
      cases r with
      | send v =>
        by_cases hv : v = .none
        · subst hv
          obtain ⟨e₁, s₁, hr, _, _, rfl⟩ := h
          (have := runs_toks hr; exact this)
        · have : res = .justStarted ∧ s' = s := by cases v <;> first | exact absurd rfl hv | exact h
          rw [this.2]; exact Nat.le_refl _
      | throw x => rw [h.2]; exact Nat.le_refl _
    | suspended k₀ l₀ c₀ p₀ fs cl => obtain ⟨e₁, s₁, hr, _, _, rfl⟩ := h; have h3 := runs_toks hr; exact h3
    | running => rw [h.2]; exact Nat.le_refl _
    | finished => rw [h.2]; exact Nat.le_refl _

theorem wp_toks {α : Type} {M : Model} {Γ : Ctx} {n : Nat} (t : Sem α) {Q : α → Pos → Shared → Prop} {E : Value → Pos → Shared → Prop} (p : Pos) (s : Shared)
    (hn : n ≤ s.toks)
    (h : Sem.wp M Γ t (fun a p' s' => n ≤ s'.toks → Q a p' s') (fun e p' s' => n ≤ s'.toks → E e p' s') p s) : Sem.wp M Γ t Q E p s := by
  induction t generalizing p s with
  | pure x => exact h hn
  | raise v => exact h hn
  | unsupported | finish | yield | fork | await | register => exact h
  | rule _ k ih | «at» _ k ih | alloc _ k ih | loadIfAlive _ k ih | point _ k ih | ask k ih | os _ _ k ih | handled _ k ih | newGen _ k ih | stack k ih | thread k ih =>
    exact ih _ _ _ hn h
  | fresh k ih => exact ih _ _ _ (Nat.le_trans hn (Nat.le_succ _)) h
  | load a _ k ih | genState a k ih => exact h.elim fun o h => ⟨o, h.1, ih _ _ _ hn h.2⟩
  | update a _ f k ih | choose _ _ k ih => exact ⟨h.1, ih _ _ _ hn h.2⟩
  | call c hd g l k ih =>
    obtain ⟨r, s', hr, hR⟩ := h
    exact ⟨r, s', hr, ih _ _ _ (Nat.le_trans hn (runs_toks hr)) hR⟩
  | resume g r l k ih =>
    obtain ⟨res, s', hw, hR⟩ := h
    exact ⟨res, s', hw, ih _ _ _ (Nat.le_trans hn (wakes_toks hw)) hR⟩

theorem keep_toks {α : Type} {M : Model} {A : Around} {t : Sem α} {Q : α → Shared → Prop} {E : Value → Shared → Prop} {s : Shared} (n : Nat)
    (hn : n ≤ s.toks) (h : wpAny M A t (fun a s' => n ≤ s'.toks → Q a s') (fun e s' => n ≤ s'.toks → E e s') s) : wpAny M A t Q E s :=
  fun Γ p hΓ => wp_toks t p s hn (h Γ p hΓ)

theorem keep_toks' {α : Type} {M : Model} {A : Around} {t : Sem α} {Q : α → Shared → Prop} {E : Value → Shared → Prop} {s : Shared} (n : Nat)
    (hn : n ≤ s.toks) (h : wpAny M A t (fun a s' => n ≤ s'.toks → Q a s') E s) : wpAny M A t Q E s :=
  keep_toks n hn (wpAny_mono h (fun _ _ h => h) fun _ _ h _ => h)

theorem execs_cons_tok {M : Model} {A : Around} {E : Value → Shared → Prop} {s : Shared} {env : Env} {st : Stmt} {rest : List Stmt} {Q : Flow → Shared → Prop}
    (n : Nat) (hn : n ≤ s.toks)
    (h : wpAny M A (exec st env) (fun f s' => match f with | .next => (n ≤ s'.toks → wpAny M A (execs rest env) Q E s') | f => Q f s') E s) :
    wpAny M A (execs (st :: rest) env) Q E s :=
  wpAny_execs_cons (keep_toks' n hn (wpAny_mono h (fun f s' h' hk => by cases f <;> first | exact h' hk | exact h') fun _ _ h => h))
end Mine
end

section
open PySem PySem.W PyProof.Rows
namespace Mine

def repC (c : Nat) (z : List Nat) (k : Nat) : List Nat := if k = c then z else [k]

theorem flatMap_free (c : Nat) (z : List Nat) : ∀ l : List Nat, c ∉ l → l.flatMap (repC c z) = l
  | [], _ => rfl
  | k :: r, h => by
    have h1 : ¬ k = c := fun e => h (e ▸ List.mem_cons_self ..)
    have h2 : c ∉ r := fun m => h (List.mem_cons_of_mem _ m)
    rw [List.flatMap_cons, flatMap_free c z r h2]
    unfold repC
    rw [if_neg h1]
    rfl

theorem flatMap_join (c : Nat) (z : Str) : ∀ parts : List Str, (∀ p ∈ parts, c ∉ p.cps.toList) →
    (Str.join ⟨#[c]⟩ parts).cps.toList.flatMap (repC c z.cps.toList) = (Str.join z parts).cps.toList
  | [], _ => rfl
  | [p], h => flatMap_free c _ _ (h p (List.mem_singleton.mpr rfl))
  | p :: q :: r, h => by
    have ih := flatMap_join c z (q :: r) fun a ha => h a (List.mem_cons_of_mem _ ha)
    show (p ++ ⟨#[c]⟩ ++ Str.join ⟨#[c]⟩ (q :: r)).cps.toList.flatMap (repC c z.cps.toList) = (p ++ z ++ Str.join z (q :: r)).cps.toList
    simp only [Str.cps_append, Array.toList_append, List.flatMap_append]
    rw [ih, flatMap_free c _ _ (h p (List.mem_cons_self ..))]
    simp [repC]

theorem replace_char (x z : Str) (c : Nat) : (Txt.replace x ⟨#[c]⟩ z).cps.toList = x.cps.toList.flatMap (repC c z.cps.toList) := by
  rw [StrLaws.replace_one, ← flatMap_join c z _ (StrLaws.split_free x c), StrLaws.join_split]

/-- a sign's reference, or the sign -/
def escC (q : Bool) (c : Nat) : List Nat :=
  if c = 38 then [38, 97, 109, 112, 59] else
  if c = 60 then [38, 108, 116, 59] else
  if c = 62 then [38, 103, 116, 59] else
  if q = true ∧ c = 34 then [38, 113, 117, 111, 116, 59] else
  if q = true ∧ c = 39 then [38, 35, 120, 50, 55, 59] else [c]

def escL (q : Bool) (l : List Nat) : List Nat := l.flatMap (escC q)
def escS (q : Bool) (x : Str) : Str := ⟨(escL q x.cps.toList).toArray⟩

theorem escS_toList (q : Bool) (x : Str) : (escS q x).cps.toList = escL q x.cps.toList := by simp [escS]

theorem str_eq {a b : Str} (h : a.cps.toList = b.cps.toList) : a = b := Str.ext' (Array.toList_inj.mp h)

theorem chain3 (c : Nat) : ((repC 38 [38, 97, 109, 112, 59] c).flatMap (repC 60 [38, 108, 116, 59])).flatMap (repC 62 [38, 103, 116, 59]) = escC false c := by
  by_cases h1 : c = 38
  · subst h1; decide
  by_cases h2 : c = 60
  · subst h2; decide
  by_cases h3 : c = 62
  · subst h3; decide
  simp [repC, escC, h1, h2, h3]

theorem chain5 (c : Nat) : ((escC false c).flatMap (repC 34 [38, 113, 117, 111, 116, 59])).flatMap (repC 39 [38, 35, 120, 50, 55, 59]) = escC true c := by
  by_cases h1 : c = 38
  · subst h1; decide
  by_cases h2 : c = 60
  · subst h2; decide
  by_cases h3 : c = 62
  · subst h3; decide
  by_cases h4 : c = 34
  · subst h4; decide
  by_cases h5 : c = 39
  · subst h5; decide
  simp [repC, escC, h1, h2, h3, h4, h5]

theorem lit_amp : Str.ofString "&" = ⟨#[38]⟩ := by decide +kernel
theorem lit_lt : Str.ofString "<" = ⟨#[60]⟩ := by decide +kernel
theorem lit_gt : Str.ofString ">" = ⟨#[62]⟩ := by decide +kernel
theorem lit_quot : Str.ofString "\"" = ⟨#[34]⟩ := by decide +kernel
theorem lit_apos : Str.ofString "'" = ⟨#[39]⟩ := by decide +kernel
theorem ref_amp : Str.ofString "&amp;" = ⟨#[38, 97, 109, 112, 59]⟩ := by decide +kernel
theorem ref_lt : Str.ofString "&lt;" = ⟨#[38, 108, 116, 59]⟩ := by decide +kernel
theorem ref_gt : Str.ofString "&gt;" = ⟨#[38, 103, 116, 59]⟩ := by decide +kernel
theorem ref_quot : Str.ofString "&quot;" = ⟨#[38, 113, 117, 111, 116, 59]⟩ := by decide +kernel
theorem ref_apos : Str.ofString "&#x27;" = ⟨#[38, 35, 120, 50, 55, 59]⟩ := by decide +kernel

theorem esc_false (x : Str) : Txt.replace (Txt.replace (Txt.replace x (Str.ofString "&") (Str.ofString "&amp;")) (Str.ofString "<") (Str.ofString "&lt;")) (Str.ofString ">") (Str.ofString "&gt;") = escS false x := by
  rw [lit_amp, lit_lt, lit_gt, ref_amp, ref_lt, ref_gt]
  apply str_eq
  rw [replace_char, replace_char, replace_char, escS_toList, List.flatMap_assoc, List.flatMap_assoc]
  unfold escL
  congr 1
  funext c
  rw [← chain3 c, List.flatMap_assoc]

theorem esc_true (x : Str) : Txt.replace (Txt.replace (Txt.replace (Txt.replace (Txt.replace x (Str.ofString "&") (Str.ofString "&amp;")) (Str.ofString "<") (Str.ofString "&lt;")) (Str.ofString ">") (Str.ofString "&gt;"))
    (Str.ofString "\"") (Str.ofString "&quot;")) (Str.ofString "'") (Str.ofString "&#x27;") = escS true x := by
  rw [esc_false, lit_quot, lit_apos, ref_quot, ref_apos]
  apply str_eq
  rw [replace_char, replace_char, escS_toList, escS_toList]
  unfold escL
  rw [List.flatMap_assoc, List.flatMap_assoc]
  congr 1
  funext c
  rw [← chain5 c, List.flatMap_assoc]

theorem flatMap_len_le {f : Nat → List Nat} {k : Nat} (hf : ∀ c, (f c).length ≤ k) : ∀ l : List Nat, (l.flatMap f).length ≤ l.length * k
  | [] => by simp
  | a :: l => by
    have ih := flatMap_len_le hf l
    have h1 := hf a
    rw [List.flatMap_cons, List.length_append, List.length_cons, Nat.succ_mul]
    omega

theorem toList_len (x : Str) : x.cps.toList.length = x.length := by simp [Str.length]

theorem rep_le {x y z : Str} {c n : Nat} (k : Nat) (hx : x.length ≤ n) (hy : y = ⟨#[c]⟩) (hz : z.length ≤ k) (hk : 1 ≤ k) : (Txt.replace x y z).length ≤ n * k := by
  subst hy
  have h1 := flatMap_len_le (f := repC c z.cps.toList) (k := k) (fun d => by
    unfold repC
    split
    · rw [toList_len]; exact hz
    · exact hk) x.cps.toList
  rw [← replace_char, toList_len, toList_len] at h1
  exact Nat.le_trans h1 (Nat.mul_le_mul_right _ hx)

theorem rep_fits {x z : Str} {n k : Nat} (hx : x.length ≤ n) (hz : z.length ≤ k) (h : n + (n + 1) * k ≤ 16777216) : x.length + (x.length + 1) * z.length ≤ 16777216 := by
  have h1 : (x.length + 1) * z.length ≤ (x.length + 1) * k := Nat.mul_le_mul_left _ hz
  have h2 : (x.length + 1) * k ≤ (n + 1) * k := Nat.mul_le_mul_right _ (by omega)
  omega

theorem escC_len (q : Bool) (c : Nat) : (escC q c).length ≤ 6 := by
  unfold escC
  repeat' split
  all_goals first | decide | (simp only [List.length_cons, List.length_nil]; omega)

theorem escS_len (q : Bool) (x : Str) : (escS q x).length ≤ 6 * x.length := by
  have h := flatMap_len_le (escC_len q) x.cps.toList
  rw [toList_len] at h
  rw [← toList_len, escS_toList]
  show (x.cps.toList.flatMap (escC q)).length ≤ _
  omega
end Mine
end

section
open PySem PySem.W PyProof.Rows
namespace Mine


theorem same_char (a : Str) (k c : Nat) (ha : a = ⟨#[k]⟩) : Spec.same (.str a) (.str ⟨#[c]⟩) = decide (c = k) := by
  subst ha
  show ((⟨#[k]⟩ : Str) == ⟨#[c]⟩) = decide (c = k)
  by_cases h : c = k
  · subst h
    rw [decide_eq_true rfl]
    exact beq_self_eq_true _
  · rw [decide_eq_false h]
    refine Bool.eq_false_iff.mpr fun e => h ?_
    have e' := eq_of_beq e
    injection e' with e1
    have e2 := congrArg Array.toList e1
    simp at e2
    exact e2.symm

def dat3 : List (PyData × PyData) :=
  [(.str (Str.ofString "&"), .str (Str.ofString "&amp;")), (.str (Str.ofString "<"), .str (Str.ofString "&lt;")), (.str (Str.ofString ">"), .str (Str.ofString "&gt;"))]
def dat5 : List (PyData × PyData) :=
  [(.str (Str.ofString "&"), .str (Str.ofString "&amp;")), (.str (Str.ofString "<"), .str (Str.ofString "&lt;")), (.str (Str.ofString ">"), .str (Str.ofString "&gt;")),
   (.str (Str.ofString "\""), .str (Str.ofString "&quot;")), (.str (Str.ofString "'"), .str (Str.ofString "&#x27;"))]

theorem look3 (c : Nat) : (Spec.lookup (.str ⟨#[c]⟩) dat3).getD (.str ⟨#[c]⟩) = .str ⟨(escC false c).toArray⟩ := by
  unfold dat3 escC
  simp only [Spec.lookup, same_char _ _ c lit_amp, same_char _ _ c lit_lt, same_char _ _ c lit_gt, ref_amp, ref_lt, ref_gt, decide_eq_true_eq]
  by_cases h1 : c = 38
  · simp [h1]
  by_cases h2 : c = 60
  · simp [h2]
  by_cases h3 : c = 62
  · simp [h3]
  simp [h1, h2, h3]

theorem look5 (c : Nat) : (Spec.lookup (.str ⟨#[c]⟩) dat5).getD (.str ⟨#[c]⟩) = .str ⟨(escC true c).toArray⟩ := by
  unfold dat5 escC
  simp only [Spec.lookup, same_char _ _ c lit_amp, same_char _ _ c lit_lt, same_char _ _ c lit_gt, same_char _ _ c lit_quot, same_char _ _ c lit_apos, ref_amp, ref_lt, ref_gt, ref_quot, ref_apos, decide_eq_true_eq]
  by_cases h1 : c = 38
  · simp [h1]
  by_cases h2 : c = 60
  · simp [h2]
  by_cases h3 : c = 62
  · simp [h3]
  by_cases h4 : c = 34
  · simp [h4]
  by_cases h5 : c = 39
  · simp [h5]
  simp [h1, h2, h3, h4, h5]

def escOne (q : Bool) (c : Nat) : Str := ⟨(escC q c).toArray⟩

theorem join_nil_cps (e : Str) (he : e.cps.toList = []) : ∀ l : List Str, (Str.join e l).cps.toList = l.flatMap (fun p => p.cps.toList)
  | [] => rfl
  | [p] => by simp [Str.join]
  | p :: q :: r => by
    have ih := join_nil_cps e he (q :: r)
    show (p ++ e ++ Str.join e (q :: r)).cps.toList = _
    rw [Str.cps_append, Str.cps_append, Array.toList_append, Array.toList_append, he, ih]
    simp

theorem join_escOne (q : Bool) (x : Str) : Txt.join (Str.ofString "") (x.cps.toList.map (escOne q)) = escS q x := by
  show Builtin.Str.glued _ _ = _
  rw [StrLaws.glued_eq_join]
  apply str_eq
  rw [join_nil_cps _ (by decide +kernel), escS_toList, List.flatMap_map]
  unfold escL escOne
  simp

theorem escOne_len (q : Bool) (c : Nat) : (escOne q c).length ≤ 6 := by
  have := escC_len q c
  rw [← toList_len]
  simpa [escOne] using this

theorem escOne_sum (q : Bool) : ∀ l : List Nat, ((l.map (escOne q)).map (·.length)).sum ≤ 6 * l.length
  | [] => by simp
  | c :: l => by
    have ih := escOne_sum q l
    have h := escOne_len q c
    simp only [List.map_cons, List.sum_cons, List.length_cons]
    omega

theorem join_ok (q : Bool) (x : Str) (hx : x.length ≤ 2000000) : ((x.cps.toList.map (escOne q)).map (·.length)).sum + (x.cps.toList.map (escOne q)).length * (Str.ofString "").length ≤ 16777216 := by
  have h := escOne_sum q x.cps.toList
  rw [toList_len] at h
  have e : (Str.ofString "").length = 0 := by decide +kernel
  rw [e]
  omega
end Mine
end

section
open PySem PySem.W PyProof.Rows
namespace Mine
open Builtin Builtin.Str StrLaws

theorem at_iff {x y : Str} (hy : 1 ≤ y.length) (j : Nat) : At x y x.length j ↔ y.cps.toList <+: x.cps.toList.drop j := by
  unfold At
  rw [subAt_eq, beq_iff_eq, List.prefix_iff_eq_take, toList_len]
  constructor
  · exact fun h => h.2.symm
  · intro h
    refine ⟨?_, h.symm⟩
    have h1 := congrArg List.length h
    rw [toList_len, List.length_take, List.length_drop, toList_len] at h1
    omega

theorem escL_append (q : Bool) (a b : List Nat) : escL q (a ++ b) = escL q a ++ escL q b := List.flatMap_append
theorem escL_cons (q : Bool) (a : Nat) (b : List Nat) : escL q (a :: b) = escC q a ++ escL q b := List.flatMap_cons

theorem escC_ne (q : Bool) (c : Nat) : ∃ a r, escC q c = a :: r := by
  unfold escC
  repeat' split
  all_goals exact ⟨_, _, rfl⟩

/-- the signs that stand behind a reference's first -/
def inner : List Nat := [97, 109, 112, 59, 108, 116, 103, 113, 117, 111, 35, 120, 50, 55]

/-- a reference's rest is of these signs -/
theorem escC_tail (q : Bool) (c : Nat) : ∀ a r, escC q c = a :: r → ∀ d ∈ r, d ∈ inner := by
  intro a r h d hd
  unfold escC at h
  repeat' split at h
  all_goals (injection h with h1 h2; subst h2; revert d; decide)

/-- a sign whose first written sign is none of those -/
def Good (c : Nat) : Prop := c ∈ [38, 60, 62, 34, 39, 32, 122, 10, 233]

theorem good_head (q : Bool) (c : Nat) (h : Good c) : ∀ a r, escC q c = a :: r → a ∉ inner := by
  unfold Good at h
  intro a r e
  cases q <;> (simp only [List.mem_cons, List.not_mem_nil, or_false] at h; rcases h with rfl | rfl | rfl | rfl | rfl | rfl | rfl | rfl | rfl <;> (injection e with e1 e2; subst e1; decide))

theorem sub3 : ∀ d ∈ ([38, 34, 39] : List Nat), d ∈ ([38, 60, 62, 34, 39] : List Nat) := by decide

/-- no sign's writing begins another's -/
theorem escC_prefix (q : Bool) (a b : Nat) (h : escC q a <+: escC q b) : a = b := by
  have key : ∀ (q : Bool), (∀ a ∈ [38, 60, 62, 34, 39], ∀ b ∈ [38, 60, 62, 34, 39], escC q a <+: escC q b → a = b) := by
    intro q; cases q <;> decide
  have gen : ∀ c, c ∉ [38, 60, 62, 34, 39] → escC q c = [c] := by
    intro c hc
    simp only [List.mem_cons, List.not_mem_nil, or_false, not_or] at hc
    simp [escC, hc]
  have spec : ∀ c ∈ [38, 60, 62, 34, 39], ∃ d r, escC q c = d :: r ∧ d ∈ [38, 34, 39] := by
    intro c hc
    cases q <;> (simp only [List.mem_cons, List.not_mem_nil, or_false] at hc; rcases hc with rfl | rfl | rfl | rfl | rfl <;> exact ⟨_, _, rfl, by decide⟩)
  by_cases ha : a ∈ [38, 60, 62, 34, 39]
  · by_cases hb : b ∈ [38, 60, 62, 34, 39]
    · exact key q a ha b hb h
    · rw [gen b hb] at h
      obtain ⟨d, r, e, hd⟩ := spec a ha
      rw [e] at h
      have e2 : d = b := (List.cons_prefix_cons.mp h).1
      subst e2
      exact absurd (sub3 d hd) hb
  · rw [gen a ha] at h
    by_cases hb : b ∈ [38, 60, 62, 34, 39]
    · obtain ⟨d, r, e, hd⟩ := spec b hb
      rw [e] at h
      have e2 : a = d := (List.cons_prefix_cons.mp h).1
      subst e2
      exact absurd (sub3 a hd) ha
    · rw [gen b hb] at h
      exact (List.cons_prefix_cons.mp h).1

/-- what is written begins so only where the text does -/
theorem escL_prefix (q : Bool) : ∀ p l : List Nat, escL q p <+: escL q l → p <+: l
  | [], _, _ => List.nil_prefix
  | b :: p, [], h => by
    obtain ⟨d, r, e⟩ := escC_ne q b
    rw [escL_cons, e] at h
    have := h.length_le
    simp [escL] at this
  | b :: p, a :: l, h => by
    rw [escL_cons, escL_cons] at h
    have h1 : escC q b <+: escC q a ++ escL q l := (List.prefix_append _ _).trans h
    have h2 : escC q a <+: escC q a ++ escL q l := List.prefix_append _ _
    have e : b = a := by
      rcases List.prefix_or_prefix_of_prefix h1 h2 with h3 | h3
      · exact escC_prefix q b a h3
      · exact (escC_prefix q a b h3).symm
    subst e
    exact List.cons_prefix_cons.mpr ⟨rfl, escL_prefix q p l ((List.prefix_append_right_inj _).mp h)⟩

theorem escL_prefix_of (q : Bool) {p l : List Nat} (h : p <+: l) : escL q p <+: escL q l := by
  obtain ⟨t, rfl⟩ := h
  rw [escL_append]
  exact List.prefix_append _ _

/-- a place in the text is this place in what is written -/
def plc (q : Bool) (l : List Nat) (i : Nat) : Nat := (escL q (l.take i)).length

theorem escL_drop (q : Bool) (l : List Nat) (i : Nat) : (escL q l).drop (plc q l i) = escL q (l.drop i) := by
  have h : escL q l = escL q (l.take i) ++ escL q (l.drop i) := by rw [← escL_append, List.take_append_drop]
  unfold plc
  rw [h, List.drop_left]

/-- the written pattern stands in what is written only where the pattern stands in the text -/
theorem esc_at (q : Bool) (b : Nat) (p : List Nat) (hb : Good b) : ∀ (l : List Nat) (j : Nat), escL q (b :: p) <+: (escL q l).drop j → ∃ i, i ≤ l.length ∧ j = plc q l i ∧ (b :: p) <+: l.drop i
  | [], j, h => by
    obtain ⟨d, r, e⟩ := escC_ne q b
    rw [escL_cons, e] at h
    have := h.length_le
    simp [escL] at this
  | a :: l, j, h => by
    by_cases h0 : j = 0
    · subst h0
      exact ⟨0, Nat.zero_le _, rfl, escL_prefix q _ _ h⟩
    · by_cases h1 : j < (escC q a).length
      · exfalso
        obtain ⟨d, r, e⟩ := escC_ne q b
        obtain ⟨d', r', e'⟩ := escC_ne q a
        rw [escL_cons, escL_cons, e, e'] at h
        rw [e'] at h1
        obtain ⟨k, rfl⟩ : ∃ k, j = k + 1 := ⟨j - 1, by omega⟩
        rw [List.cons_append, List.cons_append, List.drop_succ_cons] at h
        have hk : k < r'.length := by simpa using h1
        have hd : (r' ++ escL q l).drop k = r'[k] :: (r' ++ escL q l).drop (k + 1) := by
          rw [List.drop_eq_getElem_cons (by rw [List.length_append]; omega), List.getElem_append_left hk]
        rw [hd] at h
        have e3 : d = r'[k] := (List.cons_prefix_cons.mp h).1
        have h4 := escC_tail q a d' r' e' r'[k] (List.getElem_mem hk)
        exact good_head q b hb d r e (e3 ▸ h4)
      · obtain ⟨k, rfl⟩ : ∃ k, j = (escC q a).length + k := ⟨j - (escC q a).length, by omega⟩
        rw [escL_cons q a l, ← List.drop_drop, List.drop_left] at h
        obtain ⟨i, hi, e, hp⟩ := esc_at q b p hb l k h
        refine ⟨i + 1, by simp only [List.length_cons]; omega, ?_, by rw [List.drop_succ_cons]; exact hp⟩
        unfold plc at e ⊢
        rw [List.take_succ_cons, escL_cons, List.length_append, e]

theorem plc_le (q : Bool) (l : List Nat) {i j : Nat} (h : i ≤ j) : plc q l i ≤ plc q l j := by
  have e : l.take j = l.take i ++ (l.drop i).take (j - i) := by
    have e1 : j = i + (j - i) := by omega
    rw [e1, List.take_add]
    simp
  unfold plc
  rw [e, escL_append, List.length_append]
  omega

theorem plc_lt (q : Bool) (l : List Nat) {i j : Nat} (h : i < j) (hi : i < l.length) : plc q l i < plc q l j := by
  have h1 : plc q l i < plc q l (i + 1) := by
    unfold plc
    rw [List.take_succ_eq_append_getElem hi, escL_append, List.length_append]
    obtain ⟨d, r, e⟩ := escC_ne q l[i]
    have : escL q [l[i]] = d :: r := by rw [escL_cons, e]; simp [escL]
    rw [this]
    simp
  exact Nat.lt_of_lt_of_le h1 (plc_le q l h)

theorem plc_full (q : Bool) (l : List Nat) : plc q l l.length = (escL q l).length := by unfold plc; rw [List.take_length]
theorem plc_zero (q : Bool) (l : List Nat) : plc q l 0 = 0 := by simp [plc, escL]

theorem plc_step (q : Bool) (l p : List Nat) (c : Nat) (hc : c ≤ l.length) (h : p <+: l.drop c) : plc q l (c + p.length) = plc q l c + (escL q p).length := by
  obtain ⟨t, e⟩ := h
  have e2 : l.take (c + p.length) = l.take c ++ p := by
    rw [List.take_add, ← e, List.take_left]
  unfold plc
  rw [e2, escL_append, List.length_append]

theorem escS_length (q : Bool) (x : Str) : (escS q x).length = (escL q x.cps.toList).length := by rw [← toList_len, escS_toList]

theorem escS_pos_len (q : Bool) (y : Str) (hy : 1 ≤ y.length) : 1 ≤ (escS q y).length := by
  rw [escS_length]
  rw [← toList_len] at hy
  cases h : y.cps.toList with
  | nil => rw [h] at hy; simp at hy
  | cons b p =>
    obtain ⟨d, r, e⟩ := escC_ne q b
    rw [escL_cons, e]
    simp

/-- the greedy cuts of the text go over into those of what is written -/
theorem chain_map (q : Bool) (x y : Str) (b : Nat) (p : List Nat) (hyb : y.cps.toList = b :: p) (hb : Good b) :
    ∀ (cuts : List Nat) (a f : Nat), a ≤ x.length → ChainG x y x.length a cuts f →
      f ≤ x.length ∧ ChainG (escS q x) (escS q y) (escS q x).length (plc q x.cps.toList a) (cuts.map (plc q x.cps.toList)) (plc q x.cps.toList f)
  | [], a, f, ha, h => by
    have e : f = a := h
    subst e
    exact ⟨ha, rfl⟩
  | c :: r, a, f, ha, h => by
    have hy : 1 ≤ y.length := by rw [← toList_len, hyb]; simp
    have hy' := escS_pos_len q y hy
    obtain ⟨hac, hA, hn, hr⟩ := h
    have hc : c + y.length ≤ x.length := hA.1
    have hp := (at_iff hy c).mp hA
    have ih := chain_map q x y b p hyb hb r (c + y.length) f hc hr
    have hstep : plc q x.cps.toList (c + y.length) = plc q x.cps.toList c + (escS q y).length := by
      rw [escS_length, ← toList_len y]
      exact plc_step q _ _ c (by rw [toList_len]; omega) hp
    rw [hstep] at ih
    refine ⟨ih.1, plc_le q _ hac, (at_iff hy' _).mpr ?_, ?_, ih.2⟩
    · rw [escS_toList, escS_toList, escL_drop]
      exact escL_prefix_of q hp
    · intro k h1 h2 hk
      have hk' := (at_iff hy' k).mp hk
      rw [escS_toList, escS_toList, hyb] at hk'
      obtain ⟨i, hi, e, hpi⟩ := esc_at q b p hb _ k hk'
      subst e
      have hAi : At x y x.length i := (at_iff hy i).mpr (by rw [hyb]; exact hpi)
      have hai : a ≤ i := by
        refine Nat.le_of_not_lt fun hlt => ?_
        have := plc_lt q x.cps.toList hlt (by rw [toList_len]; omega)
        omega
      have hic : i < c := by
        refine Nat.lt_of_not_le fun hle => ?_
        have := plc_le q x.cps.toList hle
        omega
      exact hn i hai hic hAi

theorem chain_unique (s sub : Str) (hi : Nat) : ∀ (cuts cuts' : List Nat) (a f f' : Nat), ChainG s sub hi a cuts f → ChainG s sub hi a cuts' f' → (∀ k, f ≤ k → ¬ At s sub hi k) → (∀ k, f' ≤ k → ¬ At s sub hi k) → cuts = cuts'
  | [], [], _, _, _, _, _, _, _ => rfl
  | [], c :: r, a, f, f', h, h', hn, _ => by
    have e : f = a := h
    exact absurd h'.2.1 (hn c (by have := h'.1; omega))
  | c :: r, [], a, f, f', h, h', _, hn => by
    have e : f' = a := h'
    exact absurd h.2.1 (hn c (by have := h.1; omega))
  | c :: r, c' :: r', a, f, f', h, h', hn, hn' => by
    have e : c = c' := by
      rcases Nat.lt_trichotomy c c' with hlt | he | hgt
      · exact absurd h.2.1 (h'.2.2.1 c h.1 hlt)
      · exact he
      · exact absurd h'.2.1 (h.2.2.1 c' h'.1 hgt)
    subst e
    rw [chain_unique s sub hi r r' _ f f' h.2.2.2 h'.2.2.2 hn hn']

/-- the places of the written pattern are those of the pattern -/
theorem occ_esc (q : Bool) (x y : Str) (b : Nat) (p : List Nat) (hyb : y.cps.toList = b :: p) (hb : Good b) :
    occurrences (escS q x) (escS q y) 0 (escS q x).length ((escS q x).length + 1) = (occurrences x y 0 x.length (x.length + 1)).map (plc q x.cps.toList) := by
  have hy : 1 ≤ y.length := by rw [← toList_len, hyb]; simp
  have hy' := escS_pos_len q y hy
  obtain ⟨f, hG, hn⟩ := occ_tight x y hy
  obtain ⟨f', hG', hn'⟩ := occ_tight (escS q x) (escS q y) hy'
  obtain ⟨hf, hM⟩ := chain_map q x y b p hyb hb _ 0 f (Nat.zero_le _) hG
  rw [plc_zero] at hM
  refine chain_unique _ _ _ _ _ 0 f' _ hG' hM hn' ?_
  intro k hk hA
  have hk' := (at_iff hy' k).mp hA
  rw [escS_toList, escS_toList, hyb] at hk'
  obtain ⟨i, hi, e, hpi⟩ := esc_at q b p hb _ k hk'
  subst e
  have hAi : At x y x.length i := (at_iff hy i).mpr (by rw [hyb]; exact hpi)
  refine hn i (Nat.le_of_not_lt fun hlt => ?_) hAi
  have := plc_lt q x.cps.toList hlt (by have := hAi.1; rw [toList_len]; omega)
  omega

theorem sub_esc (q : Bool) (x : Str) {a c : Nat} (hac : a ≤ c) (hc : c ≤ x.length) : strSub (escS q x) (plc q x.cps.toList a) (plc q x.cps.toList c) = escS q (strSub x a c) := by
  apply str_eq
  rw [strSub_toList, escS_toList, escS_toList, strSub_toList, escL_drop]
  have hp : (x.cps.toList.drop a).take (c - a) <+: x.cps.toList.drop a := List.take_prefix _ _
  have hl : ((x.cps.toList.drop a).take (c - a)).length = c - a := by rw [List.length_take, List.length_drop, toList_len]; omega
  have h1 := plc_step q x.cps.toList _ a (by rw [toList_len]; omega) hp
  rw [hl, show a + (c - a) = c by omega] at h1
  rw [show plc q x.cps.toList c - plc q x.cps.toList a = (escL q ((x.cps.toList.drop a).take (c - a))).length by omega]
  exact (List.prefix_iff_eq_take.mp (escL_prefix_of q hp)).symm

theorem parts_esc (q : Bool) (x y : Str) : ∀ (cuts : List Nat) (a f : Nat), a ≤ x.length → (∀ c, c ∈ cuts → y.cps.toList <+: x.cps.toList.drop c) → ChainG x y x.length a cuts f →
    partsFrom (escS q x) (escS q y).length (plc q x.cps.toList a) (cuts.map (plc q x.cps.toList)) = (partsFrom x y.length a cuts).map (escS q)
  | [], a, f, ha, _, _ => by
    show [strSub (escS q x) (plc q x.cps.toList a) (escS q x).length] = [escS q (strSub x a x.length)]
    rw [← sub_esc q x ha (Nat.le_refl _), escS_length, ← plc_full, toList_len]
  | c :: r, a, f, ha, hp, h => by
    obtain ⟨hac, hA, hn, hr⟩ := h
    have hc : c + y.length ≤ x.length := hA.1
    have ih := parts_esc q x y r (c + y.length) f hc (fun d hd => hp d (List.mem_cons_of_mem _ hd)) hr
    have hstep : plc q x.cps.toList (c + y.length) = plc q x.cps.toList c + (escS q y).length := by
      rw [escS_length, ← toList_len y]
      exact plc_step q _ _ c (by rw [toList_len]; omega) (hp c (List.mem_cons_self ..))
    rw [hstep] at ih
    show strSub (escS q x) (plc q x.cps.toList a) (plc q x.cps.toList c) :: partsFrom (escS q x) (escS q y).length (plc q x.cps.toList c + (escS q y).length) (r.map (plc q x.cps.toList)) = escS q (strSub x a c) :: (partsFrom x y.length (c + y.length) r).map (escS q)
    rw [ih, sub_esc q x hac (by omega)]

theorem kind_le {x y : Str} {j : Nat} (h : y.cps.toList <+: x.cps.toList.drop j) : Builtin.Str.strKind y ≤ Builtin.Str.strKind x := by
  have hm : ∀ c ∈ y.cps.toList, c ∈ x.cps.toList := fun c hc => List.mem_of_mem_drop (h.subset hc)
  have hall : ∀ B : Nat, x.cps.all (· < B) = true → y.cps.all (· < B) = true := fun B hB => by
    rw [← Array.all_toList] at hB ⊢
    exact List.all_eq_true.mpr fun c hc => List.all_eq_true.mp hB c (hm c hc)
  unfold Builtin.Str.strKind
  by_cases a1 : x.cps.all (· < 256) = true
  · rw [if_pos a1, if_pos (hall _ a1)]; omega
  · rw [if_neg a1]
    by_cases a2 : x.cps.all (· < 65536) = true
    · rw [if_pos a2, if_pos (hall _ a2)]; split <;> omega
    · rw [if_neg a2]; split
      · omega
      · split <;> omega

/-- split is the parts between the greedy cuts -/
theorem split_parts (x y : Str) (hy : 1 ≤ y.length) : Txt.split x y = partsFrom x y.length 0 (occurrences x y 0 x.length (x.length + 1)) := by
  obtain ⟨f, hG, hn⟩ := occ_tight x y hy
  have none : ∀ (l : List Nat), l = [] → [x] = partsFrom x y.length 0 l := fun l e => by
    subst e
    show [x] = [strSub x 0 x.length]
    rw [sub_whole]
  unfold Txt.split
  split
  · rename_i hc
    refine none _ ?_
    cases ho : occurrences x y 0 x.length (x.length + 1) with
    | nil => rfl
    | cons c r =>
      rw [ho] at hG
      exfalso
      have hA := hG.2.1
      rw [Bool.or_eq_true, decide_eq_true_eq, decide_eq_true_eq] at hc
      rcases hc with h | h
      · have := hA.1; omega
      · have := kind_le ((at_iff hy c).mp hA); omega
  · split
    · rename_i he
      exact none _ (List.isEmpty_iff.mp he)
    · rw [partsBetween_eq]

theorem chain_prefix {x y : Str} (hy : 1 ≤ y.length) : ∀ {cuts : List Nat} {a f : Nat}, ChainG x y x.length a cuts f → ∀ c, c ∈ cuts → y.cps.toList <+: x.cps.toList.drop c
  | [], _, _, _, _, hc => nomatch hc
  | d :: r, a, f, h, c, hc => by
    rcases List.mem_cons.mp hc with rfl | hc
    · exact (at_iff hy c).mp h.2.1
    · exact chain_prefix hy h.2.2.2 c hc

/-- THE LAW OF SPLIT -/
theorem split_esc (q : Bool) (x y : Str) (b : Nat) (p : List Nat) (hyb : y.cps.toList = b :: p) (hb : Good b) : Txt.split (escS q x) (escS q y) = (Txt.split x y).map (escS q) := by
  have hy : 1 ≤ y.length := by rw [← toList_len, hyb]; simp
  rw [split_parts _ _ (escS_pos_len q y hy), split_parts x y hy, occ_esc q x y b p hyb hb]
  obtain ⟨f, hG, _⟩ := occ_tight x y hy
  have := parts_esc q x y _ 0 f (Nat.zero_le _) (chain_prefix hy hG) hG
  rw [plc_zero] at this
  exact this

theorem replace_join (x y z : Str) (hy : 1 ≤ y.length) : Txt.replace x y z = Str.join z (Txt.split x y) := by
  rw [split_parts x y hy]
  unfold Txt.replace
  have h0 : (y.length == 0) = false := by simp; omega
  rw [h0, Bool.false_and, Bool.or_false]
  cases he : (occurrences x y 0 x.length (x.length + 1)).isEmpty
  · rw [if_neg Bool.false_ne_true, glued_eq_join, partsBetween_eq]
  · rw [if_pos rfl, List.isEmpty_iff.mp he]
    show x = strSub x 0 x.length
    rw [sub_whole]

theorem escS_append (q : Bool) (a b : Str) : escS q (a ++ b) = escS q a ++ escS q b := by
  apply str_eq
  rw [escS_toList, Str.cps_append, Str.cps_append, Array.toList_append, Array.toList_append, escS_toList, escS_toList, escL_append]

theorem join_esc (q : Bool) (z : Str) : ∀ l : List Str, Str.join (escS q z) (l.map (escS q)) = escS q (Str.join z l)
  | [] => by apply str_eq; rw [escS_toList]; rfl
  | [p] => rfl
  | p :: r :: l => by
    have ih := join_esc q z (r :: l)
    show escS q p ++ escS q z ++ Str.join (escS q z) ((r :: l).map (escS q)) = escS q (p ++ z ++ Str.join z (r :: l))
    rw [ih, escS_append, escS_append]

/-- THE LAW OF REPLACE -/
theorem replace_esc (q : Bool) (x y z : Str) (b : Nat) (p : List Nat) (hyb : y.cps.toList = b :: p) (hb : Good b) : Txt.replace (escS q x) (escS q y) (escS q z) = escS q (Txt.replace x y z) := by
  have hy : 1 ≤ y.length := by rw [← toList_len, hyb]; simp
  rw [replace_join _ _ _ (escS_pos_len q y hy), replace_join x y z hy, split_esc q x y b p hyb hb, join_esc]
end Mine
end

section
open PySem PySem.W PyProof.Rows PySem.Calls PySem.Spec
namespace Mine
open LCg

section
variable {prog : Program} {w : World} {A : Around} {E : Value → Shared → Prop} {s : Shared} {h₀ : Heap} {L : Addr} {m : Str → Option Value} {env : Env}

theorem comp_texts {α : Type} {elt : Expr} {x : Str} {scope : Scope} {cl : List (Str × Addr)} {S : List (Addr × Obj) → Prop} {P : Nat → Value → Prop} {Fin : List Value → List (Addr × Obj) → Prop} {news : List (Addr × Obj)}
    {n : Nat} {ks : List α} (V : α → Tok → Value) (g : α → Str) (hks : ks.length = n) (hP : ∀ i v, i < n → P i v → ∃ k t, ks[i]? = some k ∧ v = V k t)
    (turn : ∀ (k : α) (t : Tok) I oI C oC D m₂ ys h tk (E' : Value → Shared → Prop), k ∈ ks → NsObj oC m₂ → m₂ x = some (V k t) → Fr h₀ L h m → News h₀ L h ((I, oI) :: (C, oC) :: (D, lst ys) :: news) → Off3 I C D news → ((@Ne Nat I C) ∧ (@Ne Nat I D) ∧ (@Ne Nat C D)) →
      wpAny (model prog w) A (eval elt (compEnvC scope cl C env)) (CompEnd h₀ L m { s with heap := h, toks := tk } I oI C oC D (lst ys) S (fun y news' => KCtEl news (g k) y news')) E' { s with heap := h, toks := tk })
    (fin : ∀ ys, StrsAre ys (ks.map g) → Fin ys news) : CompRest prog w A h₀ L m env elt x scope cl s S P Fin n 0 [] news := by
  have key : ∀ (j i : Nat) (ys : List Value), i + j = n → StrsAre ys ((ks.take i).map g) → CompRest prog w A h₀ L m env elt x scope cl s S P Fin j i ys news := by
    intro j
    induction j with
    | zero =>
      intro i ys hi hy
      have e : i = ks.length := by omega
      subst e
      rw [List.take_length] at hy
      exact CompRest.zero (fin ys hy)
    | succ j ih =>
      intro i ys hi hy
      refine CompRest.succ ?_
      intro v I oI C oC D m₂ h tk E' hv hC hx F N off ne
      obtain ⟨k, t, hk, hv'⟩ := hP i v (by omega) hv
      rw [hv'] at hx
      refine wpAny_mono (turn k t I oI C oC D m₂ ys h tk E' (List.mem_of_getElem? hk) hC hx F N off ne) (fun y s₂ hq => ?_) fun _ _ e => e
      obtain ⟨h', tk', nw, e, F', N', off', hS, hn, t', hy'⟩ := hq
      rw [hn] at N' off' hS
      refine ⟨h', tk', news, e, F', N', off', hS, ?_⟩
      rw [hy']
      refine ih (i + 1) _ (by omega) ?_
      rw [List.take_add_one, hk]
      simpa using kct_snoc hy
  exact key n 0 [] (by omega) (by simp only [List.take_zero, List.map_nil]; exact .nil)

/-- the source of a list comprehension is a text -/
def SrcStr (prog : Program) (w : World) (A : Around) (h₀ : Heap) (L : Addr) (m : Str → Option Value) (env : Env) (elt : Expr) (x : Str) (scope : Scope) (cl : List (Str × Addr)) (Q : Value → Shared → Prop) (xv : Value) (s₁ : Shared) : Prop :=
  ∃ (y : Str) (t : Tok) (news : List (Addr × Obj)), xv = .str y t ∧ A.handled = none ∧ Fr h₀ L s₁.heap m ∧ News h₀ L s₁.heap news ∧ y.length ≤ sizeLine ∧
      ∀ g, CompRest prog w A h₀ L m env elt x scope cl { s₁ with heap := g } (fun _ => True) (SignAt y) (FinE h₀ L m { s₁ with heap := g } Q) y.length 0 [] news
theorem SrcStr.intro {elt : Expr} {x : Str} {scope : Scope} {cl : List (Str × Addr)} {Q : Value → Shared → Prop} {s₁ : Shared} {y : Str} {t : Tok} {news : List (Addr × Obj)}
    (hh : A.handled = none) (F : Fr h₀ L s₁.heap m) (N : News h₀ L s₁.heap news) (hsz : y.length ≤ sizeLine)
    (h : ∀ g, CompRest prog w A h₀ L m env elt x scope cl { s₁ with heap := g } (fun _ => True) (SignAt y) (FinE h₀ L m { s₁ with heap := g } Q) y.length 0 [] news) :
    SrcStr prog w A h₀ L m env elt x scope cl Q (.str y t) s₁ := ⟨y, t, news, rfl, hh, F, N, hsz, h⟩

/-- a list comprehension over a text -/
theorem ListComp_str {elt iter : Expr} {x : Str} {px : Pos} {scope : Scope} {cl : List (Str × Addr)} {pos : Pos} {Q : Value → Shared → Prop} (F₀ : Fr h₀ L s.heap m)
    (hclos : closureFor scope env = pure cl) (hcell : ∀ y ∈ scope.names, y.2 ≠ .cell) (hkind : scope.kind = .function)
    (hnames : ∀ y ∈ scope.names, y.2 = .local → scope.names.lookup y.1 = some .local) (hx : scope.names.lookup x = some .local)
    (h : wpAny (model prog w) A (eval iter env) (SrcStr prog w A h₀ L m env elt x scope cl Q) E s)
    (hs : ∀ x, foldedSetIterable iter env x = pure x := by intro _; rfl) :
    wpAny (model prog w) A (eval (.ListComp elt [⟨.Name x px, iter, [], 0⟩] scope pos) env) Q E s := by
  rw [eval_ListComp]
  refine wpAny_comprehension_free (use := none) rfl hs hclos hkind hnames (wpAny_mono h (fun xv s₁ h₁ => ?_) fun _ _ e => e)
  obtain ⟨y, t, news, rfl, hh, F, N, hsz, R⟩ := h₁
  have main : ∀ (cn : String), Walks prog w A s₁.heap.objs.size [s₁.heap.objs.size] [s₁.heap.objs.size] y.cps.size (SignAt y) (fun i h => h.IsStrIter s₁.heap.objs.size cn y t i) →
      wpAny (model prog w) A (newList []) (fun acc s₃ => wpAny (model prog w) A (newFunctionEnv scope env.globals cl [] env.qual none .none (some env)) (fun cenv s₄ =>
      codeAny (model prog w) A (.compStart (.ListComp elt [⟨.Name x px, iter, [], 0⟩] scope pos) 0 (.ref s₁.heap.objs.size) acc { cenv with scope := relabel scope env }) (compPost (model prog w) A E none Q acc cenv.locals) s₄) E s₃) E { s₁ with heap := s₁.heap.push { cls := .type cn, data := .fields #[.str y t, .int 0 0] } } := by
    intro cn W
    refine block_U (RR := fun acc C => compPost (model prog w) A E none Q acc C) W hsz (fun i h st => by obtain ⟨o, e, _⟩ := st; exact ⟨o, e⟩) (S := fun _ => True)
      (fun i h h' o nw st e e' _ _ _ => by obtain ⟨o', q, r⟩ := st; rw [e] at q; cases q; exact ⟨o, e', r⟩) hcell hkind hx ⟨_, Heap.get?_push_size _ rfl, rfl, rfl⟩ (fun b hb => ?_)
      (F.keeps fun _ _ e => Heap.get?_push_of_some _ e) (N.grown fun _ _ e => Heap.get?_push_of_some _ e) (Nat.ne_of_lt F.ns.lt) (next_is_new F) (fun p hp => Nat.ne_of_lt (Heap.lt_size (N p hp).1)) trivial (R _) ?_
    · rw [List.mem_singleton.mp hb]
      show s₁.heap.objs.size < (s₁.heap.push _).objs.size
      rw [Heap.size_push]; exact Nat.lt_succ_self _
    · intro D C h tk m' ys news' F' N' o1 hn hC₀ hD₀ hCL hDL hCD offC fin
      refine ⟨m', hn, fun h'' hs'' => fin D h'' tk (F'.change hs'' hCL hC₀) (fun p hp => ?_) o1⟩
      refine ⟨hs''.extBut _ _ ?_ (N' p hp).1, (N' p hp).2⟩
      rcases List.mem_cons.mp hp with rfl | hp
      · exact Ne.symm hCD
      · exact offC p hp
  cases ha : y.cps.all (· < 128)
  · refine wpAny_pyIter_wide ha ?_
    exact main "str_iterator" (Walks.strWide hh _ y t)
  · refine wpAny_pyIter_ascii ha ?_
    exact main "str_ascii_iterator" (Walks.strAscii hh _ y t)
end
end Mine
end

section
open PySem PySem.W PyProof.Rows
set_option maxRecDepth 100000
set_option maxHeartbeats 8000000
namespace Mine
open_top hd for PySem.Challenge.rw_dm0140_01
end Mine
end

section
open PySem PySem.W PyProof.Rows PySem.Calls PySem.Spec
namespace Mine
open Builtin Builtin.Str in
theorem replaceT {prog : Program} {w : World} {A : Around} {E : Value → Shared → Prop} {s : Shared} {x y z : Str} {t u v : Tok} {Q : Value → Shared → Prop}
    (hu : u ≠ 0) (hv : v ≠ 0) (huv : u ≠ v) (hyz : (y == z) = false) (hb : x.length + (x.length + 1) * z.length ≤ 16777216)
    (hq : ∀ (t' k : Nat), ((@Eq Nat t' t ∧ k = s.toks) ∨ (@Eq Nat t' s.toks ∧ k = s.toks + 1)) → Q (.str (Txt.replace x y z) t') { s with toks := k }) :
    wpAny (model prog w) A (call (.builtin "str.replace") [.str x t, .str y u, .str z v]) Q E s := by
  have hl : tooLong (x.length + (occurrences x y 0 x.length (x.length + 1)).length * z.length) = false := by
    have h1 := StrLaws.occ_length_le x y 0 x.length (x.length + 1)
    have h2 : (occurrences x y 0 x.length (x.length + 1)).length * z.length ≤ (x.length + 1) * z.length := Nat.mul_le_mul_right _ h1
    unfold tooLong sizeLine
    exact decide_eq_false (by omega)
  refine call_gives F.slot_str_replace (typeIs_str _ _ _) F.entry_str_replace (F.args_str_replace_3 _ _ _)
    (gives_str_replace x y z t u v fun _ => ⟨by simp [hu, hv], by simp [huv], hyz, hl⟩) ?_
  have hq' := hq
  unfold Txt.replace at hq'
  cases hc : ((occurrences x y 0 x.length (x.length + 1)).isEmpty || (y.length == 0 && z.length == 0))
  · rw [hc] at hq'
    simp only [Bool.false_eq_true, if_false] at hq' ⊢
    exact ⟨fits_replaced y hb, hq' _ _ (.inr ⟨rfl, rfl⟩)⟩
  · rw [hc] at hq'
    simp only [if_true] at hq' ⊢
    exact hq' t s.toks (.inl ⟨rfl, rfl⟩)

local macro_rules | `(tactic| walk_at "execs cons") => `(tactic| (k_here; (with_reducible refine wpAny_execs_cons ?_); try dsimp only))
local macro_rules | `(tactic| walk_at "execs nil") => `(tactic| (k_here; (with_reducible refine wpAny_execs_nil ?_); try dsimp only))
local macro_rules | `(tactic| walk_at "call builtin:str.replace") => `(tactic| (k_here; (show wpAny _ _ (call (Value.builtin "str.replace") [Value.str _ _, Value.str _ _, Value.str _ _]) _ _ _); refine replaceT ?hu ?hv ?huv ?hyz ?hb ?_; (case hu => (show @Ne Nat _ _); (try dsimp only); omega); (case hv => (show @Ne Nat _ _); (try dsimp only); omega); (case huv => (show @Ne Nat _ _); (try dsimp only); omega); (case hyz => decide); (case hb => exact rep_fits (n := 2352000) (k := 6) (by omega) (by decide +kernel) (by decide)); intro t' k' ht'; (try dsimp only at ht'); (try dsimp only)))
set_option maxRecDepth 100000 in
set_option maxHeartbeats 8000000 in
theorem esc_call (w : World) (mean : ExcName → Option Value) (mg mb : Str → Option Value) (x : Str) (t : Tok) (q : Bool) (news : List (Addr × Obj)) :
  ∀ (dp un : Nat) (gd : Option (List Code)) (cn : Str) (cs : Scope) (a : Addr) (ccd : Value) (cl : List (Str × Addr)) (outer : List Env) (A₀ : Around) (base h₀ : Heap) (L : Addr) (m : Str → Option Value) (s : Shared) (Q E : Value → Shared → Prop),
    Below A₀ base outer h₀ → Fr h₀ L s.heap m → (hd.heap_39 w.params).In h₀ → News h₀ L s.heap news → Top hd.view_39 (looseW hd.view_39 [Str.ofString "escape"]) mean mg mb h₀ → cs.kind = .function →
    x.length ≤ 4900 → dp + 1 < recursionLimit → un + 8 < cLine →
    (∀ (t' : Tok) (h' : Heap) (tk' : Nat), Fr h₀ L h' m → News h₀ L h' news → (@Eq Nat t' t ∨ @LE.le Nat _ s.toks t') → (@LT.lt Nat _ t s.toks → @LT.lt Nat _ t' tk') → s.toks ≤ tk' → Q (.str (escS q x) t') { s with heap := h', toks := tk' }) →
      wpAny (model Challenge.rw_dm0140_01.row.prog w) (ktrTop dp un gd cn cs L a ccd cl outer) (call (.ref 22) [.str x t, .bool q]) Q E s := by
  k_fill
  intro dp un gd cn cs a ccd cl outer A₀ base h₀ L m s Q E B F X N T hk hlen hdp hun hret
  have e1 := rep_le 5 hlen lit_amp (z := Str.ofString "&amp;") (by decide +kernel) (by decide)
  have e2 := rep_le 4 e1 lit_lt (z := Str.ofString "&lt;") (by decide +kernel) (by decide)
  have e3 := rep_le 4 e2 lit_gt (z := Str.ofString "&gt;") (by decide +kernel) (by decide)
  have e4 := rep_le 6 e3 lit_quot (z := Str.ofString "&quot;") (by decide +kernel) (by decide)
  w_on
  cases q
  all_goals refine wpAny_call ?_
  all_goals k_dflt (refine' code_def ?k1 ?k2 ?k3 ?k4 ?k5 ?kA ?kF ?kK ?k6 ?k7 ?k8 ?k9 ?kB ?_ ?c2 ?c3 ?c4 ?c5; (case kA => exact rfl); (case kF => exact rfl); (case kK => assumption); (case k1 => k_asm); (case k2 => k_asm); (case k3 => k_asm); (case k4 => k_asm); (case k5 => k_asm); (case k6 => k_is); (case k7 => k_is); (case k8 => ktr_room); (case k9 => exact binds_K (by k_in) rfl (by k_is) rfl rfl rfl); (case c5 => decide); (case kB => exact locs rfl); (case c2 => exact rfl); (case c3 => exact rfl); (case c4 => exact rfl); k_whole; intro g' L' h' FG' F' N' B' X' T'; (try dsimp only); (try k_lift B'); (try k_fold))
  all_goals with_unfolding_all change wpAny _ _ _ _ _ (Shared.mk _ _ _ (s.toks + 2) _)
  all_goals k_steps
  · rw [esc_false]
    exact hret _ _ _ (by k_asm) (by k_asm) (by omega) (by omega) (by omega)
  · rw [esc_true]
    exact hret _ _ _ (by k_asm) (by k_asm) (by omega) (by omega) (by omega)
set_option maxRecDepth 100000 in
set_option maxHeartbeats 8000000 in
theorem esc_call1 (w : World) (mean : ExcName → Option Value) (mg mb : Str → Option Value) (x : Str) (t : Tok) (news : List (Addr × Obj)) :
  ∀ (dp un : Nat) (gd : Option (List Code)) (cn : Str) (cs : Scope) (a : Addr) (ccd : Value) (cl : List (Str × Addr)) (outer : List Env) (A₀ : Around) (base h₀ : Heap) (L : Addr) (m : Str → Option Value) (s : Shared) (Q E : Value → Shared → Prop),
    Below A₀ base outer h₀ → Fr h₀ L s.heap m → (hd.heap_39 w.params).In h₀ → News h₀ L s.heap news → Top hd.view_39 (looseW hd.view_39 [Str.ofString "escape"]) mean mg mb h₀ → cs.kind = .function →
    x.length ≤ 4900 → dp + 1 < recursionLimit → un + 8 < cLine →
    (∀ (t' : Tok) (h' : Heap) (tk' : Nat), Fr h₀ L h' m → News h₀ L h' news → (@Eq Nat t' t ∨ @LE.le Nat _ s.toks t') → (@LT.lt Nat _ t s.toks → @LT.lt Nat _ t' tk') → s.toks ≤ tk' → Q (.str (escS true x) t') { s with heap := h', toks := tk' }) →
      wpAny (model Challenge.rw_dm0140_01.row.prog w) (ktrTop dp un gd cn cs L a ccd cl outer) (call (.ref 22) [.str x t]) Q E s := by
  k_fill
  intro dp un gd cn cs a ccd cl outer A₀ base h₀ L m s Q E B F X N T hk hlen hdp hun hret
  have e1 := rep_le 5 hlen lit_amp (z := Str.ofString "&amp;") (by decide +kernel) (by decide)
  have e2 := rep_le 4 e1 lit_lt (z := Str.ofString "&lt;") (by decide +kernel) (by decide)
  have e3 := rep_le 4 e2 lit_gt (z := Str.ofString "&gt;") (by decide +kernel) (by decide)
  have e4 := rep_le 6 e3 lit_quot (z := Str.ofString "&quot;") (by decide +kernel) (by decide)
  w_on
  refine wpAny_call ?_
  k_dflt (refine' code_def ?k1 ?k2 ?k3 ?k4 ?k5 ?kA ?kF ?kK ?k6 ?k7 ?k8 ?k9 ?kB ?_ ?c2 ?c3 ?c4 ?c5; (case kA => exact rfl); (case kF => exact rfl); (case kK => assumption); (case k1 => k_asm); (case k2 => k_asm); (case k3 => k_asm); (case k4 => k_asm); (case k5 => k_asm); (case k6 => k_is); (case k7 => k_is); (case k8 => ktr_room); (case k9 => exact binds_K (by k_in) rfl (by k_is) rfl rfl rfl); (case c5 => decide); (case kB => exact locs rfl); (case c2 => exact rfl); (case c3 => exact rfl); (case c4 => exact rfl); k_whole; intro g' L' h' FG' F' N' B' X' T'; (try dsimp only); (try k_lift B'); (try k_fold))
  with_unfolding_all change wpAny _ _ _ _ _ (Shared.mk _ _ _ (s.toks + 2) _)
  k_steps
  · rw [esc_true]
    exact hret _ _ _ (by k_asm) (by k_asm) (by omega) (by omega) (by omega)
end Mine
end

section
open PySem PySem.W PyProof.Rows PySem.Calls PySem.Spec
namespace Mine
theorem all_ne {news : List (Addr × Obj)} {b d : Nat} (h : ∀ p : Addr × Obj, p ∈ news → p.1 < b) (hd : b ≤ d) : ∀ p : Addr × Obj, p ∈ news → p.1 ≠ d :=
  fun p hp e => by
    have h1 : @LT.lt Nat _ p.1 b := h p hp
    have h2 : @Eq Nat p.1 d := e
    omega
theorem flat3 {v : Value} {c : Nat} (h : PyProof.V.Flat v ((Spec.lookup (.str ⟨#[c]⟩) dat3).getD (.str ⟨#[c]⟩))) : ∃ t, v = .str (escOne false c) t := by
  rw [look3] at h
  exact h.str_inv
theorem flat5 {v : Value} {c : Nat} (h : PyProof.V.Flat v ((Spec.lookup (.str ⟨#[c]⟩) dat5).getD (.str ⟨#[c]⟩))) : ∃ t, v = .str (escOne true c) t := by
  rw [look5] at h
  exact h.str_inv
local macro_rules | `(tactic| walk_at "eval ListComp") => `(tactic| (k_here; k_dflt (refine ListComp_str (F₀ := by k_asm) (by with_unfolding_all rfl) (by decide) (by rfl) (by decide) (by rfl) ?_)))
local macro_rules | `(tactic| k_all) => `(tactic| exact all_ne (by assumption) (by omega))
set_option maxRecDepth 100000 in
set_option maxHeartbeats 8000000 in
theorem wr_call (w : World) (mean : ExcName → Option Value) (mg mb : Str → Option Value) (x : Str) (t : Tok) (q : Bool) (news : List (Addr × Obj)) :
  ∀ (dp un : Nat) (gd : Option (List Code)) (cn : Str) (cs : Scope) (a : Addr) (ccd : Value) (cl : List (Str × Addr)) (outer : List Env) (A₀ : Around) (base h₀ : Heap) (L : Addr) (m : Str → Option Value) (s : Shared) (Q E : Value → Shared → Prop),
    Below A₀ base outer h₀ → Fr h₀ L s.heap m → (hd.heap_39 w.params).In h₀ → News h₀ L s.heap news → Top hd.view_39 (looseW hd.view_39 [Str.ofString "escape"]) mean mg mb h₀ → cs.kind = .function →
    x.length ≤ 2000000 → dp + 1 < recursionLimit → un + 8 < cLine →
    (∀ (t' : Tok) (h' : Heap) (tk' : Nat), Fr h₀ L h' m → News h₀ L h' news → Q (.str (escS q x) t') { s with heap := h', toks := tk' }) →
      wpAny (model Challenge.rw_dm0140_01.row.prog w) (ktrTop dp un gd cn cs L a ccd cl outer) (call (.ref 27) [.str x t, .bool q]) Q E s := by
  k_fill
  intro dp un gd cn cs a ccd cl outer A₀ base h₀ L m s Q E B F X N T hk hlen hdp hun hret
  w_on
  cases q
  all_goals refine wpAny_call ?_
  all_goals k_dflt (refine' code_defC ?k1 ?k2 ?k3 ?k4 ?k5 ?kA ?kF ?kK ?k6 ?k7 ?k8 ?k9 ?kB ?kD ?_ ?c2 ?c3 ?c4; (case kA => exact rfl); (case kF => exact rfl); (case kK => assumption); (case k1 => k_asm); (case k2 => k_asm); (case k3 => k_asm); (case k4 => k_asm); (case k5 => k_asm); (case k6 => k_is); (case k7 => k_is); (case k8 => ktr_room); (case k9 => exact BindsTo.of_eq rfl); (case kB => exact rfl); (case kD => decide +kernel); (case c2 => exact rfl); (case c3 => exact rfl); (case c4 => exact rfl); k_whole; intro g' L' h' tk' cells' FG' F' N' Y' B' X' T' l1; (try k_lt l1); k_cells Y'; (try simp only [List.cons_append, List.nil_append] at N'); (try dsimp only); (try k_lift B'); (try k_fold))
  · k_steps
    refine SrcStr.intro rfl (by k_asm) (by k_asm) ?sz ?_
    case sz => rw [sizeLine_eq]; omega
    intro g2
    refine comp_texts (ks := x.cps.toList) (fun c t => .str ⟨#[c]⟩ t) (escOne false) (by simp [Str.length]) (fun i v _ hv => by obtain ⟨c, u, hc, e⟩ := hv; exact ⟨c, u, by simpa using hc, e⟩) ?turn ?fin
    case turn =>
      intro c tc I' oI' C' oC' D' m' ys' h' tk' E' hc' hC' hx' F' N' off' ne'
      k_steps
      rename PyProof.V.Flat _ _ => hv9
      obtain ⟨t9, e9⟩ := flat3 hv9
      exact LCg.CompEnd.intro (by k_asm) (by k_asm) _ (fun p hp => hp) off' trivial ⟨rfl, t9, e9⟩
    case fin =>
      intro ys hys
      k_steps
      refine join_list (ys := x.cps.toList.map (escOne false)) (News.isList (by k_asm) (by k_mem)) hys (join_ok _ _ hlen) ?_
      intro t9 k9
      rw [join_escOne]
      k_steps
      exact hret _ _ _ (by k_asm) (by first | k_asm | exact cb_drop (by assumption) (by intro p hp; exact List.mem_cons_of_mem _ (List.mem_cons_of_mem _ (List.mem_cons_of_mem _ hp))))
  · k_steps
    refine SrcStr.intro rfl (by k_asm) (by k_asm) ?sz ?_
    case sz => rw [sizeLine_eq]; omega
    intro g2
    refine comp_texts (ks := x.cps.toList) (fun c t => .str ⟨#[c]⟩ t) (escOne true) (by simp [Str.length]) (fun i v _ hv => by obtain ⟨c, u, hc, e⟩ := hv; exact ⟨c, u, by simpa using hc, e⟩) ?turn ?fin
    case turn =>
      intro c tc I' oI' C' oC' D' m' ys' h' tk' E' hc' hC' hx' F' N' off' ne'
      k_steps
      rename PyProof.V.Flat _ _ => hv9
      obtain ⟨t9, e9⟩ := flat5 hv9
      exact LCg.CompEnd.intro (by k_asm) (by k_asm) _ (fun p hp => hp) off' trivial ⟨rfl, t9, e9⟩
    case fin =>
      intro ys hys
      k_steps
      refine join_list (ys := x.cps.toList.map (escOne true)) (News.isList (by k_asm) (by k_mem)) hys (join_ok _ _ hlen) ?_
      intro t9 k9
      rw [join_escOne]
      k_steps
      exact hret _ _ _ (by k_asm) (by first | k_asm | exact cb_drop (by assumption) (by intro p hp; exact List.mem_cons_of_mem _ (List.mem_cons_of_mem _ (List.mem_cons_of_mem _ hp))))
end Mine
end

section
open PySem PySem.W PyProof.Rows PySem.Calls PySem.Spec
namespace Mine

/-- the end of a turn: what the names hold is told by a letter c, and of the letter and the tokens' count J holds -/
def TokEnd {σ : Type} (h₀ : Heap) (L : Addr) (x : Str) (m₀ : Str → Option Value) (stored : List Str) (ps : σ → List (Str × Value)) (Jn : σ → Nat → Prop) (need : List (Addr × Obj)) (s₁ : Shared) (f : Flow) (s₂ : Shared) : Prop :=
  f = .next ∧ ∃ h' tk m' c, s₂ = { s₁ with heap := h', toks := tk } ∧ Fr h₀ L h' m' ∧ News h₀ L h' need ∧ (∀ p ∈ ps c, m' p.1 = some p.2) ∧
    (∀ z, z ≠ x → (∀ p ∈ ps c, z ≠ p.1) → stored.contains z = false → m' z = m₀ z) ∧ Jn c tk

theorem TokEnd.intro {σ : Type} {h₀ : Heap} {L : Addr} {x : Str} {m₀ : Str → Option Value} {stored : List Str} {ps : σ → List (Str × Value)} {Jn : σ → Nat → Prop} {need : List (Addr × Obj)} {s₁ : Shared} {h' : Heap} {tk : Nat} {m' : Str → Option Value} (c : σ)
    (F : Fr h₀ L h' m') (N : News h₀ L h' need) (hk : ∀ p ∈ ps c, m' p.1 = some p.2) (hr : ∀ z, z ≠ x → (∀ p ∈ ps c, z ≠ p.1) → stored.contains z = false → m' z = m₀ z) (hj : Jn c tk) :
    TokEnd h₀ L x m₀ stored ps Jn need s₁ .next { s₁ with heap := h', toks := tk } := ⟨rfl, h', tk, m', c, rfl, F, N, hk, hr, hj⟩

section
variable {prog : Program} {w : World} {A : Around} {E : Value → Shared → Prop} {s : Shared} {env : Env} {h₀ : Heap} {Q : Flow → Shared → Prop}

theorem For_tok {σ : Type} {x : Str} {px pos : Pos} {iter : Expr} {body : List Stmt} {l : Addr} {vs : List Value} {ns : List Int} {m₀ : Str → Option Value} {news : List (Addr × Obj)}
    (ps : σ → List (Str × Value)) (stored : List Str) (J : Nat → σ → Nat → Prop) (c₀ : σ)
    (hh : A.handled = none) (hx : env.kindOf x = some .local) (hp : (env.scope.kind == .class || (env.scope.kind == .module && env.locals != env.globals)) = false)
    (F : Fr h₀ env.locals s.heap m₀) (N : News h₀ env.locals s.heap news) (hl : s.heap.IsList l vs.toArray) (hi : IntsAre vs ns)
    (he : ∀ Q' : Value → Shared → Prop, Q' (.ref l) s → wpAny (model prog w) A (eval iter env) Q' E s)
    (hJm : ∀ i c t t', t ≤ t' → J i c t → J i c t') (hj : J 0 c₀ s.toks) (hk₀ : ∀ p ∈ ps c₀, m₀ p.1 = some p.2)
    (turn : ∀ (i : Nat) (n : Int) (t : Tok) (c : σ) (u : Str → Option Value) (h : Heap) (tk : Nat) (own : List (Addr × Obj)), ns[i]? = some n → i < ns.length → J i c tk →
      Fr h₀ env.locals h (fun z => if z = x then some (.int n t) else kstB (fun z => if stored.contains z then u z else m₀ z) (ps c) z) → News h₀ env.locals h (own ++ news) →
      wpAny (model prog w) A (execs body env) (TokEnd h₀ env.locals x m₀ stored ps (J (i + 1)) (own ++ news) { s with heap := h, toks := tk }) E { s with heap := h, toks := tk })
    (done : ∀ (c : σ) (u : Str → Option Value) (h : Heap) (tk : Nat), J ns.length c tk → Fr h₀ env.locals h (fun z => if z = x then u z else kstB (fun z => if stored.contains z then u z else m₀ z) (ps c) z) → News h₀ env.locals h news →
      Q .next { s with heap := h, toks := tk })
    (hs : ∀ x, foldedSetIterable iter env x = pure x := by intro _; rfl)
    (hE : PassesOwn (model prog w) A env E := by passes_own) :
    wpAny (model prog w) A (exec (.For (.Name x px) iter body [] pos) env) Q E s := by
  refine wpAny_For (he _ ?_) hs
  refine wpAny_pyIter_list hl ?_
  obtain ⟨ol, hol, _⟩ := id hl
  have hlt : l < s.heap.objs.size := Heap.lt_size hol
  have W := Walks.list (prog := prog) (w := w) hh s.heap.objs.size l (Nat.ne_of_lt hlt) vs.toArray
  have hlen : vs.toArray.size = ns.length := by simp [hi.length]
  rw [hlen] at W
  have hLlt : env.locals < s.heap.objs.size := F.ns.lt
  have hLI : env.locals ≠ s.heap.objs.size := Nat.ne_of_lt hLlt
  have hI₀ : h₀.get? s.heap.objs.size = none := next_is_new F
  refine codeAny_forLoop
    (fun k s' => ∃ h' tk m' i c, s' = { s with heap := h', toks := tk } ∧ (h'.IsListIter s.heap.objs.size l i ∧ h'.IsList l vs.toArray) ∧ Fr h₀ env.locals h' m' ∧ News h₀ env.locals h' news ∧
      ((∀ p ∈ ps c, m' p.1 = some p.2) ∧ (∀ z, z ≠ x → (∀ p ∈ ps c, z ≠ p.1) → stored.contains z = false → m' z = m₀ z)) ∧ J i c tk ∧ i ≤ ns.length ∧ k = ns.length + 1 - i) ?_ (ns.length + 1)
    ⟨_, s.toks, m₀, 0, c₀, rfl, ⟨⟨_, Heap.get?_push_size _ rfl, rfl, rfl⟩, hl.push _⟩, F.push _, N.grown fun _ _ e => Heap.get?_push_of_some _ e, ⟨hk₀, fun _ _ _ _ => rfl⟩, hj, Nat.zero_le _, rfl⟩
  rintro k s' ⟨h', tk, m', i, c, rfl, hst', F', N', ⟨hk1, hk2⟩, hJ, hile, rfl⟩
  have hnew : ∀ p ∈ news, p.1 ≠ s.heap.objs.size := fun p hp => Nat.ne_of_lt (Heap.lt_size (N p hp).1)
  have next : ∀ h₁ : Heap, (∀ b o, b ∉ [s.heap.objs.size] → h'.get? b = some o → h₁.get? b = some o) → Fr h₀ env.locals h₁ m' ∧ News h₀ env.locals h₁ news := fun h₁ hk₁ =>
    ⟨LCg.fr_but F' hk₁ hLI hI₀, LCg.news_but N' hk₁ hnew⟩
  by_cases hin : i < ns.length
  · refine keep_toks' tk (Nat.le_refl _) (W.item i _ _ _ hin hst' fun v h₁ tk₁ hP hst₁ hk₁ htk => ?_)
    obtain ⟨F₁, N₁⟩ := next h₁ hk₁
    obtain ⟨t, hxv⟩ := hi.get i ns[i] (by simp [hin])
    have hv : v = .int ns[i] t := by
      have hP' : vs[i]? = some v := by simpa using hP
      rw [hxv] at hP'; exact (Option.some.inj hP').symm
    subst hv
    refine wpAny_assign_Name (wpAny_storeName_local hx F₁.ns (fun h₂ hn₂ hs₂ => ?_) hp)
    have F₂ := F₁.set hn₂ hs₂
    have hLf : env.locals ∉ [s.heap.objs.size, l] := by
      intro hm
      rcases List.mem_cons.mp hm with e | hm
      · exact hLI e
      · have e := List.mem_singleton.mp hm
        obtain ⟨_, en, _⟩ := id hst₁.2
        obtain ⟨o₁, es, ep, e1, e2, _⟩ := F₁.ns
        rw [e] at e1
        obtain ⟨o₃, e3, _, n3, e4⟩ := hst₁.2
        rw [e1] at e3
        cases e3
        rw [e2] at e4
        cases e4
    have hmain := turn i ns[i] t c m' h₂ (tk₁ + 1) (ownOf h₀ [s.heap.objs.size, l] h₂) (by simp [hin]) hin (hJm i c tk (tk₁ + 1) (Nat.le_succ_of_le htk) hJ) (kst_fr hk1 hk2 F₂) ((news_ownOf hLf).append (N₁.set hs₂))
    refine wpAny_passesOwn hE (wpAny_mono hmain (fun f s₃ h₃ => ?_) fun _ _ e => e)
    obtain ⟨rfl, h₃', tk₃, m₂, c', rfl, F₃, N₃, hk1', hk2', hJ₃⟩ := h₃
    refine ⟨ns.length + 1 - (i + 1), by omega, h₃', tk₃, m₂, i + 1, c', rfl, ?_, F₃, N₃.right, ⟨hk1', hk2'⟩, hJ₃, hin, rfl⟩
    refine W.frame _ _ _ hst₁ fun b hb o e => ?_
    have e₂ : h₂.get? b = some o := (hs₂.2 b fun q => hLf (q ▸ hb)).trans e
    cases hn : h₀.get? b with
    | some o₀ =>
      have : o₀ = o := by have := F₂.keep b o₀ hn; rw [e₂] at this; exact (Option.some.inj this).symm
      exact this ▸ F₃.keep b o₀ hn
    | none => exact (N₃ _ (List.mem_append_left _ (mem_ownOf hb hn e₂))).1
  · have hie : i = ns.length := by omega
    subst hie
    refine keep_toks' tk (Nat.le_refl _) (W.done _ _ _ hst' fun h₁ tk₁ hk₁ htk => wpAny_execs_nil ?_)
    obtain ⟨F₁, N₁⟩ := next h₁ hk₁
    exact done c m' h₁ tk₁ (hJm _ _ _ _ htk hJ) (kst_frOut hk1 hk2 F₁) N₁
end
end Mine
end

section
open PySem PySem.W PyProof.Rows PySem.Calls PySem.Spec
namespace Mine
section
variable {prog : Program} {w : World} {A : Around} {E : Value → Shared → Prop} {s : Shared} {x y z : Str} {t u v : Tok} {Q : Value → Shared → Prop}

/-- what a gluing hands back: one of its two texts, or a new one -/
def GlueTok (t u tk t' k : Nat) : Prop := ((t' = t ∨ t' = u) ∧ k = tk) ∨ (t' = tk ∧ k = tk + 1)

theorem glue_post (hsz : x.length + y.length ≤ sizeLine)
    (h : ∀ (t' k : Nat), GlueTok t u s.toks t' k → (x ++ y).length = x.length + y.length → Q (.str (x ++ y) t') { s with toks := k }) :
    (if x.length == 0 then Made.val (.str y u) else if y.length == 0 then Made.val (.str x t) else Made.str (x ++ y)).post Q s := by
  have hl : (x ++ y).length = x.length + y.length := Str.length_append x y
  by_cases h1 : x.length = 0
  · have e : x ++ y = y := by
      apply str_eq
      rw [Str.cps_append, Array.toList_append]
      have : x.cps.toList = [] := List.length_eq_zero_iff.mp (by rw [toList_len]; exact h1)
      rw [this, List.nil_append]
    have hh := h u s.toks (.inl ⟨.inr rfl, rfl⟩) hl
    rw [e] at hh
    simp only [h1, beq_self_eq_true, if_true]
    exact hh
  · by_cases h2 : y.length = 0
    · have e : x ++ y = x := by
        apply str_eq
        rw [Str.cps_append, Array.toList_append]
        have : y.cps.toList = [] := List.length_eq_zero_iff.mp (by rw [toList_len]; exact h2)
        rw [this, List.append_nil]
      have hh := h t s.toks (.inl ⟨.inl rfl, rfl⟩) hl
      rw [e] at hh
      have h1' : (x.length == 0) = false := by simpa using h1
      simp only [h1', h2, beq_self_eq_true, if_true, Bool.false_eq_true, if_false]
      exact hh
    · have h1' : (x.length == 0) = false := by simpa using h1
      have h2' : (y.length == 0) = false := by simpa using h2
      simp only [h1', h2', Bool.false_eq_true, if_false]
      exact ⟨by rw [hl]; exact hsz, h _ _ (.inr ⟨rfl, rfl⟩) hl⟩

theorem addT (hsz : x.length + y.length ≤ sizeLine)
    (h : ∀ (t' k : Nat), GlueTok t u s.toks t' k → (x ++ y).length = x.length + y.length → Q (.str (x ++ y) t') { s with toks := k }) :
    wpAny (model prog w) A (binaryOp .Add (.str x t) (.str y u)) Q E s := P.add_str (glue_post hsz h)
theorem iaddT (hsz : x.length + y.length ≤ sizeLine)
    (h : ∀ (t' k : Nat), GlueTok t u s.toks t' k → (x ++ y).length = x.length + y.length → Q (.str (x ++ y) t') { s with toks := k }) :
    wpAny (model prog w) A (inplaceOp .Add (.str x t) (.str y u)) Q E s := P.iadd_str (glue_post hsz h)

theorem replaceNB {a b : Nat} (hu : @Ne Nat u 0) (hv : @Ne Nat v 0) (huv : @Ne Nat u v) (hnb : NoneBooked s.heap) (hx : x.length ≤ a) (hz : z.length ≤ b) (hab : a + (a + 1) * b ≤ 16777216)
    (hq : ∀ t' k, Q (.str (Txt.replace x y z) t') { s with toks := k }) :
    wpAny (model prog w) A (call (.builtin "str.replace") [.str x t, .str y u, .str z v]) Q E s :=
  SC.replaceW2 a b hab hu hv huv hx hz hq hnb

/-- its signs are code points -/
def CharsOk (x : Str) : Prop := ∀ c ∈ x.cps.toList, c < 1114112
theorem CharsOk.ok {x : Str} (h : CharsOk x) : PyData.strOk x = true := by
  unfold PyData.strOk
  rw [← Array.all_toList]
  exact List.all_eq_true.mpr fun c hc => decide_eq_true (h c hc)
theorem CharsOk.append {x y : Str} (hx : CharsOk x) (hy : CharsOk y) : CharsOk (x ++ y) := fun c hc => by
  rw [Str.cps_append, Array.toList_append] at hc
  rcases List.mem_append.mp hc with h | h
  · exact hx c h
  · exact hy c h
theorem escC_ok (q : Bool) (c : Nat) (h : c < 1114112) : ∀ d ∈ escC q c, d < 1114112 := by
  unfold escC
  repeat' split
  all_goals first
    | (intro d hd; rw [List.mem_singleton.mp hd]; exact h)
    | decide
theorem CharsOk.esc {x : Str} (q : Bool) (h : CharsOk x) : CharsOk (escS q x) := fun c hc => by
  rw [escS_toList] at hc
  obtain ⟨d, hd, hc⟩ := List.mem_flatMap.mp hc
  exact escC_ok q d (h d hd) c hc
theorem strSub_ok {x : Str} (h : CharsOk x) (a b : Nat) : CharsOk (Builtin.Str.strSub x a b) := fun c hc => by
  rw [StrLaws.strSub_toList] at hc
  exact h c (List.mem_of_mem_drop (List.mem_of_mem_take hc))
theorem partsFrom_ok {x : Str} (h : CharsOk x) (n : Nat) : ∀ (cuts : List Nat) (a : Nat), ∀ p ∈ StrLaws.partsFrom x n a cuts, CharsOk p
  | [], a, p, hp => by rw [List.mem_singleton.mp hp]; exact strSub_ok h _ _
  | c :: r, a, p, hp => by
    rcases List.mem_cons.mp hp with rfl | hp
    · exact strSub_ok h _ _
    · exact partsFrom_ok h n r _ p hp
theorem split_ok {x y : Str} (h : CharsOk x) (hy : 1 ≤ y.length) : ∀ p ∈ Txt.split x y, CharsOk p := by
  rw [split_parts x y hy]
  exact partsFrom_ok h _ _ _
theorem strSub_len_le (x : Str) (a b : Nat) : (Builtin.Str.strSub x a b).length ≤ x.length := by
  rw [← toList_len, StrLaws.strSub_toList, ← toList_len x, List.length_take, List.length_drop]
  omega
theorem partsFrom_len {x : Str} (n : Nat) : ∀ (cuts : List Nat) (a : Nat), ∀ p ∈ StrLaws.partsFrom x n a cuts, p.length ≤ x.length
  | [], a, p, hp => by rw [List.mem_singleton.mp hp]; exact strSub_len_le _ _ _
  | c :: r, a, p, hp => by
    rcases List.mem_cons.mp hp with rfl | hp
    · exact strSub_len_le _ _ _
    · exact partsFrom_len n r _ p hp
theorem split_len {x y : Str} (hy : 1 ≤ y.length) : ∀ p ∈ Txt.split x y, p.length ≤ x.length := by
  rw [split_parts x y hy]
  exact partsFrom_len _ _ _

theorem canLay_strs : ∀ ps : List Str, (∀ p ∈ ps, CharsOk p) → PyData.canLayAll0 (ps.map PyData.str) = true
  | [], _ => rfl
  | p :: r, h => by simp [PyData.canLayAll0, PyData.canLay0, (h p (List.mem_cons_self ..)).ok, canLay_strs r fun q hq => h q (List.mem_cons_of_mem _ hq)]
theorem depth_strs : ∀ ps : List Str, PyData.depthAll (ps.map PyData.str) = 0
  | [] => rfl
  | _ :: r => by simp [PyData.depthAll, PyData.depth, depth_strs r]
theorem shaped_strs (ps : List Str) (h : ∀ p ∈ ps, CharsOk p) : SeqAt.shaped (.list (ps.map PyData.str)) = true := by
  simp [SeqAt.shaped, PyData.canLay0, PyData.depth, canLay_strs ps h, depth_strs]

theorem ne_texts {a b : Addr} {xs ys : List Value} {ps ps' : List Str} (ha : s.heap.IsList a xs.toArray) (hb : s.heap.IsList b ys.toArray) (hi : StrsAre xs ps) (hj : StrsAre ys ps') (hu : A.units + 64 < cLine)
    (he : ps = ps') (hok : ∀ p ∈ ps, CharsOk p) (h : Q (.bool false) s) : wpAny (model prog w) A (compareOp .NotEq (.ref a) (.ref b)) Q E s := by
  subst he
  refine ne_dataH_same (reads_newData ha hi.carried) (reads_newData hb hj.carried) (shaped_strs _ hok) (shaped_strs _ hok) hu
    (SeqAt.noMix_of_shape (.list .str) rfl _ _ (list_map_has fun _ => rfl) (list_map_has fun _ => rfl)) ?_
  rw [Spec.same_self]
  exact h

theorem noneBooked {h : Heap} (e : h.get? 2 = some { cls := Value.none, data := Data.dict #[] }) : NoneBooked h :=
  ⟨fun _ => none, ⟨_, #[], 0, e, rfl, fun _ hm => by simp at hm, fun _ => rfl⟩, rfl⟩
end
end Mine
end

section
open PySem PySem.W PyProof.Rows PySem.Calls PySem.Spec
namespace Mine

theorem item_mem (x : Str) (i : Int) (h0 : 0 ≤ i) (h1 : i < (x.length : Int)) : ∃ c ∈ x.cps.toList, Txt.item x i = ⟨#[c]⟩ := by
  have hlt : i.toNat < x.cps.size := by
    have : x.length = x.cps.size := rfl
    omega
  refine ⟨x.cps[i.toNat], by simp, ?_⟩
  have e : Txt.charAt x i = some x.cps[i.toNat] := by
    unfold Txt.charAt
    have e1 : seqIndex? i x.length = some i.toNat := by
      unfold seqIndex?
      have h2 : ¬ i < 0 := by omega
      have h3 : (decide (0 ≤ i) && decide (i < (x.length : Int))) = true := by rw [decide_eq_true h0, decide_eq_true h1]; rfl
      simp only [if_neg h2, h3, if_true]
    rw [e1]
    show x.cps[i.toNat]? = some x.cps[i.toNat]
    simp [hlt]
  unfold Txt.item
  rw [e]
  rfl

/-- what the loop's three texts are, with their tokens -/
structure LS where
  text : Str
  tt : Nat
  pat : Str
  pt : Nat
  put : Str
  qt : Nat
abbrev psOf (c : LS) : List (Str × Value) := [(Str.ofString "text", .str c.text c.tt), (Str.ofString "pattern", .str c.pat c.pt), (Str.ofString "put", .str c.put c.qt)]
abbrev stOf : List Str := [Str.ofString "kind", Str.ofString "k"]

/-- what holds of them after i turns, tk tokens being made -/
structure LJ (i : Nat) (c : LS) (tk : Nat) : Prop where
  pat : ∃ b p, c.pat.cps.toList = b :: p ∧ Good b
  okt : CharsOk c.text
  okp : CharsOk c.pat
  okq : CharsOk c.put
  pl : c.pat.length ≤ i + 1
  ql : c.put.length ≤ i
  tl : c.text.length ≤ 3 + 64 * i
  p1 : 1 ≤ c.pt
  q1 : 1 ≤ c.qt
  pq : c.pt ≠ c.qt
  pk : c.pt < tk
  qk : c.qt < tk

theorem LJ.mono (i : Nat) (c : LS) (t t' : Nat) (h : t ≤ t') (j : LJ i c t) : LJ i c t' :=
  { j with pk := Nat.lt_of_lt_of_le j.pk h, qk := Nat.lt_of_lt_of_le j.qk h }

/-- the 23 signs, the nine -/
theorem signs_ok {i : Int} (h0 : 0 ≤ i) (h1 : i < 23) : CharsOk (Txt.item (Str.ofString "&<>\"'#x27;ampltgquo z\né") i) := by
  have hl : (Str.ofString "&<>\"'#x27;ampltgquo z\né").length = 23 := by decide +kernel
  obtain ⟨c, hc, e⟩ := item_mem _ i h0 (by rw [hl]; exact h1)
  rw [e]
  intro d hd
  have hd' : d = c := by simpa using hd
  subst hd'
  have hall : ∀ c ∈ (Str.ofString "&<>\"'#x27;ampltgquo z\né").cps.toList, c < 1114112 := by decide +kernel
  exact hall d hc

theorem nine_ok {i : Int} (h0 : 0 ≤ i) (h1 : i < 9) : ∃ c, Good c ∧ Txt.item (Str.ofString "&<>\"' z\né") i = ⟨#[c]⟩ := by
  have hl : (Str.ofString "&<>\"' z\né").length = 9 := by decide +kernel
  obtain ⟨c, hc, e⟩ := item_mem _ i h0 (by rw [hl]; exact h1)
  have hall : (Str.ofString "&<>\"' z\né").cps.toList = [38, 60, 62, 34, 39, 32, 122, 10, 233] := by decide +kernel
  rw [hall] at hc
  exact ⟨c, hc, e⟩

theorem good_lt {c : Nat} (h : Good c) : c < 1114112 := by
  unfold Good at h
  revert c
  decide

/-- a turn that lengthens the pattern -/
theorem LJ.turnP {i : Nat} {c : LS} {tk : Nat} (j : LJ i c tk) {y : Str} {u t' tk1 tk' : Nat} (hy : CharsOk y) (hl : y.length = 1) (hu : tk ≤ u) (hu1 : u < tk1) (htk : tk ≤ tk1)
    (ht : GlueTok c.pt u tk1 t' tk') : LJ (i + 1) ⟨c.text, c.tt, c.pat ++ y, t', c.put, c.qt⟩ tk' := by
  have h1 := j.p1; have h2 := j.q1; have h3 := j.pq; have h4 := j.pk; have h5 := j.qk
  have hlen : (c.pat ++ y).length = c.pat.length + y.length := Str.length_append _ _
  have h6 := j.pl; have h7 := j.ql; have h8 := j.tl
  unfold GlueTok at ht
  refine ⟨?_, j.okt, j.okp.append hy, j.okq, ?_, ?_, ?_, ?_, h2, ?_, ?_, ?_⟩
  · obtain ⟨b, p, e, hb⟩ := j.pat
    exact ⟨b, p ++ y.cps.toList, by show (c.pat ++ y).cps.toList = _; rw [Str.cps_append, Array.toList_append, e]; rfl, hb⟩
  all_goals (dsimp only; omega)

/-- a turn that lengthens the substitute -/
theorem LJ.turnQ {i : Nat} {c : LS} {tk : Nat} (j : LJ i c tk) {y : Str} {u t' tk1 tk' : Nat} (hy : CharsOk y) (hl : y.length = 1) (hu : tk ≤ u) (hu1 : u < tk1) (htk : tk ≤ tk1)
    (ht : GlueTok c.qt u tk1 t' tk') : LJ (i + 1) ⟨c.text, c.tt, c.pat, c.pt, c.put ++ y, t'⟩ tk' := by
  have h1 := j.p1; have h2 := j.q1; have h3 := j.pq; have h4 := j.pk; have h5 := j.qk
  have hlen : (c.put ++ y).length = c.put.length + y.length := Str.length_append _ _
  have h6 := j.pl; have h7 := j.ql; have h8 := j.tl
  unfold GlueTok at ht
  refine ⟨j.pat, j.okt, j.okp, j.okq.append hy, ?_, ?_, ?_, h1, ?_, ?_, ?_, ?_⟩
  all_goals (dsimp only; omega)

/-- a turn that lengthens the text -/
theorem LJ.turnT {i : Nat} {c : LS} {tk : Nat} (j : LJ i c tk) {y : Str} {t' tk' : Nat} (hy : CharsOk y) (hl : y.length ≤ 64) (htk : tk ≤ tk') : LJ (i + 1) ⟨c.text ++ y, t', c.pat, c.pt, c.put, c.qt⟩ tk' := by
  have h1 := j.p1; have h2 := j.q1; have h3 := j.pq; have h4 := j.pk; have h5 := j.qk
  have hlen : (c.text ++ y).length = c.text.length + y.length := Str.length_append _ _
  have h6 := j.pl; have h7 := j.ql; have h8 := j.tl
  refine ⟨j.pat, j.okt.append hy, j.okp, j.okq, ?_, ?_, ?_, h1, h2, h3, ?_, ?_⟩
  all_goals (dsimp only; omega)

/-- the start -/
theorem LJ.start {c : Nat} (hc : Good c) {tt pt qt tk : Nat} (h1 : 1 ≤ pt) (h2 : 1 ≤ qt) (h3 : pt ≠ qt) (h4 : pt < tk) (h5 : qt < tk) :
    LJ 0 ⟨(⟨#[c]⟩ : Str) ++ Str.ofString "<" ++ (⟨#[c]⟩ : Str), tt, ⟨#[c]⟩, pt, Str.ofString "", qt⟩ tk := by
  have ok1 : CharsOk ⟨#[c]⟩ := fun d hd => by
    have : d = c := by simpa using hd
    subst this
    exact good_lt hc
  have ok2 : CharsOk (Str.ofString "<") := by unfold CharsOk; decide +kernel
  have ok3 : CharsOk (Str.ofString "") := by unfold CharsOk; decide +kernel
  have l2 : (Str.ofString "<").length = 1 := by decide +kernel
  have l3 : (Str.ofString "").length = 0 := by decide +kernel
  have l1 : (⟨#[c]⟩ : Str).length = 1 := rfl
  refine ⟨⟨c, [], rfl, hc⟩, (ok1.append ok2).append ok1, ok1, ok3, ?_, ?_, ?_, h1, h2, h3, h4, h5⟩
  · dsimp only; omega
  · dsimp only; omega
  · dsimp only
    rw [Str.length_append, Str.length_append]
    omega
theorem LJ.start' {i : Int} {tt pt qt tk : Nat} (h0 : 0 ≤ i) (hi : i < 9) (h1 : 1 ≤ pt) (h2 : 1 ≤ qt) (h3 : pt ≠ qt) (h4 : pt < tk) (h5 : qt < tk) :
    LJ 0 ⟨Txt.item (Str.ofString "&<>\"' z\né") i ++ Str.ofString "<" ++ Txt.item (Str.ofString "&<>\"' z\né") i, tt, Txt.item (Str.ofString "&<>\"' z\né") i, pt, Str.ofString "", qt⟩ tk := by
  obtain ⟨c, hc, e⟩ := nine_ok h0 hi
  rw [e]
  exact LJ.start hc h1 h2 h3 h4 h5
end Mine
end

section
open PySem PySem.W PyProof.Rows PySem.Calls PySem.Spec
namespace Mine
section
variable {prog : Program} {w : World} {A : Around} {E : Value → Shared → Prop} {s : Shared} {env : Env} {h₀ : Heap} {Q : Flow → Shared → Prop}
theorem For_LS {px pos : Pos} {iter : Expr} {body : List Stmt} {l : Addr} {vs : List Value} {ns : List Int} {m₀ : Str → Option Value} {news : List (Addr × Obj)} {ta pa qa : Str} {tb pb qb : Nat}
    (hh : A.handled = none) (hx : env.kindOf (Str.ofString "x") = some .local) (hp : (env.scope.kind == .class || (env.scope.kind == .module && env.locals != env.globals)) = false)
    (F : Fr h₀ env.locals s.heap m₀) (N : News h₀ env.locals s.heap news) (e0 : m₀ (Str.ofString "script") = some (.ref l)) (hl : s.heap.IsList l vs.toArray) (hi : IntsAre vs ns)
    (e1 : m₀ (Str.ofString "text") = some (.str ta tb)) (e2 : m₀ (Str.ofString "pattern") = some (.str pa pb)) (e3 : m₀ (Str.ofString "put") = some (.str qa qb))
    (he : ∀ Q' : Value → Shared → Prop, Q' (.ref l) s → wpAny (model prog w) A (eval iter env) Q' E s)
    (hj : LJ 0 ⟨ta, tb, pa, pb, qa, qb⟩ s.toks)
    (turn : ∀ (i : Nat) (n : Int) (t : Tok) (c : LS) (u : Str → Option Value) (h : Heap) (tk : Nat) (own : List (Addr × Obj)), ns[i]? = some n → i < ns.length → LJ i c tk →
      Fr h₀ env.locals h (fun z => if z = Str.ofString "x" then some (.int n t) else kstB (fun z => if stOf.contains z then u z else m₀ z) (psOf c) z) → News h₀ env.locals h (own ++ news) →
      wpAny (model prog w) A (execs body env) (TokEnd h₀ env.locals (Str.ofString "x") m₀ stOf psOf (LJ (i + 1)) (own ++ news) { s with heap := h, toks := tk }) E { s with heap := h, toks := tk })
    (done : ∀ (c : LS) (u : Str → Option Value) (h : Heap) (tk : Nat), LJ ns.length c tk → Fr h₀ env.locals h (fun z => if z = Str.ofString "x" then u z else kstB (fun z => if stOf.contains z then u z else m₀ z) (psOf c) z) → News h₀ env.locals h news →
      Q .next { s with heap := h, toks := tk })
    (hs : ∀ x, foldedSetIterable iter env x = pure x := by intro _; rfl)
    (hE : PassesOwn (model prog w) A env E := by passes_own) :
    wpAny (model prog w) A (exec (.For (.Name (Str.ofString "x") px) iter body [] pos) env) Q E s :=
  For_tok psOf stOf LJ ⟨ta, tb, pa, pb, qa, qb⟩ hh hx hp F N hl hi he LJ.mono hj
    (fun p hp => by
      rcases List.mem_cons.mp hp with rfl | hp
      · exact e1
      · rcases List.mem_cons.mp hp with rfl | hp
        · exact e2
        · rw [List.mem_singleton.mp hp]; exact e3) turn done hs hE

theorem ls_end {L : Addr} {m₀ m' : Str → Option Value} {Jn : LS → Nat → Prop} {need : List (Addr × Obj)} {s₁ : Shared} {h' : Heap} {tk : Nat} {ta pa qa : Str} {tb pb qb : Nat}
    (F : Fr h₀ L h' m') (N : News h₀ L h' need) (e1 : m' (Str.ofString "text") = some (.str ta tb)) (e2 : m' (Str.ofString "pattern") = some (.str pa pb)) (e3 : m' (Str.ofString "put") = some (.str qa qb))
    (hr : ∀ z, z ≠ Str.ofString "x" → z ≠ Str.ofString "text" → z ≠ Str.ofString "pattern" → z ≠ Str.ofString "put" → stOf.contains z = false → m' z = m₀ z)
    (hj : Jn ⟨ta, tb, pa, pb, qa, qb⟩ tk) :
    TokEnd h₀ L (Str.ofString "x") m₀ stOf psOf Jn need s₁ .next { s₁ with heap := h', toks := tk } :=
  TokEnd.intro (ps := psOf) ⟨ta, tb, pa, pb, qa, qb⟩ F N
    (fun p hp => by
      rcases List.mem_cons.mp hp with rfl | hp
      · exact e1
      · rcases List.mem_cons.mp hp with rfl | hp
        · exact e2
        · rw [List.mem_singleton.mp hp]; exact e3)
    (fun z h1 h2 h3 => hr z h1 (h2 (_, _) (.head _)) (h2 (_, _) (.tail _ (.head _))) (h2 (_, _) (.tail _ (.tail _ (.head _)))) h3) hj
end
end Mine
end

section
open PySem PySem.W PyProof.Rows PySem.Calls PySem.Spec
namespace Mine
theorem partsFrom_length (x : Str) (n : Nat) : ∀ (cuts : List Nat) (a : Nat), (StrLaws.partsFrom x n a cuts).length = cuts.length + 1
  | [], _ => rfl
  | c :: r, a => by
    show (StrLaws.partsFrom x n (c + n) r).length + 1 = _
    rw [partsFrom_length x n r, List.length_cons]
theorem split_count {x y : Str} (hy : 1 ≤ y.length) : (Txt.split x y).length ≤ x.length + 2 := by
  rw [split_parts x y hy, partsFrom_length]
  have := StrLaws.occ_length_le x y 0 x.length (x.length + 1)
  omega
theorem replace_len {x y z : Str} (hy : 1 ≤ y.length) : (Txt.replace x y z).length ≤ x.length + (x.length + 1) * z.length := by
  have h1 : ∀ s : Str, (Str.join s (Txt.split x y)).length = ((Txt.split x y).map (·.length)).sum + ((Txt.split x y).length - 1) * s.length := fun s => by
    rw [← StrLaws.glued_eq_join, size_glued]
  have h2 := h1 y
  rw [StrLaws.join_split] at h2
  rw [replace_join x y z hy, h1 z]
  have h3 := split_count (x := x) hy
  have h4 : ((Txt.split x y).length - 1) * z.length ≤ (x.length + 1) * z.length := Nat.mul_le_mul_right _ (by omega)
  omega
theorem replace_le {x y z : Str} {a b : Nat} (hy : 1 ≤ y.length) (hx : x.length ≤ a) (hz : z.length ≤ b) : (Txt.replace x y z).length ≤ a + (a + 1) * b := by
  have h1 := replace_len (x := x) (z := z) hy
  have h2 : (x.length + 1) * z.length ≤ (a + 1) * b := Nat.mul_le_mul (by omega) hz
  omega
theorem strs_at {l : List (Str × Tok)} {i : Nat} {v : Value} (h : (strValues l).toArray[i]? = some v) : ∃ k t, (l.map (·.1))[i]? = some k ∧ v = .str k t := by
  have h' : (strValues l)[i]? = some v := by simpa using h
  unfold strValues at h'
  rw [List.getElem?_map] at h'
  cases e : l[i]? with
  | none => rw [e] at h'; cases h'
  | some p =>
    rw [e] at h'
    refine ⟨p.1, p.2, by rw [List.getElem?_map, e]; rfl, ?_⟩
    exact (Option.some.inj h').symm
theorem strs_size (l : List (Str × Tok)) : (l.map (·.1)).length = (strValues l).toArray.size := by simp [strValues]
theorem esc_ne0 {q : Bool} {y : Str} (hy : 1 ≤ y.length) : ((escS q y).length == 0) = false := by
  have := escS_pos_len q y hy
  simp
  omega
theorem ne0 {y : Str} (hy : 1 ≤ y.length) : (y.length == 0) = false := by
  simp
  omega
end Mine
end

section
open PySem PySem.W PyProof.Rows PySem.Calls PySem.Spec
namespace Mine
theorem execs_cons_tok' {M : Model} {A : Around} {E : Value → Shared → Prop} {s : Shared} {env : Env} {st : Stmt} {rest : List Stmt} {Q : Flow → Shared → Prop}
    (h : wpAny M A (exec st env) (fun f s' => match f with | .next => (s.toks ≤ s'.toks → wpAny M A (execs rest env) Q E s') | f => Q f s') E s) :
    wpAny M A (execs (st :: rest) env) Q E s := execs_cons_tok s.toks (Nat.le_refl _) h
theorem nb_of {w : World} {h₀ h : Heap} {L : Addr} {m : Str → Option Value} (X : (hd.heap_39 w.params).In h₀) (F : Fr h₀ L h m) : NoneBooked h := noneBooked (F.keep 2 _ (X 2 _ rfl))
def Stop (P : Prop) : Prop := P
theorem stop {P : Prop} (h : Stop P) : P := h
end Mine
open Mine
local macro_rules | `(tactic| walk_at "execs cons") => `(tactic| (k_here; (with_reducible refine execs_cons_tok' ?_); try dsimp only))
local macro_rules | `(tactic| walk_at "exec For Name Name cons nil") => `(tactic| (refine Mine.stop ?_))
local macro_rules | `(tactic| walk_at "execs nil") => `(tactic| (k_here; (with_reducible refine wpAny_execs_nil ?_); try dsimp only))
local macro_rules | `(tactic| walk_at "forall") => `(tactic| (k_here; (show (@LE.le Nat _ _ _) → _); intro hTok; (try dsimp only at hTok)))
local macro_rules | `(tactic| walk_at "inplaceOp Add str str") => `(tactic| (k_here; (show wpAny _ _ (inplaceOp Operator.Add (Value.str _ _) (Value.str _ _)) _ _ _); refine iaddT ?hsz ?_; (case hsz => (rw [sizeLine_eq]; omega)); intro t' k' ht' hl'; (try dsimp only at ht' hl'); (try dsimp only)))
local macro_rules | `(tactic| walk_at "binaryOp Add str str") => `(tactic| (k_here; (show wpAny _ _ (binaryOp Operator.Add (Value.str _ _) (Value.str _ _)) _ _ _); refine addT ?hsz ?_; (case hsz => (rw [sizeLine_eq]; omega)); intro t' k' ht' hl'; (try dsimp only at ht' hl'); (try dsimp only)))
local macro_rules | `(tactic| walk_at "mine esc2") => `(tactic| (k_here; (try k_unmd); (try dsimp only); k_dflt (show wpAny _ _ (call (Value.ref 22) [Value.str _ _, Value.bool _]) _ _ _); k_dflt (refine' esc_call _ _ _ _ _ _ _ _ _ _ _ _ _ _ _ _ _ _ _ _ _ _ _ _ _  ?k1 ?k2 ?k3 ?k4 ?k5 ?kK ?kL ?kd ?ku ?kR); (case k1 => k_dflt k_asm); (case k2 => k_dflt k_asm); (case k3 => k_dflt k_asm); (case k4 => k_dflt k_asm); (case k5 => k_dflt k_asm); (case kK => k_dflt (exact rfl)); (case kL => omega); (case kd => k_dflt ktr_room); (case ku => k_dflt ktr_units); intro t9 h9 tk9 F9 N9 g1 g2 g3; (try dsimp only at g1 g2 g3); (try dsimp only); (try k_fold)))
local macro_rules | `(tactic| walk_at "mine esc1") => `(tactic| (k_here; (try k_unmd); (try dsimp only); k_dflt (show wpAny _ _ (call (Value.ref 22) [Value.str _ _]) _ _ _); k_dflt (refine' esc_call1 _ _ _ _ _ _ _ _ _ _ _ _ _ _ _ _ _ _ _ _ _ _ _ _  ?k1 ?k2 ?k3 ?k4 ?k5 ?kK ?kL ?kd ?ku ?kR); (case k1 => k_dflt k_asm); (case k2 => k_dflt k_asm); (case k3 => k_dflt k_asm); (case k4 => k_dflt k_asm); (case k5 => k_dflt k_asm); (case kK => k_dflt (exact rfl)); (case kL => omega); (case kd => k_dflt ktr_room); (case ku => k_dflt ktr_units); intro t9 h9 tk9 F9 N9 g1 g2 g3; (try dsimp only at g1 g2 g3); (try dsimp only); (try k_fold)))
local macro_rules | `(tactic| walk_at "call builtin:str.split") => `(tactic| (refine Mine.stop ?_))
local macro_rules | `(tactic| walk_at "call builtin:str.replace") => `(tactic| (refine Mine.stop ?_))
local macro_rules | `(tactic| walk_at "eval ListComp") => `(tactic| (refine Mine.stop ?_))
local macro_rules | `(tactic| walk_at "compareOp NotEq ref ref") => `(tactic| (refine Mine.stop ?_))
local macro_rules | `(tactic| walk_at "CompSrc") => `(tactic| (refine Mine.stop ?_))
local macro_rules | `(tactic| walk_at "mine split") => `(tactic| (k_dflt (show wpAny _ _ (call (Value.builtin "str.split") [Value.str _ _, Value.str _ _]) _ _ _); k_dflt (refine' KSpl.split1 ?kF ?kN ?kY ?_ ?kZ); (case kF => k_dflt k_asm); (case kN => k_dflt k_asm); (case kY => first | exact esc_ne0 (by omega) | exact ne0 (by omega)); (case kZ => (rw [sizeLine_eq]; omega))))
local macro_rules | `(tactic| walk_at "mine wr") => `(tactic| (k_here; k_dflt (show wpAny _ _ (call (Value.ref 27) [Value.str _ _, Value.bool _]) _ _ _); k_dflt (refine' wr_call _ _ _ _ _ _ _ _ _ _ _ _ _ _ _ _ _ _ _ _ _ _ _ _ _ ?k1 ?k2 ?k3 ?k4 ?k5 ?kK ?kL ?kd ?ku ?kR); (case k1 => k_dflt k_asm); (case k2 => k_dflt k_asm); (case k3 => k_dflt k_asm); (case k4 => k_dflt k_asm); (case k5 => k_dflt k_asm); (case kK => k_dflt (exact rfl)); (case kL => omega); (case kd => k_dflt ktr_room); (case ku => k_dflt ktr_units); intro t9 h9 tk9 F9 N9; (try dsimp only); (try k_fold)))
local macro_rules | `(tactic| walk_at "mine rep") => `(tactic| (k_dflt (show wpAny _ _ (call (Value.builtin "str.replace") [Value.str _ _, Value.str _ _, Value.str _ _]) _ _ _); k_dflt (refine' replaceNB (a := 24972) (b := 378) ?hu ?hv ?huv ?hnb ?hx ?hz ?hab ?_); (case hu => omega); (case hv => omega); (case huv => omega); (case hnb => exact nb_of (by k_dflt k_asm) (by k_dflt k_asm)); (case hx => omega); (case hz => omega); (case hab => decide); intro t9 k9; (try dsimp only)))
local macro_rules | `(tactic| walk_at "mine go") => `(tactic| refine (?_ : wpAny _ _ _ _ _ _))
local macro_rules | `(tactic| walk_at "call ref") => `(tactic| ((k_dflt (show wpAny _ _ (call (Value.ref 22) _) _ _ _)); refine Mine.stop ?_))
local macro_rules | `(tactic| walk_at "call ref") => `(tactic| ((k_dflt (show wpAny _ _ (call (Value.ref 27) _) _ _ _)); refine Mine.stop ?_))
set_option maxRecDepth 100000 in
set_option maxHeartbeats 8000000 in
theorem PySem.Challenge.cw_dm0140_01_holds : PySem.Challenge.rw_dm0140_01.Holds := by
  refine hd ?_
  w_on
  w_strict (
    k_go0
    (all_goals try k_fold)
    k_steps
    refine (?_ : wpAny _ _ _ _ _ _)
    refine For_LS rfl rfl rfl (by k_asm) (by k_asm) rfl (News.isList (by k_asm) (by k_mem)) (by assumption) rfl rfl rfl ?he ?hj ?turn ?done
    case he => intro Q' h'; k_dflt (refine' nameX_L ?kF ?kv ?_ ?ka ?kb; (case kF => k_asm); (case ka => rfl); (case kb => rfl); (case kv => rfl)); exact h'
    case hj =>
      dsimp only
      exact LJ.start' (fmod_lo _ (by decide)) (fmod_hi _ (by decide)) (by omega) (by omega) (by omega) (by omega) (by omega)
    case turn =>
      intro i n t c u h tk own hn hilt hJ F9 N9
      have j1 := hJ.tl; have j2 := hJ.pl; have j3 := hJ.ql
      k_steps
      all_goals (
        refine ls_end (by k_dflt k_asm) (by k_dflt k_asm) rfl rfl rfl ?hr ?hj
        case hr =>
          intro z z1 z2 z3 z4 z5
          have z6 : z ≠ Str.ofString "kind" := fun e => by rw [e] at z5; revert z5; decide +kernel
          have z7 : z ≠ Str.ofString "k" := fun e => by rw [e] at z5; revert z5; decide +kernel
          simp only [z1, z2, z3, z4, z5, z6, z7, if_false, kstB, Bool.false_eq_true]
        case hj =>
          rename GlueTok _ _ _ _ _ => hg
          first
            | exact LJ.mono _ _ _ _ (by omega) (hJ.turnP (signs_ok (fmod_lo _ (by decide)) (fmod_hi _ (by decide))) (by omega) (by omega) (by omega) (by omega) hg)
            | exact LJ.mono _ _ _ _ (by omega) (hJ.turnQ (signs_ok (fmod_lo _ (by decide)) (fmod_hi _ (by decide))) (by omega) (by omega) (by omega) (by omega) hg)
            | (unfold GlueTok at hg; exact hJ.turnT hJ.okp (by omega) (by omega))
            | (unfold GlueTok at hg; exact hJ.turnT hJ.okq (by omega) (by omega))
            | (unfold GlueTok at hg; exact hJ.turnT (signs_ok (fmod_lo _ (by decide)) (by have hfm := fmod_hi (n.fdiv 4) (n := 25) (by decide); omega)) (by omega) (by omega)))
    case done =>
      intro c u h tk hJ F9 N9
      have j1 := hJ.tl; have j2 := hJ.pl; have j3 := hJ.ql; have j4 := hJ.pk; have j5 := hJ.qk; have j6 := hJ.pq; have j7 := hJ.p1; have j8 := hJ.q1
      obtain ⟨b0, p0, hpb, hgb⟩ := hJ.pat
      have hp1 : 1 ≤ c.pat.length := by rw [← Mine.toList_len, hpb]; simp
      rename _ = Data.cell (some (Value.bool _)) => hcell
      generalize hq : (Int.fmod _ 2 == 0) = q at hcell
      dsimp only
      cases q
      · k_steps
        walk_at "mine go"
        walk_at "mine esc2"
        k_steps
        walk_at "mine go"
        walk_at "mine esc2"
        have e1 := escS_len false (c.text ++ (c.pat ++ c.put))
        have e2 := escS_len false c.pat
        have e3 := escS_len false c.put
        k_steps
        refine (?_ : wpAny _ _ _ _ _ _)
        walk_at "mine split"
        intro D1 l1 hs1 ks1 es1 as1 F1 N1 lt1
        k_lt lt1
        dsimp only
        k_steps
        walk_at "mine go"
        k_dflt (refine LCg.ListComp_U (F₀ := by k_asm) (by with_unfolding_all rfl) (by decide) (by rfl) (by decide) (by rfl) ?_)
        k_steps
        walk_at "mine go"
        walk_at "mine split"
        intro D2 l2 hs2 ks2 es2 as2 F2 N2 lt2
        k_lt lt2
        dsimp only
        k_steps
        refine (?_ : LCg.CompSrc _ _ _ _ _ _ _ _ _ _ _ _ _ _)
        have n2 : (l2.map (·.1)).length ≤ (c.text ++ (c.pat ++ c.put)).length + 2 := by rw [es2]; exact split_count hp1
        rw [Mine.strs_size] at n2
        k_dflt (refine LCg.CompSrc.ledger (by rfl) (by k_asm) (by k_asm) (by k_mem) ?sz ?_)
        case sz => rw [sizeLine_eq]; omega
        intro g2
        refine comp_texts (ks := l2.map (·.1)) (fun p t => .str p t) (escS false) (Mine.strs_size l2) (fun i v _ hv => strs_at hv) ?turn ?fin
        case turn =>
          intro pp tc I' oI' C' oC' D' m' ys' h' tk' E' hc' hC' hx' F' N' off' ne'
          have hpl : pp.length ≤ (c.text ++ (c.pat ++ c.put)).length := Mine.split_len hp1 pp (es2 ▸ hc')
          k_steps
          walk_at "mine go"
          walk_at "mine wr"
          k_steps
          exact LCg.CompEnd.intro (by k_dflt k_asm) (by k_dflt k_asm) _ (fun p hp => hp) off' (.inr ⟨_, by k_dflt k_mem, rfl, _, rfl⟩) ⟨rfl, _, rfl⟩
        case fin =>
          intro ys hys
          k_steps
          walk_at "mine go"
          refine ne_texts (News.isList (by k_dflt k_asm) (by k_dflt k_mem)) (News.isList (by k_dflt k_asm) (by k_dflt k_mem)) as1 hys (by k_dflt ke_room) ?he ?hok ?_
          case he => rw [es1, es2]; exact split_esc false _ _ b0 p0 hpb hgb
          case hok => rw [es1]; exact split_ok (CharsOk.esc false (hJ.okt.append (hJ.okp.append hJ.okq))) (escS_pos_len false _ hp1)
          k_steps
          have hr : (Txt.replace (c.text ++ (c.pat ++ c.put)) c.pat c.put).length ≤ 4162 + (4162 + 1) * 63 := replace_le hp1 (by omega) (by omega)
          walk_at "mine go"
          walk_at "mine esc2"
          k_steps
          walk_at "mine go"
          walk_at "mine rep"
          rw [replace_esc false _ _ _ b0 p0 hpb hgb]
          k_steps
          walk_at "mine go"
          walk_at "mine rep"
          k_steps
          walk_at "mine go"
          walk_at "mine wr"
          k_steps
      · k_steps
        walk_at "mine go"
        walk_at "mine esc2"
        k_steps
        walk_at "mine go"
        walk_at "mine esc1"
        have e1 := escS_len true (c.text ++ (c.pat ++ c.put))
        have e2 := escS_len true c.pat
        have e3 := escS_len true c.put
        k_steps
        refine (?_ : wpAny _ _ _ _ _ _)
        walk_at "mine split"
        intro D1 l1 hs1 ks1 es1 as1 F1 N1 lt1
        k_lt lt1
        dsimp only
        k_steps
        walk_at "mine go"
        k_dflt (refine LCg.ListComp_U (F₀ := by k_asm) (by with_unfolding_all rfl) (by decide) (by rfl) (by decide) (by rfl) ?_)
        k_steps
        walk_at "mine go"
        walk_at "mine split"
        intro D2 l2 hs2 ks2 es2 as2 F2 N2 lt2
        k_lt lt2
        dsimp only
        k_steps
        refine (?_ : LCg.CompSrc _ _ _ _ _ _ _ _ _ _ _ _ _ _)
        have n2 : (l2.map (·.1)).length ≤ (c.text ++ (c.pat ++ c.put)).length + 2 := by rw [es2]; exact split_count hp1
        rw [Mine.strs_size] at n2
        k_dflt (refine LCg.CompSrc.ledger (by rfl) (by k_asm) (by k_asm) (by k_mem) ?sz ?_)
        case sz => rw [sizeLine_eq]; omega
        intro g2
        refine comp_texts (ks := l2.map (·.1)) (fun p t => .str p t) (escS true) (Mine.strs_size l2) (fun i v _ hv => strs_at hv) ?turn ?fin
        case turn =>
          intro pp tc I' oI' C' oC' D' m' ys' h' tk' E' hc' hC' hx' F' N' off' ne'
          have hpl : pp.length ≤ (c.text ++ (c.pat ++ c.put)).length := Mine.split_len hp1 pp (es2 ▸ hc')
          k_steps
          walk_at "mine go"
          walk_at "mine wr"
          k_steps
          exact LCg.CompEnd.intro (by k_dflt k_asm) (by k_dflt k_asm) _ (fun p hp => hp) off' (.inr ⟨_, by k_dflt k_mem, rfl, _, rfl⟩) ⟨rfl, _, rfl⟩
        case fin =>
          intro ys hys
          k_steps
          walk_at "mine go"
          refine ne_texts (News.isList (by k_dflt k_asm) (by k_dflt k_mem)) (News.isList (by k_dflt k_asm) (by k_dflt k_mem)) as1 hys (by k_dflt ke_room) ?he ?hok ?_
          case he => rw [es1, es2]; exact split_esc true _ _ b0 p0 hpb hgb
          case hok => rw [es1]; exact split_ok (CharsOk.esc true (hJ.okt.append (hJ.okp.append hJ.okq))) (escS_pos_len true _ hp1)
          k_steps
          have hr : (Txt.replace (c.text ++ (c.pat ++ c.put)) c.pat c.put).length ≤ 4162 + (4162 + 1) * 63 := replace_le hp1 (by omega) (by omega)
          walk_at "mine go"
          walk_at "mine esc2"
          k_steps
          walk_at "mine go"
          walk_at "mine rep"
          rw [replace_esc true _ _ _ b0 p0 hpb hgb]
          k_steps
          walk_at "mine go"
          walk_at "mine rep"
          k_steps
          walk_at "mine go"
          walk_at "mine wr"
          k_steps)
end
