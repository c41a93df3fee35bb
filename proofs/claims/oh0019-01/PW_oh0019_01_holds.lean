import PyProof.Rows.All
import Wide.All
import OpenK.AllK
import Wide.FinOn
import PySem.Challenge.RW_oh0019_01
set_option Elab.async false
section
open PySem PySem.W PyProof.Rows
namespace Mine
set_option maxRecDepth 100000
set_option maxHeartbeats 8000000
open_top hd for PySem.Challenge.rw_oh0019_01
end Mine
end
section
open PySem PySem.W PyProof.Rows
namespace Mine
/-- the table of a hand: signs and their references -/
def nmTab (x : Int) : List (Str × Str) :=
  if x = 0 then [(Str.ofString "&", Str.ofString "&amp;"), (Str.ofString "<", Str.ofString "&lt;"), (Str.ofString ">", Str.ofString "&gt;")]
  else if x = 1 then [(Str.ofString "&", Str.ofString "&amp;"), (Str.ofString "<", Str.ofString "&lt;"), (Str.ofString ">", Str.ofString "&gt;"), (Str.ofString "\r", Str.ofString "&#xD;")]
  else if x = 2 then [(Str.ofString "&", Str.ofString "&amp;"), (Str.ofString ">", Str.ofString "&gt;"), (Str.ofString "\"", Str.ofString "&quot;")]
  else if x = 3 then [(Str.ofString "&", Str.ofString "&amp;"), (Str.ofString "<", Str.ofString "&lt;"), (Str.ofString "\"", Str.ofString "&quot;"), (Str.ofString "\r", Str.ofString "&#xD;"), (Str.ofString "\n", Str.ofString "&#xA;"), (Str.ofString "\t", Str.ofString "&#x9;")]
  else [(Str.ofString "&", Str.ofString "&amp;"), (Str.ofString "<", Str.ofString "&lt;"), (Str.ofString ">", Str.ofString "&gt;"), (Str.ofString "\"", Str.ofString "&quot;"), (Str.ofString "\r", Str.ofString "&#13;"), (Str.ofString "\n", Str.ofString "&#10;"), (Str.ofString "\t", Str.ofString "&#09;")]
/-- the dict's pairs bear a table of texts -/
def Tab : List (Str × Str) → List (Str × Value) → Prop
  | [], kvs => kvs = []
  | (k, v) :: r, kvs => ∃ t kvs', kvs = (k, .str v t) :: kvs' ∧ Tab r kvs'
def tabAt : List (Str × Str) → Str → Option Str
  | [], _ => none
  | (k, v) :: r, x => if k = x then some v else tabAt r x
theorem Tab.at : ∀ {l : List (Str × Str)} {kvs : List (Str × Value)}, Tab l kvs → ∀ x, match tabAt l x with | some v => ∃ t, valueAt kvs x = some (.str v t) | none => valueAt kvs x = none
  | [], _, h, x => by subst h; rfl
  | (k, v) :: r, _, ⟨t, kvs', e, h⟩, x => by
    subst e
    have ih := Tab.at h x
    by_cases hk : k = x
    · subst hk; simp [tabAt, valueAt]
    · have e1 : valueAt ((k, Value.str v t) :: kvs') x = valueAt kvs' x := by simp [valueAt, hk]
      simp only [tabAt, if_neg hk, e1]; exact ih
end Mine
end
section
open PySem PySem.W PyProof.Rows
namespace Mine
/-- one sign replaced by a reference -/
def sub (c : Nat) (r : List Nat) (l : List Nat) : List Nat := l.flatMap fun k => if k = c then r else [k]
theorem sub_append (c : Nat) (r a b : List Nat) : sub c r (a ++ b) = sub c r a ++ sub c r b := by simp [sub]
theorem sub_free (c : Nat) (r : List Nat) : ∀ l : List Nat, c ∉ l → sub c r l = l
  | [], _ => rfl
  | k :: l, h => by
    have h1 : ¬ k = c := fun e => h (e ▸ List.mem_cons_self ..)
    have h2 : c ∉ l := fun m => h (List.mem_cons_of_mem _ m)
    have ih := sub_free c r l h2
    unfold sub at ih ⊢
    rw [List.flatMap_cons, if_neg h1, ih]; rfl
theorem sub_one (c : Nat) (r : List Nat) : sub c r [c] = r := by simp [sub]
theorem sub_join (c : Nat) (r : List Nat) : ∀ parts : List Str, (∀ p ∈ parts, c ∉ p.cps.toList) → sub c r (Str.join ⟨#[c]⟩ parts).cps.toList = (Str.join ⟨r.toArray⟩ parts).cps.toList
  | [], _ => rfl
  | [p], h => sub_free c r _ (h p (List.mem_singleton.mpr rfl))
  | p :: q :: l, h => by
    have ih := sub_join c r (q :: l) fun a ha => h a (List.mem_cons_of_mem _ ha)
    show sub c r (p ++ ⟨#[c]⟩ ++ Str.join ⟨#[c]⟩ (q :: l)).cps.toList = (p ++ ⟨r.toArray⟩ ++ Str.join ⟨r.toArray⟩ (q :: l)).cps.toList
    simp only [Str.cps_append, Array.toList_append]
    rw [sub_append, sub_append, ih, sub_free c r _ (h p (List.mem_cons_self ..))]
    show p.cps.toList ++ sub c r [c] ++ _ = _
    rw [sub_one]
theorem replace_sub (l : List Nat) (c : Nat) (r : List Nat) : Txt.replace ⟨l.toArray⟩ ⟨#[c]⟩ ⟨r.toArray⟩ = ⟨(sub c r l).toArray⟩ := by
  have h : (Txt.replace ⟨l.toArray⟩ ⟨#[c]⟩ ⟨r.toArray⟩).cps.toList = sub c r l := by
    rw [StrLaws.replace_one, ← sub_join c r _ (StrLaws.split_free _ c), StrLaws.join_split]
  generalize Txt.replace ⟨l.toArray⟩ ⟨#[c]⟩ ⟨r.toArray⟩ = y at h
  cases y with
  | mk cps => simp only at h; rw [← h]
theorem found_sub (l : List Nat) (c : Nat) : (!(Builtin.Str.occurrences ⟨l.toArray⟩ ⟨#[c]⟩ 0 (⟨l.toArray⟩ : Str).length 1).isEmpty) = decide (c ∈ l) := by
  rw [StrLaws.found_one]

/-- the replacements one after the other -/
def subs (tb : List (Nat × List Nat)) (l : List Nat) : List Nat := tb.foldl (fun l p => sub p.1 p.2 l) l
theorem subs_snoc (tb : List (Nat × List Nat)) (c : Nat) (r l : List Nat) : subs (tb ++ [(c, r)]) l = sub c r (subs tb l) := by simp [subs, List.foldl_append]
/-- a sign's reference, or the sign -/
def look : List (Nat × List Nat) → Nat → List Nat
  | [], k => [k]
  | (c, r) :: t, k => if k = c then r else look t k
/-- no later sign stands in an earlier reference; the references are short -/
def okT : List (Nat × List Nat) → Bool
  | [] => true
  | (_, r) :: t => decide (r.length ≤ 6) && t.all (fun p => !r.contains p.1) && okT t
theorem subs_append (tb : List (Nat × List Nat)) (a b : List Nat) : subs tb (a ++ b) = subs tb a ++ subs tb b := by
  induction tb generalizing a b with
  | nil => rfl
  | cons p t ih => show subs t (sub p.1 p.2 (a ++ b)) = _; rw [sub_append, ih]; rfl
theorem subs_flat (tb : List (Nat × List Nat)) : ∀ l : List Nat, subs tb l = l.flatMap fun k => subs tb [k]
  | [] => by
    have h : ∀ tb : List (Nat × List Nat), subs tb [] = [] := by
      intro tb; induction tb with
      | nil => rfl
      | cons p t ih => exact ih
    rw [h]; rfl
  | k :: l => by
    have h := subs_append tb [k] l
    rw [List.singleton_append] at h
    rw [h, List.flatMap_cons, ← subs_flat tb l]
theorem subs_free (tb : List (Nat × List Nat)) : ∀ r : List Nat, (∀ p ∈ tb, p.1 ∉ r) → subs tb r = r := by
  induction tb with
  | nil => intro r _; rfl
  | cons p t ih =>
    intro r h
    show subs t (sub p.1 p.2 r) = r
    rw [sub_free _ _ _ (h p List.mem_cons_self)]
    exact ih r fun q hq => h q (List.mem_cons_of_mem _ hq)
theorem subs_look (tb : List (Nat × List Nat)) (ok : okT tb = true) (k : Nat) : subs tb [k] = look tb k := by
  induction tb with
  | nil => rfl
  | cons p t ih =>
    obtain ⟨c, r⟩ := p
    simp only [okT, Bool.and_eq_true, decide_eq_true_eq, List.all_eq_true, Bool.not_eq_true', List.contains_eq_mem, decide_eq_false_iff_not] at ok
    show subs t (sub c r [k]) = if k = c then r else look t k
    by_cases h : k = c
    · rw [if_pos h, h, sub_one]
      exact subs_free t r fun p hp => ok.1.2 p hp
    · rw [if_neg h, sub_free c r [k] (by simpa using fun e => h e.symm)]
      exact ih ok.2
theorem subs_eq (tb : List (Nat × List Nat)) (ok : okT tb = true) (l : List Nat) : subs tb l = l.flatMap (look tb) := by
  rw [subs_flat]; congr 1; funext k; exact subs_look tb ok k
theorem look_len (tb : List (Nat × List Nat)) (ok : okT tb = true) (k : Nat) : (look tb k).length ≤ 6 := by
  induction tb with
  | nil => simp [look]
  | cons p t ih =>
    obtain ⟨c, r⟩ := p
    simp only [okT, Bool.and_eq_true, decide_eq_true_eq] at ok
    simp only [look]
    split
    · exact ok.1.1
    · exact ih ok.2
theorem flat_len {f : Nat → List Nat} {n : Nat} (h : ∀ k, (f k).length ≤ n) : ∀ l : List Nat, (l.flatMap f).length ≤ n * l.length
  | [] => by simp
  | k :: l => by
    have := flat_len h l
    have h1 := h k
    rw [List.flatMap_cons, List.length_append, List.length_cons, Nat.mul_succ]
    omega
theorem subs_len (tb : List (Nat × List Nat)) (ok : okT tb = true) (l : List Nat) : (subs tb l).length ≤ 6 * l.length := by
  rw [subs_eq tb ok]; exact flat_len (look_len tb ok) l
end Mine
end
section
open PySem PySem.W PySem.Calls PyProof.Rows
namespace Mine
/-- the state at a meeting of ways -/
structure AtJ (h₀ : Heap) (L : Addr) (m : Str → Option Value) (news : List (Addr × Obj)) (s s' : Shared) : Prop where
  at_ : ∃ (h : Heap) (tk : Nat), s' = { s with heap := h, toks := tk } ∧ 0 < tk ∧ Fr h₀ L h m ∧ News h₀ L h news
structure JoinC (c : Bool) (h₀ : Heap) (L : Addr) (m : Str → Option Value) (news : List (Addr × Obj)) (s : Shared) (k : Bool) (s' : Shared) : Prop where
  out : k = c
  here : AtJ h₀ L m news s s'
/-- the ways of a replacing if meet -/
structure JoinS (x : Str) (v : Str) (h₀ : Heap) (L : Addr) (m : Str → Option Value) (news : List (Addr × Obj)) (s : Shared) (f : Flow) (s' : Shared) : Prop where
  next : f = .next
  here : ∃ t : Tok, AtJ h₀ L (fun y => if y = x then some (.str v t) else m y) news s s'
def JoinB1 (P : Prop) : Prop := P
def JoinB2 (P : Prop) : Prop := P
section
variable {M : Model} {A : Around} {E : Value → Shared → Prop} {s : Shared} {env : Env} {h₀ : Heap} {L : Addr} {m : Str → Option Value} {news : List (Addr × Obj)}
theorem if_rep {cS rS x rn : Str} {k1 k2 k3 : Nat} {p1 p2 p3 p4 p5 p6 p7 p8 p9 p10 p11 : Pos} {t₀ : Tok} {Q : Flow → Shared → Prop} {tb : List (Nat × List Nat)} {l : List Nat} {c : Nat} {r : List Nat}
    (_F : Fr h₀ L s.heap m) (_N : News h₀ L s.heap news)
    (hold : m x = some (.str ⟨(subs tb l).toArray⟩ t₀)) (hcS : cS = ⟨#[c]⟩) (_hrS : rS = ⟨r.toArray⟩)
    (hc : wpAny M A (isTrue (.Compare (.Constant (.str cS) k1 p1) [.In] [.Name x p2] p3) env (eval (.Compare (.Constant (.str cS) k1 p1) [.In] [.Name x p2] p3) env))
      (fun k s₂ => JoinC (!(Builtin.Str.occurrences ⟨(subs tb l).toArray⟩ cS 0 (⟨(subs tb l).toArray⟩ : Str).length 1).isEmpty) h₀ L m news s k s₂) E s)
    (hv : JoinB1 (∀ s₂, AtJ h₀ L m news s s₂ → wpAny M A (exec (.Assign [.Name x p4] (.Call (.Attribute (.Name x p5) rn p6) [.Constant (.str cS) k2 p7, .Constant (.str rS) k3 p8] [] p9) p10) env) (fun f s₃ => JoinS x ⟨(subs (tb ++ [(c, r)]) l).toArray⟩ h₀ L m news s f s₃) E s₂))
    (hk : JoinB2 (∀ (t : Tok) (s₃ : Shared), AtJ h₀ L (fun y => if y = x then some (.str ⟨(subs (tb ++ [(c, r)]) l).toArray⟩ t) else m y) news s s₃ → Q .next s₃)) :
    wpAny M A (exec (.If (.Compare (.Constant (.str cS) k1 p1) [.In] [.Name x p2] p3) [.Assign [.Name x p4] (.Call (.Attribute (.Name x p5) rn p6) [.Constant (.str cS) k2 p7, .Constant (.str rS) k3 p8] [] p9) p10] [] p11) env) Q E s := by
  refine wpAny_If (wpAny_mono hc (fun k s₂ hkc => ?_) fun _ _ h => h)
  obtain ⟨hkc, hat⟩ := hkc
  rw [hcS, found_sub] at hkc
  cases k with
  | true =>
    show wpAny M A (execs _ env) Q E s₂
    refine wpAny_execs_cons (wpAny_mono (hv s₂ hat) (fun f s₃ hf => ?_) fun _ _ h => h)
    obtain ⟨hf, t, ht⟩ := hf
    subst hf
    exact wpAny_execs_nil (hk t s₃ ht)
  | false =>
    show wpAny M A (execs [] env) Q E s₂
    refine wpAny_execs_nil (hk t₀ s₂ ?_)
    have hn : c ∉ subs tb l := of_decide_eq_false hkc.symm
    rw [subs_snoc, sub_free c r _ hn]
    have e : (fun y => if y = x then some (Value.str ⟨(subs tb l).toArray⟩ t₀) else m y) = m := by
      funext y
      by_cases hy : y = x
      · rw [if_pos hy, hy, hold]
      · rw [if_neg hy]
    rw [e]
    exact hat
end
section
variable {prog : Program} {w : World} {A : Around} {E : Value → Shared → Prop} {s : Shared}
theorem replace_at {tb : List (Nat × List Nat)} {l : List Nat} {cS rS : Str} {c : Nat} {r : List Nat} {t u v : Tok} {Q : Value → Shared → Prop}
    (hcS : cS = ⟨#[c]⟩) (hrS : rS = ⟨r.toArray⟩) (ok : okT tb = true) (hl : l.length ≤ 1000) (hr : r.length ≤ 14) (hu : u ≠ 0) (hv : v ≠ 0) (huv : u ≠ v) (hyz : (cS == rS) = false)
    (hq : ∀ t' k, Q (.str ⟨(subs (tb ++ [(c, r)]) l).toArray⟩ t') { s with toks := k }) :
    wpAny (model prog w) A (call (.builtin "str.replace") [.str ⟨(subs tb l).toArray⟩ t, .str cS u, .str rS v]) Q E s := by
  have h1 := subs_len tb ok l
  refine SC.replaceW hu hv huv hyz ?_ ?_ ?_
  · show (subs tb l).toArray.size ≤ _
    rw [List.size_toArray]; omega
  · rw [hrS]; show r.toArray.size ≤ _; rw [List.size_toArray]; exact hr
  · intro t' k
    have e : Txt.replace ⟨(subs tb l).toArray⟩ cS rS = ⟨(subs (tb ++ [(c, r)]) l).toArray⟩ := by rw [hcS, hrS, replace_sub, subs_snoc]
    rw [e]; exact hq t' k
end
theorem of_amp : Str.ofString "&" = ⟨#[38]⟩ := by decide +kernel
theorem of_lt : Str.ofString "<" = ⟨#[60]⟩ := by decide +kernel
theorem of_gt : Str.ofString ">" = ⟨#[62]⟩ := by decide +kernel
theorem of_quo : Str.ofString "\"" = ⟨#[34]⟩ := by decide +kernel
theorem of_cr : Str.ofString "\r" = ⟨#[13]⟩ := by decide +kernel
theorem of_lf : Str.ofString "\n" = ⟨#[10]⟩ := by decide +kernel
theorem of_tab : Str.ofString "\t" = ⟨#[9]⟩ := by decide +kernel
theorem of_amp' : Str.ofString "&amp;" = ⟨[38, 97, 109, 112, 59].toArray⟩ := by decide +kernel
theorem of_lt' : Str.ofString "&lt;" = ⟨[38, 108, 116, 59].toArray⟩ := by decide +kernel
theorem of_gt' : Str.ofString "&gt;" = ⟨[38, 103, 116, 59].toArray⟩ := by decide +kernel
theorem of_quo' : Str.ofString "&quot;" = ⟨[38, 113, 117, 111, 116, 59].toArray⟩ := by decide +kernel
theorem of_xD : Str.ofString "&#xD;" = ⟨[38, 35, 120, 68, 59].toArray⟩ := by decide +kernel
theorem of_xA : Str.ofString "&#xA;" = ⟨[38, 35, 120, 65, 59].toArray⟩ := by decide +kernel
theorem of_x9 : Str.ofString "&#x9;" = ⟨[38, 35, 120, 57, 59].toArray⟩ := by decide +kernel
theorem of_13 : Str.ofString "&#13;" = ⟨[38, 35, 49, 51, 59].toArray⟩ := by decide +kernel
theorem of_10 : Str.ofString "&#10;" = ⟨[38, 35, 49, 48, 59].toArray⟩ := by decide +kernel
theorem of_09 : Str.ofString "&#09;" = ⟨[38, 35, 48, 57, 59].toArray⟩ := by decide +kernel
end Mine
end
section
open PySem PySem.W PyProof.Rows
namespace Mine
set_option maxRecDepth 100000
set_option maxHeartbeats 8000000
set_option linter.unusedVariables false
theorem c_sign {w : World} {mean : ExcName → Option Value} {mg mb : Str → Option Value} {x : Int} {tx : Tok}
    {dp un : Nat} {gd : Option (List Code)} {cn : Str} {cs : Scope} {a : Addr} {ccd : Value} {cl : List (Str × Addr)} {outer : List Env} {A₀ : Around} {base h₀ : Heap} {L : Addr} {m : Str → Option Value} {news : List (Addr × Obj)} {s : Shared} {Q E : Value → Shared → Prop}
    (B : Below A₀ base outer h₀) (F : Fr h₀ L s.heap m) (X : (hd.heap_39 w.params).In h₀) (N : News h₀ L s.heap news) (T : Top hd.view_39 (looseW hd.view_39 []) mean mg mb h₀) (hk : cs.kind = .function) (hdp : dp + 1 < recursionLimit)
    (hret : ∀ (c : Nat) t h' tk', Fr h₀ L h' m → News h₀ L h' news → Q (.str ⟨#[c]⟩ t) { s with heap := h', toks := tk' }) :
    wpAny (model Challenge.rw_oh0019_01.row.prog w) (ktrTop dp un gd cn cs L a ccd cl outer) (call (.ref 70) [.int x tx]) Q E s := by
  w_on
  w_strict (
    revert X
    k_fill
    intro X
    refine wpAny_call ?_
    k_dflt cell_enter
    k_steps
    all_goals exact hret _ _ _ _ (by k_asm) (by k_asm))
end Mine
end
section
open PySem PySem.W PyProof.Rows
namespace Mine
set_option maxRecDepth 100000
set_option maxHeartbeats 8000000
set_option linter.unusedVariables false
theorem c_names {w : World} {mean : ExcName → Option Value} {mg mb : Str → Option Value} {x : Int} {tx : Tok} (hx : 0 ≤ x ∧ x ≤ 4)
    {dp un : Nat} {gd : Option (List Code)} {cn : Str} {cs : Scope} {a : Addr} {ccd : Value} {cl : List (Str × Addr)} {outer : List Env} {A₀ : Around} {base h₀ : Heap} {L : Addr} {m : Str → Option Value} {news : List (Addr × Obj)} {s : Shared} {Q E : Value → Shared → Prop}
    (B : Below A₀ base outer h₀) (F : Fr h₀ L s.heap m) (X : (hd.heap_39 w.params).In h₀) (N : News h₀ L s.heap news) (T : Top hd.view_39 (looseW hd.view_39 []) mean mg mb h₀) (hk : cs.kind = .function) (hdp : dp + 1 < recursionLimit)
    (hret : ∀ D o kvs h' tk', Fr h₀ L h' m → News h₀ L h' ((D, o) :: news) → (∀ p ∈ news, p.1 < D) → (D == sysModules) = false → o.IsDictOf (PySem.strKind Challenge.rw_oh0019_01.row.prog w) kvs → Tab (nmTab x) kvs → Q (.ref D) { s with heap := h', toks := tk' }) :
    wpAny (model Challenge.rw_oh0019_01.row.prog w) (ktrTop dp un gd cn cs L a ccd cl outer) (call (.ref 77) [.int x tx]) Q E s := by
  w_on
  have hx' : x = 0 ∨ x = 1 ∨ x = 2 ∨ x = 3 ∨ x = 4 := by omega
  rcases hx' with e | e | e | e | e
  all_goals subst e
  all_goals w_strict (
    revert X
    k_fill
    intro X
    refine wpAny_call ?_
    k_dflt cell_enter
    k_steps
    all_goals refine hret _ _ _ _ _ (by k_asm) (by k_asm) (by k_asm) (by k_asm) (by k_asm) ?_
    with_unfolding_all first | exact ⟨_, _, rfl, _, _, rfl, _, _, rfl, rfl⟩ | exact ⟨_, _, rfl, _, _, rfl, _, _, rfl, _, _, rfl, rfl⟩ | exact ⟨_, _, rfl, _, _, rfl, _, _, rfl, _, _, rfl, _, _, rfl, _, _, rfl, rfl⟩ | exact ⟨_, _, rfl, _, _, rfl, _, _, rfl, _, _, rfl, _, _, rfl, _, _, rfl, _, _, rfl, rfl⟩
    )
end Mine
end
section
open PySem PySem.W PyProof.Rows
namespace Mine
set_option maxRecDepth 100000
set_option maxHeartbeats 8000000
set_option linter.unusedVariables false
local macro_rules | `(tactic| walk_at "exec If") => `(tactic| (k_here; (rename Fr _ _ _ _ => F'); (rename News _ _ _ _ => N'); (apply if_rep F' N'; (case hold => with_unfolding_all rfl); (case hcS => first | exact of_amp | exact of_lt | exact of_gt | exact of_quo | exact of_cr | exact of_lf | exact of_tab); (case _hrS => first | exact of_amp' | exact of_lt' | exact of_gt' | exact of_quo' | exact of_xD | exact of_xA | exact of_x9 | exact of_13 | exact of_10 | exact of_09))))
local macro_rules | `(tactic| walk_at "JoinB1") => `(tactic| ((show ∀ _, _ → _); intro s' hJ'; obtain ⟨h', tk', e', htk', F'', N''⟩ := AtJ.at_ hJ'; subst e'))
local macro_rules | `(tactic| walk_at "JoinB2") => `(tactic| ((show ∀ _ _, _ → _); intro t' s' hJ'; obtain ⟨h', tk', e', htk', F'', N''⟩ := AtJ.at_ hJ'; subst e'))
local macro_rules | `(tactic| walk_at "JoinS") => `(tactic| exact ⟨rfl, _, ⟨⟨_, _, rfl, Nat.succ_pos _, by assumption, by assumption⟩⟩⟩)
local macro_rules | `(tactic| walk_at "JoinC") => `(tactic| exact ⟨rfl, ⟨⟨_, _, rfl, Nat.succ_pos _, by assumption, by assumption⟩⟩⟩)
local macro_rules | `(tactic| walk_at "call builtin:str.replace") => `(tactic| (k_here; (refine replace_at (by first | exact of_amp | exact of_lt | exact of_gt | exact of_quo | exact of_cr | exact of_lf | exact of_tab) (by first | exact of_amp' | exact of_lt' | exact of_gt' | exact of_quo' | exact of_xD | exact of_xA | exact of_x9 | exact of_13 | exact of_10 | exact of_09) (by rfl) (by assumption) (by decide) (by (show @Ne Nat _ _); dsimp only; omega) (by (show @Ne Nat _ _); dsimp only; omega) (by (show @Ne Nat _ _); dsimp only; omega) (by decide) ?_; intro _ _)))
def tbCdata : List (Nat × List Nat) := [(38, [38, 97, 109, 112, 59]), (60, [38, 108, 116, 59]), (62, [38, 103, 116, 59])]
def tbAttrib : List (Nat × List Nat) := [(38, [38, 97, 109, 112, 59]), (60, [38, 108, 116, 59]), (62, [38, 103, 116, 59]), (34, [38, 113, 117, 111, 116, 59]), (13, [38, 35, 49, 51, 59]), (10, [38, 35, 49, 48, 59]), (9, [38, 35, 48, 57, 59])]
def tbHtml : List (Nat × List Nat) := [(38, [38, 97, 109, 112, 59]), (62, [38, 103, 116, 59]), (34, [38, 113, 117, 111, 116, 59])]
def tbCdata14 : List (Nat × List Nat) := [(38, [38, 97, 109, 112, 59]), (60, [38, 108, 116, 59]), (62, [38, 103, 116, 59]), (13, [38, 35, 120, 68, 59])]
def tbAttrib14 : List (Nat × List Nat) := [(38, [38, 97, 109, 112, 59]), (60, [38, 108, 116, 59]), (34, [38, 113, 117, 111, 116, 59]), (9, [38, 35, 120, 57, 59]), (10, [38, 35, 120, 65, 59]), (13, [38, 35, 120, 68, 59])]
theorem c_cdata {w : World} {mean : ExcName → Option Value} {mg mb : Str → Option Value} {l : List Nat} {tx : Tok} (hl : l.length ≤ 1000)
    {dp un : Nat} {gd : Option (List Code)} {cn : Str} {cs : Scope} {a : Addr} {ccd : Value} {cl : List (Str × Addr)} {outer : List Env} {A₀ : Around} {base h₀ : Heap} {L : Addr} {m : Str → Option Value} {news : List (Addr × Obj)} {s : Shared} {Q E : Value → Shared → Prop}
    (B : Below A₀ base outer h₀) (F : Fr h₀ L s.heap m) (X : (hd.heap_39 w.params).In h₀) (N : News h₀ L s.heap news) (T : Top hd.view_39 (looseW hd.view_39 []) mean mg mb h₀) (hk : cs.kind = .function) (hdp : dp + 1 < recursionLimit)
    (hret : ∀ t h' tk', Fr h₀ L h' m → News h₀ L h' news → Q (.str ⟨(subs tbCdata l).toArray⟩ t) { s with heap := h', toks := tk' }) :
    wpAny (model Challenge.rw_oh0019_01.row.prog w) (ktrTop dp un gd cn cs L a ccd cl outer) (call (.ref 35) [.str ⟨l.toArray⟩ tx]) Q E s := by
  w_on
  change wpAny _ _ (call _ [.str ⟨(subs [] l).toArray⟩ tx]) Q E s
  w_strict (
    revert X
    k_fill
    intro X
    refine wpAny_call ?_
    k_dflt cell_enter
    k_steps
    all_goals exact hret _ _ _ (by k_asm) (by k_asm))
theorem c_attrib {w : World} {mean : ExcName → Option Value} {mg mb : Str → Option Value} {l : List Nat} {tx : Tok} (hl : l.length ≤ 1000)
    {dp un : Nat} {gd : Option (List Code)} {cn : Str} {cs : Scope} {a : Addr} {ccd : Value} {cl : List (Str × Addr)} {outer : List Env} {A₀ : Around} {base h₀ : Heap} {L : Addr} {m : Str → Option Value} {news : List (Addr × Obj)} {s : Shared} {Q E : Value → Shared → Prop}
    (B : Below A₀ base outer h₀) (F : Fr h₀ L s.heap m) (X : (hd.heap_39 w.params).In h₀) (N : News h₀ L s.heap news) (T : Top hd.view_39 (looseW hd.view_39 []) mean mg mb h₀) (hk : cs.kind = .function) (hdp : dp + 1 < recursionLimit)
    (hret : ∀ t h' tk', Fr h₀ L h' m → News h₀ L h' news → Q (.str ⟨(subs tbAttrib l).toArray⟩ t) { s with heap := h', toks := tk' }) :
    wpAny (model Challenge.rw_oh0019_01.row.prog w) (ktrTop dp un gd cn cs L a ccd cl outer) (call (.ref 42) [.str ⟨l.toArray⟩ tx]) Q E s := by
  w_on
  change wpAny _ _ (call _ [.str ⟨(subs [] l).toArray⟩ tx]) Q E s
  w_strict (
    revert X
    k_fill
    intro X
    refine wpAny_call ?_
    k_dflt cell_enter
    k_steps
    all_goals exact hret _ _ _ (by k_asm) (by k_asm))
theorem c_html {w : World} {mean : ExcName → Option Value} {mg mb : Str → Option Value} {l : List Nat} {tx : Tok} (hl : l.length ≤ 1000)
    {dp un : Nat} {gd : Option (List Code)} {cn : Str} {cs : Scope} {a : Addr} {ccd : Value} {cl : List (Str × Addr)} {outer : List Env} {A₀ : Around} {base h₀ : Heap} {L : Addr} {m : Str → Option Value} {news : List (Addr × Obj)} {s : Shared} {Q E : Value → Shared → Prop}
    (B : Below A₀ base outer h₀) (F : Fr h₀ L s.heap m) (X : (hd.heap_39 w.params).In h₀) (N : News h₀ L s.heap news) (T : Top hd.view_39 (looseW hd.view_39 []) mean mg mb h₀) (hk : cs.kind = .function) (hdp : dp + 1 < recursionLimit)
    (hret : ∀ t h' tk', Fr h₀ L h' m → News h₀ L h' news → Q (.str ⟨(subs tbHtml l).toArray⟩ t) { s with heap := h', toks := tk' }) :
    wpAny (model Challenge.rw_oh0019_01.row.prog w) (ktrTop dp un gd cn cs L a ccd cl outer) (call (.ref 49) [.str ⟨l.toArray⟩ tx]) Q E s := by
  w_on
  change wpAny _ _ (call _ [.str ⟨(subs [] l).toArray⟩ tx]) Q E s
  w_strict (
    revert X
    k_fill
    intro X
    refine wpAny_call ?_
    k_dflt cell_enter
    k_steps
    all_goals exact hret _ _ _ (by k_asm) (by k_asm))
theorem c_cdata14 {w : World} {mean : ExcName → Option Value} {mg mb : Str → Option Value} {l : List Nat} {tx : Tok} (hl : l.length ≤ 1000)
    {dp un : Nat} {gd : Option (List Code)} {cn : Str} {cs : Scope} {a : Addr} {ccd : Value} {cl : List (Str × Addr)} {outer : List Env} {A₀ : Around} {base h₀ : Heap} {L : Addr} {m : Str → Option Value} {news : List (Addr × Obj)} {s : Shared} {Q E : Value → Shared → Prop}
    (B : Below A₀ base outer h₀) (F : Fr h₀ L s.heap m) (X : (hd.heap_39 w.params).In h₀) (N : News h₀ L s.heap news) (T : Top hd.view_39 (looseW hd.view_39 []) mean mg mb h₀) (hk : cs.kind = .function) (hdp : dp + 1 < recursionLimit)
    (hret : ∀ t h' tk', Fr h₀ L h' m → News h₀ L h' news → Q (.str ⟨(subs tbCdata14 l).toArray⟩ t) { s with heap := h', toks := tk' }) :
    wpAny (model Challenge.rw_oh0019_01.row.prog w) (ktrTop dp un gd cn cs L a ccd cl outer) (call (.ref 56) [.str ⟨l.toArray⟩ tx]) Q E s := by
  w_on
  change wpAny _ _ (call _ [.str ⟨(subs [] l).toArray⟩ tx]) Q E s
  w_strict (
    revert X
    k_fill
    intro X
    refine wpAny_call ?_
    k_dflt cell_enter
    k_steps
    all_goals exact hret _ _ _ (by k_asm) (by k_asm))
theorem c_attrib14 {w : World} {mean : ExcName → Option Value} {mg mb : Str → Option Value} {l : List Nat} {tx : Tok} (hl : l.length ≤ 1000)
    {dp un : Nat} {gd : Option (List Code)} {cn : Str} {cs : Scope} {a : Addr} {ccd : Value} {cl : List (Str × Addr)} {outer : List Env} {A₀ : Around} {base h₀ : Heap} {L : Addr} {m : Str → Option Value} {news : List (Addr × Obj)} {s : Shared} {Q E : Value → Shared → Prop}
    (B : Below A₀ base outer h₀) (F : Fr h₀ L s.heap m) (X : (hd.heap_39 w.params).In h₀) (N : News h₀ L s.heap news) (T : Top hd.view_39 (looseW hd.view_39 []) mean mg mb h₀) (hk : cs.kind = .function) (hdp : dp + 1 < recursionLimit)
    (hret : ∀ t h' tk', Fr h₀ L h' m → News h₀ L h' news → Q (.str ⟨(subs tbAttrib14 l).toArray⟩ t) { s with heap := h', toks := tk' }) :
    wpAny (model Challenge.rw_oh0019_01.row.prog w) (ktrTop dp un gd cn cs L a ccd cl outer) (call (.ref 63) [.str ⟨l.toArray⟩ tx]) Q E s := by
  w_on
  change wpAny _ _ (call _ [.str ⟨(subs [] l).toArray⟩ tx]) Q E s
  w_strict (
    revert X
    k_fill
    intro X
    refine wpAny_call ?_
    k_dflt cell_enter
    k_steps
    all_goals exact hret _ _ _ (by k_asm) (by k_asm))
end Mine
end
section
open PySem PySem.W PyProof.Rows
namespace Mine
set_option maxRecDepth 100000
set_option maxHeartbeats 8000000
set_option linter.unusedVariables false
/-- the replacements of a hand -/
def tb (x : Int) : List (Nat × List Nat) := if x = 0 then tbCdata else if x = 1 then tbCdata14 else if x = 2 then tbHtml else if x = 3 then tbAttrib14 else tbAttrib
local macro_rules | `(tactic| walk_at "call ref") => `(tactic| (k_here; first
  | (k_dflt (refine' c_cdata ?hl ?B ?F ?X ?N ?T ?hk ?hdp ?_)); ((case hl => assumption); (case B => k_asm); (case F => k_asm); (case X => k_asm); (case N => k_asm); (case T => k_asm); (case hk => first | exact rfl | assumption); (case hdp => ktr_room); intro t9 h9 tk9 F9 N9; (try dsimp only))
  | (k_dflt (refine' c_cdata14 ?hl ?B ?F ?X ?N ?T ?hk ?hdp ?_)); ((case hl => assumption); (case B => k_asm); (case F => k_asm); (case X => k_asm); (case N => k_asm); (case T => k_asm); (case hk => first | exact rfl | assumption); (case hdp => ktr_room); intro t9 h9 tk9 F9 N9; (try dsimp only))
  | (k_dflt (refine' c_html ?hl ?B ?F ?X ?N ?T ?hk ?hdp ?_)); ((case hl => assumption); (case B => k_asm); (case F => k_asm); (case X => k_asm); (case N => k_asm); (case T => k_asm); (case hk => first | exact rfl | assumption); (case hdp => ktr_room); intro t9 h9 tk9 F9 N9; (try dsimp only))
  | (k_dflt (refine' c_attrib14 ?hl ?B ?F ?X ?N ?T ?hk ?hdp ?_)); ((case hl => assumption); (case B => k_asm); (case F => k_asm); (case X => k_asm); (case N => k_asm); (case T => k_asm); (case hk => first | exact rfl | assumption); (case hdp => ktr_room); intro t9 h9 tk9 F9 N9; (try dsimp only))
  | (k_dflt (refine' c_attrib ?hl ?B ?F ?X ?N ?T ?hk ?hdp ?_)); ((case hl => assumption); (case B => k_asm); (case F => k_asm); (case X => k_asm); (case N => k_asm); (case T => k_asm); (case hk => first | exact rfl | assumption); (case hdp => ktr_room); intro t9 h9 tk9 F9 N9; (try dsimp only))))
theorem c_written {w : World} {mean : ExcName → Option Value} {mg mb : Str → Option Value} {x : Int} {l : List Nat} {tx ty : Tok} (hx : 0 ≤ x ∧ x ≤ 4) (hl : l.length ≤ 1000)
    {dp un : Nat} {gd : Option (List Code)} {cn : Str} {cs : Scope} {a : Addr} {ccd : Value} {cl : List (Str × Addr)} {outer : List Env} {A₀ : Around} {base h₀ : Heap} {L : Addr} {m : Str → Option Value} {news : List (Addr × Obj)} {s : Shared} {Q E : Value → Shared → Prop}
    (B : Below A₀ base outer h₀) (F : Fr h₀ L s.heap m) (X : (hd.heap_39 w.params).In h₀) (N : News h₀ L s.heap news) (T : Top hd.view_39 (looseW hd.view_39 []) mean mg mb h₀) (hk : cs.kind = .function) (hdp : dp + 2 < recursionLimit)
    (hret : ∀ t h' tk', Fr h₀ L h' m → News h₀ L h' news → Q (.str ⟨(subs (tb x) l).toArray⟩ t) { s with heap := h', toks := tk' }) :
    wpAny (model Challenge.rw_oh0019_01.row.prog w) (ktrTop dp un gd cn cs L a ccd cl outer) (call (.ref 84) [.int x tx, .str ⟨l.toArray⟩ ty]) Q E s := by
  w_on
  have hx' : x = 0 ∨ x = 1 ∨ x = 2 ∨ x = 3 ∨ x = 4 := by omega
  rcases hx' with e | e | e | e | e
  all_goals subst e
  all_goals w_strict (
    revert X
    k_fill
    intro X
    refine wpAny_call ?_
    k_dflt cell_enter
    k_steps
    all_goals exact hret _ _ _ (by k_asm) (by k_asm))
end Mine
end
section
open PySem PySem.W PySem.Calls PyProof.Rows
namespace Mine
/-- a sign's reference by a hand -/
def assoc : List (Nat × List Nat) → Nat → Option (List Nat)
  | [], _ => none
  | (c, r) :: t, k => if k = c then some r else assoc t k
def nm (x : Int) (c : Nat) : Option (List Nat) := assoc (tb x) c
theorem look_assoc (t : List (Nat × List Nat)) (k : Nat) : look t k = (assoc t k).getD [k] := by
  induction t with
  | nil => rfl
  | cons p t ih =>
    obtain ⟨c, r⟩ := p
    simp only [look, assoc]
    split
    · rfl
    · exact ih
theorem one_eq (a b : Nat) : ((⟨#[a]⟩ : Str) = ⟨#[b]⟩) ↔ a = b := by simp
theorem tab_nm {x : Int} (hx : 0 ≤ x ∧ x ≤ 4) (c : Nat) : tabAt (nmTab x) ⟨#[c]⟩ = (nm x c).map fun r => ⟨r.toArray⟩ := by
  have hx' : x = 0 ∨ x = 1 ∨ x = 2 ∨ x = 3 ∨ x = 4 := by omega
  rcases hx' with e | e | e | e | e
  all_goals subst e
  all_goals simp only [nmTab, tb, nm, tbCdata, tbCdata14, tbHtml, tbAttrib14, tbAttrib, if_true, Int.reduceEq, if_false, of_amp, of_lt, of_gt, of_quo, of_cr, of_lf, of_tab, of_amp', of_lt', of_gt', of_quo', of_xD, of_xA, of_x9, of_13, of_10, of_09, tabAt, assoc, one_eq, eq_comm (a := c)]
  all_goals (repeat' split) <;> first | rfl | omega
/-- the dict of a hand -/
def IsNames (w : World) (x : Int) (o : Obj) : Prop := (0 ≤ x ∧ x ≤ 4) ∧ ∃ kvs, o.IsDictOf (PySem.strKind Challenge.rw_oh0019_01.row.prog w) kvs ∧ Tab (nmTab x) kvs
theorem IsNames.at {w : World} {x : Int} {o : Obj} (h : IsNames w x o) : ∃ kvs, o.IsDictOf (PySem.strKind Challenge.rw_oh0019_01.row.prog w) kvs ∧ ∀ c : Nat, match nm x c with | some r => ∃ t, valueAt kvs ⟨#[c]⟩ = some (.str ⟨r.toArray⟩ t) | none => valueAt kvs ⟨#[c]⟩ = none := by
  obtain ⟨hx, kvs, hd, ht⟩ := h
  refine ⟨kvs, hd, fun c => ?_⟩
  have h1 := ht.at ⟨#[c]⟩
  rw [tab_nm hx] at h1
  cases hn : nm x c with
  | none => rw [hn] at h1; exact h1
  | some r => rw [hn] at h1; exact h1
def refs : List (List Nat) := [[38, 97, 109, 112, 59], [38, 108, 116, 59], [38, 103, 116, 59], [38, 113, 117, 111, 116, 59], [38, 35, 120, 68, 59], [38, 35, 120, 65, 59], [38, 35, 120, 57, 59], [38, 35, 49, 51, 59], [38, 35, 49, 48, 59], [38, 35, 48, 57, 59]]
theorem assoc_mem {t : List (Nat × List Nat)} {k : Nat} {r : List Nat} (h : assoc t k = some r) : (k, r) ∈ t := by
  induction t with
  | nil => cases h
  | cons p t ih =>
    obtain ⟨c, q⟩ := p
    simp only [assoc] at h
    split at h
    · rename_i e; subst e; cases h; exact List.mem_cons_self
    · exact List.mem_cons_of_mem _ (ih h)
theorem tb_cases (x : Int) : tb x = tbCdata ∨ tb x = tbCdata14 ∨ tb x = tbHtml ∨ tb x = tbAttrib14 ∨ tb x = tbAttrib := by
  unfold tb
  split
  · exact .inl rfl
  · split
    · exact .inr (.inl rfl)
    · split
      · exact .inr (.inr (.inl rfl))
      · split
        · exact .inr (.inr (.inr (.inl rfl)))
        · exact .inr (.inr (.inr (.inr rfl)))
theorem tb_all (x : Int) : ∀ p ∈ tb x, p.2 ∈ refs := by
  rcases tb_cases x with e | e | e | e | e <;> rw [e] <;> decide
theorem tb_ok (x : Int) : okT (tb x) = true := by
  rcases tb_cases x with e | e | e | e | e <;> rw [e] <;> decide
theorem nm_refs {x : Int} {c : Nat} {r : List Nat} (h : nm x c = some r) : r ∈ refs := tb_all x _ (assoc_mem h)
theorem refs_slice : ∀ r ∈ refs, Txt.slice ⟨r.toArray⟩ (some 1) none = ⟨(r.drop 1).toArray⟩ := by decide +kernel
theorem refs_len : ∀ r ∈ refs, r.length ≤ 6 := by decide
theorem nm_slice {x : Int} {c : Nat} (h : (nm x c).isSome = true) : Txt.slice ⟨((nm x c).getD []).toArray⟩ (some 1) none = ⟨(((nm x c).getD []).drop 1).toArray⟩ := by
  cases hn : nm x c with
  | none => rw [hn] at h; cases h
  | some r => exact refs_slice r (nm_refs hn)
theorem nm_len (x : Int) (c : Nat) : ((nm x c).getD []).length ≤ 6 := by
  cases hn : nm x c with
  | none => simp
  | some r => exact refs_len r (nm_refs hn)
section
variable {w : World} {A : Around} {E : Value → Shared → Prop} {s : Shared} {h₀ : Heap} {L D : Addr} {news : List (Addr × Obj)} {o : Obj} {x : Int} {c : Nat} {t : Tok} {Q : Value → Shared → Prop}
theorem dict_in (N : News h₀ L s.heap news) (hm : (D, o) ∈ news) (ho : IsNames w x o) (lo : (D == sysModules) = false) (h : Q (.bool (nm x c).isSome) { s with toks := s.toks + 1 }) :
    wpAny (model Challenge.rw_oh0019_01.row.prog w) A (compareOp .In (.str ⟨#[c]⟩ t) (.ref D)) Q E s := by
  obtain ⟨kvs, hd, ha⟩ := ho.at
  refine kda_in N hm hd lo (strKind_is _ _ _ _) (nm x c).isSome ?_ h
  have h1 := ha c
  cases hn : nm x c with
  | none => rw [hn] at h1; simp only at h1; rw [h1]; rfl
  | some r => rw [hn] at h1; obtain ⟨t, h1⟩ := h1; rw [h1]; rfl
theorem dict_notin (N : News h₀ L s.heap news) (hm : (D, o) ∈ news) (ho : IsNames w x o) (lo : (D == sysModules) = false) (h : Q (.bool (!(nm x c).isSome)) { s with toks := s.toks + 1 }) :
    wpAny (model Challenge.rw_oh0019_01.row.prog w) A (compareOp .NotIn (.str ⟨#[c]⟩ t) (.ref D)) Q E s := by
  obtain ⟨kvs, hd, ha⟩ := ho.at
  refine kdg_notin N hm hd lo (strKind_is _ _ _ _) (nm x c).isSome ?_ h
  have h1 := ha c
  cases hn : nm x c with
  | none => rw [hn] at h1; simp only at h1; rw [h1]; rfl
  | some r => rw [hn] at h1; obtain ⟨t, h1⟩ := h1; rw [h1]; rfl
theorem dict_item {value slice : PySem.Expr} (N : News h₀ L s.heap news) (hm : (D, o) ∈ news) (ho : IsNames w x o) (hs : (nm x c).isSome = true) (h : ∀ t', Q (.str ⟨((nm x c).getD []).toArray⟩ t') { s with toks := s.toks + 1 })
    (hs' : subscripted slice false (.ref D) (.str ⟨#[c]⟩ t) = operate [.ref D, (.str ⟨#[c]⟩ t)] (getItem (.ref D) (.str ⟨#[c]⟩ t)) := by with_unfolding_all rfl) (hg : ∀ r, letTemporaryGo value (.ref D) r = pure () := by intro _; with_unfolding_all rfl) :
    wpAny (model Challenge.rw_oh0019_01.row.prog w) A (subscriptTail value slice (.ref D) (.str ⟨#[c]⟩ t)) Q E s := by
  obtain ⟨kvs, hd, ha⟩ := ho.at
  have h1 := ha c
  cases hn : nm x c with
  | none => rw [hn] at hs; cases hs
  | some r =>
    rw [hn] at h1
    obtain ⟨t', h1⟩ := h1
    refine kda_item N hm hd (strKind_is _ _ _ _) h1 ?_ hs' hg
    have h2 := h t'
    rw [hn] at h2
    exact h2
theorem slice_one {m : Str → Option Value} {value slice : PySem.Expr} {ui : Tok} (F : Fr h₀ L s.heap m) (N : News h₀ L s.heap news) (hs : (nm x c).isSome = true)
    (h : ∀ h' t' k, Fr h₀ L h' m → News h₀ L h' news → Q (.str ⟨(((nm x c).getD []).drop 1).toArray⟩ t') { s with heap := h', toks := k })
    (hs' : subscripted slice false (.str ⟨((nm x c).getD []).toArray⟩ t) (.ref s.heap.objs.size) = operate [.ref s.heap.objs.size, .str ⟨((nm x c).getD []).toArray⟩ t] (getItem (.str ⟨((nm x c).getD []).toArray⟩ t) (.ref s.heap.objs.size)) := by with_unfolding_all rfl)
    (ht : ∀ r, letTemporaryGo value (.str ⟨((nm x c).getD []).toArray⟩ t) r = pure () := by intro _; with_unfolding_all rfl) :
    wpAny (model Challenge.rw_oh0019_01.row.prog w) A (subscriptTail value slice (.str ⟨((nm x c).getD []).toArray⟩ t) (.ref s.heap.objs.size)) Q E { s with heap := s.heap.push { cls := .type "slice", data := .fields #[.int 1 ui, .none, .none] } } := by
  refine slice_strN_sn F N (fun h' t' k a b => ?_) hs' ht ?_
  · rw [nm_slice hs]; exact h h' t' k a b
  · show ((nm x c).getD []).toArray.size ≤ sizeLine
    have := nm_len x c
    rw [List.size_toArray, sizeLine_eq]; omega
theorem add_amp {l : List Nat} {t u : Tok} (hl : l.length ≤ 1000) (h : ∀ t' tk, Q (.str ⟨([38, 97, 109, 112, 59] ++ l).toArray⟩ t') { s with toks := tk }) :
    wpAny (model Challenge.rw_oh0019_01.row.prog w) A (binaryOp .Add (.str (Str.ofString "&amp;") t) (.str ⟨l.toArray⟩ u)) Q E s := by
  rw [of_amp']
  refine PyProof.Rows.add_str (fun t' tk => ?_) ?_
  · have e : (⟨[38, 97, 109, 112, 59].toArray⟩ : Str) ++ ⟨l.toArray⟩ = ⟨([38, 97, 109, 112, 59] ++ l).toArray⟩ := by
      show Str.mk _ = Str.mk _
      rw [List.append_toArray]
    rw [e]; exact h t' tk
  · show 5 + l.toArray.size ≤ sizeLine
    rw [List.size_toArray, sizeLine_eq]; omega
end
end Mine
end
section
open PySem PySem.W PyProof.Rows
namespace Mine
set_option maxRecDepth 100000
set_option maxHeartbeats 8000000
set_option linter.unusedVariables false
theorem nm_drop_len (x : Int) (c : Nat) : (((nm x c).getD []).drop 1).length ≤ 1000 := by
  have := nm_len x c
  rw [List.length_drop]; omega
local macro_rules | `(tactic| walk_at "compareOp In str ref") => `(tactic| (k_here; refine dict_in (by k_asm) (by k_mem) (by assumption) (by assumption) ?_))
local macro_rules | `(tactic| walk_at "subscriptTail") => `(tactic| (k_here; (with_reducible show wpAny _ _ (subscriptTail _ _ (Value.ref _) (Value.str _ _)) _ _ _); refine dict_item (by k_asm) (by k_mem) (by assumption) (by assumption) ?_; intro _))
local macro_rules | `(tactic| walk_at "subscriptTail") => `(tactic| (k_here; (with_reducible show wpAny _ _ (subscriptTail _ _ (Value.str _ _) (Value.ref _)) _ _ _); refine slice_one (s := ⟨_, _, _, _, _⟩) (by assumption) (by assumption) (by assumption) ?_; intro _ _ _ _ _))
local macro_rules | `(tactic| walk_at "binaryOp Add str str") => `(tactic| (k_here; refine add_amp (nm_drop_len _ _) ?_; intro _ _))
/-- what two hands write for a sign -/
def twice (x y : Int) (c : Nat) : List Nat := match nm x c with
  | some r => [38, 97, 109, 112, 59] ++ r.drop 1
  | none => (nm y c).getD [c]
theorem twice_a {x y : Int} {c : Nat} (h : (nm x c).isSome = true) : [38, 97, 109, 112, 59] ++ ((nm x c).getD []).drop 1 = twice x y c := by
  unfold twice
  cases hn : nm x c with
  | none => rw [hn] at h; cases h
  | some r => rfl
theorem twice_b {x y : Int} {c : Nat} (h : (nm x c).isSome = false) (h' : (nm y c).isSome = true) : (nm y c).getD [] = twice x y c := by
  unfold twice
  cases hn : nm x c with
  | some r => rw [hn] at h; cases h
  | none =>
    cases hy : nm y c with
    | none => rw [hy] at h'; cases h'
    | some r => rfl
theorem twice_c {x y : Int} {c : Nat} (h : (nm x c).isSome = false) (h' : (nm y c).isSome = false) : [c] = twice x y c := by
  unfold twice
  cases hn : nm x c with
  | some r => rw [hn] at h; cases h
  | none =>
    cases hy : nm y c with
    | none => rfl
    | some r => rw [hy] at h'; cases h'
theorem c_twice {w : World} {mean : ExcName → Option Value} {mg mb : Str → Option Value} {x y : Int} {c : Nat} {tx : Tok}
    {dp un : Nat} {gd : Option (List Code)} {cn : Str} {cs : Scope} {a : Addr} {ccd : Value} {cl : List (Str × Addr)} {outer : List Env} {A₀ : Around} {base h₀ : Heap} {L : Addr} {m : Str → Option Value} {news : List (Addr × Obj)} {s : Shared} {Q E : Value → Shared → Prop}
    {D D' : Addr} {o o' : Obj} (hm : (D, o) ∈ news) (ho : IsNames w x o) (lo : (D == sysModules) = false) (hm' : (D', o') ∈ news) (ho' : IsNames w y o') (lo' : (D' == sysModules) = false)
    (B : Below A₀ base outer h₀) (F : Fr h₀ L s.heap m) (X : (hd.heap_39 w.params).In h₀) (N : News h₀ L s.heap news) (T : Top hd.view_39 (looseW hd.view_39 []) mean mg mb h₀) (hk : cs.kind = .function) (hdp : dp + 1 < recursionLimit)
    (hret : ∀ t h' tk', Fr h₀ L h' m → News h₀ L h' news → Q (.str ⟨(twice x y c).toArray⟩ t) { s with heap := h', toks := tk' }) :
    wpAny (model Challenge.rw_oh0019_01.row.prog w) (ktrTop dp un gd cn cs L a ccd cl outer) (call (.ref 91) [.str ⟨#[c]⟩ tx, .ref D, .ref D']) Q E s := by
  w_on
  w_strict (
    revert X
    k_fill
    intro X
    refine wpAny_call ?_
    k_dflt cell_enter
    k_steps
    all_goals (first
      | (rw [twice_a (y := y) (by assumption)]; exact hret _ _ _ (by k_asm) (by k_asm))
      | (rw [twice_b (by assumption) (by assumption)]; exact hret _ _ _ (by k_asm) (by k_asm))
      | ((have e9 := congrArg (fun l => Str.mk (List.toArray l)) (twice_c (x := x) (y := y) (c := c) (by assumption) (by assumption))); (change Str.mk #[c] = _ at e9); rw [e9]; exact hret _ _ _ (by k_asm) (by k_asm))))
end Mine
end
section
open PySem PySem.W PySem.Calls PyProof.Rows
namespace Mine
/-- values that are texts of one sign each -/
inductive Sg : List Value → List Nat → Prop
  | nil : Sg [] []
  | cons {vs : List Value} {cs : List Nat} (c : Nat) (t : Tok) : Sg vs cs → Sg (.str ⟨#[c]⟩ t :: vs) (c :: cs)
theorem Sg.length : ∀ {vs : List Value} {cs : List Nat}, Sg vs cs → vs.length = cs.length
  | _, _, .nil => rfl
  | _, _, .cons _ _ h => by rw [List.length_cons, List.length_cons, h.length]
theorem Sg.append : ∀ {vs ws : List Value} {cs ds : List Nat}, Sg vs cs → Sg ws ds → Sg (vs ++ ws) (cs ++ ds)
  | _, _, _, _, .nil, g => g
  | _, _, _, _, .cons c t h, g => .cons c t (h.append g)
theorem Sg.snoc {vs : List Value} {cs : List Nat} (h : Sg vs cs) (c : Nat) (t : Tok) : Sg (vs ++ [.str ⟨#[c]⟩ t]) (cs ++ [c]) := h.append (.cons c t .nil)
theorem Sg.unsnoc : ∀ {cs : List Nat} {vs : List Value} {c : Nat}, Sg vs (cs ++ [c]) → ∃ vs' t, vs = vs' ++ [.str ⟨#[c]⟩ t] ∧ Sg vs' cs
  | [], _, _, .cons c t .nil => ⟨[], t, rfl, .nil⟩
  | _ :: cs, _, c, .cons d t h => by
    obtain ⟨vs', u, e, g⟩ := Sg.unsnoc (cs := cs) h
    exact ⟨_ :: vs', u, by rw [e]; rfl, .cons d t g⟩
theorem Sg.strs : ∀ {vs : List Value} {cs : List Nat}, Sg vs cs → StrsAre vs (cs.map fun c => ⟨#[c]⟩)
  | _, _, .nil => .nil
  | _, _, .cons c t h => .cons _ t h.strs
theorem Sg.of_strs : ∀ {cs : List Nat} {vs : List Value}, StrsAre vs (cs.map fun c => ⟨#[c]⟩) → Sg vs cs
  | [], _, .nil => .nil
  | _ :: cs, _, .cons _ t h => .cons _ t (Sg.of_strs h)
theorem Sg.get : ∀ {vs : List Value} {cs : List Nat}, Sg vs cs → ∀ (i : Nat) (h : i < vs.length), ∃ t, vs[i] = .str ⟨#[cs.getD i 0]⟩ t
  | _, _, .nil, _, h => absurd h (Nat.not_lt_zero _)
  | _, _, .cons c t g, 0, _ => ⟨t, rfl⟩
  | _, _, .cons c t g, i + 1, h => by
    obtain ⟨u, e⟩ := g.get i (Nat.lt_of_succ_lt_succ h)
    exact ⟨u, by simpa using e⟩
theorem Sg.eraseIdx : ∀ {vs : List Value} {cs : List Nat}, Sg vs cs → ∀ i, Sg (vs.eraseIdx i) (cs.eraseIdx i)
  | _, _, .nil, _ => .nil
  | _, _, .cons c t g, 0 => g
  | _, _, .cons c t g, i + 1 => .cons c t (g.eraseIdx i)
/-- is this value the text of the sign c -/
def isSign (c : Nat) : Value → Bool
  | .str x _ => x.cps.toList == [c]
  | _ => false
theorem isSign_str (c d : Nat) (t : Tok) : isSign c (.str ⟨#[d]⟩ t) = decide (d = c) := by
  show ([d] == [c]) = _
  by_cases h : d = c
  · subst h; simp
  · simp [h]
theorem Sg.eq {vs : List Value} {cs : List Nat} (h : Sg vs cs) (c : Nat) (t : Tok) : ∀ y ∈ vs, MeetsSeq.EqGives y (.str ⟨#[c]⟩ t) (isSign c y) := by
  induction h with
  | nil => intro y hy; cases hy
  | cons d u _ ih =>
    intro y hy
    rcases List.mem_cons.mp hy with rfl | hy
    · exact SeqRoads2.EqGives.str ⟨#[d]⟩ ⟨#[c]⟩ u t
    · exact ih y hy
/-- three lists of the call's own, apart from each other and from the rest -/
structure Apart3 (M A P : Addr) (tl : List (Addr × Obj)) : Prop where
  ma : M ≠ A
  mp : M ≠ P
  ap : A ≠ P
  tl : ∀ p ∈ tl, p.1 ≠ M ∧ p.1 ≠ A ∧ p.1 ≠ P
theorem Apart3.updM {M A P : Addr} {tl : List (Addr × Obj)} {o o' oa op : Obj} (h : Apart3 M A P tl) : Upd M o o' ((M, o) :: (A, oa) :: (P, op) :: tl) ((M, o') :: (A, oa) :: (P, op) :: tl) :=
  .head fun p hp => by
    rcases List.mem_cons.mp hp with rfl | hp
    · exact Ne.symm h.ma
    · rcases List.mem_cons.mp hp with rfl | hp
      · exact Ne.symm h.mp
      · exact (h.tl p hp).1
theorem Apart3.updA {M A P : Addr} {tl : List (Addr × Obj)} {o o' om op : Obj} (h : Apart3 M A P tl) : Upd A o o' ((M, om) :: (A, o) :: (P, op) :: tl) ((M, om) :: (A, o') :: (P, op) :: tl) :=
  .tail h.ma (.head fun p hp => by
    rcases List.mem_cons.mp hp with rfl | hp
    · exact Ne.symm h.ap
    · exact (h.tl p hp).2.1)
theorem Apart3.updP {M A P : Addr} {tl : List (Addr × Obj)} {o o' om oa : Obj} (h : Apart3 M A P tl) : Upd P o o' ((M, om) :: (A, oa) :: (P, o) :: tl) ((M, om) :: (A, oa) :: (P, o') :: tl) :=
  .tail h.mp (.tail h.ap (.head fun p hp => (h.tl p hp).2.2))
section
variable {prog : Program} {w : World} {Ar : Around} {E : Value → Shared → Prop} {s : Shared} {h₀ : Heap} {L M A P : Addr} {m : Str → Option Value} {tl : List (Addr × Obj)} {om oa op : Obj} {n : Nat} {Q : Value → Shared → Prop}
theorem pop3 {vs : List Value} {y : Value} (F : Fr h₀ L s.heap m) (N : News h₀ L s.heap ((M, om) :: (A, oa) :: (P, listOf (vs ++ [y]).toArray n) :: tl)) (ap : Apart3 M A P tl) (hz : vs.length ≤ 1000)
    (h : ∀ h', Fr h₀ L h' m → News h₀ L h' ((M, om) :: (A, oa) :: (P, listOf vs.toArray (n + 1)) :: tl) → Q y { s with heap := h' }) :
    wpAny (model prog w) Ar (call (.builtin "list.pop") [.ref P]) Q E s :=
  kl_pop F N (p := vs) (y := y) (kpa_last y vs) ap.updP (by
    show (vs ++ [y]).length ≤ sizeLine
    rw [List.length_append, List.length_singleton, sizeLine_eq]; omega) h
theorem app3 {vs : List Value} {y : Value} (F : Fr h₀ L s.heap m) (N : News h₀ L s.heap ((M, listOf vs.toArray n) :: (A, oa) :: (P, op) :: tl)) (ap : Apart3 M A P tl) (hz : vs.length ≤ 1000)
    (h : ∀ h', Fr h₀ L h' m → News h₀ L h' ((M, listOf (vs ++ [y]).toArray (n + 1)) :: (A, oa) :: (P, op) :: tl) → Q .none { s with heap := h' }) :
    wpAny (model prog w) Ar (call (.builtin "list.append") [.ref M, y]) Q E s := by
  refine append_K F N (ap.updM (o := listOf vs.toArray n) (o' := listOf (vs.toArray.push y) (n + 1))) (fun h' F' N' => ?_) (by
    show vs.toArray.size ≤ sizeLine
    rw [List.size_toArray, sizeLine_eq]; omega)
  rw [List.push_toArray] at N'
  exact h h' F' N'
theorem rem3 {vs : List Value} {cs : List Nat} {c : Nat} {t : Tok} (F : Fr h₀ L s.heap m) (N : News h₀ L s.heap ((M, om) :: (A, listOf vs.toArray n) :: (P, op) :: tl)) (ap : Apart3 M A P tl) (hs : Sg vs cs) (hz : vs.length ≤ 1000) (hh : Ar.in1.handled = none)
    (hit : c ∈ cs → ∀ h' vs', Fr h₀ L h' m → News h₀ L h' ((M, om) :: (A, listOf vs'.toArray (n + 1)) :: (P, op) :: tl) → Sg vs' (cs.erase c) → Q .none { s with heap := h' })
    (miss : c ∉ cs → ∀ h' tk e, Heap.NewExc s.heap h' e "ValueError" → E (.ref e) { s with heap := h', toks := tk }) :
    wpAny (model prog w) Ar (call (.builtin "list.remove") [.ref A, .str ⟨#[c]⟩ t]) Q E s := by
  have z := N (A, listOf vs.toArray n) (List.mem_cons_of_mem _ List.mem_cons_self)
  have he : ∀ y, y ∈ vs.toArray → MeetsSeq.EqGives y (.str ⟨#[c]⟩ t) (isSign c y) := fun y hy => hs.eq c t y (by simpa using hy)
  have hat : ∀ i (hi : i < vs.toArray.size), isSign c vs.toArray[i] = decide (cs.getD i 0 = c) := fun i hi => by
    obtain ⟨u, e⟩ := hs.get i (by simpa using hi)
    rw [List.getElem_toArray, e, isSign_str]
  have hlen := hs.length
  by_cases hc : c ∈ cs
  · have hj : cs.idxOf c < cs.length := List.idxOf_lt_length_of_mem hc
    obtain ⟨pre, post, e1, e2, a', b'⟩ := (ap.updA (o := listOf vs.toArray n) (o' := listOf (vs.eraseIdx (cs.idxOf c)).toArray (n + 1)) (om := om) (op := op)).split
    refine call_meets PySem.F.slot_list_remove ⟨_, z.1, rfl⟩ PySem.F.entry_list_remove (PySem.F.args_list_remove_2 _ _)
      (MeetsSeq.list_remove A vs.toArray n (.str ⟨#[c]⟩ t) (isSign c) he (cs.idxOf c) (by rw [List.size_toArray, hlen]; exact hj) ?_ ?_ (by rw [List.size_toArray, sizeLine_eq]; omega))
      ⟨z.1, hit hc _ (vs.eraseIdx (cs.idxOf c)) (F.change (Heap.SameBut.update ..) z.2.1 z.2.2) ?_ ?_⟩
    · rw [hat _ (by rw [List.size_toArray, hlen]; exact hj), decide_eq_true_eq, List.getD_eq_getElem?_getD, List.getElem?_eq_getElem hj]
      exact List.getElem_idxOf hj
    · intro i hi hlt
      rw [hat i hi, decide_eq_false_iff_not, List.getD_eq_getElem?_getD, List.getElem?_eq_getElem (Nat.lt_trans hlt hj)]
      exact List.not_of_lt_findIdx hlt |> fun q => by simpa using q
    · rw [e1] at N
      rw [e2]
      refine ki_turn _ N a' b' ?_ ?_
      · apply Array.toList_inj.mp
        simp
      · have h3 : (vs.eraseIdx (cs.idxOf c)).length = vs.length - 1 := List.length_eraseIdx_of_lt (by rw [hlen]; exact hj)
        rw [if_neg (by simp only [List.size_toArray, h3, beq_iff_eq]; omega)]
    · rw [List.erase_eq_eraseIdx_of_idxOf (i := cs.idxOf c) rfl]
      exact hs.eraseIdx _
  · refine call_meets PySem.F.slot_list_remove ⟨_, z.1, rfl⟩ PySem.F.entry_list_remove (PySem.F.args_list_remove_2 _ _)
      (MeetsSeq.list_remove_none A vs.toArray n (.str ⟨#[c]⟩ t) (isSign c) he ?_) ⟨z.1, hh, fun h' tk e hx => miss hc h' tk e hx⟩
    intro i hi
    have hi' : i < cs.length := by rw [← hlen]; simpa using hi
    rw [hat i hi, decide_eq_false_iff_not, List.getD_eq_getElem?_getD, List.getElem?_eq_getElem hi']
    exact fun q => hc (q ▸ List.getElem_mem hi')
end
end Mine
end
section
open PySem PySem.W PySem.Calls PyProof.Rows
namespace Mine
/-- the loop of the difference: the first list from behind -/
def run : List Nat → List Nat → List Nat → List Nat × List Nat
  | [], as, ms => (ms, as)
  | x :: r, as, ms => if x ∈ as then run r (as.erase x) ms else run r as (ms ++ [x])
section
variable {prog : Program} {w : World} {A : Around} {s : Shared} {h₀ : Heap} {L : Addr} {m : Str → Option Value} {env : Env} {news : List (Addr × Obj)} {K : Frag} {p : Program} {loose : List Str} {mean : ExcName → Option Value} {mg mb : Str → Option Value}
  {R : Result → Shared → Prop} {name qual : Str} {params : Arguments} {body : List Stmt} {scope : Scope} {dV kV doc pm cdv ct oc : Value} {an od : Option Addr} {osl : Array (Option Value)} {f : Addr} {args : Args} {binds : List (Str × Value)}
/-- a def with a try in it is entered from any frame of a function: the caller's frame goes onto the ledger -/
theorem enterT (F : Fr h₀ L s.heap m) (X₀ : K.In h₀) (N : News h₀ L s.heap news) (T : Top p loose mean mg mb h₀) (hf : env.frame = some L) (hke : env.scope.kind = .function)
    (ho : K.lookup f = some ⟨oc, od, .func (fnOf name qual params body scope dV kV doc pm an cdv ct), osl⟩) (hcd : codeIn K cdv qual = true) (hroom : A.depth < recursionLimit)
    (hbind : BindsTo s (fnOf name qual params body scope dV kV doc pm an cdv ct) args binds) (hloc : ∀ y ∈ binds, scope.names.lookup y.1 = some .local)
    (h : ∀ oL L' h₁, TI.Caller h₀ L m oL → TI.Frs [env] [(L, oL)] → (∀ p ∈ news, p.1 ≠ L) → Fr h₀ L' h₁ (fun y => binds.reverse.lookup y) → News h₀ L' h₁ (news ++ [(L, oL)]) →
      wpAny (model prog w) (A.deeper (envOf qual scope L' f cdv)) (execs body (envOf qual scope L' f cdv))
        (fun fl s' => TI.LeaveI s' (R (.ok (.ret (match fl with | .ret v => v | _ => .none))) s'))
        (fun e s' => wpAny (model prog w) (A.deeper (envOf qual scope L' f cdv)) (leaving (envOf qual scope L' f cdv) e) (fun _ s'' => R (.error e) s'') (fun e' s'' => R (.error e') s'') s')
        { s with heap := h₁, toks := s.toks + binds.length })
    (hco : scope.isCoroutine = false) (hgen : scope.isGenerator = false) (hk : scope.kind = .function)
    (hcell : ∀ x ∈ scope.names, x.2 ≠ .cell) : codeAny (model prog w) A (.call (.ref f) args) R s := by
  have X := X₀.keeps F.keep
  obtain ⟨oL, es, ep, hL, hLd, hLk, hLf⟩ := F.ns
  have hlt := Heap.lt_size hL
  have hmod : env.scope.kind ≠ .module := by rw [hke]; decide
  refine codeAny_call_def (fd := fnOf name qual params body scope dV kV doc pm an cdv ct) (body := body) (binds := binds) hroom (X _ _ ho) rfl (T.nolimit.keeps F.keep) (codeRec_of X hcd) rfl hbind hcell hloc (fun h₁ hns up => ?_) hco hgen hk
  refine h oL s.heap.objs.size h₁ ⟨fun h' sl e => ⟨_, es, ep, e, hLd, hLk, hLf⟩, ⟨es, ep, hLd⟩, F.above⟩ ⟨hmod, hf, ⟨es, ep, hLd⟩, trivial⟩ (fun p hp => (N p hp).2.1)
    ⟨hns, fun b o e => up b o (F.keep b o e), Nat.le_trans F.above (Nat.le_of_lt hlt)⟩ (fun p hp => ?_)
  rcases List.mem_append.mp hp with hp | hp
  · obtain ⟨h1, h2, h3⟩ := N p hp
    exact ⟨up _ _ h1, Nat.ne_of_lt (Heap.lt_size h1), h3⟩
  · rw [List.mem_singleton.mp hp]
    exact ⟨up _ _ hL, Nat.ne_of_lt hlt, Heap.get?_none_of_le F.above⟩
end
/-- the state at the head of the loop -/
structure StU (h₀ : Heap) (L' : Addr) (m₀ : Str → Option Value) (P A M : Addr) (news : List (Addr × Obj)) (L : Addr) (oL : Obj) (env : Env) (R : List Nat × List Nat) (vi : Option Value) (ve va vm : List Value) (ne na nm : Nat) (ce ca cm : List Nat) (sl : Array (Option Value)) (h : Heap) : Prop where
  fr : Fr h₀ L' h (fun y => if y = Str.ofString "item" then vi else if y = Str.ofString "missing" then some (.ref M) else m₀ y)
  news : News h₀ L' h ((M, listOf vm.toArray nm) :: (A, listOf va.toArray na) :: (P, listOf ve.toArray ne) :: (news ++ [(L, { oL with slots := sl })]))
  se : Sg ve ce
  sa : Sg va ca
  sm : Sg vm cm
  eq : run ce.reverse ca cm = R
  be : ce.length + cm.length ≤ 900
  ba : ca.length ≤ 900
  frs : TI.Frs [env] [(L, { oL with slots := sl })]
def TurnU (h₀ : Heap) (L' : Addr) (m₀ : Str → Option Value) (P A M : Addr) (news : List (Addr × Obj)) (L : Addr) (oL : Obj) (env : Env) (R : List Nat × List Nat) (s : Shared) (k : Nat) (f : Flow) (s₃ : Shared) : Prop :=
  f = .next ∧ ∃ h' tk vi ve va vm ne na nm ce ca cm sl, s₃ = { s with heap := h', toks := tk } ∧ ce.length < k ∧ StU h₀ L' m₀ P A M news L oL env R vi ve va vm ne na nm ce ca cm sl h'
def UB1 (P : Prop) : Prop := P
def UB2 (P : Prop) : Prop := P
theorem snoc_or {α : Type} : ∀ l : List α, l = [] ∨ ∃ r x, l = r ++ [x]
  | [] => .inl rfl
  | a :: l => by
    rcases snoc_or l with e | ⟨r, x, e⟩
    · exact .inr ⟨[], a, by rw [e]; rfl⟩
    · exact .inr ⟨a :: r, x, by rw [e]; rfl⟩
section
variable {prog : Program} {w : World} {Ar : Around} {E : Value → Shared → Prop} {s : Shared} {h₀ : Heap} {L' L P A M : Addr} {m₀ : Str → Option Value} {news : List (Addr × Obj)} {oL : Obj} {env : Env}
  {cn : Str} {cs : Scope} {ac : Addr} {ccd : Value}
theorem While_uld {body : List Stmt} {p1 pos : Pos} {Q : Flow → Shared → Prop} {ve va : List Value} {ne na nm : Nat} {ce ca : List Nat}
    (F : Fr h₀ L' s.heap (fun y => if y = Str.ofString "missing" then some (.ref M) else m₀ y)) (N : News h₀ L' s.heap ((M, listOf #[] nm) :: (A, listOf va.toArray na) :: (P, listOf ve.toArray ne) :: (news ++ [(L, oL)])))
    (hFs : TI.Frs [env] [(L, oL)]) (he : Sg ve ce) (ha : Sg va ca) (be : ce.length ≤ 900) (ba : ca.length ≤ 900) (hi : m₀ (Str.ofString "item") = none) (hp : m₀ (Str.ofString "expected") = some (.ref P))
    (turn : UB1 (∀ vi ve c t va vm ne na nm ce ca cm sl h₁ tk₁, StU h₀ L' m₀ P A M news L oL env (run ((ce ++ [c]).reverse) ca cm) vi (ve ++ [.str ⟨#[c]⟩ t]) va vm ne na nm (ce ++ [c]) ca cm sl h₁ → Sg ve ce →
      wpAny (model prog w) Ar (execs body (envOf cn cs L' ac ccd)) (TurnU h₀ L' m₀ P A M news L oL env (run ((ce ++ [c]).reverse) ca cm) s (ce.length + 1)) E { s with heap := h₁, toks := tk₁ }))
    (done : UB2 (∀ vi va' vm ne' na' nm' ca' cm sl h₁ tk₁, StU h₀ L' m₀ P A M news L oL env (cm, ca') vi [] va' vm ne' na' nm' [] ca' cm sl h₁ → (cm, ca') = run ce.reverse ca [] → Q .next { s with heap := h₁, toks := tk₁ }))
    (hk : cs.kind = .function) (hl : (envOf cn cs L' ac ccd).kindOf (Str.ofString "expected") = some .local)
    (hE : PassesOwn (model prog w) Ar (envOf cn cs L' ac ccd) E) :
    wpAny (model prog w) Ar (exec (.While (.Name (Str.ofString "expected") p1) body [] pos) (envOf cn cs L' ac ccd)) Q E s := by
  refine While_inv (fun n m₁ news₁ => ∃ vi ve va vm ne na nm ce' ca' cm sl, m₁ = (fun y => if y = Str.ofString "item" then vi else if y = Str.ofString "missing" then some (.ref M) else m₀ y) ∧
      news₁ = ((M, listOf vm.toArray nm) :: (A, listOf va.toArray na) :: (P, listOf ve.toArray ne) :: (news ++ [(L, { oL with slots := sl })])) ∧ n = ce'.length ∧ Sg ve ce' ∧ Sg va ca' ∧ Sg vm cm ∧ run ce'.reverse ca' cm = run ce.reverse ca [] ∧
      ce'.length + cm.length ≤ 900 ∧ ca'.length ≤ 900 ∧ TI.Frs [env] [(L, { oL with slots := sl })]) (n₀ := ce.length) F N ?_ ?_ hE
  · refine ⟨none, ve, va, [], ne, na, nm, ce, ca, [], oL.slots, ?_, rfl, rfl, he, ha, .nil, rfl, be, ba, hFs⟩
    funext y
    by_cases hy : y = Str.ofString "item"
    · subst hy
      rw [if_pos rfl, if_neg (by decide +kernel), hi]
    · rw [if_neg hy]
  · intro n m₁ news₁ h₁ tk₁ F₁ N₁ hJ
    obtain ⟨vi, ve₁, va₁, vm₁, ne₁, na₁, nm₁, ce₁, ca₁, cm₁, sl, rfl, rfl, rfl, hse, hsa, hsm, heq, hbe, hba, hfrs⟩ := hJ
    refine isTrue_plain (ld (v := .ref P) F₁ ?_ ?_ hk hl (by decide +kernel))
    · show (if Str.ofString "expected" = Str.ofString "item" then vi else if Str.ofString "expected" = Str.ofString "missing" then some (.ref M) else m₀ (Str.ofString "expected")) = _
      rw [if_neg (by decide +kernel), if_neg (by decide +kernel), hp]
    have hlen := hse.length
    refine wpAny_truthy_list (items := ve₁.toArray) (IsL.isList (n := ne₁) (N₁ _ (List.mem_cons_of_mem _ (List.mem_cons_of_mem _ List.mem_cons_self))).1) (by rw [List.size_toArray, hlen]; omega) ?_
    rcases snoc_or ce₁ with e | ⟨r, c, e⟩
    · subst e
      cases hse
      show Q .next _
      exact done vi va₁ vm₁ ne₁ na₁ nm₁ ca₁ cm₁ sl h₁ _ ⟨F₁, N₁, .nil, hsa, hsm, rfl, hbe, hba, hfrs⟩ heq
    · subst e
      obtain ⟨ve', t, e, hse'⟩ := hse.unsnoc
      subst e
      have hb : (!(ve' ++ [Value.str ⟨#[c]⟩ t]).toArray.isEmpty) = true := by simp
      rw [hb, if_pos rfl]
      have h9 := turn vi ve' c t va₁ vm₁ ne₁ na₁ nm₁ r ca₁ cm₁ sl h₁ (tk₁ + 1 + 1) ⟨F₁, N₁, hse, hsa, hsm, rfl, hbe, hba, hfrs⟩ hse'
      refine wpAny_mono h9 (fun f s₃ h₃ => ?_) fun _ _ e => e
      obtain ⟨hf, h', tk, vi', ve₂, va₂, vm₂, ne₂, na₂, nm₂, ce₂, ca₂, cm₂, sl₂, e, hlt, st⟩ := h₃
      refine ⟨hf, h', tk, _, _, ce₂.length, e, st.fr, st.news, by simpa using hlt, vi', ve₂, va₂, vm₂, ne₂, na₂, nm₂, ce₂, ca₂, cm₂, sl₂, rfl, rfl, rfl, st.se, st.sa, st.sm, st.eq.trans heq, st.be, st.ba, st.frs⟩
end
end Mine
end
section
open PySem PySem.W PyProof.Rows
namespace Mine
set_option maxRecDepth 100000
set_option maxHeartbeats 8000000
set_option linter.unusedVariables false
structure ApAll (M A P L : Addr) (news : List (Addr × Obj)) (oL : Obj) : Prop where
  all : ∀ sl : Array (Option Value), Apart3 M A P (news ++ [(L, { oL with slots := sl })])
theorem allLt_mem {d : Addr} : ∀ {l : List (Addr × Obj)}, AllLt d l → ∀ p ∈ l, p.1 < d
  | [], _, _, h => nomatch h
  | _ :: _, x, p, h => by
    rcases List.mem_cons.mp h with rfl | h
    · exact x.1
    · exact allLt_mem x.2 p h
theorem uld_apart {A P L : Addr} {news : List (Addr × Obj)} {oL : Obj} {va ve : Obj} {M : Addr} (hPA : P ≠ A) (hn : ∀ p ∈ news, p.1 ≠ A ∧ p.1 ≠ P) (hL : ∀ p ∈ (A, va) :: (P, ve) :: news, p.1 ≠ L)
    (hM : A < M ∧ P < M ∧ AllLt M (news ++ [(L, oL)])) : ApAll M A P L news oL := by
  obtain ⟨h1, h2, h3⟩ := hM
  have h4 := allLt_mem h3
  refine ⟨fun sl => ⟨Nat.ne_of_gt h1, Nat.ne_of_gt h2, Ne.symm hPA, fun p hp => ?_⟩⟩
  rcases List.mem_append.mp hp with hp | hp
  · exact ⟨Nat.ne_of_lt (h4 p (List.mem_append_left _ hp)), hn p hp⟩
  · rw [List.mem_singleton.mp hp]
    exact ⟨Nat.ne_of_lt (h4 (L, oL) (List.mem_append_right _ List.mem_cons_self)), Ne.symm (hL _ List.mem_cons_self), Ne.symm (hL _ (List.mem_cons_of_mem _ List.mem_cons_self))⟩
theorem same_put {i : Str} {a b : Option Value} {g : Str → Option Value} : (fun y => if y = i then a else if y = i then b else g y) = (fun y => if y = i then a else g y) := by
  funext y
  by_cases h : y = i
  · rw [if_pos h, if_pos h]
  · rw [if_neg h, if_neg h, if_neg h]
section
variable {s : Shared} {h₀ h : Heap} {L' L P A M : Addr} {m₀ : Str → Option Value} {news : List (Addr × Obj)} {oL : Obj} {env : Env} {vi vo : Option Value} {ve va vm : List Value} {ne na nm tk c : Nat} {ce ca cm : List Nat} {sl : Array (Option Value)}
theorem turn_hit (F : Fr h₀ L' h (fun y => if y = Str.ofString "item" then vi else if y = Str.ofString "item" then vo else if y = Str.ofString "missing" then some (.ref M) else m₀ y))
    (N : News h₀ L' h ((M, listOf vm.toArray nm) :: (A, listOf va.toArray na) :: (P, listOf ve.toArray ne) :: (news ++ [(L, { oL with slots := sl })])))
    (he : Sg ve ce) (ha : Sg va (ca.erase c)) (hm : Sg vm cm) (hc : c ∈ ca) (hbe : ce.length + 1 + cm.length ≤ 900) (hba : ca.length ≤ 900) (hfrs : TI.Frs [env] [(L, { oL with slots := sl })]) :
    TurnU h₀ L' m₀ P A M news L oL env (run (ce ++ [c]).reverse ca cm) s (ce.length + 1) .next { s with heap := h, toks := tk } := by
  rw [same_put] at F
  refine ⟨rfl, h, tk, vi, ve, va, vm, ne, na, nm, ce, ca.erase c, cm, sl, rfl, Nat.lt_succ_self _, F, N, he, ha, hm, ?_, by omega, ?_, hfrs⟩
  · rw [List.reverse_append]
    show _ = (if c ∈ ca then run ce.reverse (ca.erase c) cm else _)
    rw [if_pos hc]
  · rw [List.length_erase_of_mem hc]; omega
theorem turn_miss (F : Fr h₀ L' h (fun y => if y = Str.ofString "item" then vi else if y = Str.ofString "item" then vo else if y = Str.ofString "missing" then some (.ref M) else m₀ y))
    (N : News h₀ L' h ((M, listOf vm.toArray nm) :: (A, listOf va.toArray na) :: (P, listOf ve.toArray ne) :: (news ++ [(L, { oL with slots := sl })])))
    (he : Sg ve ce) (ha : Sg va ca) (hm : Sg vm (cm ++ [c])) (hc : c ∉ ca) (hbe : ce.length + 1 + cm.length ≤ 900) (hba : ca.length ≤ 900) (hfrs : TI.Frs [env] [(L, { oL with slots := sl })]) :
    TurnU h₀ L' m₀ P A M news L oL env (run (ce ++ [c]).reverse ca cm) s (ce.length + 1) .next { s with heap := h, toks := tk } := by
  rw [same_put] at F
  refine ⟨rfl, h, tk, vi, ve, va, vm, ne, na, nm, ce, ca, cm ++ [c], sl, rfl, Nat.lt_succ_self _, F, N, he, ha, hm, ?_, by rw [List.length_append, List.length_singleton]; omega, hba, hfrs⟩
  rw [List.reverse_append]
  show _ = (if c ∈ ca then _ else run ce.reverse ca (cm ++ [c]))
  rw [if_neg hc]
end
theorem allNe_mk {L : Addr} : ∀ {l : List (Addr × Obj)}, (∀ p ∈ l, p.1 ≠ L) → TLg.AllNe L l
  | [], _ => trivial
  | _ :: _, h => ⟨h _ List.mem_cons_self, allNe_mk fun p hp => h p (List.mem_cons_of_mem _ hp)⟩
theorem uld_ne {A P L M : Addr} {news : List (Addr × Obj)} {oL va ve om oa op : Obj} (hL : ∀ p ∈ (A, va) :: (P, ve) :: news, p.1 ≠ L) (hM : A < M ∧ P < M ∧ AllLt M (news ++ [(L, oL)])) : TLg.AllNe L ((M, om) :: (A, oa) :: (P, op) :: news) := by
  have h4 := allLt_mem hM.2.2 (L, oL) (List.mem_append_right _ List.mem_cons_self)
  exact ⟨Nat.ne_of_gt h4, hL (A, va) List.mem_cons_self, hL (P, ve) (List.mem_cons_of_mem _ List.mem_cons_self), allNe_mk fun p hp => hL p (List.mem_cons_of_mem _ (List.mem_cons_of_mem _ hp))⟩
theorem uld_ne2 {A P L M R : Addr} {news : List (Addr × Obj)} {oL oL' va ve om oa op or : Obj} (hL : ∀ p ∈ (A, va) :: (P, ve) :: news, p.1 ≠ L) (hM : A < M ∧ P < M ∧ AllLt M (news ++ [(L, oL)])) (hR : M < R ∧ A < R ∧ P < R ∧ AllLt R (news ++ [(L, oL')])) :
    TLg.AllNe L ((R, or) :: (M, om) :: (A, oa) :: (P, op) :: news) := by
  have h4 := allLt_mem hR.2.2.2 (L, oL') (List.mem_append_right _ List.mem_cons_self)
  exact ⟨Nat.ne_of_gt h4, uld_ne hL hM⟩
theorem news_drop {h₀ h : Heap} {L : Addr} {a b c d : Addr × Obj} {r : List (Addr × Obj)} (N : News h₀ L h (a :: b :: c :: d :: r)) : News h₀ L h (a :: b :: c :: r) := fun p hp => N p (by
  simp only [List.mem_cons] at hp ⊢
  rcases hp with e | e | e | e
  · exact .inl e
  · exact .inr (.inl e)
  · exact .inr (.inr (.inl e))
  · exact .inr (.inr (.inr (.inr e))))
local macro_rules | `(tactic| walk_at "exec While") => `(tactic| (k_here; (have hap9 := uld_apart (by assumption) (by assumption) (by assumption) (by assumption)); (with_unfolding_all refine' While_uld ?F ?N ?Fs ?he ?ha ?be ?ba ?hi ?hp ?_ ?_ ?hk ?hl ?hE); (case F => k_asm); (case N => k_asm); (case Fs => assumption); (case he => assumption); (case ha => assumption); (case be => assumption); (case ba => assumption); (case hi => with_unfolding_all rfl); (case hp => with_unfolding_all rfl); (case hk => rfl); (case hl => rfl); (case hE => passes_own)))
local macro_rules | `(tactic| walk_at "UB1") => `(tactic| ((show ∀ _, _); intro vi ve c t va vm ne na nm ce ca cm sl h₁ tk₁ st hse'; obtain ⟨F9, N9, hse, hsa, hsm, heq, hbe, hba, hfrs⟩ := st))
local macro_rules | `(tactic| walk_at "UB2") => `(tactic| ((show ∀ _, _); intro vi va vm ne na nm ca cm sl h₁ tk₁ st hrun; obtain ⟨F9, N9, hse, hsa, hsm, heq, hbe, hba, hfrs⟩ := st))
theorem c_uld {w : World} {mean : ExcName → Option Value} {mg mb : Str → Option Value} {ve va : List Value} {ce ca : List Nat} {ne na : Nat} {A P : Addr}
    {dp un : Nat} {gd : Option (List Code)} {cn : Str} {cs : Scope} {a : Addr} {ccd : Value} {cl : List (Str × Addr)} {h₀ : Heap} {L : Addr} {m : Str → Option Value} {news : List (Addr × Obj)} {s : Shared} {Q E : Value → Shared → Prop}
    (he : Sg ve ce) (ha : Sg va ca) (be : ce.length ≤ 900) (ba : ca.length ≤ 900) (hPA : P ≠ A) (hn : ∀ p ∈ news, p.1 ≠ A ∧ p.1 ≠ P)
    (F : Fr h₀ L s.heap m) (X : (hd.heap_39 w.params).In h₀) (N : News h₀ L s.heap ((A, listOf va.toArray na) :: (P, listOf ve.toArray ne) :: news)) (T : Top hd.view_39 (looseW hd.view_39 []) mean mg mb h₀) (hk : cs.kind = .function) (hdp : dp + 1 < recursionLimit)
    (hret : ∀ R M vm nm va' na' h' tk', Fr h₀ L h' m → News h₀ L h' ((R, { cls := .type "tuple", data := .seq #[.ref M, .ref A] }) :: (M, listOf vm.toArray nm) :: (A, listOf va'.toArray na') :: news) →
      Sg vm (run ce.reverse ca []).1 → Sg va' (run ce.reverse ca []).2 → @LT.lt Nat _ A M → @LT.lt Nat _ M R → (∀ p ∈ news, p.1 < M) → Q (.ref R) { s with heap := h', toks := tk' }) :
    wpAny (model Challenge.rw_oh0019_01.row.prog w) (ktrTop dp un gd cn cs L a ccd cl []) (call (.ref 21) [.ref P, .ref A]) Q E s := by
  w_on
  w_strict (
    revert X
    k_fill
    intro X
    refine wpAny_call ?_
    (k_dflt (refine' enterT (env := envX cn cs L a ccd cl) F X N T rfl hk ?k6 ?k7 ?k8 ?k9 ?kB ?_ ?c2 ?c3 ?c4 ?c5; (case k6 => k_is); (case k7 => k_is); (case k8 => ktr_room); (case k9 => exact BindsTo.of_eq rfl); (case c5 => decide); (case kB => exact locs rfl); (case c2 => exact rfl); (case c3 => exact rfl); (case c4 => exact rfl); k_whole))
    intro oL L' h' C Fs hL F' N'
    (try dsimp only)
    (try simp only [List.cons_append] at N')
    (try k_fold)
    k_steps
    (rename_i vi ve₁ c t va₁ vm₁ ne₁ na₁ nm₁ ce₁ ca₁ cm₁ sl h₁ tk₁ hse' F9 N9 hse hsa hsm heq hbe hba hfrs)
    (have hle := hse'.length)
    (have hla := hsa.length)
    (have hlm := hsm.length)
    (have hbe' : ce₁.length + 1 + cm₁.length ≤ 900 := by simpa using hbe)
    (refine pop3 F9 N9 (ApAll.all (by assumption) _) (by omega) ?_)
    (intro h₂ F₂ N₂)
    (clear F9 N9)
    k_steps
    ((rename_i F₃ N₃); (refine rem3 (by k_asm) (by k_asm) (ApAll.all (by assumption) _) hsa (by omega) rfl ?hit ?miss))
    (case miss =>
      intro hc h₄ tk₄ e hx
      dsimp only
      refine TLg.noted_new1 (new := _ :: _ :: _ :: news) (by rfl) hfrs hx (by k_asm) (by k_asm) ?ne ?nk
      (case ne => exact uld_ne hL (by assumption))
      (case nk =>
        intro h₅ sl₅ Fs₅ H₅
        (try simp only [List.cons_append] at H₅)
        (have HH₅ := TT.HeldNA.held H₅)
        k_steps
        (refine app3 (by k_asm) (by k_asm) (ApAll.all (by assumption) _) (by omega) ?_)
        intro h₆ F₆ N₆
        k_steps
        exact turn_miss F₆ N₆ hse' hsa (hsm.snoc c t) hc hbe' hba Fs₅))
    (case hit =>
      intro hc h₄ vs₄ F₄ N₄ hs₄
      k_steps
      exact turn_hit F₄ N₄ hse' hs₄ hsm hc hbe' hba hfrs)
    (try dsimp only)
    (try k_unfold)
    (try dsimp only)
    (rename (_, _) = run _ _ _ => hrun)
    (rename (_ < _) ∧ (_ < _) ∧ (_ < _) ∧ AllLt _ _ => hR)
    (rename (_ < _) ∧ (_ < _) ∧ AllLt _ _ => hM)
    (refine TLg.leave_back (new := _ :: _ :: _ :: _ :: news) C (by k_asm) (by k_asm) (uld_ne2 hL hM hR) ?_)
    intro F₉ N₉
    (refine hret _ _ _ _ _ _ _ _ F₉ (news_drop N₉) ?_ ?_ hM.1 hR.1 (fun p hp => allLt_mem hM.2.2 p (List.mem_append_left _ hp)))
    all_goals (rw [← hrun]; assumption))
end Mine
end
section
open PySem PySem.W PySem.Calls PyProof.Rows PyProof.Rows.LCg PyProof.Rows.LCt
set_option maxHeartbeats 2000000
set_option linter.unusedVariables false
namespace Mine
/-- item by item -/
inductive Two {α : Type} (G : α → Value → Prop) : List α → List Value → Prop
  | nil : Two G [] []
  | cons {a : α} {y : Value} {as : List α} {ys : List Value} : G a y → Two G as ys → Two G (a :: as) (y :: ys)
theorem Two.snoc {α : Type} {G : α → Value → Prop} {a : α} {y : Value} (g : G a y) : ∀ {as : List α} {ys : List Value}, Two G as ys → Two G (as ++ [a]) (ys ++ [y])
  | _, _, .nil => .cons g .nil
  | _, _, .cons h t => .cons h (Two.snoc g t)
theorem Two.length {α : Type} {G : α → Value → Prop} : ∀ {as : List α} {ys : List Value}, Two G as ys → ys.length = as.length
  | _, _, .nil => rfl
  | _, _, .cons _ t => by rw [List.length_cons, List.length_cons, t.length]
theorem Two.at {α : Type} {G : α → Value → Prop} : ∀ {as : List α} {ys : List Value}, Two G as ys → ∀ (i : Nat) (y : Value), ys[i]? = some y → ∃ a, as[i]? = some a ∧ G a y
  | _, _, .nil, _, _, h => by cases h
  | _, _, .cons g _, 0, _, h => by cases h; exact ⟨_, rfl, g⟩
  | _, _, .cons _ t, i + 1, y, h => Two.at t i y h
def CB1 (P : Prop) : Prop := P
def CB2 (P : Prop) : Prop := P
/-- what a turn's element leaves -/
def ElEnd (news : List (Addr × Obj)) (g : Value → Prop) (y : Value) (news' : List (Addr × Obj)) : Prop := news' = news ∧ g y
section
variable {prog : Program} {w : World} {A : Around} {E : Value → Shared → Prop} {s : Shared} {h₀ : Heap} {L : Addr} {m : Str → Option Value} {env : Env} {elt ct iter : Expr} {x : Str} {scope : Scope} {cl : List (Str × Addr)} {S : List (Addr × Obj) → Prop} {P : Nat → Value → Prop} {Fin : List Value → List (Addr × Obj) → Prop} {news : List (Addr × Obj)}
theorem rest_of {α : Type} {n : Nat} {as : List α} {V G : α → Value → Prop} (hn : as.length = n) (hP : ∀ i v, i < n → P i v → ∃ a, as[i]? = some a ∧ V a v)
    (turn : CB1 (∀ a v I oI C oC D m₂ ys h tk (E' : Value → Shared → Prop), a ∈ as → V a v → NsObj oC m₂ → m₂ x = some v → Fr h₀ L h m → News h₀ L h ((I, oI) :: (C, oC) :: (D, lst ys) :: news) → Off3 I C D news → ((@Ne Nat I C) ∧ (@Ne Nat I D) ∧ (@Ne Nat C D)) →
      wpAny (model prog w) A (eval elt (compEnvC scope cl C env)) (CompEnd h₀ L m { s with heap := h, toks := tk } I oI C oC D (lst ys) S (ElEnd news (G a))) E' { s with heap := h, toks := tk }))
    (fin : CB2 (∀ ys, Two G as ys → Fin ys news)) : CompRest prog w A h₀ L m env elt x scope cl s S P Fin n 0 [] news := by
  have key : ∀ (j i : Nat) (ys : List Value), i + j = n → Two G (as.take i) ys → CompRest prog w A h₀ L m env elt x scope cl s S P Fin j i ys news := by
    intro j
    induction j with
    | zero =>
      intro i ys hi hy
      have e : i = as.length := by omega
      subst e
      rw [List.take_length] at hy
      exact CompRest.zero (fin ys hy)
    | succ j ih =>
      intro i ys hi hy
      refine CompRest.succ ?_
      intro v I oI C oC D m₂ h tk E' hv hC hx F N off ne
      obtain ⟨a, ha, hV⟩ := hP i v (by omega) hv
      refine wpAny_mono (turn a v I oI C oC D m₂ ys h tk E' (List.mem_of_getElem? ha) hV hC hx F N off ne) (fun y s₂ hq => ?_) fun _ _ e => e
      obtain ⟨h', tk', nw, e, F', N', off', hS, hn', hg⟩ := hq
      rw [hn'] at N' off' hS
      refine ⟨h', tk', news, e, F', N', off', hS, ih (i + 1) _ (by omega) ?_⟩
      rw [List.take_add_one, ha]
      exact Two.snoc hg hy
  exact key n 0 [] (by omega) (by rw [List.take_zero]; exact .nil)
theorem restT_of {α : Type} {n : Nat} {as : List α} {V G : α → Value → Prop} {p : α → Bool} (hn : as.length = n) (hP : ∀ i v, i < n → P i v → ∃ a, as[i]? = some a ∧ V a v)
    (turn : CB1 (∀ a v I oI C oC D m₂ ys h tk (E' : Value → Shared → Prop), a ∈ as → V a v → NsObj oC m₂ → m₂ x = some v → Fr h₀ L h m → News h₀ L h ((I, oI) :: (C, oC) :: (D, lst ys) :: news) → Off3 I C D news → ((@Ne Nat I C) ∧ (@Ne Nat I D) ∧ (@Ne Nat C D)) →
      wpAny (model prog w) A (isTrue ct (compEnvC scope cl C env) (eval ct (compEnvC scope cl C env))) (fun ok s' => if ok = true then
        wpAny (model prog w) A (eval elt (compEnvC scope cl C env)) (CompEnd h₀ L m { s with heap := h, toks := tk } I oI C oC D (lst ys) S (ElEnd news (fun y => p a = true ∧ G a y))) E' s'
        else CompEnd h₀ L m { s with heap := h, toks := tk } I oI C oC D (lst ys) S (ElEnd news (fun _ => p a = false)) Value.none s') E' { s with heap := h, toks := tk }))
    (fin : CB2 (∀ ys, Two G (as.filter p) ys → Fin ys news)) : CompRestT prog w A h₀ L m env ct elt x scope cl s S P Fin n 0 [] news := by
  have key : ∀ (j i : Nat) (ys : List Value), i + j = n → Two G ((as.take i).filter p) ys → CompRestT prog w A h₀ L m env ct elt x scope cl s S P Fin j i ys news := by
    intro j
    induction j with
    | zero =>
      intro i ys hi hy
      have e : i = as.length := by omega
      subst e
      rw [List.take_length] at hy
      exact CompRestT.zero (fin ys hy)
    | succ j ih =>
      intro i ys hi hy
      refine CompRestT.succ ?_
      intro v I oI C oC D m₂ h tk E' hv hC hx F N off ne
      obtain ⟨a, ha, hV⟩ := hP i v (by omega) hv
      refine wpAny_mono (turn a v I oI C oC D m₂ ys h tk E' (List.mem_of_getElem? ha) hV hC hx F N off ne) (fun ok s₁ hok => ?_) fun _ _ e => e
      cases ok with
      | true =>
        rw [if_pos rfl] at hok ⊢
        refine wpAny_mono hok (fun y s₂ hq => ?_) fun _ _ e => e
        obtain ⟨h', tk', nw, e, F', N', off', hS, hn', hp, hg⟩ := hq
        rw [hn'] at N' off' hS
        refine ⟨h', tk', news, e, F', N', off', hS, ih (i + 1) _ (by omega) ?_⟩
        rw [List.take_add_one, ha, List.filter_append]
        show Two G (_ ++ List.filter p [a]) _
        rw [List.filter_cons_of_pos hp, List.filter_nil]
        exact Two.snoc hg hy
      | false =>
        rw [if_neg Bool.false_ne_true] at hok ⊢
        obtain ⟨h', tk', nw, e, F', N', off', hS, hn', hp⟩ := hok
        rw [hn'] at N' off' hS
        refine ⟨h', tk', news, e, F', N', off', hS, ih (i + 1) _ (by omega) ?_⟩
        rw [List.take_add_one, ha, List.filter_append]
        show Two G (_ ++ List.filter p [a]) _
        rw [List.filter_cons_of_neg (by rw [hp]; exact Bool.false_ne_true), List.filter_nil, List.append_nil]
        exact hy
  exact key n 0 [] (by omega) (by rw [List.take_zero]; exact .nil)

theorem iter_str {y : Str} {t : Tok} {Q : Value → Shared → Prop}
    (hQ : ∀ (o : Obj) (St : Nat → Heap → Prop), (∀ A' : Around, A'.handled = none → Walks prog w A' s.heap.objs.size [s.heap.objs.size] [s.heap.objs.size] y.cps.size (SignAt y) St) → (∀ i h, St i h → ∃ o, h.get? s.heap.objs.size = some o) → St 0 (s.heap.push o) →
      Q (.ref s.heap.objs.size) { s with heap := s.heap.push o }) : wpAny (model prog w) A (pyIter (.str y t)) Q E s := by
  cases ha : y.cps.all (· < 128)
  · exact wpAny_pyIter_wide ha (hQ _ _ (fun A' hA => Walks.strWide hA _ y t) (fun i h st => let ⟨o, ho, _⟩ := st; ⟨o, ho⟩) ⟨_, Heap.get?_push_size _ rfl, rfl, rfl⟩)
  · exact wpAny_pyIter_ascii ha (hQ _ _ (fun A' hA => Walks.strAscii hA _ y t) (fun i h st => let ⟨o, ho, _⟩ := st; ⟨o, ho⟩) ⟨_, Heap.get?_push_size _ rfl, rfl, rfl⟩)
end
/-- a comprehension's source that is a text -/
def SrcS (prog : Program) (w : World) (A : Around) (h₀ : Heap) (L : Addr) (m : Str → Option Value) (env : Env) (elt : Expr) (x : Str) (scope : Scope) (cl : List (Str × Addr)) (Fin : Shared → List Value → List (Addr × Obj) → Prop) (xv : Value) (s₁ : Shared) : Prop :=
  ∃ y t news, xv = .str y t ∧ A.handled = none ∧ Fr h₀ L s₁.heap m ∧ News h₀ L s₁.heap news ∧ y.cps.size ≤ sizeLine ∧
    ∀ s₂ : Shared, (∃ h, s₂ = { s₁ with heap := h }) → CompRest prog w A h₀ L m env elt x scope cl s₂ (fun _ => True) (SignAt y) (Fin s₂) y.cps.size 0 [] news
def SrcST (prog : Program) (w : World) (A : Around) (h₀ : Heap) (L : Addr) (m : Str → Option Value) (env : Env) (ct elt : Expr) (x : Str) (scope : Scope) (cl : List (Str × Addr)) (Fin : Shared → List Value → List (Addr × Obj) → Prop) (xv : Value) (s₁ : Shared) : Prop :=
  ∃ y t news, xv = .str y t ∧ A.handled = none ∧ Fr h₀ L s₁.heap m ∧ News h₀ L s₁.heap news ∧ y.cps.size ≤ sizeLine ∧
    ∀ s₂ : Shared, (∃ h, s₂ = { s₁ with heap := h }) → CompRestT prog w A h₀ L m env ct elt x scope cl s₂ (fun _ => True) (SignAt y) (Fin s₂) y.cps.size 0 [] news
theorem signAt_list {cs : List Nat} (i : Nat) (v : Value) (h : SignAt ⟨cs.toArray⟩ i v) : ∃ a, cs[i]? = some a ∧ ∃ u, v = .str ⟨#[a]⟩ u := by
  obtain ⟨c, u, hc, e⟩ := h
  exact ⟨c, by simpa using hc, u, e⟩
section
variable {prog : Program} {w : World} {A : Around} {E : Value → Shared → Prop} {s : Shared} {h₀ : Heap} {L : Addr} {m : Str → Option Value} {env : Env} {elt ct iter : Expr} {x z : Str} {px pz : Pos} {scope : Scope} {cl : List (Str × Addr)} {pos spos : Pos} {news : List (Addr × Obj)}
theorem srcS_at {cs : List Nat} {t : Tok} {G : Nat → Value → Prop} {Fin : Shared → List Value → List (Addr × Obj) → Prop} (hh : A.handled = none) (F : Fr h₀ L s.heap m) (N : News h₀ L s.heap news) (hz : cs.length ≤ 1000)
    (turn : CB1 (∀ a v I oI C oC D m₂ ys h tk (E' : Value → Shared → Prop), a ∈ cs → (∃ u, v = .str ⟨#[a]⟩ u) → NsObj oC m₂ → m₂ x = some v → Fr h₀ L h m → News h₀ L h ((I, oI) :: (C, oC) :: (D, lst ys) :: news) → Off3 I C D news → ((@Ne Nat I C) ∧ (@Ne Nat I D) ∧ (@Ne Nat C D)) →
      wpAny (model prog w) A (eval elt (compEnvC scope cl C env)) (CompEnd h₀ L m { s with heap := h, toks := tk } I oI C oC D (lst ys) (fun _ => True) (ElEnd news (G a))) E' { s with heap := h, toks := tk }))
    (fin : CB2 (∀ g ys, Two G cs ys → Fin { s with heap := g } ys news)) : SrcS prog w A h₀ L m env elt x scope cl Fin (.str ⟨cs.toArray⟩ t) s := by
  refine ⟨_, t, news, rfl, hh, F, N, ?_, ?_⟩
  · show cs.toArray.size ≤ sizeLine
    rw [List.size_toArray, sizeLine_eq]; omega
  · rintro s₂ ⟨g, rfl⟩
    exact rest_of (as := cs) (V := fun a v => ∃ u, v = .str ⟨#[a]⟩ u) (G := G) (by simp) (fun i v _ h => signAt_list i v h) turn (fin g)
theorem srcST_at {cs : List Nat} {t : Tok} {p : Nat → Bool} {G : Nat → Value → Prop} {Fin : Shared → List Value → List (Addr × Obj) → Prop} (hh : A.handled = none) (F : Fr h₀ L s.heap m) (N : News h₀ L s.heap news) (hz : cs.length ≤ 1000)
    (turn : CB1 (∀ a v I oI C oC D m₂ ys h tk (E' : Value → Shared → Prop), a ∈ cs → (∃ u, v = .str ⟨#[a]⟩ u) → NsObj oC m₂ → m₂ x = some v → Fr h₀ L h m → News h₀ L h ((I, oI) :: (C, oC) :: (D, lst ys) :: news) → Off3 I C D news → ((@Ne Nat I C) ∧ (@Ne Nat I D) ∧ (@Ne Nat C D)) →
      wpAny (model prog w) A (isTrue ct (compEnvC scope cl C env) (eval ct (compEnvC scope cl C env))) (fun ok s' => if ok = true then
        wpAny (model prog w) A (eval elt (compEnvC scope cl C env)) (CompEnd h₀ L m { s with heap := h, toks := tk } I oI C oC D (lst ys) (fun _ => True) (ElEnd news (fun y => p a = true ∧ G a y))) E' s'
        else CompEnd h₀ L m { s with heap := h, toks := tk } I oI C oC D (lst ys) (fun _ => True) (ElEnd news (fun _ => p a = false)) Value.none s') E' { s with heap := h, toks := tk }))
    (fin : CB2 (∀ g ys, Two G (cs.filter p) ys → Fin { s with heap := g } ys news)) : SrcST prog w A h₀ L m env ct elt x scope cl Fin (.str ⟨cs.toArray⟩ t) s := by
  refine ⟨_, t, news, rfl, hh, F, N, ?_, ?_⟩
  · show cs.toArray.size ≤ sizeLine
    rw [List.size_toArray, sizeLine_eq]; omega
  · rintro s₂ ⟨g, rfl⟩
    exact restT_of (as := cs) (V := fun a v => ∃ u, v = .str ⟨#[a]⟩ u) (G := G) (p := p) (by simp) (fun i v _ h => signAt_list i v h) turn (fin g)

theorem ListComp_S {Q : Value → Shared → Prop} (F₀ : Fr h₀ L s.heap m)
    (hclos : closureFor scope env = pure cl) (hcell : ∀ y ∈ scope.names, y.2 ≠ .cell) (hkind : scope.kind = .function)
    (hnames : ∀ y ∈ scope.names, y.2 = .local → scope.names.lookup y.1 = some .local) (hx : scope.names.lookup x = some .local)
    (h : wpAny (model prog w) A (eval iter env) (SrcS prog w A h₀ L m env elt x scope cl (fun s₂ => FinE h₀ L m s₂ Q)) E s)
    (hs : ∀ x, foldedSetIterable iter env x = pure x := by intro _; rfl) :
    wpAny (model prog w) A (eval (.ListComp elt [⟨.Name x px, iter, [], 0⟩] scope pos) env) Q E s := by
  rw [eval_ListComp]
  refine wpAny_comprehension_free (use := none) rfl hs hclos hkind hnames (wpAny_mono h (fun xv s₁ h₁ => ?_) fun _ _ e => e)
  obtain ⟨y, t, news, rfl, hh, F, N, hsz, R⟩ := h₁
  refine iter_str fun o St W hIo hst => ?_
  have up : ∀ b o', s₁.heap.get? b = some o' → (s₁.heap.push o).get? b = some o' := fun b o' e => Heap.get?_push_of_some _ e
  refine block_U (S := fun _ => True) (W A hh) hsz hIo (fun i h h' o nw st e e' _ _ _ => (W A hh).frame i h h' st fun b hb o'' e'' => by
      rw [List.mem_singleton.mp hb] at e'' ⊢; rw [e] at e''; rw [e', ← e'']) hcell hkind hx hst (fun b hb => ?_)
    (F.keeps up) (N.grown up) (Nat.ne_of_lt F.ns.lt) (next_is_new F) (fun p hp => Nat.ne_of_lt (Heap.lt_size (N p hp).1)) trivial (R _ ⟨_, rfl⟩) ?_
  · rw [List.mem_singleton.mp hb]
    show s₁.heap.objs.size < (s₁.heap.push o).objs.size
    rw [Heap.size_push]; exact Nat.lt_succ_self _
  · intro D C h tk m' ys news' F' N' o1 hn hC₀ hD₀ hCL hDL hCD offC fin
    refine ⟨m', hn, fun h'' hs'' => fin D h'' tk (F'.change hs'' hCL hC₀) (fun p hp => ?_) o1⟩
    refine ⟨hs''.extBut _ _ ?_ (N' p hp).1, (N' p hp).2⟩
    rcases List.mem_cons.mp hp with rfl | hp
    · exact Ne.symm hCD
    · exact offC p hp
theorem ListComp_ST {Q : Value → Shared → Prop} (F₀ : Fr h₀ L s.heap m)
    (hclos : closureFor scope env = pure cl) (hcell : ∀ y ∈ scope.names, y.2 ≠ .cell) (hkind : scope.kind = .function)
    (hnames : ∀ y ∈ scope.names, y.2 = .local → scope.names.lookup y.1 = some .local) (hx : scope.names.lookup x = some .local)
    (h : wpAny (model prog w) A (eval iter env) (SrcST prog w A h₀ L m env ct elt x scope cl (fun s₂ => FinE h₀ L m s₂ Q)) E s)
    (hs : ∀ x, foldedSetIterable iter env x = pure x := by intro _; rfl) :
    wpAny (model prog w) A (eval (.ListComp elt [⟨.Name x px, iter, [ct], 0⟩] scope pos) env) Q E s := by
  rw [eval_ListComp]
  refine wpAny_comprehension_free (use := none) rfl hs hclos hkind hnames (wpAny_mono h (fun xv s₁ h₁ => ?_) fun _ _ e => e)
  obtain ⟨y, t, news, rfl, hh, F, N, hsz, R⟩ := h₁
  refine iter_str fun o St W hIo hst => ?_
  have up : ∀ b o', s₁.heap.get? b = some o' → (s₁.heap.push o).get? b = some o' := fun b o' e => Heap.get?_push_of_some _ e
  refine block_T (S := fun _ => True) (W A hh) hsz hIo (fun i h h' o nw st e e' _ _ _ => (W A hh).frame i h h' st fun b hb o'' e'' => by
      rw [List.mem_singleton.mp hb] at e'' ⊢; rw [e] at e''; rw [e', ← e'']) hcell hkind hx hst (fun b hb => ?_)
    (F.keeps up) (N.grown up) (Nat.ne_of_lt F.ns.lt) (next_is_new F) (fun p hp => Nat.ne_of_lt (Heap.lt_size (N p hp).1)) trivial (R _ ⟨_, rfl⟩) ?_
  · rw [List.mem_singleton.mp hb]
    show s₁.heap.objs.size < (s₁.heap.push o).objs.size
    rw [Heap.size_push]; exact Nat.lt_succ_self _
  · intro D C h tk m' ys news' F' N' o1 hn hC₀ hD₀ hCL hDL hCD offC fin
    refine ⟨m', hn, fun h'' hs'' => fin D h'' tk (F'.change hs'' hCL hC₀) (fun p hp => ?_) o1⟩
    refine ⟨hs''.extBut _ _ ?_ (N' p hp).1, (N' p hp).2⟩
    rcases List.mem_cons.mp hp with rfl | hp
    · exact Ne.symm hCD
    · exact offC p hp
theorem Assign_ListComp_ST {Q : Flow → Shared → Prop} (F₀ : Fr h₀ L s.heap m) (hLe : env.locals = L)
    (hsw : swapsWith (.ListComp elt [⟨.Name x px, iter, [ct], 0⟩] scope pos) (some (.Name z pz)) spos.line env = pure true)
    (hclos : closureFor scope env = pure cl) (hcell : ∀ q ∈ scope.names, q.2 ≠ .cell) (hkind : scope.kind = .function)
    (hnames : ∀ q ∈ scope.names, q.2 = .local → scope.names.lookup q.1 = some .local) (hx : scope.names.lookup x = some .local)
    (hz : env.kindOf z = some .local) (hp : (env.scope.kind == .class || (env.scope.kind == .module && env.locals != env.globals)) = false)
    (h : wpAny (model prog w) A (eval iter env) (SrcST prog w A h₀ L m env ct elt x scope cl (fun s₂ => FinA h₀ L m s₂ z Q)) E s)
    (hs : ∀ x, foldedSetIterable iter env x = pure x := by intro _; rfl) :
    wpAny (model prog w) A (exec (.Assign [.Name z pz] (.ListComp elt [⟨.Name x px, iter, [ct], 0⟩] scope pos) spos) env) Q E s := by
  subst hLe
  rw [exec_Assign_Name_used _ _ _ _ hsw]
  refine wpAny_bind (wpAny_standAt (wpAny_bind ?_))
  show wpAny _ A (do let _ ← comprehension (.ListComp elt [⟨.Name x px, iter, [ct], 0⟩] scope pos) scope env _ (newList []) false (eval iter env) (some (assign (.Name z pz) env))) _ _ s
  refine wpAny_bind (wpAny_mono (wpAny_comprehension_free (use := some (assign (.Name z pz) env)) (Q := fun _ s' => Q .next s') rfl hs hclos hkind hnames
    (wpAny_mono h (fun xv s₁ h₁ => ?_) fun _ _ e => e)) (fun _ s' hq => wpAny_pure (wpAny_pure hq)) fun _ _ e => e)
  obtain ⟨y, t, news, rfl, hh, F, N, hsz, R⟩ := h₁
  refine iter_str fun o St W hIo hst => ?_
  have up : ∀ b o', s₁.heap.get? b = some o' → (s₁.heap.push o).get? b = some o' := fun b o' e => Heap.get?_push_of_some _ e
  refine block_T (S := fun _ => True) (W A hh) hsz hIo (fun i h h' o nw st e e' _ _ _ => (W A hh).frame i h h' st fun b hb o'' e'' => by
      rw [List.mem_singleton.mp hb] at e'' ⊢; rw [e] at e''; rw [e', ← e'']) hcell hkind hx hst (fun b hb => ?_)
    (F.keeps up) (N.grown up) (Nat.ne_of_lt F.ns.lt) (next_is_new F) (fun p hp => Nat.ne_of_lt (Heap.lt_size (N p hp).1)) trivial (R _ ⟨_, rfl⟩) ?_
  · rw [List.mem_singleton.mp hb]
    show s₁.heap.objs.size < (s₁.heap.push o).objs.size
    rw [Heap.size_push]; exact Nat.lt_succ_self _
  · intro D C h' tk m' ys news' F' N' o1 hn hC₀ hD₀ hCL hDL hCD offC fin
    show wpAny _ A (assign (.Name z pz) env (.ref D)) _ _ _
    refine wpAny_assign_Name (wpAny_storeName_local hz F'.ns (fun h₂ hn₂ hs₂ => ?_) hp)
    have hL₀ : h₀.get? env.locals = none := Heap.get?_none_of_le F'.above
    have F₂ : Fr h₀ env.locals h₂ (fun q => if q = z then some (.ref D) else m q) := ⟨hn₂, fun b o e => hs₂.extBut b o (fun q => by rw [q, hL₀] at e; cases e) (F'.keep b o e), F'.above⟩
    refine ⟨m', hn.sameBut hs₂ hCL, fun h'' hs'' => fin D h'' _ (F₂.change hs'' hCL hC₀) (fun p hp => ?_) o1⟩
    have z : h₂.get? p.1 = some p.2 := hs₂.extBut _ _ (N' p hp).2.1 (N' p hp).1
    refine ⟨hs''.extBut _ _ ?_ z, (N' p hp).2⟩
    rcases List.mem_cons.mp hp with rfl | hp
    · exact Ne.symm hCD
    · exact offC p hp
theorem srcL_ints {ax : Addr} {vs : List Value} {ns : List Int} {k : Nat} {G : Int → Value → Prop} {Fin : Shared → List Value → List (Addr × Obj) → Prop} (hh : A.handled = none) (F : Fr h₀ L s.heap m) (N : News h₀ L s.heap news) (hm : (ax, listOf vs.toArray k) ∈ news) (hi : IntsAre vs ns) (hz : ns.length ≤ 1000)
    (turn : CB1 (∀ a v I oI C oC D m₂ ys h tk (E' : Value → Shared → Prop), a ∈ ns → (∃ u, v = .int a u) → NsObj oC m₂ → m₂ x = some v → Fr h₀ L h m → News h₀ L h ((I, oI) :: (C, oC) :: (D, lst ys) :: news) → Off3 I C D news → ((@Ne Nat I C) ∧ (@Ne Nat I D) ∧ (@Ne Nat C D)) →
      wpAny (model prog w) A (eval elt (compEnvC scope cl C env)) (CompEnd h₀ L m { s with heap := h, toks := tk } I oI C oC D (lst ys) (fun _ => True) (ElEnd news (G a))) E' { s with heap := h, toks := tk }))
    (fin : CB2 (∀ g ys, Two G ns ys → Fin { s with heap := g } ys news)) : CompSrc prog w A h₀ L m env elt x scope cl Fin (.ref ax) s := by
  have hlen := hi.length
  refine CompSrc.ledger (k := k) hh F N hm (by rw [List.size_toArray, sizeLine_eq, hlen]; omega) fun g => ?_
  refine rest_of (as := ns) (V := fun a v => ∃ u, v = .int a u) (G := G) (by rw [List.size_toArray]; exact hlen.symm) (fun i v _ hv => ?_) ?_ (fin g)
  · obtain ⟨b, t, e, hb⟩ := IntsAre.at hi i v (by simpa using hv)
    exact ⟨b, hb, t, e⟩
  · intro a v I oI C oC D m₂ ys h tk E' h1 h2 h3 h4 h5 h6 h7 h8
    refine wpAny_mono (turn a v I oI C oC D m₂ ys h tk E' h1 h2 h3 h4 h5 h6 h7 h8) (fun y s₂ hq => ?_) fun _ _ e => e
    obtain ⟨h', tk', nw, e, F', N', off', _, hn, hg⟩ := hq
    exact ⟨h', tk', nw, e, F', N', off', .inr ⟨_, hn ▸ hm, rfl, _, rfl⟩, hn, hg⟩
theorem srcL_strs {ax : Addr} {vs : List Value} {cs : List Nat} {k : Nat} {G : Nat → Value → Prop} {Fin : Shared → List Value → List (Addr × Obj) → Prop} (hh : A.handled = none) (F : Fr h₀ L s.heap m) (N : News h₀ L s.heap news) (hm : (ax, listOf vs.toArray k) ∈ news) (hi : Two (fun c v => ∃ u, v = Value.str ⟨#[c]⟩ u) cs vs) (hz : cs.length ≤ 1000)
    (turn : CB1 (∀ a v I oI C oC D m₂ ys h tk (E' : Value → Shared → Prop), a ∈ cs → (∃ u, v = .str ⟨#[a]⟩ u) → NsObj oC m₂ → m₂ x = some v → Fr h₀ L h m → News h₀ L h ((I, oI) :: (C, oC) :: (D, lst ys) :: news) → Off3 I C D news → ((@Ne Nat I C) ∧ (@Ne Nat I D) ∧ (@Ne Nat C D)) →
      wpAny (model prog w) A (eval elt (compEnvC scope cl C env)) (CompEnd h₀ L m { s with heap := h, toks := tk } I oI C oC D (lst ys) (fun _ => True) (ElEnd news (G a))) E' { s with heap := h, toks := tk }))
    (fin : CB2 (∀ g ys, Two G cs ys → Fin { s with heap := g } ys news)) : CompSrc prog w A h₀ L m env elt x scope cl Fin (.ref ax) s := by
  have hlen := hi.length
  refine CompSrc.ledger (k := k) hh F N hm (by rw [List.size_toArray, sizeLine_eq, hlen]; omega) fun g => ?_
  refine rest_of (as := cs) (V := fun a v => ∃ u, v = .str ⟨#[a]⟩ u) (G := G) (by rw [List.size_toArray]; exact hlen.symm) (fun i v _ hv => ?_) ?_ (fin g)
  · exact Two.at hi i v (by simpa using hv)
  · intro a v I oI C oC D m₂ ys h tk E' h1 h2 h3 h4 h5 h6 h7 h8
    refine wpAny_mono (turn a v I oI C oC D m₂ ys h tk E' h1 h2 h3 h4 h5 h6 h7 h8) (fun y s₂ hq => ?_) fun _ _ e => e
    obtain ⟨h', tk', nw, e, F', N', off', _, hn, hg⟩ := hq
    exact ⟨h', tk', nw, e, F', N', off', .inr ⟨_, hn ▸ hm, rfl, _, rfl⟩, hn, hg⟩
end
/-- signs written by numbers: texts of one sign each -/
abbrev IsOne : Int → Value → Prop := fun _ y => ∃ (c : Nat) (t : Tok), y = .str ⟨#[c]⟩ t
end Mine
end
section
open PySem PySem.W PySem.Calls PyProof.Rows
namespace Mine
/-- behind the if: one list of ints -/
def Nums (h₀ : Heap) (L : Addr) (m : Str → Option Value) (nn : Str) (news : List (Addr × Obj)) (s : Shared) (s' : Shared) : Prop :=
  ∃ h tk D vs ns n, s' = { s with heap := h, toks := tk } ∧ Fr h₀ L h (fun y => if y = nn then some (.ref D) else m y) ∧ News h₀ L h ((D, listOf (List.toArray vs) n) :: news) ∧ IntsAre vs ns ∧ ns.length ≤ 7 ∧ ∀ p ∈ news, p.1 < D
def NumsF (h₀ : Heap) (L : Addr) (m : Str → Option Value) (nn : Str) (news : List (Addr × Obj)) (s : Shared) (f : Flow) (s' : Shared) : Prop := f = .next ∧ Nums h₀ L m nn news s s'
def NB (P : Prop) : Prop := P
section
variable {M : Model} {A : Around} {E : Value → Shared → Prop} {s : Shared} {env : Env} {h₀ : Heap} {L D0 D1 : Addr} {o0 o1 : Obj} {m : Str → Option Value} {news : List (Addr × Obj)} {nn : Str}
theorem if_nums {test : Expr} {body : List Stmt} {pos : Pos} {Q : Flow → Shared → Prop} (_F : Fr h₀ L s.heap (fun y => if y = nn then some (.ref D0) else m y)) (_N : News h₀ L s.heap ((D0, o0) :: (D1, o1) :: news))
    (h : wpAny M A (isTrue test env (eval test env)) (fun b s₂ => if b = true then wpAny M A (execs body env) (NumsF h₀ L m nn news s) E s₂ else Nums h₀ L m nn news s s₂) E s)
    (hk : NB (∀ h tk D vs ns n, Fr h₀ L h (fun y => if y = nn then some (.ref D) else m y) → News h₀ L h ((D, listOf (List.toArray vs) n) :: news) → IntsAre vs ns → ns.length ≤ 7 → (∀ p ∈ news, p.1 < D) → Q .next { s with heap := h, toks := tk })) :
    wpAny M A (exec (.If test body [] pos) env) Q E s := by
  have key : ∀ s', Nums h₀ L m nn news s s' → Q .next s' := by
    rintro s' ⟨h, tk, D, vs, ns, n, rfl, F, N, hi, hl, hd⟩
    exact hk h tk D vs ns n F N hi hl hd
  refine wpAny_If (wpAny_mono h (fun b s₂ hb => ?_) fun _ _ e => e)
  cases b with
  | true =>
    simp only [if_true] at hb
    exact wpAny_mono hb (fun f s₃ hf => by rw [hf.1]; exact key _ hf.2) fun _ _ e => e
  | false =>
    simp only [Bool.false_eq_true, if_false] at hb
    exact wpAny_execs_nil (key _ hb)
end
end Mine
end
section
open PySem PySem.W PySem.Calls PyProof.Rows
namespace Mine
/-- values that are texts, given by their signs -/
abbrev IsTx {α : Type} (g : α → List Nat) : α → Value → Prop := fun a y => ∃ t : Tok, y = .str ⟨(g a).toArray⟩ t
theorem Two.strs {α : Type} {g : α → List Nat} : ∀ {as : List α} {ys : List Value}, Two (IsTx g) as ys → StrsAre ys (as.map fun a => ⟨(g a).toArray⟩)
  | _, _, .nil => .nil
  | _, _, .cons ⟨t, e⟩ h => by subst e; exact .cons _ t h.strs
theorem ones_of : ∀ {ns : List Int} {ys : List Value}, Two IsOne ns ys → ∃ cs : List Nat, cs.length = ns.length ∧ Two (IsTx fun c => [c]) cs ys
  | _, _, .nil => ⟨[], rfl, .nil⟩
  | _, _, .cons ⟨c, t, e⟩ h => by
    obtain ⟨cs, h1, h2⟩ := ones_of h
    exact ⟨c :: cs, by rw [List.length_cons, List.length_cons, h1], .cons ⟨t, e⟩ h2⟩
theorem empty_str : Str.ofString "" = ⟨([] : List Nat).toArray⟩ := by decide +kernel
theorem join_nil {α : Type} (g : α → List Nat) : ∀ as : List α, Str.join (Str.ofString "") (as.map fun a => ⟨(g a).toArray⟩) = ⟨(as.flatMap g).toArray⟩
  | [] => rfl
  | [a] => by simp [Str.join]
  | a :: b :: r => by
    have ih := join_nil g (b :: r)
    show (⟨(g a).toArray⟩ : Str) ++ Str.ofString "" ++ Str.join (Str.ofString "") ((b :: r).map fun a => ⟨(g a).toArray⟩) = _
    rw [ih, empty_str]
    have e : (⟨(g a).toArray⟩ : Str) ++ ⟨([] : List Nat).toArray⟩ ++ ⟨(List.flatMap g (b :: r)).toArray⟩ = ⟨((g a).toArray ++ ([] : List Nat).toArray) ++ (List.flatMap g (b :: r)).toArray⟩ := rfl
    rw [e]
    simp
theorem sum_len {α : Type} {g : α → List Nat} {k : Nat} (h : ∀ a, (g a).length ≤ k) : ∀ as : List α, ((as.map fun a => (⟨(g a).toArray⟩ : Str)).map (·.length)).sum ≤ k * as.length
  | [] => by simp
  | a :: r => by
    have ih := sum_len h r
    have h1 := h a
    rw [List.map_cons, List.map_cons, List.sum_cons, List.length_cons, Nat.mul_succ]
    show (g a).toArray.size + _ ≤ _
    rw [List.size_toArray]; omega
section
variable {prog : Program} {w : World} {A : Around} {E : Value → Shared → Prop} {s : Shared} {h₀ : Heap} {L D : Addr} {news : List (Addr × Obj)} {n : Nat} {t : Tok} {Q : Value → Shared → Prop}
theorem join_texts {α : Type} {g : α → List Nat} {as : List α} {ys : List Value} (N : News h₀ L s.heap news) (hm : (D, listOf ys.toArray n) ∈ news) (hy : Two (IsTx g) as ys) (hg : ∀ a, (g a).length ≤ 100) (hl : as.length ≤ 1000)
    (h : ∀ t' k, Q (.str ⟨(as.flatMap g).toArray⟩ t') { s with toks := k }) : wpAny (model prog w) A (call (.builtin "str.join") [.str (Str.ofString "") t, .ref D]) Q E s := by
  refine join_listW (items := ys.toArray) (IsL.isList (n := n) (N _ hm).1) (by simpa using hy.strs) (by decide) ?_ fun t' k => ?_
  · have := sum_len hg as
    rw [List.length_map]; omega
  · have e : Txt.join (Str.ofString "") (as.map fun a => ⟨(g a).toArray⟩) = ⟨(as.flatMap g).toArray⟩ := by
      show Builtin.Str.glued _ _ = _
      rw [StrLaws.glued_eq_join, join_nil]
    rw [e]; exact h t' k
theorem join_ones {ns : List Int} {ys : List Value} (N : News h₀ L s.heap news) (hm : (D, listOf ys.toArray n) ∈ news) (hy : Two IsOne ns ys) (hl : ns.length ≤ 1000)
    (h : ∀ (cs : List Nat) t' k, cs.length = ns.length → Q (.str ⟨cs.toArray⟩ t') { s with toks := k }) : wpAny (model prog w) A (call (.builtin "str.join") [.str (Str.ofString "") t, .ref D]) Q E s := by
  obtain ⟨cs, h1, h2⟩ := ones_of hy
  refine join_texts N hm h2 (fun a => by simp) (by omega) fun t' k => ?_
  have e : (cs.flatMap fun c => [c]) = cs := by
    clear h1 h2
    induction cs with
    | nil => rfl
    | cons c r ih => rw [List.flatMap_cons, ih]; rfl
  rw [e]; exact h cs t' k h1
end
end Mine
end
section
open PySem PySem.W PyProof.Rows
namespace Mine
set_option maxRecDepth 100000
/-- the law's own statements and names -/
def bodyOf : Stmt → List Stmt
  | .FunctionDef _ _ b _ _ _ _ _ _ _ => b
  | _ => []
def scopeOf : Stmt → Option Scope
  | .FunctionDef _ _ _ _ _ _ sc _ _ _ => some sc
  | _ => none
def lawStmt : Stmt := Challenge.pw_oh0019_01.main.body.getD 14 (.Pass ⟨0, 0, 0, 0⟩)
def lawBody : List Stmt := bodyOf lawStmt
def lawScope : Scope := (scopeOf lawStmt).getD { kind := .function, names := [], isGenerator := false, isCoroutine := false }
abbrev lawEnv (L a : Addr) (cd : Value) : Env := envOfC (Str.ofString "law") lawScope L a cd
end Mine
end
section
open PySem PySem.W PyProof.Rows
namespace Mine
set_option maxRecDepth 100000
set_option maxHeartbeats 8000000
set_option linter.unusedVariables false
theorem hands (z : Int) : (0 ≤ z.fmod 5 ∧ z.fmod 5 ≤ 4) ∧ (0 ≤ (z.fmod 5 + 1 + (z.fdiv 5).fmod 4).fmod 5 ∧ (z.fmod 5 + 1 + (z.fdiv 5).fmod 4).fmod 5 ≤ 4) ∧ z.fmod 5 ≠ (z.fmod 5 + 1 + (z.fdiv 5).fmod 4).fmod 5 := by
  simp only [Int.fmod_eq_emod_of_nonneg _ (show (0 : Int) ≤ 5 by decide), Int.fmod_eq_emod_of_nonneg _ (show (0 : Int) ≤ 4 by decide)]
  generalize z.fdiv 5 = y
  omega
theorem news_tl {h₀ h : Heap} {L : Addr} {x : Addr × Obj} {r : List (Addr × Obj)} (N : News h₀ L h (x :: r)) : News h₀ L h r := fun p hp => N p (List.mem_cons_of_mem _ hp)
local macro_rules | `(tactic| walk_at "eval ListComp") => `(tactic| (k_here; k_dflt (refine LCg.ListComp_U (F₀ := by k_asm) (by with_unfolding_all rfl) (by decide) (by rfl) (by decide) (by rfl) ?_)))
local macro_rules | `(tactic| walk_at "CompSrc") => `(tactic| (k_here; k_dflt (refine srcL_ints (G := IsOne) (by rfl) (by k_asm) (by k_asm) (by k_mem) (by assumption) (by omega) ?_ ?_)))
local macro_rules | `(tactic| walk_at "CB1") => `(tactic| ((show ∀ _, _); intro a v I oI C oC D m₂ ys h tk E' ha hv hC hx F N off ne; obtain ⟨u, hv⟩ := hv; subst hv))
local macro_rules | `(tactic| walk_at "CB2") => `(tactic| ((show ∀ _, _); intro g ys hys))
local macro_rules | `(tactic| walk_at "CompEnd") => `(tactic| refine LCg.CompEnd.intro (by assumption) (by assumption) _ (fun _ h => h) (by assumption) True.intro ?_)
local macro_rules | `(tactic| walk_at "ElEnd") => `(tactic| exact ⟨rfl, _, _, rfl⟩)
local macro_rules | `(tactic| walk_at "call ref") => `(tactic| (k_here; (k_dflt (refine' c_sign ?B ?F ?X ?N ?T ?hk ?hdp ?_)); (case B => k_asm); (case F => k_asm); (case X => k_asm); (case N => k_asm); (case T => k_asm); (case hk => with_unfolding_all rfl); (case hdp => with_unfolding_all decide); intro c9 t9 h9 tk9 F9 N9; (try dsimp only)))
local macro_rules | `(tactic| walk_at "call builtin:str.join") => `(tactic| (k_here; k_dflt (refine join_ones (by k_asm) (by k_mem) (by assumption) (by omega) ?_); intro cs9 t9 k9 hcs9))
theorem law_A {w : World} {mean : ExcName → Option Value} {mg mb : Str → Option Value} {base h₀ : Heap} {L a : Addr} {cd : Value} {m : Str → Option Value} {s : Shared} {Q : Flow → Shared → Prop} {E : Value → Shared → Prop}
    {D : Addr} {vs : List Value} {ns : List Int} {n : Nat} {o1 o2 o3 : Obj}
    (B : Below callerA base [] h₀) (X : (hd.heap_39 w.params).In h₀) (T : Top hd.view_39 (looseW hd.view_39 []) mean mg mb h₀)
    (F : Fr h₀ L s.heap (fun y => if y = Str.ofString "numbers" then some (.ref D) else m y)) (N : News h₀ L s.heap [(D, listOf vs.toArray n), (L + 1 + 1 + 1, o3), (L + 1 + 1, o2), (L + 1, o1)])
    (hi : IntsAre vs ns) (hl : ns.length ≤ 7)
    (hnext : ∀ (p q : Int) (cs : List Nat) t1 t2 t3 (m' : Str → Option Value) h' tk, (0 ≤ p ∧ p ≤ 4) → (0 ≤ q ∧ q ≤ 4) → p ≠ q → cs.length ≤ 7 →
      Fr h₀ L h' (fun y => if y = Str.ofString "text" then some (.str ⟨cs.toArray⟩ t3) else if y = Str.ofString "other" then some (.int q t2) else if y = Str.ofString "one" then some (.int p t1) else m' y) →
      News h₀ L h' [(L + 1 + 1 + 1, o3), (L + 1 + 1, o2), (L + 1, o1)] → wpAny (model Challenge.rw_oh0019_01.row.prog w) (callerA.deeper (lawEnv L a cd)) (execs (lawBody.drop 6) (lawEnv L a cd)) Q E { s with heap := h', toks := tk }) :
    wpAny (model Challenge.rw_oh0019_01.row.prog w) (callerA.deeper (lawEnv L a cd)) (execs (lawBody.drop 2) (lawEnv L a cd)) Q E s := by
  w_on
  conv in (execs _ _) => arg 1; whnf
  w_strict (
    revert X
    k_fill
    intro X
    repeat' ((fail_if_success (with_reducible show wpAny _ _ (execs [_, _, _, _, _, _, _, _, _, _, _, _, _, _, _, _, _, _] _) _ _ _)); first | (k_unfold; (try dsimp only)) | (k_end; wrow_close) | walk1 | (dsimp only; walk1) | fail "no step")
    (refine hnext _ _ _ _ _ _ _ _ _ (hands ns.sum).1 (hands ns.sum).2.1 (hands ns.sum).2.2 ?hl (by k_asm) (news_tl (news_tl (by k_asm))))
    omega)
end Mine
end
section
open PySem PySem.W PyProof.Rows
namespace Mine
set_option maxRecDepth 100000
set_option maxHeartbeats 8000000
set_option linter.unusedVariables false
theorem isNames_mk {w : World} {x : Int} {o : Obj} {kvs : List (Str × Value)} (hx : 0 ≤ x ∧ x ≤ 4) (hd : o.IsDictOf (PySem.strKind Challenge.rw_oh0019_01.row.prog w) kvs) (ht : Tab (nmTab x) kvs) : IsNames w x o := ⟨hx, kvs, hd, ht⟩
theorem subs_bound {x : Int} {l : List Nat} (h : l.length ≤ 7) : (subs (tb x) l).length ≤ 1000 := by
  have := subs_len (tb x) (tb_ok x) l
  omega
theorem le_thousand {l : List Nat} (h : l.length ≤ 7) : l.length ≤ 1000 := by omega
local macro_rules | `(tactic| walk_at "call ref") => `(tactic| (k_here; first
  | ((k_dflt (refine' c_names ?hx ?B ?F ?X ?N ?T ?hk ?hdp ?_)); (case hx => assumption); (case B => k_asm); (case F => k_asm); (case X => k_asm); (case N => k_asm); (case T => k_asm); (case hk => with_unfolding_all rfl); (case hdp => with_unfolding_all decide); intro D9 o9 kvs9 h9 tk9 F9 N9 l9 lo9 hd9 ht9; (have hn9 := isNames_mk (by assumption) hd9 ht9); (clear hd9 ht9); (try k_lt l9); (try dsimp only))
  | ((k_dflt (refine' c_written ?hx ?hl ?B ?F ?X ?N ?T ?hk ?hdp ?_)); (case hx => assumption); (case hl => first | exact le_thousand (by assumption) | exact subs_bound (by assumption)); (case B => k_asm); (case F => k_asm); (case X => k_asm); (case N => k_asm); (case T => k_asm); (case hk => with_unfolding_all rfl); (case hdp => with_unfolding_all decide); intro t9 h9 tk9 F9 N9; (try dsimp only))))
theorem law_B {w : World} {mean : ExcName → Option Value} {mg mb : Str → Option Value} {base h₀ : Heap} {L a : Addr} {cd : Value} {m : Str → Option Value} {s : Shared} {Q : Flow → Shared → Prop} {E : Value → Shared → Prop}
    {o1 o2 o3 : Obj} {p q : Int} {cs : List Nat} {t1 t2 t3 : Tok} (hp : 0 ≤ p ∧ p ≤ 4) (hq : 0 ≤ q ∧ q ≤ 4) (hpq : p ≠ q) (hcs : cs.length ≤ 7)
    (B : Below callerA base [] h₀) (X : (hd.heap_39 w.params).In h₀) (T : Top hd.view_39 (looseW hd.view_39 []) mean mg mb h₀)
    (F : Fr h₀ L s.heap (fun y => if y = Str.ofString "text" then some (.str ⟨cs.toArray⟩ t3) else if y = Str.ofString "other" then some (.int q t2) else if y = Str.ofString "one" then some (.int p t1) else m y))
    (N : News h₀ L s.heap [(L + 1 + 1 + 1, o3), (L + 1 + 1, o2), (L + 1, o1)]) (c1 : o1.data = .cell none) (c2 : o2.data = .cell none) (c3 : o3.data = .cell none)
    (hnext : ∀ D1 D2 op oq c1 c2 t4 t5 h' tk, IsNames w p op → IsNames w q oq → (D1 == sysModules) = false → (D2 == sysModules) = false → c1.data = Data.cell (some (.ref D1)) → c2.data = Data.cell (some (.ref D2)) →
      (@LT.lt Nat _ (L + 1 + 1 + 1) D1 ∧ @LT.lt Nat _ D1 D2) →
      Fr h₀ L h' (fun y => if y = Str.ofString "back" then some (.str ⟨(subs (tb q) (subs (tb p) cs)).toArray⟩ t5) else if y = Str.ofString "forth" then some (.str ⟨(subs (tb p) (subs (tb q) cs)).toArray⟩ t4) else
        if y = Str.ofString "text" then some (.str ⟨cs.toArray⟩ t3) else if y = Str.ofString "other" then some (.int q t2) else if y = Str.ofString "one" then some (.int p t1) else m y) →
      News h₀ L h' [(D2, oq), (D1, op), (L + 1 + 1 + 1, o3), (L + 1 + 1, c2), (L + 1, c1)] →
      wpAny (model Challenge.rw_oh0019_01.row.prog w) (callerA.deeper (lawEnv L a cd)) (execs (lawBody.drop 10) (lawEnv L a cd)) Q E { s with heap := h', toks := tk }) :
    wpAny (model Challenge.rw_oh0019_01.row.prog w) (callerA.deeper (lawEnv L a cd)) (execs (lawBody.drop 6) (lawEnv L a cd)) Q E s := by
  w_on
  conv in (execs _ _) => arg 1; whnf
  w_strict (
    revert X
    k_fill
    intro X
    repeat' ((fail_if_success (with_reducible show wpAny _ _ (execs [_, _, _, _, _, _, _, _, _, _, _, _, _, _] _) _ _ _)); first | (k_unfold; (try dsimp only)) | (k_end; wrow_close) | walk1 | (dsimp only; walk1) | fail "no step")
    (refine hnext _ _ _ _ _ _ _ _ _ _ ?n1 ?n2 ?l1 ?l2 ?d1 ?d2 ?hlt (by k_asm) (by k_asm))
    (case n1 => assumption)
    (case n2 => assumption)
    (case l1 => assumption)
    (case l2 => assumption)
    (case d1 => assumption)
    (case d2 => assumption)
    (constructor <;> omega))
end Mine
end
section
open PySem PySem.W PyProof.Rows
namespace Mine
theorem refs_flat : ∀ r ∈ refs, ∀ t ∈ [tbCdata, tbCdata14, tbHtml, tbAttrib14, tbAttrib], r.flatMap (look t) = [38, 97, 109, 112, 59] ++ r.drop 1 := by decide +kernel
theorem tb_mem (x : Int) : tb x ∈ [tbCdata, tbCdata14, tbHtml, tbAttrib14, tbAttrib] := by
  rcases tb_cases x with e | e | e | e | e <;> rw [e] <;> decide
/-- written by q's hand, then by p's -/
theorem twice_eq (p q : Int) (cs : List Nat) : subs (tb p) (subs (tb q) cs) = cs.flatMap (twice q p) := by
  rw [subs_eq _ (tb_ok q), subs_eq _ (tb_ok p), List.flatMap_assoc]
  congr 1
  funext c
  rw [look_assoc]
  unfold twice
  cases h : nm q c with
  | some r =>
    have h' : assoc (tb q) c = some r := h
    rw [h']
    exact refs_flat r (nm_refs h) _ (tb_mem p)
  | none =>
    have h' : assoc (tb q) c = none := h
    rw [h']
    show List.flatMap (look (tb p)) [c] = _
    rw [List.flatMap_cons, List.flatMap_nil, List.append_nil, look_assoc]; rfl
theorem twice_len (p q : Int) (c : Nat) : (twice q p c).length ≤ 100 := by
  unfold twice
  cases h : nm q c with
  | some r =>
    have := refs_len r (nm_refs h)
    simp only [List.length_append, List.length_cons, List.length_nil, List.length_drop]; omega
  | none =>
    cases h' : nm p c with
    | some r =>
      have := refs_len r (nm_refs h')
      simp only [Option.getD_some]; omega
    | none => simp
end Mine
end
section
open PySem PySem.W PyProof.Rows
namespace Mine
set_option maxRecDepth 100000
set_option maxHeartbeats 8000000
set_option linter.unusedVariables false
theorem ne_same {prog : Program} {w : World} {A : Around} {E : Value → Shared → Prop} {s : Shared} {x y : Str} {t u : Tok} {Q : Value → Shared → Prop} (e : x = y) (h : Q (.bool false) s) : wpAny (model prog w) A (compareOp .NotEq (.str x t) (.str y u)) Q E s := by
  subst e
  refine PyProof.Rows.ne_str ?_
  rw [bne_self_eq_false]; exact h
local macro_rules | `(tactic| walk_at "eval ListComp") => `(tactic| (k_here; k_dflt (refine ListComp_S (F₀ := by k_asm) (by with_unfolding_all rfl) (by decide) (by rfl) (by decide) (by rfl) ?_)))
local macro_rules | `(tactic| walk_at "CB1") => `(tactic| ((show ∀ _, _); intro a v I oI C oC D m₂ ys h tk E' ha hv hC hx F N off ne; obtain ⟨u, hv⟩ := hv; subst hv))
local macro_rules | `(tactic| walk_at "CB2") => `(tactic| ((show ∀ _, _); intro g ys hys))
local macro_rules | `(tactic| walk_at "CompEnd") => `(tactic| refine LCg.CompEnd.intro (by assumption) (by assumption) _ (fun _ h => h) (by assumption) True.intro ?_)
local macro_rules | `(tactic| walk_at "ElEnd") => `(tactic| exact ⟨rfl, _, rfl⟩)
local macro_rules | `(tactic| walk_at "call ref") => `(tactic| (k_here; (k_dflt (refine' c_twice ?hm ?ho ?lo ?hm' ?ho' ?lo' ?B ?F ?X ?N ?T ?hk ?hdp ?_; (case F => k_asm); (case N => k_asm); (case hm => k_mem); (case ho => assumption); (case lo => assumption); (case hm' => k_mem); (case ho' => assumption); (case lo' => assumption); (case B => k_asm); (case X => k_asm); (case T => k_asm); (case hk => with_unfolding_all rfl); (case hdp => with_unfolding_all decide)); intro t9 h9 tk9 F9 N9; (try dsimp only))))
local macro_rules | `(tactic| walk_at "call builtin:str.join") => `(tactic| (k_here; k_dflt (refine join_texts (by k_asm) (by k_mem) (by assumption) (fun c => twice_len _ _ c) (le_thousand (by assumption)) ?_); intro t9 k9))
local macro_rules | `(tactic| walk_at "compareOp NotEq str str") => `(tactic| (k_here; refine ne_same (congrArg (fun l => Str.mk (List.toArray l)) (twice_eq _ _ _)) ?_))
theorem law_C {w : World} {mean : ExcName → Option Value} {mg mb : Str → Option Value} {base h₀ : Heap} {L a : Addr} {cd : Value} {m : Str → Option Value} {s : Shared} {Q : Flow → Shared → Prop} {E : Value → Shared → Prop}
    {p q : Int} {cs : List Nat} {t1 t2 t3 t4 t5 : Tok} (hcs : cs.length ≤ 7) {D1 D2 : Addr} {op oq c1 c2 o3 : Obj}
    (B : Below callerA base [] h₀) (X : (hd.heap_39 w.params).In h₀) (T : Top hd.view_39 (looseW hd.view_39 []) mean mg mb h₀)
    (hop : IsNames w p op) (hoq : IsNames w q oq) (lo1 : (D1 == sysModules) = false) (lo2 : (D2 == sysModules) = false) (hc1 : c1.data = Data.cell (some (.ref D1))) (hc2 : c2.data = Data.cell (some (.ref D2)))
    (F : Fr h₀ L s.heap (fun y => if y = Str.ofString "back" then some (.str ⟨(subs (tb q) (subs (tb p) cs)).toArray⟩ t5) else if y = Str.ofString "forth" then some (.str ⟨(subs (tb p) (subs (tb q) cs)).toArray⟩ t4) else
        if y = Str.ofString "text" then some (.str ⟨cs.toArray⟩ t3) else if y = Str.ofString "other" then some (.int q t2) else if y = Str.ofString "one" then some (.int p t1) else m y))
    (N : News h₀ L s.heap [(D2, oq), (D1, op), (L + 1 + 1 + 1, o3), (L + 1 + 1, c2), (L + 1, c1)])
    (hnext : ∀ h' tk, Fr h₀ L h' (fun y => if y = Str.ofString "back" then some (.str ⟨(subs (tb q) (subs (tb p) cs)).toArray⟩ t5) else if y = Str.ofString "forth" then some (.str ⟨(subs (tb p) (subs (tb q) cs)).toArray⟩ t4) else
        if y = Str.ofString "text" then some (.str ⟨cs.toArray⟩ t3) else if y = Str.ofString "other" then some (.int q t2) else if y = Str.ofString "one" then some (.int p t1) else m y) →
      News h₀ L h' [(D2, oq), (D1, op), (L + 1 + 1 + 1, o3), (L + 1 + 1, c2), (L + 1, c1)] →
      wpAny (model Challenge.rw_oh0019_01.row.prog w) (callerA.deeper (lawEnv L a cd)) (execs (lawBody.drop 12) (lawEnv L a cd)) Q E { s with heap := h', toks := tk }) :
    wpAny (model Challenge.rw_oh0019_01.row.prog w) (callerA.deeper (lawEnv L a cd)) (execs (lawBody.drop 10) (lawEnv L a cd)) Q E s := by
  w_on
  conv in (execs _ _) => arg 1; whnf
  w_strict (
    revert X
    k_fill
    intro X
    repeat' ((fail_if_success (with_reducible show wpAny _ _ (execs [_, _, _, _, _, _, _, _, _, _, _, _] _) _ _ _)); (fail_if_success (with_reducible show SrcS _ _ _ _ _ _ _ _ _ _ _ _ _ _)); first | (k_unfold; (try dsimp only)) | (k_end; wrow_close) | walk1 | (dsimp only; walk1) | fail "no step")
    (k_dflt (refine srcS_at (G := IsTx (twice q p)) (by rfl) (by k_asm) (by k_asm) (le_thousand hcs) ?_ ?_))
    repeat' ((fail_if_success (with_reducible show wpAny _ _ (execs [_, _, _, _, _, _, _, _, _, _, _, _] _) _ _ _)); (fail_if_success (with_reducible show SrcS _ _ _ _ _ _ _ _ _ _ _ _ _ _)); first | (k_unfold; (try dsimp only)) | (k_end; wrow_close) | walk1 | (dsimp only; walk1) | fail "no step")
    (k_dflt (refine srcS_at (G := IsTx (twice p q)) (by rfl) (by k_asm) (by k_asm) (le_thousand hcs) ?_ ?_))
    repeat' ((fail_if_success (with_reducible show wpAny _ _ (execs [_, _, _, _, _, _, _, _, _, _, _, _] _) _ _ _)); (fail_if_success (with_reducible show SrcS _ _ _ _ _ _ _ _ _ _ _ _ _ _)); first | (k_unfold; (try dsimp only)) | (k_end; wrow_close) | walk1 | (dsimp only; walk1) | fail "no step")
    dsimp only
    exact hnext _ _ (by k_asm) (news_tl (news_tl (by k_asm))))
end Mine
end
section
open PySem PySem.W PyProof.Rows
namespace Mine
set_option maxRecDepth 100000
set_option maxHeartbeats 8000000
set_option linter.unusedVariables false
/-- spelled by the one hand alone -/
def pAlone (p q : Int) (c : Nat) : Bool := (nm p c).isSome && !(nm q c).isSome
/-- spelled by both, unlike -/
def pUnlike (p q : Int) (c : Nat) : Bool := (nm p c).isSome && ((nm q c).isSome && ((⟨((nm p c).getD []).toArray⟩ : Str) != ⟨((nm q c).getD []).toArray⟩))
theorem al_t {p q : Int} {c : Nat} (h1 : (nm p c).isSome = true) (h2 : (nm q c).isSome = false) : pAlone p q c = true := by unfold pAlone; rw [h1, h2]; rfl
theorem al_f1 {p q : Int} {c : Nat} (h1 : (nm p c).isSome = false) : pAlone p q c = false := by unfold pAlone; rw [h1]; rfl
theorem al_f2 {p q : Int} {c : Nat} (h2 : (nm q c).isSome = true) : pAlone p q c = false := by unfold pAlone; rw [h2]; exact Bool.and_false _
theorem un_t {p q : Int} {c : Nat} (h1 : (nm p c).isSome = true) (h2 : (nm q c).isSome = true) (h3 : ((⟨((nm p c).getD []).toArray⟩ : Str) != ⟨((nm q c).getD []).toArray⟩) = true) : pUnlike p q c = true := by
  unfold pUnlike; rw [h1, h2, h3]; rfl
theorem un_f1 {p q : Int} {c : Nat} (h1 : (nm p c).isSome = false) : pUnlike p q c = false := by unfold pUnlike; rw [h1]; rfl
theorem un_f2 {p q : Int} {c : Nat} (h2 : (nm q c).isSome = false) : pUnlike p q c = false := by unfold pUnlike; rw [h2]; exact Bool.and_false _
theorem un_f3 {p q : Int} {c : Nat} (h3 : ((⟨((nm p c).getD []).toArray⟩ : Str) != ⟨((nm q c).getD []).toArray⟩) = false) : pUnlike p q c = false := by
  unfold pUnlike; rw [h3, Bool.and_false, Bool.and_false]
abbrev IsSgn : Nat → Value → Prop := fun c y => ∃ u : Tok, y = .str ⟨#[c]⟩ u
local macro_rules | `(tactic| walk_at "compareOp In str ref") => `(tactic| (k_here; k_dflt (refine dict_in (by k_asm) (by k_mem) (by assumption) (by assumption) ?_)))
local macro_rules | `(tactic| walk_at "compareOp NotIn str ref") => `(tactic| (k_here; k_dflt (refine dict_notin (by k_asm) (by k_mem) (by assumption) (by assumption) ?_)))
local macro_rules | `(tactic| walk_at "subscriptTail") => `(tactic| (k_here; (with_reducible show wpAny _ _ (subscriptTail _ _ (Value.ref _) (Value.str _ _)) _ _ _); k_dflt (refine dict_item (by k_asm) (by k_mem) (by assumption) (by assumption) ?_); intro _))
local macro_rules | `(tactic| walk_at "eval ListComp") => `(tactic| (k_here; k_dflt (refine ListComp_ST (F₀ := by k_asm) (by with_unfolding_all rfl) (by decide) (by rfl) (by decide) (by rfl) ?_)))
local macro_rules | `(tactic| walk_at "exec Assign cons ListComp") => `(tactic| (k_here; k_dflt (refine Assign_ListComp_ST (F₀ := by k_asm) (by rfl) (by with_unfolding_all rfl) (by with_unfolding_all rfl) (by decide) (by rfl) (by decide) (by rfl) (by rfl) (by rfl) ?_)))
local macro_rules | `(tactic| walk_at "CB1") => `(tactic| ((show ∀ _, _); intro a v I oI C oC D m₂ ys h tk E' ha hv hC hx F N off ne; obtain ⟨u, hv⟩ := hv; subst hv))
local macro_rules | `(tactic| walk_at "CB2") => `(tactic| ((show ∀ _, _); intro g ys hys))
local macro_rules | `(tactic| walk_at "CompEnd") => `(tactic| refine LCg.CompEnd.intro (by assumption) (by assumption) _ (fun _ h => h) (by assumption) True.intro ?_)
theorem len_two {prog : Program} {w : World} {A : Around} {E : Value → Shared → Prop} {s : Shared} {h₀ : Heap} {L D : Addr} {news : List (Addr × Obj)} {n : Nat} {Q : Value → Shared → Prop} {α : Type} {G : α → Value → Prop} {as : List α} {ys : List Value}
    (N : News h₀ L s.heap news) (hm : (D, listOf ys.toArray n) ∈ news) (hy : Two G as ys) (hl : as.length ≤ 1000) (h : Q (.int as.length (s.toks + 1)) { s with toks := s.toks + 1 + 1 }) : wpAny (model prog w) A (call (.builtin "len") [.ref D]) Q E s := by
  have e := hy.length
  refine len_list (items := ys.toArray) (IsL.isList (n := n) (N _ hm).1) (by rw [List.size_toArray, e]; omega) ?_
  rw [List.size_toArray, e]; exact h
theorem filter_thousand {l : List Nat} {f : Nat → Bool} (h : l.length ≤ 7) : (l.filter f).length ≤ 1000 := by
  have := List.length_filter_le f l
  omega
theorem news_d {h₀ h : Heap} {L : Addr} {x y z : Addr × Obj} {r : List (Addr × Obj)} (N : News h₀ L h (x :: y :: z :: r)) : News h₀ L h (x :: r) := fun p hp => N p (by
  rcases List.mem_cons.mp hp with rfl | hp
  · exact List.mem_cons_self
  · exact List.mem_cons_of_mem _ (List.mem_cons_of_mem _ (List.mem_cons_of_mem _ hp)))
local macro_rules | `(tactic| walk_at "ElEnd") => `(tactic| first
  | exact ⟨rfl, al_t (by assumption) (by assumption), _, rfl⟩ | exact ⟨rfl, al_f1 (by assumption)⟩ | exact ⟨rfl, al_f2 (by assumption)⟩
  | exact ⟨rfl, un_t (by assumption) (by assumption) (by assumption), _, rfl⟩ | exact ⟨rfl, un_f1 (by assumption)⟩ | exact ⟨rfl, un_f2 (by assumption)⟩ | exact ⟨rfl, un_f3 (by assumption)⟩)
local macro_rules | `(tactic| walk_at "call builtin:len") => `(tactic| (k_here; k_dflt (refine len_two (by k_asm) (by k_mem) (by assumption) (filter_thousand (by assumption)) ?_)))
theorem law_D {w : World} {mean : ExcName → Option Value} {mg mb : Str → Option Value} {base h₀ : Heap} {L a : Addr} {cd : Value} {m : Str → Option Value} {s : Shared} {Q : Flow → Shared → Prop} {E : Value → Shared → Prop}
    {p q : Int} {cs : List Nat} {t1 t2 t3 t4 t5 : Tok} (hcs : cs.length ≤ 7) {D1 D2 : Addr} {op oq c1 c2 o3 : Obj} {fo ba : Str}
    (B : Below callerA base [] h₀) (X : (hd.heap_39 w.params).In h₀) (T : Top hd.view_39 (looseW hd.view_39 []) mean mg mb h₀)
    (hop : IsNames w p op) (hoq : IsNames w q oq) (lo1 : (D1 == sysModules) = false) (lo2 : (D2 == sysModules) = false) (hc1 : c1.data = Data.cell (some (.ref D1))) (hc2 : c2.data = Data.cell (some (.ref D2)))
    (F : Fr h₀ L s.heap (fun y => if y = Str.ofString "back" then some (.str ba t5) else if y = Str.ofString "forth" then some (.str fo t4) else
        if y = Str.ofString "text" then some (.str ⟨cs.toArray⟩ t3) else if y = Str.ofString "other" then some (.int q t2) else if y = Str.ofString "one" then some (.int p t1) else m y))
    (N : News h₀ L s.heap [(D2, oq), (D1, op), (L + 1 + 1 + 1, o3), (L + 1 + 1, c2), (L + 1, c1)])
    (hnext : ∀ DU ys t6 t7 h' tk, Two IsSgn (cs.filter (pUnlike p q)) ys → (@Ne Nat D2 DU ∧ @Ne Nat D1 DU ∧ @Ne Nat (L + 1 + 1 + 1) DU ∧ @Ne Nat (L + 1 + 1) DU ∧ @Ne Nat (L + 1) DU) →
      Fr h₀ L h' (fun y => if y = Str.ofString "unlike" then some (.ref DU) else if y = Str.ofString "others_alone" then some (.int (cs.filter (pAlone q p)).length t7) else if y = Str.ofString "alone" then some (.int (cs.filter (pAlone p q)).length t6) else
        if y = Str.ofString "back" then some (.str ba t5) else if y = Str.ofString "forth" then some (.str fo t4) else
        if y = Str.ofString "text" then some (.str ⟨cs.toArray⟩ t3) else if y = Str.ofString "other" then some (.int q t2) else if y = Str.ofString "one" then some (.int p t1) else m y) →
      News h₀ L h' [(DU, LCg.lst ys), (D2, oq), (D1, op), (L + 1 + 1 + 1, o3), (L + 1 + 1, c2), (L + 1, c1)] →
      wpAny (model Challenge.rw_oh0019_01.row.prog w) (callerA.deeper (lawEnv L a cd)) (execs (lawBody.drop 15) (lawEnv L a cd)) Q E { s with heap := h', toks := tk }) :
    wpAny (model Challenge.rw_oh0019_01.row.prog w) (callerA.deeper (lawEnv L a cd)) (execs (lawBody.drop 12) (lawEnv L a cd)) Q E s := by
  w_on
  conv in (execs _ _) => arg 1; whnf
  w_strict (
    revert X
    k_fill
    intro X
    repeat' ((fail_if_success (with_reducible show wpAny _ _ (execs [_, _, _, _, _, _, _, _, _] _) _ _ _)); (fail_if_success (with_reducible show SrcST _ _ _ _ _ _ _ _ _ _ _ _ _ _ _)); first | (k_unfold; (try dsimp only)) | (k_end; wrow_close) | walk1 | (dsimp only; walk1) | fail "no step")
    (k_dflt (refine srcST_at (p := pAlone p q) (G := IsSgn) (by rfl) (by k_asm) (by k_asm) (le_thousand hcs) ?_ ?_))
    repeat' ((fail_if_success (with_reducible show wpAny _ _ (execs [_, _, _, _, _, _, _, _, _] _) _ _ _)); (fail_if_success (with_reducible show SrcST _ _ _ _ _ _ _ _ _ _ _ _ _ _ _)); first | (k_unfold; (try dsimp only)) | (k_end; wrow_close) | walk1 | (dsimp only; walk1) | fail "no step")
    (k_dflt (refine srcST_at (p := pAlone q p) (G := IsSgn) (by rfl) (by k_asm) (by k_asm) (le_thousand hcs) ?_ ?_))
    repeat' ((fail_if_success (with_reducible show wpAny _ _ (execs [_, _, _, _, _, _, _, _, _] _) _ _ _)); (fail_if_success (with_reducible show SrcST _ _ _ _ _ _ _ _ _ _ _ _ _ _ _)); first | (k_unfold; (try dsimp only)) | (k_end; wrow_close) | walk1 | (dsimp only; walk1) | fail "no step")
    (k_dflt (refine srcST_at (p := pUnlike p q) (G := IsSgn) (by rfl) (by k_asm) (by k_asm) (le_thousand hcs) ?_ ?_))
    repeat' ((fail_if_success (with_reducible show wpAny _ _ (execs [_, _, _, _, _, _, _, _, _] _) _ _ _)); (fail_if_success (with_reducible show SrcST _ _ _ _ _ _ _ _ _ _ _ _ _ _ _)); first | (k_unfold; (try dsimp only)) | (k_end; wrow_close) | walk1 | (dsimp only; walk1) | fail "no step")
    (refine hnext _ _ _ _ _ _ (by assumption) ?_ (by k_asm) (news_d (by k_asm)))
    omega)
end Mine
end
section
open PySem PySem.W PySem.Calls PyProof.Rows
set_option linter.unusedVariables false
namespace Mine
def FB1 (P : Prop) : Prop := P
def FB2 (P : Prop) : Prop := P
/-- a turn's end of a loop whose name lies in a cell -/
def TurnC (h₀ : Heap) (L Cx : Addr) (J : Nat → (Str → Option Value) → List (Addr × Obj) → Prop) (i : Nat) (I : Addr) (oI : Obj) (s : Shared) (f : Flow) (s₃ : Shared) : Prop :=
  f = .next ∧ ∃ h' tk' m₂ rest₂ o₂ v₂, s₃ = { s with heap := h', toks := tk' } ∧ Fr h₀ L h' m₂ ∧ News h₀ L h' ((I, oI) :: (Cx, o₂) :: rest₂) ∧ o₂.data = .cell v₂ ∧ J (i + 1) m₂ rest₂
section
variable {prog : Program} {w : World} {A : Around} {E : Value → Shared → Prop} {s : Shared} {h₀ : Heap} {L Cx : Addr} {m : Str → Option Value} {env : Env} {x : Str} {px pos : Pos} {iter : Expr} {body : List Stmt} {Q : Flow → Shared → Prop} {rest : List (Addr × Obj)} {o : Obj} {v₀ : Option Value}
theorem For_cell_at {xs : List Nat} {t : Tok} (J : Nat → (Str → Option Value) → List (Addr × Obj) → Prop)
    (hh : A.handled = none) (hL : env.locals = L) (hke : env.scope.kind = .function) (hx : env.kindOf x = some .cell) (hc : env.cells.lookup x = some Cx)
    (F : Fr h₀ L s.heap m) (N : News h₀ L s.heap ((Cx, o) :: rest)) (ho : o.data = .cell v₀) (hne : ∀ p ∈ rest, p.1 ≠ Cx) (hJ : J 0 m rest) (had : ∀ i m₁ r₁, J i m₁ r₁ → r₁.map (·.1) = rest.map (·.1))
    (turn : FB1 (∀ i c u m₁ rest₁ I oI o' h tk, xs[i]? = some c → J i m₁ rest₁ → o'.data = Data.cell (some (.str ⟨#[c]⟩ u)) → Fr h₀ L h m₁ → News h₀ L h ((I, oI) :: (Cx, o') :: rest₁) → (∀ p ∈ (Cx, o') :: rest₁, p.1 ≠ I) →
      wpAny (model prog w) A (execs body env) (TurnC h₀ L Cx J i I oI s) E { s with heap := h, toks := tk }))
    (done : FB2 (∀ h tk m₁ rest₁ o' v', J xs.length m₁ rest₁ → o'.data = Data.cell v' → Fr h₀ L h m₁ → News h₀ L h ((Cx, o') :: rest₁) → Q .next { s with heap := h, toks := tk }))
    (hE : PassesOwn (model prog w) A env E) :
    wpAny (model prog w) A (pyIter (.str ⟨xs.toArray⟩ t)) (fun it s₂ => codeAny (model prog w) A (.forLoop (.Name x px) it body [] env) (fun r s' => match r with | .ok f => Q f s' | .error e => cameBackBy (model prog w) A env E e s') s₂) E s := by
  refine iter_str fun oI₀ St W' hIo hst => ?_
  have W := W' A hh
  have hILt : s.heap.objs.size ≠ L := Ne.symm (Nat.ne_of_lt F.ns.lt)
  have hI₀ : h₀.get? s.heap.objs.size = none := next_is_new F
  have hIad : ∀ p ∈ (Cx, o) :: rest, p.1 ≠ s.heap.objs.size := fun p hp => Nat.ne_of_lt (Heap.lt_size (N p hp).1)
  have offI : ∀ i m₁ r₁ (o₁ : Obj), J i m₁ r₁ → ∀ p ∈ (Cx, o₁) :: r₁, p.1 ≠ s.heap.objs.size := fun i m₁ r₁ o₁ j p hp => by
    rcases List.mem_cons.mp hp with rfl | hp
    · exact hIad (Cx, o) List.mem_cons_self
    · have h1 : p.1 ∈ r₁.map (·.1) := List.mem_map.mpr ⟨p, hp, rfl⟩
      rw [had i m₁ r₁ j] at h1
      obtain ⟨q, hq, e⟩ := List.mem_map.mp h1
      rw [← e]; exact hIad q (List.mem_cons_of_mem _ hq)
  have offC : ∀ i m₁ r₁, J i m₁ r₁ → ∀ p ∈ r₁, p.1 ≠ Cx := fun i m₁ r₁ j p hp => by
    have h1 : p.1 ∈ r₁.map (·.1) := List.mem_map.mpr ⟨p, hp, rfl⟩
    rw [had i m₁ r₁ j] at h1
    obtain ⟨q, hq, e⟩ := List.mem_map.mp h1
    rw [← e]; exact hne q hq
  have hsz : (⟨xs.toArray⟩ : Str).cps.size = xs.length := by show xs.toArray.size = _; simp
  have up : ∀ b o', s.heap.get? b = some o' → (s.heap.push oI₀).get? b = some o' := fun b o' e => Heap.get?_push_of_some _ e
  refine codeAny_forLoop
    (fun k s' => ∃ h' tk m' rest' o' v' i, s' = { s with heap := h', toks := tk } ∧ St i h' ∧ Fr h₀ L h' m' ∧ News h₀ L h' ((Cx, o') :: rest') ∧ o'.data = .cell v' ∧ J i m' rest' ∧ i ≤ xs.length ∧ k = xs.length + 1 - i) ?_ (xs.length + 1)
    ⟨s.heap.push oI₀, s.toks, m, rest, o, v₀, 0, rfl, hst, F.keeps up, N.grown up, ho, hJ, Nat.zero_le _, rfl⟩
  rintro k s' ⟨h', tk, m', rest', o', v', i, rfl, hst', F', N', ho', hJ', hi, rfl⟩
  have keepB : ∀ h₁ : Heap, (∀ b o, b ∉ [s.heap.objs.size] → h'.get? b = some o → h₁.get? b = some o) → Fr h₀ L h₁ m' ∧ News h₀ L h₁ ((Cx, o') :: rest') := fun h₁ hk₁ =>
    ⟨LCg.fr_but F' hk₁ (Ne.symm hILt) hI₀, LCg.news_but N' hk₁ (offI i m' rest' o' hJ')⟩
  by_cases hlt : i < xs.length
  · refine W.item i _ _ _ (by rw [hsz]; exact hlt) hst' fun v h₁ tk₁ hP hst₁ hk₁ => ?_
    obtain ⟨F₁, N₁⟩ := keepB h₁ hk₁
    obtain ⟨c, hc', u, rfl⟩ := signAt_list i v hP
    have hcell := N₁ (Cx, o') List.mem_cons_self
    refine wpAny_assign_Name (wpAny_storeName_cell hke hx hc ⟨o', hcell.1, ho'⟩ fun h₂ hv₂ hs₂ => ?_)
    obtain ⟨o₂, ho₂, hd₂⟩ := hv₂
    have F₂ : Fr h₀ L h₂ m' := F₁.change hs₂ hcell.2.1 hcell.2.2
    have hCI : s.heap.objs.size ≠ Cx := Ne.symm (hIad (Cx, o) List.mem_cons_self)
    have hst₂ : St (i + 1) h₂ := W.frame _ _ _ hst₁ fun b hb o e => hs₂.extBut b o (fun q => hCI (by rw [← List.mem_singleton.mp hb, q])) e
    obtain ⟨oI, hoI⟩ := hIo _ _ hst₂
    have N₂ : News h₀ L h₂ ((s.heap.objs.size, oI) :: (Cx, o₂) :: rest') := fun p hp => by
      rcases List.mem_cons.mp hp with rfl | hp
      · exact ⟨hoI, hILt, hI₀⟩
      · rcases List.mem_cons.mp hp with rfl | hp
        · exact ⟨ho₂, hcell.2.1, hcell.2.2⟩
        · have z := N₁ p (List.mem_cons_of_mem _ hp)
          exact ⟨hs₂.extBut _ _ (offC i m' rest' hJ' p hp) z.1, z.2⟩
    refine wpAny_mono (turn i c u m' rest' s.heap.objs.size oI o₂ h₂ _ hc' hJ' hd₂ F₂ N₂ (offI i m' rest' o₂ hJ')) (fun f s₃ h₃ => ?_) hE
    obtain ⟨rfl, h₃, tk₃, m₃, rest₃, o₃, v₃, rfl, F₃, N₃, hd₃, hJ₃⟩ := h₃
    refine ⟨xs.length + 1 - (i + 1), by omega, h₃, tk₃, m₃, rest₃, o₃, v₃, i + 1, rfl, ?_, F₃, fun p hp => N₃ p (List.mem_cons_of_mem _ hp), hd₃, hJ₃, hlt, rfl⟩
    refine W.frame _ _ _ hst₂ fun b hb o e => ?_
    rw [List.mem_singleton.mp hb] at e ⊢
    rw [hoI] at e
    rw [← e]; exact (N₃ (s.heap.objs.size, oI) List.mem_cons_self).1
  · have hin : i = xs.length := by omega
    subst hin
    rw [← hsz] at hst'
    refine W.done _ _ _ hst' fun h₁ tk₁ hk₁ => wpAny_execs_nil ?_
    obtain ⟨F₁, N₁⟩ := keepB h₁ hk₁
    exact done h₁ tk₁ m' rest' o' v' hJ' ho' F₁ N₁
theorem For_cell {xs : List Nat} (J : Nat → (Str → Option Value) → List (Addr × Obj) → Prop)
    (hh : A.handled = none) (hL : env.locals = L) (hke : env.scope.kind = .function) (hx : env.kindOf x = some .cell) (hc : env.cells.lookup x = some Cx)
    (F : Fr h₀ L s.heap m) (N : News h₀ L s.heap ((Cx, o) :: rest)) (ho : o.data = .cell v₀) (hne : ∀ p ∈ rest, p.1 ≠ Cx) (hJ : J 0 m rest) (had : ∀ i m₁ r₁, J i m₁ r₁ → r₁.map (·.1) = rest.map (·.1))
    {kc : Nat} {pc : Pos} {xS : Str} (hxS : xS = ⟨xs.toArray⟩)
    (turn : FB1 (∀ i c u m₁ rest₁ I oI o' h tk, xs[i]? = some c → J i m₁ rest₁ → o'.data = Data.cell (some (.str ⟨#[c]⟩ u)) → Fr h₀ L h m₁ → News h₀ L h ((I, oI) :: (Cx, o') :: rest₁) → (∀ p ∈ (Cx, o') :: rest₁, p.1 ≠ I) →
      wpAny (model prog w) A (execs body env) (TurnC h₀ L Cx J i I oI s) E { s with heap := h, toks := tk }))
    (done : FB2 (∀ h tk m₁ rest₁ o' v', J xs.length m₁ rest₁ → o'.data = Data.cell v' → Fr h₀ L h m₁ → News h₀ L h ((Cx, o') :: rest₁) → Q .next { s with heap := h, toks := tk }))
    (hE : PassesOwn (model prog w) A env E) (hs : ∀ x, foldedSetIterable (.Constant (.str xS) kc pc) env x = pure x := by intro _; rfl) :
    wpAny (model prog w) A (exec (.For (.Name x px) (.Constant (.str xS) kc pc) body [] pos) env) Q E s := by
  subst hxS
  exact wpAny_For (wpAny_Constant_str (For_cell_at (s := { s with toks := s.toks + 1 }) J hh hL hke hx hc F N ho hne hJ had turn done hE)) hs
end
end Mine
end
section
open PySem PySem.W PySem.Calls PyProof.Rows
set_option linter.unusedVariables false
namespace Mine
/-- how often a sign stands in a text -/
def cnt (l : List Nat) (c : Nat) : Int := (l.count c : Nat)
theorem cnt_is (l : List Nat) (c : Nat) : PyProof.Rows.cnt c l = cnt l c := by
  induction l with
  | nil => rfl
  | cons n r ih =>
    rw [PyProof.Rows.cnt_cons, ih]
    unfold cnt
    rw [List.count_cons]
    by_cases h : n = c
    · subst h; simp; omega
    · have hb : (n == c) = false := by simpa using h
      rw [if_neg h, hb]; simp
theorem txt_count (l : List Nat) (c : Nat) : Txt.count ⟨l.toArray⟩ ⟨#[c]⟩ = cnt l c := by
  rw [count_is]
  show PyProof.Rows.cnt c (l.toArray.toList) = _
  rw [List.toList_toArray, cnt_is]
abbrev IsInt {α : Type} (g : α → Int) : α → Value → Prop := fun a y => ∃ t : Tok, y = .int (g a) t
theorem Two.ints {α : Type} {g : α → Int} : ∀ {as : List α} {ys : List Value}, Two (IsInt g) as ys → IntsAre ys (as.map g)
  | _, _, .nil => .nil
  | _, _, .cons ⟨t, e⟩ h => by subst e; exact .cons _ t h.ints
theorem Sg.rep (c : Nat) (t : Tok) : ∀ k : Nat, Sg (List.replicate k (.str ⟨#[c]⟩ t)) (List.replicate k c)
  | 0 => .nil
  | k + 1 => .cons c t (Sg.rep c t k)
theorem fold_one (v : Value) : ∀ (k : Nat) (acc : Array Value), List.foldl (fun x1 x2 => x1 ++ x2) acc (List.replicate k #[v]) = acc ++ (List.replicate k v).toArray
  | 0, acc => by simp
  | k + 1, acc => by
    rw [List.replicate_succ, List.foldl_cons, fold_one v k, List.replicate_succ, Array.append_assoc]
    congr 1
    apply Array.toList_inj.mp; simp
section
variable {prog : Program} {w : World} {A : Around} {E : Value → Shared → Prop} {s : Shared} {h₀ : Heap} {L D b : Addr} {m : Str → Option Value} {news : List (Addr × Obj)} {n n2 : Nat} {t u : Tok} {Q : Value → Shared → Prop}
theorem sum_two {α : Type} {g : α → Int} {as : List α} {ys : List Value} (hh : A.handled = none) (F : Fr h₀ L s.heap m) (N : News h₀ L s.heap news) (hm : (D, listOf ys.toArray n) ∈ news) (hy : Two (IsInt g) as ys)
    (h : ∀ h' tk t', Fr h₀ L h' m → News h₀ L h' news → Q (.int (as.map g).sum t') { s with heap := h', toks := tk }) : wpAny (model prog w) A (call (.builtin "sum") [.ref D]) Q E s :=
  sumK hh F N (IsL.isList (n := n) (N _ hm).1) hy.ints h
theorem mul_one {v : Value} {x : Int} {k : Nat} (F : Fr h₀ L s.heap m) (N : News h₀ L s.heap news) (hm : (D, listOf #[v] n) ∈ news) (hk : x.toNat = k) (hlo : -1000 ≤ x) (hhi : x ≤ 1000)
    (h : ∀ D' h', Fr h₀ L h' m → News h₀ L h' ((D', listOf (List.replicate k v).toArray 0) :: news) → (∀ p ∈ news, p.1 < D') → Q (.ref D') { s with heap := h' }) :
    wpAny (model prog w) A (binaryOp .Mult (.ref D) (.int x u)) Q E s := by
  refine mul_list F N (items := #[v]) (k := n) (N _ hm).1 (by omega) (by omega) ?_ fun h' F' N' => ?_
  · show 1 * x.toNat ≤ 2 ^ 24
    omega
  · have e : List.foldl (fun x1 x2 => x1 ++ x2) #[] (List.replicate (if (#[v] : Array Value).isEmpty = true then 0 else x.toNat) #[v]) = (List.replicate k v).toArray := by
      rw [if_neg (by simp), fold_one, hk]; simp
    rw [e] at N'
    exact h _ h' F' N' fun p hp => Heap.lt_size (N p hp).1
theorem ext_at {vs ws : List Value} {g : Obj → List (Addr × Obj)} (F : Fr h₀ L s.heap m) (N : News h₀ L s.heap news) (U : UpdF D (listOf vs.toArray n) news g) (hb : (b, listOf ws.toArray n2) ∈ news) (h1 : vs.length ≤ 1000) (h2 : ws.length ≤ 1000)
    (h : ∀ h' n', Fr h₀ L h' m → News h₀ L h' (g (listOf (vs ++ ws).toArray n')) → Q .none { s with heap := h' }) : wpAny (model prog w) A (call (.builtin "list.extend") [.ref D, .ref b]) Q E s := by
  have hb' := (N _ hb).1
  obtain ⟨pre, post, rfl, hg, a1, a2⟩ := U.split
  refine extend_in (its2 := ws.toArray) (n2 := n2) F N a1 a2 hb' (fun h' n' F' N' => ?_) (by rw [List.size_toArray, sizeLine_eq]; omega)
  exact h h' n' F' (hg _ ▸ N')
end
end Mine
end
section
open PySem PySem.W PyProof.Rows
namespace Mine
set_option maxRecDepth 100000
set_option maxHeartbeats 8000000
set_option linter.unusedVariables false
/-- the loop's signs -/
def signs12 : List Nat := [97, 109, 112, 59, 35, 120, 68, 65, 49, 51, 48, 57]
theorem of_signs : Str.ofString "amp;#xDA1309" = ⟨signs12.toArray⟩ := by decide +kernel
/-- what the first order has over of a sign -/
def moreOf (p q : Int) (cs : List Nat) (c : Nat) : Int :=
  (((cs.filter (pAlone q p)).length : Int) - (cs.filter (pAlone p q)).length) * cnt [97, 109, 112, 59] c + ((cs.filter (pUnlike p q)).map fun o => cnt ((nm q o).getD []) c - cnt ((nm p o).getD []) c).sum
def overOf (f : Nat → Int) (l : List Nat) : List Nat := l.flatMap fun c => List.replicate (f c).toNat c
theorem cnt_amp (c : Nat) : cnt [97, 109, 112, 59] c = 0 ∨ cnt [97, 109, 112, 59] c = 1 := by
  unfold cnt
  simp only [List.count_cons, List.count_nil]
  by_cases h1 : (97 == c) = true
  · have : c = 97 := (by simpa using h1 : 97 = c).symm
    subst this; right; rfl
  · by_cases h2 : (109 == c) = true
    · have : c = 109 := (by simpa using h2 : 109 = c).symm
      subst this; right; rfl
    · by_cases h3 : (112 == c) = true
      · have : c = 112 := (by simpa using h3 : 112 = c).symm
        subst this; right; rfl
      · by_cases h4 : (59 == c) = true
        · have : c = 59 := (by simpa using h4 : 59 = c).symm
          subst this; right; rfl
        · left; simp [h1, h2, h3, h4]
theorem cnt_bound (l : List Nat) (c : Nat) : 0 ≤ cnt l c ∧ cnt l c ≤ l.length := by
  have := List.count_le_length (a := c) (l := l)
  unfold cnt
  omega
theorem sum_bound7 {f : Nat → Int} (hf : ∀ c, -6 ≤ f c ∧ f c ≤ 6) : ∀ l : List Nat, -(6 * (l.length : Int)) ≤ (l.map f).sum ∧ (l.map f).sum ≤ 6 * (l.length : Int)
  | [] => by simp
  | a :: r => by
    have ih := sum_bound7 hf r
    have h := hf a
    rw [List.map_cons, List.sum_cons, List.length_cons]
    omega
theorem more_bound {p q : Int} {cs : List Nat} (h : cs.length ≤ 7) (c : Nat) : -49 ≤ moreOf p q cs c ∧ moreOf p q cs c ≤ 49 := by
  unfold moreOf
  have h1 := List.length_filter_le (pAlone q p) cs
  have h2 := List.length_filter_le (pAlone p q) cs
  have h3 := List.length_filter_le (pUnlike p q) cs
  have h4 := sum_bound7 (f := fun o => cnt ((nm q o).getD []) c - cnt ((nm p o).getD []) c) (fun o => by
    have a1 := cnt_bound ((nm q o).getD []) c
    have a2 := cnt_bound ((nm p o).getD []) c
    have b1 := nm_len q o
    have b2 := nm_len p o
    omega) (cs.filter (pUnlike p q))
  rcases cnt_amp c with e | e <;> rw [e] <;> omega
end Mine
end
section
open PySem PySem.W PyProof.Rows
namespace Mine
set_option maxRecDepth 100000
set_option maxHeartbeats 8000000
set_option linter.unusedVariables false
def forOf : Stmt → List Stmt
  | .For _ _ b _ _ => b
  | _ => []
def forBody : List Stmt := forOf (lawBody.getD 17 (.Pass ⟨0, 0, 0, 0⟩))
theorem unl_some {p q : Int} {cs : List Nat} {o : Nat} (h : o ∈ cs.filter (pUnlike p q)) : (nm p o).isSome = true ∧ (nm q o).isSome = true := by
  have := (List.mem_filter.mp h).2
  unfold pUnlike at this
  simp only [Bool.and_eq_true] at this
  exact ⟨this.1, this.2.1⟩
local macro_rules | `(tactic| walk_at "subscriptTail") => `(tactic| (k_here; (with_reducible show wpAny _ _ (subscriptTail _ _ (Value.ref _) (Value.str _ _)) _ _ _); k_dflt (refine dict_item (by k_asm) (by k_mem) (by assumption) (by assumption) ?_); intro _))
local macro_rules | `(tactic| walk_at "eval ListComp") => `(tactic| (k_here; k_dflt (refine LCg.ListComp_U (F₀ := by k_asm) (by with_unfolding_all rfl) (by decide) (by rfl) (by decide) (by rfl) ?_)))
local macro_rules | `(tactic| walk_at "CB1") => `(tactic| ((show ∀ _, _); intro a v I oI C oC D m₂ ys h tk E' ha hv hC hx F N off ne; obtain ⟨u, hv⟩ := hv; subst hv; obtain ⟨hp9, hq9⟩ := unl_some ha))
local macro_rules | `(tactic| walk_at "CB2") => `(tactic| ((show ∀ _, _); intro g ys hys))
local macro_rules | `(tactic| walk_at "CompEnd") => `(tactic| refine LCg.CompEnd.intro (by assumption) (by assumption) _ (fun _ h => h) (by assumption) True.intro ?_)
local macro_rules | `(tactic| walk_at "no such place") => `(tactic| fail "no such place")
theorem of_amp4 : Str.ofString "amp;" = ⟨[97, 109, 112, 59].toArray⟩ := by decide +kernel
theorem amp_count (c : Nat) : Txt.count (Str.ofString "amp;") ⟨#[c]⟩ = cnt [97, 109, 112, 59] c := by rw [of_amp4, txt_count]
theorem amp_mul {prog : Program} {w : World} {A : Around} {E : Value → Shared → Prop} {s : Shared} {a : Int} {c : Nat} {t u : Tok} {Q : Value → Shared → Prop} (h : Q (.int (a * cnt [97, 109, 112, 59] c) s.toks) { s with toks := s.toks + 1 }) :
    wpAny (model prog w) A (binaryOp .Mult (.int a t) (.int (Txt.count (Str.ofString "amp;") ⟨#[c]⟩) u)) Q E s := by
  rw [amp_count]
  refine PyProof.Rows.mul_int h (.of_right ?_)
  rcases cnt_amp c with e | e <;> rw [e] <;> decide
local macro_rules | `(tactic| walk_at "binaryOp Mult int int") => `(tactic| (k_here; refine amp_mul ?_))
theorem max_pos (z : Int) : (if z > 0 then z else 0).toNat = z.toNat := by split <;> omega
theorem max_lo {z : Int} (h : z ≤ 100) : -1000 ≤ (if z > 0 then z else 0) ∧ (if z > 0 then z else 0) ≤ 1000 := by split <;> omega
local macro_rules | `(tactic| walk_at "ElEnd") => `(tactic| exact ⟨rfl, _, congrArg (fun z => Value.int z _) (by rw [txt_count, txt_count])⟩)
local macro_rules | `(tactic| walk_at "call builtin:sum") => `(tactic| (k_here; k_dflt (refine sum_two (by rfl) (by k_asm) (by k_asm) (by k_mem) (by assumption) ?_); intro h9 tk9 t9 F9 N9))
theorem more_hi {p q : Int} {cs : List Nat} {c : Nat} (h : cs.length ≤ 7) : moreOf p q cs c ≤ 100 := by have := (more_bound (p := p) (q := q) h c).2; omega
theorem more_neg {p q : Int} {cs : List Nat} {c : Nat} (h : cs.length ≤ 7) : -moreOf p q cs c ≤ 100 := by have := (more_bound (p := p) (q := q) h c).1; omega
theorem rep_len {z : Int} (h : z ≤ 100) (v : Value) : (List.replicate z.toNat v).length ≤ 1000 := by rw [List.length_replicate]; omega
theorem len_le {vs : List Value} {cs : List Nat} (h : Sg vs cs) (b : cs.length ≤ 1000) : vs.length ≤ 1000 := by rw [h.length]; omega
local macro_rules | `(tactic| walk_at "binaryOp Mult ref int") => `(tactic| (k_here; (k_dflt (first | refine mul_one (by k_asm) (by k_asm) (by k_mem) (max_pos _) (max_lo (more_hi (by assumption))).1 (max_lo (more_hi (by assumption))).2 ?_ | refine mul_one (by k_asm) (by k_asm) (by k_mem) (max_pos _) (max_lo (more_neg (by assumption))).1 (max_lo (more_neg (by assumption))).2 ?_)); intro D9 h9 F9 N9 l9; (try k_lt l9)))
local macro_rules | `(tactic| walk_at "call builtin:list.extend") => `(tactic| (k_here; (k_dflt (refine' ext_at ?F ?N ?U ?b ?l1 ?l2 ?_; (case F => k_asm); (case N => k_asm); (case U => k_updF); (case b => k_mem); (case l1 => exact len_le (by assumption) (by assumption)); (case l2 => first | exact rep_len (more_hi (by assumption)) _ | exact rep_len (more_neg (by assumption)) _))); intro h9 n9 F9 N9; (try dsimp only at N9)))
theorem fr_same {h₀ h : Heap} {L : Addr} {i : Str} {a b : Option Value} {g : Str → Option Value} (F : Fr h₀ L h (fun y => if y = i then a else if y = i then b else g y)) : Fr h₀ L h (fun y => if y = i then a else g y) := by
  rw [same_put] at F; exact F
theorem turn_E {w : World} {mean : ExcName → Option Value} {mg mb : Str → Option Value} {base h₀ : Heap} {L a : Addr} {cd : Value} {m : Str → Option Value} {s : Shared} {Q : Flow → Shared → Prop} {E : Value → Shared → Prop}
    {p q : Int} {cs : List Nat} {t6 t7 u : Tok} (hcs : cs.length ≤ 7) {I D1 D2 DU OV UD : Addr} {oI op oq c1 c2 o3 : Obj} {ys : List Value} {vm : Option Value} {c : Nat} {vo vu : List Value} {no nu : Nat} {co cu : List Nat}
    (B : Below callerA base [] h₀) (X : (hd.heap_39 w.params).In h₀) (T : Top hd.view_39 (looseW hd.view_39 []) mean mg mb h₀)
    (hop : IsNames w p op) (hoq : IsNames w q oq) (lo1 : (D1 == sysModules) = false) (lo2 : (D2 == sysModules) = false) (hc1 : c1.data = Data.cell (some (.ref D1))) (hc2 : c2.data = Data.cell (some (.ref D2))) (hc3 : o3.data = Data.cell (some (.str ⟨#[c]⟩ u)))
    (hys : Two IsSgn (cs.filter (pUnlike p q)) ys) (ho : Sg vo co) (hu : Sg vu cu) (bo : co.length ≤ 1000) (bu : cu.length ≤ 1000) (hlt : @LT.lt Nat _ (L + 1 + 1 + 1) D1 ∧ @LT.lt Nat _ D1 D2 ∧ @LT.lt Nat _ D2 OV ∧ @LT.lt Nat _ DU OV ∧ @LT.lt Nat _ OV UD) (hI : @Ne Nat I UD ∧ @Ne Nat I OV)
    (F : Fr h₀ L s.heap (fun y => if y = Str.ofString "more" then vm else if y = Str.ofString "under" then some (.ref UD) else if y = Str.ofString "over" then some (.ref OV) else if y = Str.ofString "unlike" then some (.ref DU) else if y = Str.ofString "others_alone" then some (.int (cs.filter (pAlone q p)).length t7) else if y = Str.ofString "alone" then some (.int (cs.filter (pAlone p q)).length t6) else m y))
    (N : News h₀ L s.heap [(I, oI), (L + 1 + 1 + 1, o3), (UD, listOf vu.toArray nu), (OV, listOf vo.toArray no), (DU, LCg.lst ys), (D2, oq), (D1, op), (L + 1 + 1, c2), (L + 1, c1)])
    (hret : ∀ vm' vo' vu' no' nu' h' tk, Sg vo' (co ++ List.replicate (moreOf p q cs c).toNat c) → Sg vu' (cu ++ List.replicate (-moreOf p q cs c).toNat c) →
      Fr h₀ L h' (fun y => if y = Str.ofString "more" then vm' else if y = Str.ofString "under" then some (.ref UD) else if y = Str.ofString "over" then some (.ref OV) else if y = Str.ofString "unlike" then some (.ref DU) else if y = Str.ofString "others_alone" then some (.int (cs.filter (pAlone q p)).length t7) else if y = Str.ofString "alone" then some (.int (cs.filter (pAlone p q)).length t6) else m y) →
      News h₀ L h' [(I, oI), (L + 1 + 1 + 1, o3), (UD, listOf vu'.toArray nu'), (OV, listOf vo'.toArray no'), (DU, LCg.lst ys), (D2, oq), (D1, op), (L + 1 + 1, c2), (L + 1, c1)] → Q .next { s with heap := h', toks := tk }) :
    wpAny (model Challenge.rw_oh0019_01.row.prog w) (callerA.deeper (lawEnv L a cd)) (execs forBody (lawEnv L a cd)) Q E s := by
  w_on
  conv in (execs _ _) => arg 1; whnf
  w_strict (
    revert X
    k_fill
    intro X
    repeat' ((fail_if_success (with_reducible show LCg.CompSrc _ _ _ _ _ _ _ _ _ _ _ _ _ _)); first | (k_unfold; (try dsimp only)) | (k_end; wrow_close) | walk1 | (dsimp only; walk1) | fail "no step")
    (k_dflt (refine srcL_strs (G := IsInt (fun o => cnt ((nm q o).getD []) c - cnt ((nm p o).getD []) c)) (by rfl) (by k_asm) (by k_asm) (by k_mem) hys (filter_thousand hcs) ?_ ?_))
    repeat' ((fail_if_success (with_reducible show LCg.CompSrc _ _ _ _ _ _ _ _ _ _ _ _ _ _)); first | (k_unfold; (try dsimp only)) | (k_end; wrow_close) | walk1 | (dsimp only; walk1) | fail "no step")
    (try dsimp only)
    (refine hret _ _ _ _ _ _ _ ?_ ?_ (fr_same (fr_same (by k_asm))) (news_tl (news_tl (news_tl (news_tl (news_tl (by k_asm)))))))
    (exact ho.append (Sg.rep _ _ _))
    (exact hu.append (Sg.rep _ _ _)))
end Mine
end
section
open PySem PySem.W PyProof.Rows
namespace Mine
set_option maxRecDepth 100000
set_option maxHeartbeats 8000000
set_option linter.unusedVariables false
theorem overOf_snoc {f : Nat → Int} {i c : Nat} {l : List Nat} (h : l[i]? = some c) : overOf f (l.take (i + 1)) = overOf f (l.take i) ++ List.replicate (f c).toNat c := by
  unfold overOf
  rw [List.take_add_one, h, List.flatMap_append]
  simp
theorem overOf_len {f : Nat → Int} (h : ∀ c, f c ≤ 49) : ∀ l : List Nat, (overOf f l).length ≤ 49 * l.length
  | [] => by simp [overOf]
  | c :: r => by
    have ih := overOf_len h r
    have h1 := h c
    unfold overOf at ih ⊢
    rw [List.flatMap_cons, List.length_append, List.length_replicate, List.length_cons]
    omega
theorem over_b {f : Nat → Int} (h : ∀ c, f c ≤ 49) (i : Nat) : (overOf f (signs12.take i)).length ≤ 1000 := by
  have h1 := overOf_len h (signs12.take i)
  have h2 : (signs12.take i).length ≤ 12 := by rw [List.length_take]; exact Nat.min_le_right _ _
  omega
theorem over_m {p q : Int} {cs : List Nat} (h : cs.length ≤ 7) (i : Nat) : (overOf (moreOf p q cs) (signs12.take i)).length ≤ 1000 := over_b (fun c => (more_bound h c).2) i
theorem over_n {p q : Int} {cs : List Nat} (h : cs.length ≤ 7) (i : Nat) : (overOf (fun c => -moreOf p q cs c) (signs12.take i)).length ≤ 1000 := over_b (fun c => by have := (more_bound (p := p) (q := q) h c).1; omega) i
theorem news_mid {h₀ h : Heap} {L : Addr} {x1 x2 x3 x4 x5 y x6 x7 : Addr × Obj} (N : News h₀ L h [x1, x2, x3, x4, x5, y, x6, x7]) : News h₀ L h (y :: [x1, x2, x3, x4, x5, x6, x7]) := fun p hp => N p (by
  simp only [List.mem_cons, List.not_mem_nil, or_false] at hp ⊢
  rcases hp with e | e | e | e | e | e | e | e <;> simp [e])
theorem put_self {m : Str → Option Value} {i : Str} : (fun y => if y = i then m i else m y) = m := by
  funext y
  by_cases h : y = i
  · rw [if_pos h, h]
  · rw [if_neg h]
def JE (L OV UD DU D2 D1 : Addr) (oq op c2 c1 : Obj) (m : Str → Option Value) (f : Nat → Int) (ys : List Value) (i : Nat) (m₁ : Str → Option Value) (r : List (Addr × Obj)) : Prop :=
  ∃ vm vo vu no nu, m₁ = (fun y => if y = Str.ofString "more" then vm else m y) ∧ r = [(UD, listOf (List.toArray vu) nu), (OV, listOf (List.toArray vo) no), (DU, LCg.lst ys), (D2, oq), (D1, op), (L + 1 + 1, c2), (L + 1, c1)] ∧
    Sg vo (overOf f (signs12.take i)) ∧ Sg vu (overOf (fun c => - f c) (signs12.take i))
theorem law_E {w : World} {mean : ExcName → Option Value} {mg mb : Str → Option Value} {base h₀ : Heap} {L a : Addr} {cd : Value} {m : Str → Option Value} {s : Shared} {Q : Flow → Shared → Prop} {E : Value → Shared → Prop}
    {p q : Int} {cs : List Nat} {t6 t7 : Tok} (hcs : cs.length ≤ 7) {D1 D2 DU : Addr} {op oq c1 c2 o3 : Obj} {ys : List Value}
    (B : Below callerA base [] h₀) (X : (hd.heap_39 w.params).In h₀) (T : Top hd.view_39 (looseW hd.view_39 []) mean mg mb h₀)
    (hop : IsNames w p op) (hoq : IsNames w q oq) (lo1 : (D1 == sysModules) = false) (lo2 : (D2 == sysModules) = false) (hc1 : c1.data = Data.cell (some (.ref D1))) (hc2 : c2.data = Data.cell (some (.ref D2))) (hc3 : o3.data = Data.cell none)
    (hys : Two IsSgn (cs.filter (pUnlike p q)) ys) (hlt : @LT.lt Nat _ (L + 1 + 1 + 1) D1 ∧ @LT.lt Nat _ D1 D2) (hne : @Ne Nat D2 DU ∧ @Ne Nat D1 DU ∧ @Ne Nat (L + 1 + 1 + 1) DU ∧ @Ne Nat (L + 1 + 1) DU ∧ @Ne Nat (L + 1) DU)
    (F : Fr h₀ L s.heap (fun y => if y = Str.ofString "unlike" then some (.ref DU) else if y = Str.ofString "others_alone" then some (.int (cs.filter (pAlone q p)).length t7) else if y = Str.ofString "alone" then some (.int (cs.filter (pAlone p q)).length t6) else m y))
    (N : News h₀ L s.heap [(DU, LCg.lst ys), (D2, oq), (D1, op), (L + 1 + 1 + 1, o3), (L + 1 + 1, c2), (L + 1, c1)])
    (hE : PassesOwn (model Challenge.rw_oh0019_01.row.prog w) (callerA.deeper (lawEnv L a cd)) (lawEnv L a cd) E)
    (hnext : ∀ vm OV UD vo vu no nu o3 h' tk, Sg vo (overOf (moreOf p q cs) signs12) → Sg vu (overOf (fun c => -moreOf p q cs c) signs12) → (@LT.lt Nat _ D2 OV ∧ @LT.lt Nat _ DU OV ∧ @LT.lt Nat _ OV UD) →
      Fr h₀ L h' (fun y => if y = Str.ofString "more" then vm else if y = Str.ofString "under" then some (.ref UD) else if y = Str.ofString "over" then some (.ref OV) else if y = Str.ofString "unlike" then some (.ref DU) else if y = Str.ofString "others_alone" then some (.int (cs.filter (pAlone q p)).length t7) else if y = Str.ofString "alone" then some (.int (cs.filter (pAlone p q)).length t6) else m y) →
      News h₀ L h' [(L + 1 + 1 + 1, o3), (UD, listOf (List.toArray vu) nu), (OV, listOf (List.toArray vo) no), (DU, LCg.lst ys), (D2, oq), (D1, op), (L + 1 + 1, c2), (L + 1, c1)] →
      wpAny (model Challenge.rw_oh0019_01.row.prog w) (callerA.deeper (lawEnv L a cd)) (execs (lawBody.drop 18) (lawEnv L a cd)) Q E { s with heap := h', toks := tk }) :
    wpAny (model Challenge.rw_oh0019_01.row.prog w) (callerA.deeper (lawEnv L a cd)) (execs (lawBody.drop 15) (lawEnv L a cd)) Q E s := by
  w_on
  conv in (execs _ _) => arg 1; whnf
  w_strict (
    revert X
    k_fill
    intro X
    repeat' ((fail_if_success (with_reducible show wpAny _ _ (execs [_, _, _, _, _, _, _] _) _ _ _)); first | (k_unfold; (try dsimp only)) | (k_end; wrow_close) | walk1 | (dsimp only; walk1) | fail "no step")
    dsimp only
    (rename_i OV h1 hOV h2 UD h3 hUD h4 F' N')
    (refine wpAny_execs_cons ?_)
    (refine For_cell (xs := signs12) (JE L OV UD DU D2 D1 oq op c2 c1 _ (moreOf p q cs) ys) (L := L) (Cx := L + 1 + 1 + 1) rfl rfl (by with_unfolding_all rfl) (by with_unfolding_all rfl) (by with_unfolding_all rfl) F' (news_mid N') hc3 ?ne ⟨_, [], [], 0, 0, put_self.symm, rfl, .nil, .nil⟩ ?had of_signs ?turn ?done hE)
    (case ne =>
      intro x hx
      simp only [List.mem_cons, List.not_mem_nil, or_false] at hx
      refine neN ?_
      rcases hx with e | e | e | e | e | e | e <;> subst e <;> dsimp only <;> omega)
    (case had =>
      rintro i m₁ r₁ ⟨vm, vo, vu, no, nu, e1, e2, _, _⟩
      subst e2
      rfl)
    (case turn =>
      rintro i c u m₁ rest₁ I oI o' h tk hxi ⟨vm, vo, vu, no, nu, e1, e2, ho, hu⟩ hd F₁ N₁ hI
      subst e1 e2
      refine turn_E hcs B X T hop hoq lo1 lo2 hc1 hc2 hd hys ho hu (over_m hcs i) (over_n hcs i) ?lt ?neI F₁ N₁ ?ret
      (case lt => refine ⟨hlt.1, hlt.2, ?_, ?_, ?_⟩ <;> omega)
      (case neI =>
        have a1 := hI (UD, _) (List.mem_cons_of_mem _ List.mem_cons_self)
        have a2 := hI (OV, _) (List.mem_cons_of_mem _ (List.mem_cons_of_mem _ List.mem_cons_self))
        exact ⟨Ne.symm a1, Ne.symm a2⟩)
      (case ret =>
        intro vm' vo' vu' no' nu' h' tk' so su F₂ N₂
        refine ⟨rfl, h', tk', _, _, o', _, rfl, F₂, N₂, hd, vm', vo', vu', no', nu', rfl, rfl, ?_, ?_⟩
        · rw [overOf_snoc hxi]; exact so
        · rw [overOf_snoc hxi]; exact su))
    (case done =>
      rintro h tk m₁ rest₁ o' v' ⟨vm, vo, vu, no, nu, e1, e2, ho, hu⟩ hd F₁ N₁
      subst e1 e2
      rw [List.take_length] at ho hu
      exact hnext vm OV UD vo vu no nu o' h tk ho hu (by refine ⟨?_, ?_, ?_⟩ <;> omega) F₁ N₁))
end Mine
end
section
open PySem PySem.W PyProof.Rows
set_option linter.unusedVariables false
namespace Mine
/-! the loop's counts -/
theorem run_count1 (c : Nat) : ∀ (e a m : List Nat), (run e a m).1.count c = m.count c + (e.count c - a.count c)
  | [], a, m => by simp [run]
  | x :: r, a, m => by
    unfold run
    by_cases h : x ∈ a
    · rw [if_pos h, run_count1 c r (a.erase x) m, List.count_erase, List.count_cons]
      by_cases hx : x = c
      · subst hx
        have : 0 < a.count x := List.count_pos_iff.mpr h
        simp; omega
      · have h1 : (x == c) = false := by simpa using hx
        simp [h1]
    · rw [if_neg h, run_count1 c r a (m ++ [x]), List.count_append, List.count_cons]
      by_cases hx : x = c
      · subst hx
        have : a.count x = 0 := List.count_eq_zero.mpr h
        simp; omega
      · have h1 : (x == c) = false := by simpa using hx
        simp [List.count_cons, h1]
theorem run_count2 (c : Nat) : ∀ (e a m : List Nat), (run e a m).2.count c = a.count c - e.count c
  | [], a, m => by simp [run]
  | x :: r, a, m => by
    unfold run
    by_cases h : x ∈ a
    · rw [if_pos h, run_count2 c r (a.erase x) m, List.count_erase, List.count_cons]
      by_cases hx : x = c
      · subst hx
        have : 0 < a.count x := List.count_pos_iff.mpr h
        simp; omega
      · have h1 : (x == c) = false := by simpa using hx
        simp [h1]
    · rw [if_neg h, run_count2 c r a (m ++ [x]), List.count_cons]
      by_cases hx : x = c
      · subst hx
        have : a.count x = 0 := List.count_eq_zero.mpr h
        simp; omega
      · have h1 : (x == c) = false := by simpa using hx
        simp [h1]
theorem cnt_append (a b : List Nat) (c : Nat) : cnt (a ++ b) c = cnt a c + cnt b c := by unfold cnt; rw [List.count_append]; omega
theorem cnt_cons (x : Nat) (b : List Nat) (c : Nat) : cnt (x :: b) c = cnt [x] c + cnt b c := cnt_append [x] b c
theorem refs_head : ∀ r ∈ refs, r = 38 :: r.drop 1 := by decide
theorem cnt_ref {r : List Nat} (h : r ∈ refs) (c : Nat) : cnt r c = cnt [38] c + cnt (r.drop 1) c := by
  have e := refs_head r h
  calc cnt r c = cnt (38 :: r.drop 1) c := by rw [← e]
    _ = _ := cnt_cons _ _ _
theorem cnt_ampref (c : Nat) : cnt [38, 97, 109, 112, 59] c = cnt [38] c + cnt [97, 109, 112, 59] c := cnt_cons _ _ _
def ind (b : Bool) : Int := if b = true then 1 else 0
theorem one_step (p q : Int) (o c : Nat) : cnt (twice q p o) c - cnt (twice p q o) c =
    (ind (pAlone q p o) - ind (pAlone p q o)) * cnt [97, 109, 112, 59] c + (if pUnlike p q o = true then cnt ((nm q o).getD []) c - cnt ((nm p o).getD []) c else 0) := by
  unfold twice pAlone pUnlike ind
  cases hq : nm q o with
  | none =>
    cases hp : nm p o with
    | none => simp
    | some r =>
      simp only [Option.getD_some, cnt_append, cnt_ref (nm_refs hp), cnt_ampref, Option.isSome_some, Option.isSome_none]
      simp
      omega
  | some r =>
    cases hp : nm p o with
    | none =>
      simp only [Option.getD_some, cnt_append, cnt_ref (nm_refs hq), cnt_ampref, Option.isSome_some, Option.isSome_none]
      simp
      omega
    | some r' =>
      simp only [Option.getD_some, cnt_append, cnt_ref (nm_refs hq), cnt_ref (nm_refs hp), Option.isSome_some, Bool.true_and, Bool.not_true, Bool.and_false]
      by_cases he : r = r'
      · subst he; simp
      · have hne : ((⟨r'.toArray⟩ : Str) != ⟨r.toArray⟩) = true := by
          rw [bne_iff_ne]
          intro q
          have q' : r'.toArray = r.toArray := congrArg Str.cps q
          have e9 : r' = r := by simpa using congrArg Array.toList q'
          exact he e9.symm
        rw [hne]
        simp
        omega
theorem diff_eq (p q : Int) (c : Nat) : ∀ cs : List Nat, cnt (cs.flatMap (twice q p)) c - cnt (cs.flatMap (twice p q)) c = moreOf p q cs c
  | [] => by simp [moreOf, cnt]
  | o :: cs => by
    have ih := diff_eq p q c cs
    have h1 := one_step p q o c
    rw [List.flatMap_cons, List.flatMap_cons, cnt_append, cnt_append]
    have h2 : moreOf p q (o :: cs) c = (ind (pAlone q p o) - ind (pAlone p q o)) * cnt [97, 109, 112, 59] c + (if pUnlike p q o = true then cnt ((nm q o).getD []) c - cnt ((nm p o).getD []) c else 0) + moreOf p q cs c := by
      unfold moreOf ind
      rw [List.filter_cons, List.filter_cons, List.filter_cons]
      generalize cnt [97, 109, 112, 59] c = k
      cases pAlone q p o <;> cases pAlone p q o <;> cases pUnlike p q o <;> simp [Int.add_mul, Int.sub_mul] <;> omega
    rw [h2]
    omega
theorem tb_keys : ∀ t ∈ [tbCdata, tbCdata14, tbHtml, tbAttrib14, tbAttrib], ∀ p ∈ t, p.1 ∈ [38, 60, 62, 34, 13, 10, 9] := by decide
theorem nm_key {x : Int} {o : Nat} (h : (nm x o).isSome = true) : o ∈ [38, 60, 62, 34, 13, 10, 9] := by
  obtain ⟨r, hr⟩ := Option.isSome_iff_exists.mp h
  exact tb_keys _ (tb_mem x) _ (assoc_mem hr)
/-- unlike references differ in the loop's signs alone -/
theorem tb_pairs : ∀ t ∈ [tbCdata, tbCdata14, tbHtml, tbAttrib14, tbAttrib], ∀ t' ∈ [tbCdata, tbCdata14, tbHtml, tbAttrib14, tbAttrib], ∀ o ∈ [38, 60, 62, 34, 13, 10, 9],
    (assoc t o).isSome = true → (assoc t' o).isSome = true → ((assoc t o).getD []).filter (fun c => !signs12.contains c) = ((assoc t' o).getD []).filter (fun c => !signs12.contains c) ∨ assoc t o = assoc t' o := by decide +kernel
theorem cnt_out {r : List Nat} {c : Nat} (h : c ∉ signs12) : cnt r c = cnt (r.filter fun c => !signs12.contains c) c := by
  unfold cnt
  rw [List.count_filter (by simpa using h)]
theorem more_out (p q : Int) {c : Nat} (h : c ∉ signs12) (cs : List Nat) : moreOf p q cs c = 0 := by
  unfold moreOf
  have h4 : cnt [97, 109, 112, 59] c = 0 := by
    unfold cnt
    have : List.count c [97, 109, 112, 59] = 0 := List.count_eq_zero.mpr fun hm => h (by
      simp only [signs12, List.mem_cons, List.not_mem_nil, or_false] at hm ⊢; omega)
    rw [this]; rfl
  have hs : ((cs.filter (pUnlike p q)).map fun o => cnt ((nm q o).getD []) c - cnt ((nm p o).getD []) c).sum = 0 := by
    have hz : ∀ o ∈ cs.filter (pUnlike p q), cnt ((nm q o).getD []) c - cnt ((nm p o).getD []) c = 0 := by
      intro o ho
      have hu := (List.mem_filter.mp ho).2
      unfold pUnlike at hu
      simp only [Bool.and_eq_true] at hu
      have hk := nm_key hu.1
      rcases tb_pairs _ (tb_mem q) _ (tb_mem p) o hk hu.2.1 hu.1 with e | e
      · have e' : ((nm q o).getD []).filter (fun c => !signs12.contains c) = ((nm p o).getD []).filter (fun c => !signs12.contains c) := e
        rw [cnt_out h, e', ← cnt_out h]; omega
      · have e' : nm q o = nm p o := e
        rw [e']; omega
    generalize cs.filter (pUnlike p q) = l at hz
    induction l with
    | nil => rfl
    | cons o l ih => rw [List.map_cons, List.sum_cons, hz o List.mem_cons_self, ih fun o ho => hz o (List.mem_cons_of_mem _ ho)]; rfl
  rw [h4, hs]; simp
theorem over_count (f : Nat → Int) (c : Nat) : ∀ l : List Nat, l.Nodup → (overOf f l).count c = if c ∈ l then (f c).toNat else 0
  | [], _ => by simp [overOf]
  | x :: l, h => by
    have ih := over_count f c l (List.nodup_cons.mp h).2
    have hx := (List.nodup_cons.mp h).1
    unfold overOf at ih ⊢
    rw [List.flatMap_cons, List.count_append, ih, List.count_replicate]
    by_cases e : x = c
    · subst e; simp [hx]
    · have h1 : (x == c) = false := by simpa using e
      have h2 : (c ∈ x :: l) ↔ c ∈ l := ⟨fun hm => (List.mem_cons.mp hm).resolve_left (fun q => e q.symm), List.mem_cons_of_mem _⟩
      rw [h1]; simp only [h2]; simp
theorem signs_nodup : signs12.Nodup := by decide
theorem missing_perm (p q : Int) (cs : List Nat) : (run (cs.flatMap (twice q p)).reverse (cs.flatMap (twice p q)) []).1.Perm (overOf (moreOf p q cs) signs12) := by
  rw [List.perm_iff_count]
  intro c
  rw [run_count1, over_count _ _ _ signs_nodup, List.count_reverse, List.count_nil]
  have hd := diff_eq p q c cs
  unfold cnt at hd
  by_cases h : c ∈ signs12
  · rw [if_pos h]; omega
  · rw [if_neg h]
    have := more_out p q h cs
    omega
theorem left_perm (p q : Int) (cs : List Nat) : (run (cs.flatMap (twice q p)).reverse (cs.flatMap (twice p q)) []).2.Perm (overOf (fun c => -moreOf p q cs c) signs12) := by
  rw [List.perm_iff_count]
  intro c
  rw [run_count2, over_count _ _ _ signs_nodup, List.count_reverse]
  have hd := diff_eq p q c cs
  unfold cnt at hd
  by_cases h : c ∈ signs12
  · rw [if_pos h]; omega
  · rw [if_neg h]
    have := more_out p q h cs
    omega
end Mine
end
section
open PySem PySem.W PyProof.Rows
set_option linter.unusedVariables false
namespace Mine
/-! how many signs are over -/
def len12 (f : Nat → Int) (l : List Nat) : Nat := (l.map fun c => (f c).toNat).sum
theorem over_length (f : Nat → Int) : ∀ l : List Nat, (overOf f l).length = len12 f l
  | [] => rfl
  | c :: r => by
    have ih := over_length f r
    unfold overOf len12 at ih ⊢
    rw [List.flatMap_cons, List.length_append, List.length_replicate, List.map_cons, List.sum_cons, ih]
theorem len12_add (f g : Nat → Int) : ∀ l : List Nat, len12 (fun c => f c + g c) l ≤ len12 f l + len12 g l
  | [] => by simp [len12]
  | c :: r => by
    have ih := len12_add f g r
    unfold len12 at ih ⊢
    simp only [List.map_cons, List.sum_cons] at ih ⊢
    omega
theorem len12_congr {f g : Nat → Int} (h : ∀ c, f c = g c) (l : List Nat) : len12 f l = len12 g l := by
  have : f = g := funext h
  rw [this]
theorem pair_len : ∀ t ∈ [tbCdata, tbCdata14, tbHtml, tbAttrib14, tbAttrib], ∀ t' ∈ [tbCdata, tbCdata14, tbHtml, tbAttrib14, tbAttrib], ∀ o ∈ [38, 60, 62, 34, 13, 10, 9],
    (assoc t o).isSome = true → (assoc t' o).isSome = true → len12 (fun c => cnt ((assoc t o).getD []) c - cnt ((assoc t' o).getD []) c) signs12 ≤ 4 := by decide +kernel
theorem sum_len12 (p q : Int) : ∀ l : List Nat, (∀ o ∈ l, pUnlike p q o = true) → len12 (fun c => (l.map fun o => cnt ((nm q o).getD []) c - cnt ((nm p o).getD []) c).sum) signs12 ≤ 4 * l.length
  | [], _ => Nat.le_of_eq rfl
  | o :: l, h => by
    have ih := sum_len12 p q l fun o ho => h o (List.mem_cons_of_mem _ ho)
    have hu := h o List.mem_cons_self
    unfold pUnlike at hu
    simp only [Bool.and_eq_true] at hu
    have h1 : len12 (fun c => cnt ((nm q o).getD []) c - cnt ((nm p o).getD []) c) signs12 ≤ 4 := pair_len _ (tb_mem q) _ (tb_mem p) o (nm_key hu.1) hu.2.1 hu.1
    have h2 := len12_add (fun c => cnt ((nm q o).getD []) c - cnt ((nm p o).getD []) c) (fun c => (l.map fun o => cnt ((nm q o).getD []) c - cnt ((nm p o).getD []) c).sum) signs12
    have h3 : len12 (fun c => ((o :: l).map fun o => cnt ((nm q o).getD []) c - cnt ((nm p o).getD []) c).sum) signs12 ≤ len12 (fun c => cnt ((nm q o).getD []) c - cnt ((nm p o).getD []) c) signs12 + len12 (fun c => (l.map fun o => cnt ((nm q o).getD []) c - cnt ((nm p o).getD []) c).sum) signs12 := by
      rw [len12_congr (g := fun c => (cnt ((nm q o).getD []) c - cnt ((nm p o).getD []) c) + (l.map fun o => cnt ((nm q o).getD []) c - cnt ((nm p o).getD []) c).sum) (fun c => by rw [List.map_cons, List.sum_cons])]
      exact h2
    rw [List.length_cons]
    omega
theorem cnt4_at : ∀ c ∈ signs12, cnt [97, 109, 112, 59] c = if c ∈ [97, 109, 112, 59] then 1 else 0 := by decide
theorem amp_len12 (z : Int) : len12 (fun c => z * cnt [97, 109, 112, 59] c) signs12 = 4 * z.toNat := by
  unfold len12
  have h : signs12.map (fun c => (z * cnt [97, 109, 112, 59] c).toNat) = signs12.map (fun c => (z * (if c ∈ [97, 109, 112, 59] then (1 : Int) else 0)).toNat) := List.map_congr_left fun c hc => by rw [cnt4_at c hc]
  rw [h]
  simp only [signs12, List.map_cons, List.map_nil, List.sum_cons, List.sum_nil]
  simp
  omega
theorem split_len (p q : Int) : ∀ cs : List Nat, (cs.filter (pAlone q p)).length + (cs.filter (pUnlike p q)).length ≤ cs.length
  | [] => by simp
  | o :: cs => by
    have ih := split_len p q cs
    rw [List.filter_cons, List.filter_cons]
    by_cases h : pAlone q p o = true
    · have h' : pUnlike p q o = false := by
        unfold pAlone at h
        unfold pUnlike
        simp only [Bool.and_eq_true, Bool.not_eq_true'] at h
        rw [h.2]; rfl
      rw [if_pos h, h']
      simp only [Bool.false_eq_true, if_false, List.length_cons]
      omega
    · rw [if_neg h]
      split
      · simp only [List.length_cons]; omega
      · simp only [List.length_cons]; omega
theorem over_len28 (p q : Int) {cs : List Nat} (h : cs.length ≤ 7) : (overOf (moreOf p q cs) signs12).length ≤ 28 := by
  rw [over_length]
  have h1 := len12_add (fun c => (((cs.filter (pAlone q p)).length : Int) - (cs.filter (pAlone p q)).length) * cnt [97, 109, 112, 59] c) (fun c => ((cs.filter (pUnlike p q)).map fun o => cnt ((nm q o).getD []) c - cnt ((nm p o).getD []) c).sum) signs12
  have h2 : len12 (moreOf p q cs) signs12 ≤ _ := h1
  have h3 := sum_len12 p q (cs.filter (pUnlike p q)) (fun o ho => (List.mem_filter.mp ho).2)
  have h4 := amp_len12 (((cs.filter (pAlone q p)).length : Int) - (cs.filter (pAlone p q)).length)
  have h5 := split_len p q cs
  omega
theorem unlike_comm (p q : Int) (c : Nat) : pUnlike p q c = pUnlike q p c := by
  unfold pUnlike
  have e : ((⟨((nm p c).getD []).toArray⟩ : Str) != ⟨((nm q c).getD []).toArray⟩) = ((⟨((nm q c).getD []).toArray⟩ : Str) != ⟨((nm p c).getD []).toArray⟩) := by
    by_cases h : (⟨((nm p c).getD []).toArray⟩ : Str) = ⟨((nm q c).getD []).toArray⟩
    · rw [h]
    · rw [bne_iff_ne.mpr h, bne_iff_ne.mpr (Ne.symm h)]
  rw [e]
  cases (nm p c).isSome <;> cases (nm q c).isSome <;> rfl
theorem neg_sum (f : Nat → Int) : ∀ l : List Nat, (l.map fun o => - f o).sum = -(l.map f).sum
  | [] => rfl
  | o :: l => by rw [List.map_cons, List.sum_cons, List.map_cons, List.sum_cons, neg_sum f l]; omega
theorem more_comm (p q : Int) (cs : List Nat) (c : Nat) : -moreOf p q cs c = moreOf q p cs c := by
  unfold moreOf
  have e1 : cs.filter (pUnlike q p) = cs.filter (pUnlike p q) := by congr 1; funext c; exact unlike_comm q p c
  rw [e1]
  have e2 := neg_sum (fun o => cnt ((nm q o).getD []) c - cnt ((nm p o).getD []) c) (cs.filter (pUnlike p q))
  have e3 : ((cs.filter (pUnlike p q)).map fun o => cnt ((nm p o).getD []) c - cnt ((nm q o).getD []) c) = ((cs.filter (pUnlike p q)).map fun o => -(cnt ((nm q o).getD []) c - cnt ((nm p o).getD []) c)) := List.map_congr_left fun o _ => by omega
  rw [e3, e2, Int.neg_add, ← Int.neg_mul]
  congr 2
  omega
theorem under_len28 (p q : Int) {cs : List Nat} (h : cs.length ≤ 7) : (overOf (fun c => -moreOf p q cs c) signs12).length ≤ 28 := by
  have e : (fun c => -moreOf p q cs c) = moreOf q p cs := funext (more_comm p q cs)
  rw [e]; exact over_len28 q p h
end Mine
end
section
open PySem PySem.W PyProof.Rows
set_option linter.unusedVariables false
namespace Mine
abbrev one (c : Nat) : Str := ⟨#[c]⟩
theorem lt_one (a b : Nat) : Spec.ltCps (one a).cps.toList (one b).cps.toList = decide (a < b) := by
  show (decide (a < b) || (a == b && false)) = _
  simp
theorem rising_pairwise : ∀ (l : List Str) (p : Str), (∀ s ∈ p :: l, ∃ c, s = one c) → risingS p l = true → (p :: l).Pairwise (fun a b => Spec.ltCps b.cps.toList a.cps.toList = false)
  | [], p, _, _ => by simp
  | x :: r, p, hs, h => by
    have h' : (!Spec.ltCps x.cps.toList p.cps.toList && risingS x r) = true := h
    simp only [Bool.and_eq_true, Bool.not_eq_true'] at h'
    have ih := rising_pairwise r x (fun s hs' => hs s (List.mem_cons_of_mem _ hs')) h'.2
    refine List.Pairwise.cons (fun y hy => ?_) ih
    rcases List.mem_cons.mp hy with rfl | hy'
    · exact h'.1
    · obtain ⟨a, rfl⟩ := hs p List.mem_cons_self
      obtain ⟨b, rfl⟩ := hs x (List.mem_cons_of_mem _ List.mem_cons_self)
      obtain ⟨c, rfl⟩ := hs y (List.mem_cons_of_mem _ hy)
      have h1 := h'.1
      have h2 := List.rel_of_pairwise_cons ih hy'
      rw [lt_one, decide_eq_false_iff_not] at h1 h2 ⊢
      omega
theorem sorted_pairwise {l : List Str} (hs : ∀ s ∈ l, ∃ c, s = one c) (h : sortedS l = true) : l.Pairwise (fun a b => Spec.ltCps b.cps.toList a.cps.toList = false) := by
  cases l with
  | nil => exact .nil
  | cons p r => exact rising_pairwise r p hs h
theorem singles {ss : List Str} {M : List Nat} (h : ss.Perm (M.map one)) : ∀ s ∈ ss, ∃ c, s = one c := fun s hs => by
  obtain ⟨c, _, e⟩ := List.mem_map.mp (h.mem_iff.mp hs)
  exact ⟨c, e.symm⟩
theorem sorted_same {ss ss' : List Str} {M O : List Nat} (h1 : ss.Perm (M.map one)) (h2 : sortedS ss = true) (h3 : ss'.Perm (O.map one)) (h4 : sortedS ss' = true) (hp : M.Perm O) : ss = ss' := by
  refine List.Perm.eq_of_pairwise (le := fun a b => Spec.ltCps b.cps.toList a.cps.toList = false) (fun a b ha hb l1 l2 => ?_) (sorted_pairwise (singles h1) h2) (sorted_pairwise (singles h3) h4) (h1.trans ((hp.map one).trans h3.symm))
  obtain ⟨x, rfl⟩ := singles h1 a ha
  obtain ⟨y, rfl⟩ := singles h3 b hb
  rw [lt_one, decide_eq_false_iff_not] at l1 l2
  have : x = y := by omega
  rw [this]
/-! one hand each -/
theorem refs_keys : ∀ r ∈ refs, ∀ o ∈ [60, 62, 34, 13, 10, 9], o ∉ r := by decide
theorem refs_small : ∀ r ∈ refs, ∀ c ∈ r, c < 128 := by decide
theorem tb_amp : ∀ t ∈ [tbCdata, tbCdata14, tbHtml, tbAttrib14, tbAttrib], (assoc t 38).isSome = true := by decide
theorem look_nm (x : Int) (o : Nat) : look (tb x) o = (nm x o).getD [o] := look_assoc _ _
theorem alone_key {p q : Int} {o : Nat} (h : pAlone p q o = true) : o ∈ [60, 62, 34, 13, 10, 9] := by
  unfold pAlone at h
  simp only [Bool.and_eq_true, Bool.not_eq_true'] at h
  have hk := nm_key h.1
  have h38 : o ≠ 38 := fun e => by
    subst e
    have : (nm q 38).isSome = true := tb_amp _ (tb_mem q)
    rw [this] at h
    cases h.2
  simp only [List.mem_cons, List.not_mem_nil, or_false] at hk ⊢
  omega
theorem alone_out {p q : Int} {o : Nat} {cs : List Nat} (h : pAlone p q o = true) : o ∉ cs.flatMap (look (tb p)) := by
  have hk := alone_key h
  unfold pAlone at h
  simp only [Bool.and_eq_true, Bool.not_eq_true'] at h
  intro hm
  obtain ⟨x, _, hx⟩ := List.mem_flatMap.mp hm
  rw [look_nm] at hx
  cases e : nm p x with
  | some r =>
    rw [e] at hx
    exact refs_keys r (nm_refs e) o hk hx
  | none =>
    rw [e] at hx
    have : o = x := by simpa using hx
    rw [this, e] at h
    cases h.1
theorem alone_in {p q : Int} {o : Nat} {cs : List Nat} (h : pAlone p q o = true) (ho : o ∈ cs) : o ∈ cs.flatMap (look (tb q)) := by
  unfold pAlone at h
  simp only [Bool.and_eq_true, Bool.not_eq_true'] at h
  refine List.mem_flatMap.mpr ⟨o, ho, ?_⟩
  rw [look_nm]
  cases e : nm q o with
  | some r => rw [e] at h; cases h.2
  | none => simp
theorem no_alone {p q : Int} {cs : List Nat} (h : ∀ c, (cs.flatMap (look (tb p))).count c = (cs.flatMap (look (tb q))).count c) : cs.filter (pAlone p q) = [] := by
  rw [List.filter_eq_nil_iff]
  intro o ho ha
  have h1 : (cs.flatMap (look (tb p))).count o = 0 := List.count_eq_zero.mpr (alone_out ha)
  have h2 : 0 < (cs.flatMap (look (tb q))).count o := List.count_pos_iff.mpr (alone_in ha ho)
  have := h o
  omega
theorem x_pairs : ∀ t ∈ [tbCdata, tbCdata14, tbHtml, tbAttrib14, tbAttrib], ∀ t' ∈ [tbCdata, tbCdata14, tbHtml, tbAttrib14, tbAttrib],
    (∀ o ∈ [38, 60, 62, 34, 13, 10, 9], (assoc t o).isSome = true → (assoc t' o).isSome = true → assoc t o ≠ assoc t' o → cnt ((assoc t o).getD []) 120 - cnt ((assoc t' o).getD []) 120 = 1) ∨
    (∀ o ∈ [38, 60, 62, 34, 13, 10, 9], (assoc t o).isSome = true → (assoc t' o).isSome = true → assoc t o ≠ assoc t' o → cnt ((assoc t o).getD []) 120 - cnt ((assoc t' o).getD []) 120 = -1) := by decide +kernel
theorem unlike_ne {p q : Int} {o : Nat} (h : pUnlike p q o = true) : (nm p o).isSome = true ∧ (nm q o).isSome = true ∧ nm p o ≠ nm q o := by
  unfold pUnlike at h
  simp only [Bool.and_eq_true, bne_iff_ne] at h
  exact ⟨h.1, h.2.1, fun e => h.2.2 (by rw [e])⟩
theorem like_eq {p q : Int} {o : Nat} (h1 : pAlone p q o = false) (h2 : pAlone q p o = false) (h3 : pUnlike p q o = false) : look (tb p) o = look (tb q) o := by
  rw [look_nm, look_nm]
  unfold pAlone at h1 h2
  unfold pUnlike at h3
  cases e : nm p o with
  | none =>
    cases e' : nm q o with
    | none => rfl
    | some r => rw [e, e'] at h2; cases h2
  | some r =>
    cases e' : nm q o with
    | none => rw [e, e'] at h1; cases h1
    | some r' =>
      rw [e, e'] at h3
      simp only [Option.isSome_some, Option.getD_some, Bool.true_and, bne_eq_false_iff_eq] at h3
      have h4 : r.toArray = r'.toArray := congrArg Str.cps h3
      have : r = r' := by simpa using congrArg Array.toList h4
      rw [this]
theorem x_sum {p q : Int} {k : Int} (hk : ∀ o, pUnlike p q o = true → cnt ((nm p o).getD []) 120 - cnt ((nm q o).getD []) 120 = k) : ∀ cs : List Nat, cs.filter (pAlone p q) = [] → cs.filter (pAlone q p) = [] →
    cnt (cs.flatMap (look (tb p))) 120 - cnt (cs.flatMap (look (tb q))) 120 = k * (cs.filter (pUnlike p q)).length
  | [], _, _ => by simp [cnt]
  | o :: cs, h1, h2 => by
    have a1 : pAlone p q o = false := by
      have := List.filter_eq_nil_iff.mp h1 o List.mem_cons_self
      simpa using this
    have a2 : pAlone q p o = false := by
      have := List.filter_eq_nil_iff.mp h2 o List.mem_cons_self
      simpa using this
    have ih := x_sum hk cs (List.filter_eq_nil_iff.mpr fun x hx => List.filter_eq_nil_iff.mp h1 x (List.mem_cons_of_mem _ hx)) (List.filter_eq_nil_iff.mpr fun x hx => List.filter_eq_nil_iff.mp h2 x (List.mem_cons_of_mem _ hx))
    rw [List.flatMap_cons, List.flatMap_cons, cnt_append, cnt_append, List.filter_cons]
    cases hu : pUnlike p q o with
    | false =>
      rw [like_eq a1 a2 hu]
      simp only [Bool.false_eq_true, if_false]
      omega
    | true =>
      obtain ⟨s1, s2, _⟩ := unlike_ne hu
      have h := hk o hu
      have e1 : look (tb p) o = (nm p o).getD [] := by
        rw [look_nm]
        obtain ⟨r, hr⟩ := Option.isSome_iff_exists.mp s1
        rw [hr]; rfl
      have e2 : look (tb q) o = (nm q o).getD [] := by
        rw [look_nm]
        obtain ⟨r, hr⟩ := Option.isSome_iff_exists.mp s2
        rw [hr]; rfl
      rw [e1, e2, if_pos rfl, List.length_cons]
      have : k * ((((cs.filter (pUnlike p q)).length + 1 : Nat)) : Int) = k * (cs.filter (pUnlike p q)).length + k := by
        rw [Int.natCast_add, Int.mul_add]; simp
      rw [this]
      omega
theorem no_unlike {p q : Int} {cs : List Nat} (h : ∀ c, (cs.flatMap (look (tb p))).count c = (cs.flatMap (look (tb q))).count c) : cs.filter (pUnlike p q) = [] := by
  have h1 := no_alone h
  have h2 := no_alone (p := q) (q := p) fun c => (h c).symm
  have h3 := h 120
  have key : ∀ k : Int, k ≠ 0 → (∀ o, pUnlike p q o = true → cnt ((nm p o).getD []) 120 - cnt ((nm q o).getD []) 120 = k) → cs.filter (pUnlike p q) = [] := fun k hk0 hk => by
    have hs := x_sum hk cs h1 h2
    unfold cnt at hs
    have hz : k * (cs.filter (pUnlike p q)).length = 0 := by omega
    rcases Int.mul_eq_zero.mp hz with e | e
    · exact absurd e hk0
    · exact List.length_eq_zero_iff.mp (by omega)
  rcases x_pairs _ (tb_mem p) _ (tb_mem q) with hx | hx
  · exact key 1 (by decide) fun o ho => by
      obtain ⟨s1, s2, s3⟩ := unlike_ne ho
      exact hx o (nm_key s1) s1 s2 s3
  · exact key (-1) (by decide) fun o ho => by
      obtain ⟨s1, s2, s3⟩ := unlike_ne ho
      exact hx o (nm_key s1) s1 s2 s3
theorem nil_of_count {l : List Nat} (h : ∀ c, l.count c = 0) : l = [] := List.eq_nil_iff_forall_not_mem.mpr fun c hc => absurd (List.count_pos_iff.mpr hc) (by rw [h c]; exact Nat.lt_irrefl _)
theorem flat_congr {f g : Nat → List Nat} : ∀ {l : List Nat}, (∀ o ∈ l, f o = g o) → l.flatMap f = l.flatMap g
  | [], _ => rfl
  | o :: l, h => by rw [List.flatMap_cons, List.flatMap_cons, h o List.mem_cons_self, flat_congr fun x hx => h x (List.mem_cons_of_mem _ hx)]
theorem alike_iff (p q : Int) (cs : List Nat) : ((run (cs.flatMap (look (tb p))).reverse (cs.flatMap (look (tb q))) []).1 = [] ∧ (run (cs.flatMap (look (tb p))).reverse (cs.flatMap (look (tb q))) []).2 = []) ↔
    ((cs.filter (pAlone p q)).length = 0 ∧ (cs.filter (pAlone q p)).length = 0 ∧ cs.filter (pUnlike p q) = []) := by
  constructor
  · rintro ⟨h1, h2⟩
    have h : ∀ c, (cs.flatMap (look (tb p))).count c = (cs.flatMap (look (tb q))).count c := fun c => by
      have a1 := run_count1 c (cs.flatMap (look (tb p))).reverse (cs.flatMap (look (tb q))) []
      have a2 := run_count2 c (cs.flatMap (look (tb p))).reverse (cs.flatMap (look (tb q))) []
      rw [h1, List.count_reverse] at a1
      rw [h2, List.count_reverse] at a2
      simp only [List.count_nil] at a1 a2
      omega
    exact ⟨List.length_eq_zero_iff.mpr (no_alone h), List.length_eq_zero_iff.mpr (no_alone fun c => (h c).symm), no_unlike h⟩
  · rintro ⟨h1, h2, h3⟩
    have h1' := List.length_eq_zero_iff.mp h1
    have h2' := List.length_eq_zero_iff.mp h2
    have e : cs.flatMap (look (tb p)) = cs.flatMap (look (tb q)) := flat_congr fun o ho => by
      have a1 := List.filter_eq_nil_iff.mp h1' o ho
      have a2 := List.filter_eq_nil_iff.mp h2' o ho
      have a3 := List.filter_eq_nil_iff.mp h3 o ho
      exact like_eq (by simpa using a1) (by simpa using a2) (by simpa using a3)
    rw [e]
    exact ⟨nil_of_count fun c => by rw [run_count1, List.count_reverse]; simp, nil_of_count fun c => by rw [run_count2, List.count_reverse]; simp⟩
/-! the signs that are left over are plain ASCII -/
theorem big_count {x : Int} {c : Nat} (hc : 128 ≤ c) : ∀ cs : List Nat, (cs.flatMap (look (tb x))).count c = cs.count c
  | [] => rfl
  | o :: cs => by
    rw [List.flatMap_cons, List.count_append, big_count hc cs, List.count_cons]
    have : (look (tb x) o).count c = if (o == c) = true then 1 else 0 := by
      rw [look_nm]
      cases e : nm x o with
      | some r =>
        have h1 : r.count c = 0 := List.count_eq_zero.mpr fun hm => by have := refs_small r (nm_refs e) c hm; omega
        have hk := nm_key (x := x) (o := o) (by rw [e]; rfl)
        have h2 : (o == c) = false := by
          simp only [List.mem_cons, List.not_mem_nil, or_false] at hk
          have : o ≠ c := by omega
          simpa using this
        rw [h2]; simpa using h1
      | none => simp [List.count_cons]
    omega
theorem small1 {p q : Int} {cs : List Nat} {c : Nat} (h : c ∈ (run (cs.flatMap (look (tb p))).reverse (cs.flatMap (look (tb q))) []).1) : c < 128 := by
  by_cases hc : c < 128
  · exact hc
  · have h1 := List.count_pos_iff.mpr h
    rw [run_count1, List.count_reverse, big_count (by omega), big_count (by omega)] at h1
    simp at h1
theorem small2 {p q : Int} {cs : List Nat} {c : Nat} (h : c ∈ (run (cs.flatMap (look (tb p))).reverse (cs.flatMap (look (tb q))) []).2) : c < 128 := by
  by_cases hc : c < 128
  · exact hc
  · have h1 := List.count_pos_iff.mpr h
    rw [run_count2, List.count_reverse, big_count (by omega), big_count (by omega)] at h1
    simp at h1
theorem over_small {f : Nat → Int} {c : Nat} (h : c ∈ overOf f signs12) : c < 128 := by
  unfold overOf at h
  obtain ⟨x, hx, hc⟩ := List.mem_flatMap.mp h
  have e := List.eq_of_mem_replicate hc
  subst e
  have : ∀ c ∈ signs12, c < 128 := by decide
  exact this c hx
end Mine
end
section
open PySem PySem.W PySem.Calls PyProof.Rows PySem.Spec PySem.SeqAt
set_option linter.unusedVariables false
namespace Mine
theorem Sg.of_get : ∀ {vs : List Value} {cs : List Nat}, vs.length = cs.length → (∀ (j : Nat) (v : Value), vs[j]? = some v → ∃ c u, cs[j]? = some c ∧ v = .str ⟨#[c]⟩ u) → Sg vs cs
  | [], [], _, _ => .nil
  | [], _ :: _, h, _ => by cases h
  | _ :: _, [], h, _ => by cases h
  | v :: vs, c :: cs, hl, hg => by
    obtain ⟨c', u, hc, rfl⟩ := hg 0 v rfl
    simp only [List.getElem?_cons_zero, Option.some.injEq] at hc
    subst hc
    exact .cons _ u (Sg.of_get (by simpa using hl) fun j w hw => by simpa using hg (j + 1) w (by simpa using hw))
theorem reads_strs {h : Heap} : ∀ {vs : List Value} {ss : List Str}, StrsAre vs ss → ReadsAll h vs (ss.map PyData.str) []
  | _, _, .nil => .nil
  | _, _, .cons x t r => by
    have := ReadsAll.cons (Reads.str (h := h) x t) (reads_strs (h := h) r)
    simpa using this
theorem reads_list {h : Heap} {a : Addr} {vs : List Value} {ss : List Str} (hl : h.IsList a vs.toArray) (hi : StrsAre vs ss) : Reads h (.ref a) (.list (ss.map PyData.str)) [a] := by
  obtain ⟨o, ho, hc, n, hd⟩ := hl
  exact Reads.list ho hc hd (by simpa using reads_strs hi)
/-- ASCII texts of one sign each -/
def small (ss : List Str) : Prop := ∀ s ∈ ss, ∃ c, s = one c ∧ c < 128
theorem canLay_small : ∀ ss : List Str, small ss → PyData.canLayAll0 (ss.map PyData.str) = true
  | [], _ => rfl
  | x :: r, h => by
    obtain ⟨c, e, hc⟩ := h x List.mem_cons_self
    subst e
    rw [List.map_cons, PyData.canLayAll0, canLay_small r fun s hs => h s (List.mem_cons_of_mem _ hs), Bool.and_true]
    show (#[c] : Array Nat).all (fun x => decide (x < 0x110000)) = true
    simp; omega
theorem depth_strs : ∀ ss : List Str, PyData.depthAll (ss.map PyData.str) = 0
  | [] => rfl
  | _ :: r => by simp [PyData.depthAll, PyData.depth, depth_strs r]
theorem shaped_small {ss : List Str} (h : small ss) : shaped (.list (ss.map PyData.str)) = true := by
  simp [shaped, PyData.canLay0, PyData.depth, canLay_small ss h, depth_strs]
theorem eqv_strs : ∀ ss ts : List Str, PyData.eqvAll (ss.map PyData.str) (ts.map PyData.str) = decide (ss = ts)
  | [], [] => by simp [PyData.eqvAll]
  | [], _ :: _ => by simp [PyData.eqvAll]
  | _ :: _, [] => by simp [PyData.eqvAll]
  | a :: r, b :: t => by
    simp only [List.map_cons, PyData.eqvAll, PyData.eqv, eqv_strs r t]
    by_cases h : a = b <;> by_cases h' : r = t <;> simp [h, h']
section
variable {prog : Program} {w : World} {A : Around} {E : Value → Shared → Prop} {s : Shared} {h₀ : Heap} {L D b : Addr} {m : Str → Option Value} {news : List (Addr × Obj)} {n n2 : Nat} {t u : Tok} {Q : Value → Shared → Prop}
theorem list_sg {l : List Nat} (hh : A.handled = none) (F : Fr h₀ L s.heap m) (N : News h₀ L s.heap news) (hz : l.length ≤ 1000)
    (h : ∀ D vs n h' tk, Fr h₀ L h' m → News h₀ L h' ((D, listOf (List.toArray vs) n) :: news) → Sg vs l → (∀ p ∈ news, p.1 < D) → Q (.ref D) { s with heap := h', toks := tk }) :
    wpAny (model prog w) A (call (.type "list") [.str ⟨l.toArray⟩ t]) Q E s := by
  refine call_list_str hh ⟨l.toArray⟩ t (hn := by show l.toArray.size ≤ sizeLine; rw [List.size_toArray, sizeLine_eq]; omega) fun h' tk acc c hk hS hacc => ?_
  refine h s.heap.objs.size acc.toList c h' tk (F.keeps hk) (fun p hp => ?_) ?_ fun p hp => Heap.lt_size (N p hp).1
  · rcases List.mem_cons.mp hp with rfl | hp
    · refine ⟨by simpa using hS, Ne.symm (Nat.ne_of_lt F.ns.lt), ?_⟩
      exact next_is_new F
    · exact ⟨hk _ _ (N p hp).1, (N p hp).2⟩
  · refine Sg.of_get ?_ fun j v hv => ?_
    · have := hacc.1
      simpa using this
    · obtain ⟨c, u, hc, e⟩ := hacc.2 j v (by simpa using hv)
      exact ⟨c, u, by simpa using hc, e⟩
theorem sort_sg {vs : List Value} {cs : List Nat} (F : Fr h₀ L s.heap m) (N : News h₀ L s.heap news) (hm : (D, listOf vs.toArray n) ∈ news) (hs : Sg vs cs) (hz : cs.length < 64)
    (h : ∀ h' D' vs' ss' e, Fr h₀ L h' m → News h₀ L h' ((D', listOf (List.toArray vs') e) :: news) → StrsAre vs' ss' → ss'.Perm (cs.map one) → sortedS ss' = true → Q (.ref D') { s with heap := h' }) :
    wpAny (model prog w) A (call (.builtin "sorted") [.ref D]) Q E s :=
  sorted_N_str F N (IsL.isList (n := n) (N _ hm).1) hs.strs (by rw [hs.length]; exact hz) fun h' vs' ss' e F' N' a1 a2 a3 => h h' _ vs' ss' e F' N' a1 a2 a3
theorem ne_strs {a b : Addr} {n n' : Nat} {vs us : List Value} {ss ts : List Str} (N : News h₀ L s.heap news) (ha : (a, listOf vs.toArray n) ∈ news) (hb : (b, listOf us.toArray n') ∈ news) (h1 : StrsAre vs ss) (h2 : StrsAre us ts) (e : ss = ts) (hs : small ss) (hu : A.units + 64 < cLine)
    (h : Q (.bool false) s) : wpAny (model prog w) A (compareOp .NotEq (.ref a) (.ref b)) Q E s := by
  subst e
  refine ne_dataH (reads_list (IsL.isList (n := n) (N _ ha).1) h1) (reads_list (IsL.isList (n := n') (N _ hb).1) h2) (shaped_small hs) (shaped_small hs) hu ?_
  rw [PyData.eqv, eqv_strs]
  simpa using h
end
end Mine
end
section
open PySem PySem.W PyProof.Rows
namespace Mine
set_option maxRecDepth 100000
set_option maxHeartbeats 8000000
set_option linter.unusedVariables false
theorem small_of {ss : List Str} {M : List Nat} {f : Nat → Int} (h : ss.Perm (M.map one)) (hp : M.Perm (overOf f signs12)) : small ss := fun s hs => by
  obtain ⟨c, hc, e⟩ := List.mem_map.mp (h.mem_iff.mp hs)
  exact ⟨c, e.symm, over_small (hp.mem_iff.mp hc)⟩
theorem subs2_bound {p q : Int} {l : List Nat} (h : l.length ≤ 7) : (subs (tb p) (subs (tb q) l)).length ≤ 900 := by
  have h1 := subs_len (tb q) (tb_ok q) l
  have h2 := subs_len (tb p) (tb_ok p) (subs (tb q) l)
  omega
theorem subs2_bound' {p q : Int} {l : List Nat} (h : l.length ≤ 7) : (subs (tb p) (subs (tb q) l)).length ≤ 1000 := Nat.le_trans (subs2_bound h) (by decide)
theorem allLt_ne {d : Addr} {l : List (Addr × Obj)} (h : ∀ p ∈ l, p.1 < d) : ∀ p ∈ l, p.1 ≠ d := fun p hp => Nat.ne_of_lt (h p hp)
theorem two_ne {a b : Addr} {o : Obj} {l : List (Addr × Obj)} (h1 : ∀ p ∈ l, p.1 < b) (h2 : ∀ p ∈ (b, o) :: l, p.1 < a) : ∀ p ∈ l, p.1 ≠ a ∧ p.1 ≠ b := fun p hp => ⟨Nat.ne_of_lt (h2 p (List.mem_cons_of_mem _ hp)), Nat.ne_of_lt (h1 p hp)⟩
theorem hd_ne {a b : Addr} {o : Obj} {l : List (Addr × Obj)} (h2 : ∀ p ∈ (b, o) :: l, p.1 < a) : b ≠ a := Nat.ne_of_lt (h2 (b, o) List.mem_cons_self)
local macro_rules | `(tactic| walk_at "call type:list") => `(tactic| (k_here; (with_reducible show wpAny _ _ (call (Value.type _) [Value.str _ _]) _ _ _); (k_dflt (refine list_sg (by rfl) (by k_asm) (by k_asm) (subs2_bound' (by assumption)) ?_)); intro D9 vs9 n9 h9 tk9 F9 N9 sg9 l9))
local macro_rules | `(tactic| walk_at "call ref") => `(tactic| (k_here; (k_dflt (refine' c_uld ?he ?ha ?be ?ba ?hPA ?hn ?F ?X ?N ?T ?hk ?hdp ?_; (case F => k_asm); (case N => k_asm); (case X => k_asm); (case T => k_asm); (case he => assumption); (case ha => assumption); (case be => exact subs2_bound (by assumption)); (case ba => exact subs2_bound (by assumption)); (case hPA => exact hd_ne (by assumption)); (case hn => exact two_ne (by assumption) (by assumption)); (case hk => with_unfolding_all rfl); (case hdp => with_unfolding_all decide))); intro R9 M9 vm9 nm9 va9 na9 h9 tk9 F9 N9 s1 s2 lA lM lN; (try dsimp only)))
theorem run_m {p q : Int} {cs : List Nat} : (run (subs (tb p) (subs (tb q) cs)).reverse (subs (tb q) (subs (tb p) cs)) []).1.Perm (overOf (moreOf p q cs) signs12) := by
  rw [twice_eq, twice_eq]; exact missing_perm p q cs
theorem run_l {p q : Int} {cs : List Nat} : (run (subs (tb p) (subs (tb q) cs)).reverse (subs (tb q) (subs (tb p) cs)) []).2.Perm (overOf (fun c => -moreOf p q cs c) signs12) := by
  rw [twice_eq, twice_eq]; exact left_perm p q cs
theorem law_units {L a : Addr} {cd : Value} : (callerA.deeper (lawEnv L a cd)).units + 64 < cLine := (by decide : 4 + 3 + 64 < 9900)
theorem news_f {h₀ h : Heap} {L : Addr} {x : Addr × Obj} {l : List (Addr × Obj)} (N : News h₀ L h l) (hx : x ∈ l) : News h₀ L h [x] := fun p hp => by
  rcases List.mem_cons.mp hp with e | hp
  · exact e ▸ N x hx
  · cases hp
theorem law_F {w : World} {mean : ExcName → Option Value} {mg mb : Str → Option Value} {base h₀ : Heap} {L a : Addr} {cd : Value} {m : Str → Option Value} {s : Shared} {Q : Flow → Shared → Prop} {E : Value → Shared → Prop}
    {p q : Int} {cs : List Nat} {t4 t5 t6 t7 : Tok} (hcs : cs.length ≤ 7) {D1 D2 DU OV UD : Addr} {op oq c1 c2 o3 : Obj} {ys : List Value} {vm : Option Value} {vo vu : List Value} {no nu : Nat}
    (B : Below callerA base [] h₀) (X : (hd.heap_39 w.params).In h₀) (T : Top hd.view_39 (looseW hd.view_39 []) mean mg mb h₀)
    (hys : Two IsSgn (cs.filter (pUnlike p q)) ys) (ho : Sg vo (overOf (moreOf p q cs) signs12)) (hu : Sg vu (overOf (fun c => -moreOf p q cs c) signs12))
    (F : Fr h₀ L s.heap (fun y => if y = Str.ofString "more" then vm else if y = Str.ofString "under" then some (.ref UD) else if y = Str.ofString "over" then some (.ref OV) else if y = Str.ofString "unlike" then some (.ref DU) else if y = Str.ofString "others_alone" then some (.int (cs.filter (pAlone q p)).length t7) else if y = Str.ofString "alone" then some (.int (cs.filter (pAlone p q)).length t6) else
      if y = Str.ofString "back" then some (.str ⟨(subs (tb q) (subs (tb p) cs)).toArray⟩ t5) else if y = Str.ofString "forth" then some (.str ⟨(subs (tb p) (subs (tb q) cs)).toArray⟩ t4) else m y))
    (N : News h₀ L s.heap [(L + 1 + 1 + 1, o3), (UD, listOf (List.toArray vu) nu), (OV, listOf (List.toArray vo) no), (DU, LCg.lst ys), (D2, oq), (D1, op), (L + 1 + 1, c2), (L + 1, c1)])
    (hnext : ∀ vl vk h' tk, Fr h₀ L h' (fun y => if y = Str.ofString "left" then vl else if y = Str.ofString "missing" then vk else if y = Str.ofString "more" then vm else if y = Str.ofString "under" then some (.ref UD) else if y = Str.ofString "over" then some (.ref OV) else if y = Str.ofString "unlike" then some (.ref DU) else if y = Str.ofString "others_alone" then some (.int (cs.filter (pAlone q p)).length t7) else if y = Str.ofString "alone" then some (.int (cs.filter (pAlone p q)).length t6) else
      if y = Str.ofString "back" then some (.str ⟨(subs (tb q) (subs (tb p) cs)).toArray⟩ t5) else if y = Str.ofString "forth" then some (.str ⟨(subs (tb p) (subs (tb q) cs)).toArray⟩ t4) else m y) →
      News h₀ L h' [(DU, LCg.lst ys)] →
      wpAny (model Challenge.rw_oh0019_01.row.prog w) (callerA.deeper (lawEnv L a cd)) (execs (lawBody.drop 20) (lawEnv L a cd)) Q E { s with heap := h', toks := tk }) :
    wpAny (model Challenge.rw_oh0019_01.row.prog w) (callerA.deeper (lawEnv L a cd)) (execs (lawBody.drop 18) (lawEnv L a cd)) Q E s := by
  have pm := run_m (p := p) (q := q) (cs := cs)
  have pl := run_l (p := p) (q := q) (cs := cs)
  have l1 : (overOf (moreOf p q cs) signs12).length < 64 := Nat.lt_of_le_of_lt (over_len28 p q hcs) (by decide)
  have l2 : (overOf (fun c => -moreOf p q cs c) signs12).length < 64 := Nat.lt_of_le_of_lt (under_len28 p q hcs) (by decide)
  have l3 : (run (subs (tb p) (subs (tb q) cs)).reverse (subs (tb q) (subs (tb p) cs)) []).1.length < 64 := by rw [pm.length_eq]; exact l1
  have l4 : (run (subs (tb p) (subs (tb q) cs)).reverse (subs (tb q) (subs (tb p) cs)) []).2.length < 64 := by rw [pl.length_eq]; exact l2
  w_on
  conv in (execs _ _) => arg 1; whnf
  w_strict (
    revert X
    k_fill
    intro X
    repeat' ((fail_if_success (with_reducible show wpAny _ _ (call (Value.builtin "sorted") _) _ _ _)); (fail_if_success (with_reducible show wpAny _ _ (compareOp _ _ _) _ _ _)); (fail_if_success (with_reducible show wpAny _ _ (execs [_, _, _, _] _) _ _ _)); first | (k_unfold; (try dsimp only)) | (k_end; wrow_close) | walk1 | (dsimp only; walk1) | fail "no step")
    (k_dflt (refine sort_sg (by k_asm) (by k_asm) (by k_mem) (by with_reducible assumption) (by with_reducible assumption) ?_))
    intro h8 D8 vs8 ss8 e8 F8 N8 a8 b8 c8
    dsimp only
    repeat' ((fail_if_success (with_reducible show wpAny _ _ (call (Value.builtin "sorted") _) _ _ _)); (fail_if_success (with_reducible show wpAny _ _ (compareOp _ _ _) _ _ _)); (fail_if_success (with_reducible show wpAny _ _ (execs [_, _, _, _] _) _ _ _)); first | (k_unfold; (try dsimp only)) | (k_end; wrow_close) | walk1 | (dsimp only; walk1) | fail "no step")
    (k_dflt (refine sort_sg (by k_asm) (by k_asm) (by k_mem) (by with_reducible assumption) (by with_reducible assumption) ?_))
    intro h8 D8 vs8 ss8 e8 F8 N8 a8 b8 c8
    dsimp only
    repeat' ((fail_if_success (with_reducible show wpAny _ _ (call (Value.builtin "sorted") _) _ _ _)); (fail_if_success (with_reducible show wpAny _ _ (compareOp _ _ _) _ _ _)); (fail_if_success (with_reducible show wpAny _ _ (execs [_, _, _, _] _) _ _ _)); first | (k_unfold; (try dsimp only)) | (k_end; wrow_close) | walk1 | (dsimp only; walk1) | fail "no step")
    (k_dflt (refine ne_strs (by k_asm) (by k_mem) (by k_mem) (by with_reducible assumption) (by with_reducible assumption) (sorted_same (by with_reducible assumption) (by with_reducible assumption) (by with_reducible assumption) (by with_reducible assumption) (by with_reducible assumption)) (small_of (by with_reducible assumption) (by with_reducible assumption)) law_units ?_))
    repeat' ((fail_if_success (with_reducible show wpAny _ _ (call (Value.builtin "sorted") _) _ _ _)); (fail_if_success (with_reducible show wpAny _ _ (compareOp _ _ _) _ _ _)); (fail_if_success (with_reducible show wpAny _ _ (execs [_, _, _, _] _) _ _ _)); first | (k_unfold; (try dsimp only)) | (k_end; wrow_close) | walk1 | (dsimp only; walk1) | fail "no step")
    (k_dflt (refine sort_sg (by k_asm) (by k_asm) (by k_mem) (by with_reducible assumption) (by with_reducible assumption) ?_))
    intro h8 D8 vs8 ss8 e8 F8 N8 a8 b8 c8
    dsimp only
    repeat' ((fail_if_success (with_reducible show wpAny _ _ (call (Value.builtin "sorted") _) _ _ _)); (fail_if_success (with_reducible show wpAny _ _ (compareOp _ _ _) _ _ _)); (fail_if_success (with_reducible show wpAny _ _ (execs [_, _, _, _] _) _ _ _)); first | (k_unfold; (try dsimp only)) | (k_end; wrow_close) | walk1 | (dsimp only; walk1) | fail "no step")
    (k_dflt (refine sort_sg (by k_asm) (by k_asm) (by k_mem) (by with_reducible assumption) (by with_reducible assumption) ?_))
    intro h8 D8 vs8 ss8 e8 F8 N8 a8 b8 c8
    dsimp only
    repeat' ((fail_if_success (with_reducible show wpAny _ _ (call (Value.builtin "sorted") _) _ _ _)); (fail_if_success (with_reducible show wpAny _ _ (compareOp _ _ _) _ _ _)); (fail_if_success (with_reducible show wpAny _ _ (execs [_, _, _, _] _) _ _ _)); first | (k_unfold; (try dsimp only)) | (k_end; wrow_close) | walk1 | (dsimp only; walk1) | fail "no step")
    (k_dflt (refine ne_strs (by k_asm) (by k_mem) (by k_mem) (by with_reducible assumption) (by with_reducible assumption) (sorted_same (by with_reducible assumption) (by with_reducible assumption) (by with_reducible assumption) (by with_reducible assumption) (by with_reducible assumption)) (small_of (by with_reducible assumption) (by with_reducible assumption)) law_units ?_))
    repeat' ((fail_if_success (with_reducible show wpAny _ _ (call (Value.builtin "sorted") _) _ _ _)); (fail_if_success (with_reducible show wpAny _ _ (compareOp _ _ _) _ _ _)); (fail_if_success (with_reducible show wpAny _ _ (execs [_, _, _, _] _) _ _ _)); first | (k_unfold; (try dsimp only)) | (k_end; wrow_close) | walk1 | (dsimp only; walk1) | fail "no step")
    (refine hnext _ _ _ _ (by k_asm) (news_f (by k_asm) (by k_mem))))
end Mine
end
section
open PySem PySem.W PySem.Calls PyProof.Rows PySem.Spec PySem.SeqAt
set_option linter.unusedVariables false
namespace Mine
theorem Sg.of_two : ∀ {cs : List Nat} {vs : List Value}, Two IsSgn cs vs → Sg vs cs
  | _, _, .nil => .nil
  | _, _, .cons ⟨u, e⟩ r => by subst e; exact .cons _ u (Sg.of_two r)
theorem small_map {cs : List Nat} (h : ∀ c ∈ cs, c < 128) : small (cs.map one) := fun s hs => by
  obtain ⟨c, hc, e⟩ := List.mem_map.mp hs
  exact ⟨c, e.symm, h c hc⟩
theorem unlike_small {p q : Int} {cs : List Nat} : ∀ c ∈ cs.filter (pUnlike p q), c < 128 := fun c hc => by
  have h := (List.mem_filter.mp hc).2
  unfold pUnlike at h
  simp only [Bool.and_eq_true] at h
  have hk := nm_key h.1
  simp only [List.mem_cons, List.not_mem_nil, or_false] at hk
  omega
theorem eqv_nil (l : List Nat) : PyData.eqv (.list ((l.map one).map PyData.str)) (.list []) = decide (l = []) := by
  cases l with
  | nil => rfl
  | cons a r => simp [PyData.eqv, PyData.eqvAll]
section
variable {prog : Program} {w : World} {A : Around} {E : Value → Shared → Prop} {s : Shared} {h₀ : Heap} {L a b : Addr} {news : List (Addr × Obj)} {n n' : Nat} {Q : Value → Shared → Prop}
theorem eq_nil {vs : List Value} {cs : List Nat} (N : News h₀ L s.heap news) (ha : (a, listOf vs.toArray n) ∈ news) (hb : (b, listOf #[] n') ∈ news) (h1 : Sg vs cs) (hs : ∀ c ∈ cs, c < 128) (hu : A.units + 64 < cLine)
    (h : Q (.bool (decide (cs = []))) s) : wpAny (model prog w) A (compareOp .Eq (.ref a) (.ref b)) Q E s := by
  refine eq_dataH (reads_list (IsL.isList (n := n) (N _ ha).1) h1.strs) (reads_list (vs := []) (ss := []) (IsL.isList (n := n') (N _ hb).1) .nil) (shaped_small (small_map hs)) (shaped_small (fun s hs => by cases hs)) hu ?_
  have e := eqv_nil cs
  rw [← e] at h
  exact h
theorem reads_pair {h : Heap} {r x y : Addr} {dx dy : PyData} {ax ay : List Addr} (hr : h.get? r = some { cls := .type "tuple", data := .seq #[.ref x, .ref y] }) (hx : Reads h (.ref x) dx ax) (hy : Reads h (.ref y) dy ay) :
    Reads h (.ref r) (.tuple [dx, dy]) (ax ++ (ay ++ [])) := Reads.tuple hr rfl rfl (.cons hx (.cons hy .nil))
theorem shaped_pair {ss ts : List Str} (h : small ss) (h' : small ts) : shaped (.tuple [.list (ss.map PyData.str), .list (ts.map PyData.str)]) = true := by
  simp [shaped, PyData.canLay0, PyData.canLayAll0, PyData.depth, PyData.depthAll, canLay_small ss h, canLay_small ts h', depth_strs]
theorem eq_pair {r r' x y x' y' : Addr} {nx ny nx' ny' : Nat} {vx vy : List Value} {M O : List Nat} (N : News h₀ L s.heap news) (hr : (r, ({ cls := .type "tuple", data := .seq #[.ref x, .ref y] } : Obj)) ∈ news) (hr' : (r', ({ cls := .type "tuple", data := .seq #[.ref x', .ref y'] } : Obj)) ∈ news)
    (hx : (x, listOf vx.toArray nx) ∈ news) (hy : (y, listOf vy.toArray ny) ∈ news) (hx' : (x', listOf #[] nx') ∈ news) (hy' : (y', listOf #[] ny') ∈ news) (h1 : Sg vx M) (h2 : Sg vy O) (s1 : ∀ c ∈ M, c < 128) (s2 : ∀ c ∈ O, c < 128) (hu : A.units + 64 < cLine)
    (h : Q (.bool (decide (M = [] ∧ O = []))) s) : wpAny (model prog w) A (compareOp .Eq (.ref r) (.ref r')) Q E s := by
  refine eq_dataH (reads_pair (N _ hr).1 (reads_list (IsL.isList (n := nx) (N _ hx).1) h1.strs) (reads_list (IsL.isList (n := ny) (N _ hy).1) h2.strs))
    (reads_pair (N _ hr').1 (reads_list (vs := []) (ss := []) (IsL.isList (n := nx') (N _ hx').1) .nil) (reads_list (vs := []) (ss := []) (IsL.isList (n := ny') (N _ hy').1) .nil)) (shaped_pair (small_map s1) (small_map s2)) (shaped_pair (fun s hs => by cases hs) (fun s hs => by cases hs)) hu ?_
  have e : PyData.eqv (.tuple [.list ((M.map one).map PyData.str), .list ((O.map one).map PyData.str)]) (.tuple [.list [], .list []]) = decide (M = [] ∧ O = []) := by
    have e1 := eqv_nil M
    have e2 := eqv_nil O
    rw [PyData.eqv, PyData.eqvAll, PyData.eqvAll, PyData.eqvAll, e1, e2]
    simp
  rw [← e] at h
  exact h
end
end Mine
end
section
open PySem PySem.W PyProof.Rows
namespace Mine
set_option maxRecDepth 100000
set_option maxHeartbeats 8000000
set_option linter.unusedVariables false
theorem subs1_bound {p : Int} {l : List Nat} (h : l.length ≤ 7) : (subs (tb p) l).length ≤ 900 := by
  have h2 := subs_len (tb p) (tb_ok p) l
  omega
theorem subs1_bound' {p : Int} {l : List Nat} (h : l.length ≤ 7) : (subs (tb p) l).length ≤ 1000 := Nat.le_trans (subs1_bound h) (by decide)
local macro_rules | `(tactic| walk_at "call type:list") => `(tactic| (k_here; (with_reducible show wpAny _ _ (call (Value.type _) [Value.str _ _]) _ _ _); (k_dflt (refine list_sg (by rfl) (by k_asm) (by k_asm) (subs1_bound' (by assumption)) ?_)); intro D9 vs9 n9 h9 tk9 F9 N9 sg9 l9))
local macro_rules | `(tactic| walk_at "call ref") => `(tactic| (k_here; first
  | (k_dflt (refine' c_written ?hx ?hl ?B ?F ?X ?N ?T ?hk ?hdp ?_; (case B => k_asm); (case F => k_asm); (case X => k_asm); (case N => k_asm); (case T => k_asm); (case hx => assumption); (case hl => exact le_thousand (by assumption)); (case hk => with_unfolding_all rfl); (case hdp => with_unfolding_all decide)); intro t9 h9 tk9 F9 N9; (try dsimp only))
  | (k_dflt (refine' c_uld ?he ?ha ?be ?ba ?hPA ?hn ?F ?X ?N ?T ?hk ?hdp ?_; (case F => k_asm); (case N => k_asm); (case X => k_asm); (case T => k_asm); (case he => assumption); (case ha => assumption); (case be => exact subs1_bound (by assumption)); (case ba => exact subs1_bound (by assumption)); (case hPA => exact hd_ne (by assumption)); (case hn => exact two_ne (by assumption) (by assumption)); (case hk => with_unfolding_all rfl); (case hdp => with_unfolding_all decide)); intro R9 M9 vm9 nm9 va9 na9 h9 tk9 F9 N9 s1 s2 lA lM lN; (try dsimp only))
  | fail "no contract"))
theorem s1_small {p q : Int} {cs : List Nat} : ∀ c ∈ (run (subs (tb p) cs).reverse (subs (tb q) cs) []).1, c < 128 := by
  rw [subs_eq _ (tb_ok p), subs_eq _ (tb_ok q)]; exact fun c hc => small1 hc
theorem s2_small {p q : Int} {cs : List Nat} : ∀ c ∈ (run (subs (tb p) cs).reverse (subs (tb q) cs) []).2, c < 128 := by
  rw [subs_eq _ (tb_ok p), subs_eq _ (tb_ok q)]; exact fun c hc => small2 hc
local macro_rules | `(tactic| walk_at "compareOp Eq ref ref") => `(tactic| (k_here; k_dflt (first
  | refine eq_nil (by k_asm) (by k_mem) (by k_mem) (Sg.of_two (by with_reducible assumption)) unlike_small law_units ?_
  | refine eq_pair (by k_asm) (by k_mem) (by k_mem) (by k_mem) (by k_mem) (by k_mem) (by k_mem) (by with_reducible assumption) (by with_reducible assumption) s1_small s2_small law_units ?_
  | fail "no compare")))
theorem al_iff (p q : Int) (cs : List Nat) : ((run (subs (tb p) cs).reverse (subs (tb q) cs) []).1 = [] ∧ (run (subs (tb p) cs).reverse (subs (tb q) cs) []).2 = []) ↔
    ((cs.filter (pAlone p q)).length = 0 ∧ (cs.filter (pAlone q p)).length = 0 ∧ cs.filter (pUnlike p q) = []) := by
  rw [subs_eq _ (tb_ok p), subs_eq _ (tb_ok q)]; exact alike_iff p q cs
theorem fin1 {p q : Int} {cs : List Nat} (h1 : ((cs.filter (pAlone p q)).length : Int) = 0) (h2 : ((cs.filter (pAlone q p)).length : Int) = 0) :
    (decide ((run (subs (tb p) cs).reverse (subs (tb q) cs) []).1 = [] ∧ (run (subs (tb p) cs).reverse (subs (tb q) cs) []).2 = []) == decide (cs.filter (pUnlike p q) = [])) = true := by
  rw [beq_iff_eq, decide_eq_decide, al_iff]
  exact ⟨fun h => h.2.2, fun h => ⟨by omega, by omega, h⟩⟩
theorem fin2 {p q : Int} {cs : List Nat} (h2 : ((cs.filter (pAlone q p)).length : Int) ≠ 0) :
    (decide ((run (subs (tb p) cs).reverse (subs (tb q) cs) []).1 = [] ∧ (run (subs (tb p) cs).reverse (subs (tb q) cs) []).2 = []) == (((cs.filter (pAlone q p)).length : Int) == 0)) = true := by
  rw [beq_iff_eq, (beq_eq_false_iff_ne).mpr h2, decide_eq_false_iff_not, al_iff]
  exact fun h => h2 (by omega)
theorem fin3 {p q : Int} {cs : List Nat} (h2 : ((cs.filter (pAlone p q)).length : Int) ≠ 0) :
    (decide ((run (subs (tb p) cs).reverse (subs (tb q) cs) []).1 = [] ∧ (run (subs (tb p) cs).reverse (subs (tb q) cs) []).2 = []) == (((cs.filter (pAlone p q)).length : Int) == 0)) = true := by
  rw [beq_iff_eq, (beq_eq_false_iff_ne).mpr h2, decide_eq_false_iff_not, al_iff]
  exact fun h => h2 (by omega)
theorem law_G {w : World} {mean : ExcName → Option Value} {mg mb : Str → Option Value} {base h₀ : Heap} {L a : Addr} {cd : Value} {m : Str → Option Value} {s : Shared} {Q : Flow → Shared → Prop} {E : Value → Shared → Prop}
    {p q : Int} (hp : 0 ≤ p ∧ p ≤ 4) (hq : 0 ≤ q ∧ q ≤ 4) {cs : List Nat} {t1 t2 t3 t4 t5 t6 t7 : Tok} (hcs : cs.length ≤ 7) {DU OV UD : Addr} {ys : List Value} {v1 v2 vm : Option Value}
    (B : Below callerA base [] h₀) (X : (hd.heap_39 w.params).In h₀) (T : Top hd.view_39 (looseW hd.view_39 []) mean mg mb h₀)
    (hys : Two IsSgn (cs.filter (pUnlike p q)) ys)
    (F : Fr h₀ L s.heap (fun y => if y = Str.ofString "left" then v1 else if y = Str.ofString "missing" then v2 else if y = Str.ofString "more" then vm else if y = Str.ofString "under" then some (.ref UD) else if y = Str.ofString "over" then some (.ref OV) else if y = Str.ofString "unlike" then some (.ref DU) else if y = Str.ofString "others_alone" then some (.int (cs.filter (pAlone q p)).length t7) else if y = Str.ofString "alone" then some (.int (cs.filter (pAlone p q)).length t6) else
      if y = Str.ofString "back" then some (.str ⟨(subs (tb q) (subs (tb p) cs)).toArray⟩ t5) else if y = Str.ofString "forth" then some (.str ⟨(subs (tb p) (subs (tb q) cs)).toArray⟩ t4) else
      if y = Str.ofString "text" then some (.str ⟨cs.toArray⟩ t3) else if y = Str.ofString "other" then some (.int q t2) else if y = Str.ofString "one" then some (.int p t1) else m y))
    (N : News h₀ L s.heap [(DU, LCg.lst ys)])
    (hend : ∀ h' tk m', Fr h₀ L h' m' → Q (.ret (.bool true)) { s with heap := h', toks := tk }) :
    wpAny (model Challenge.rw_oh0019_01.row.prog w) (callerA.deeper (lawEnv L a cd)) (execs (lawBody.drop 20) (lawEnv L a cd)) Q E s := by
  w_on
  conv in (execs _ _) => arg 1; whnf
  w_strict (
    revert X
    k_fill
    intro X
    repeat' ((fail_if_success (with_reducible show Q _ _)); first | (k_unfold; (try dsimp only)) | (k_end; wrow_close) | walk1 | (dsimp only; walk1) | fail "no step")
    (all_goals (first | rw [fin1 (by assumption) (by assumption)] | rw [fin2 (by assumption)] | rw [fin3 (by assumption)]))
    (all_goals (exact hend _ _ _ (by k_asm))))
end Mine
end
section
open PySem PySem.W PyProof.Rows
namespace Mine
set_option maxRecDepth 100000
set_option maxHeartbeats 8000000
set_option linter.unusedVariables false
theorem law_all {w : World} {mean : ExcName → Option Value} {mg mb : Str → Option Value} {base h₀ : Heap} {L a : Addr} {cd : Value} {m : Str → Option Value} {s : Shared} {Q : Flow → Shared → Prop} {E : Value → Shared → Prop}
    {D : Addr} {vs : List Value} {ns : List Int} {n : Nat} {o1 o2 o3 : Obj}
    (B : Below callerA base [] h₀) (X : (hd.heap_39 w.params).In h₀) (T : Top hd.view_39 (looseW hd.view_39 []) mean mg mb h₀)
    (F : Fr h₀ L s.heap (fun y => if y = Str.ofString "numbers" then some (.ref D) else m y)) (N : News h₀ L s.heap [(D, listOf vs.toArray n), (L + 1 + 1 + 1, o3), (L + 1 + 1, o2), (L + 1, o1)])
    (hi : IntsAre vs ns) (hl : ns.length ≤ 7) (c1 : o1.data = .cell none) (c2 : o2.data = .cell none) (c3 : o3.data = .cell none)
    (hE : PassesOwn (model Challenge.rw_oh0019_01.row.prog w) (callerA.deeper (lawEnv L a cd)) (lawEnv L a cd) E)
    (hend : ∀ h' tk m', Fr h₀ L h' m' → Q (.ret (.bool true)) { s with heap := h', toks := tk }) :
    wpAny (model Challenge.rw_oh0019_01.row.prog w) (callerA.deeper (lawEnv L a cd)) (execs (lawBody.drop 2) (lawEnv L a cd)) Q E s := by
  refine law_A B X T F N hi hl fun p q cs t1 t2 t3 m₁ h₁ tk₁ hp hq hpq hcs F₁ N₁ => ?_
  refine law_B hp hq hpq hcs B X T F₁ N₁ c1 c2 c3 fun D1 D2 op oq d1 d2 t4 t5 h₂ tk₂ hop hoq lo1 lo2 hd1 hd2 hlt F₂ N₂ => ?_
  refine law_C hcs B X T hop hoq lo1 lo2 hd1 hd2 F₂ N₂ fun h₃ tk₃ F₃ N₃ => ?_
  refine law_D hcs B X T hop hoq lo1 lo2 hd1 hd2 F₃ N₃ fun DU ys t6 t7 h₄ tk₄ hys hne F₄ N₄ => ?_
  refine law_E hcs B X T hop hoq lo1 lo2 hd1 hd2 c3 hys hlt hne F₄ N₄ hE fun vm OV UD vo vu no nu o3' h₅ tk₅ ho hu hlt' F₅ N₅ => ?_
  refine law_F hcs B X T hys ho hu F₅ N₅ fun vl vk h₆ tk₆ F₆ N₆ => ?_
  exact law_G hp hq hcs B X T hys F₆ N₆ fun h' tk m' F' => hend h' tk m' F'
end Mine
end
section
open PySem PySem.W PyProof.Rows
namespace Mine
set_option maxRecDepth 100000
set_option maxHeartbeats 8000000
set_option linter.unusedVariables false
theorem nums_1 {h₀ h : Heap} {L D : Addr} {m : Str → Option Value} {nn : Str} {vs : List Value} {ns : List Int} {n tk : Nat} {x a b c : Addr × Obj} {s : Shared}
    (F : Fr h₀ L h (fun y => if y = nn then some (.ref D) else m y)) (N : News h₀ L h [(D, listOf (List.toArray vs) n), x, a, b, c]) (hi : IntsAre vs ns) (hl : ns.length ≤ 7) (hd : a.1 < D ∧ b.1 < D ∧ c.1 < D) :
    Nums h₀ L m nn [a, b, c] s { s with heap := h, toks := tk } :=
  ⟨h, tk, D, vs, ns, n, rfl, F, fun p hp => N p (by
    simp only [List.mem_cons, List.not_mem_nil, or_false] at hp ⊢
    rcases hp with e | e | e | e <;> simp [e]), hi, hl, fun p hp => by
    simp only [List.mem_cons, List.not_mem_nil, or_false] at hp
    rcases hp with e | e | e <;> subst e
    · exact hd.1
    · exact hd.2.1
    · exact hd.2.2⟩
theorem nums_3 {h₀ h : Heap} {L D : Addr} {v : Option Value} {m : Str → Option Value} {nn : Str} {vs : List Value} {ns : List Int} {n tk : Nat} {x y z a b c : Addr × Obj} {s : Shared}
    (F : Fr h₀ L h (fun y => if y = nn then some (.ref D) else if y = nn then v else m y)) (N : News h₀ L h [(D, listOf (List.toArray vs) n), x, y, z, a, b, c]) (hi : IntsAre vs ns) (hl : ns.length ≤ 7) (hd : a.1 < D ∧ b.1 < D ∧ c.1 < D) :
    NumsF h₀ L m nn [a, b, c] s .next { s with heap := h, toks := tk } :=
  ⟨rfl, h, tk, D, vs, ns, n, rfl, by rw [same_put] at F; exact F, fun p hp => N p (by
    simp only [List.mem_cons, List.not_mem_nil, or_false] at hp ⊢
    rcases hp with e | e | e | e <;> simp [e]), hi, hl, fun p hp => by
    simp only [List.mem_cons, List.not_mem_nil, or_false] at hp
    rcases hp with e | e | e <;> subst e
    · exact hd.1
    · exact hd.2.1
    · exact hd.2.2⟩
theorem len3 {l : List Int} (h : (l.length : Int) < 3) : (l ++ [9, 3, 0]).length ≤ 7 := by
  rw [List.length_append]; simp only [List.length_cons, List.length_nil]; omega
theorem len1 {l : List Int} : (l.take 7).length ≤ 7 := by rw [List.length_take]; omega
theorem lt3 {x y z D : Nat} (hx : x < D) (hy : y < D) (hz : z < D) : x < D ∧ y < D ∧ z < D := ⟨hx, hy, hz⟩
end Mine
end
section
open PySem PySem.W PyProof.Rows Mine
local macro_rules | `(tactic| walk_at "exec If") => `(tactic| (k_here; refine if_nums (nn := Str.ofString "numbers") (by k_asm) (by k_asm) ?_ ?_))
set_option maxRecDepth 100000 in
set_option maxHeartbeats 8000000 in
theorem PySem.Challenge.cw_oh0019_01_holds : PySem.Challenge.rw_oh0019_01.Holds := by
  exact hd (by w_strict (
    k_go0
    (all_goals try k_fold)
    repeat' ((fail_if_success (with_reducible show NB _)); (fail_if_success (with_reducible show Nums _ _ _ _ _ _ _)); (fail_if_success (with_reducible show NumsF _ _ _ _ _ _ _ _)); first | (k_unfold; (try dsimp only)) | (k_end; wrow_close) | walk1 | (dsimp only; walk1) | (leave1; try dsimp only) | fail "no step")
    (k_dflt (refine nums_3 (by k_asm) (by k_asm) (by with_reducible assumption) ?a1 ?a2))
    (case a1 => exact len3 (by assumption))
    (case a2 => exact lt3 (by dsimp only; omega) (by dsimp only; omega) (by dsimp only; omega))
    (k_dflt (refine nums_1 (by k_asm) (by k_asm) (by with_reducible assumption) ?a1 ?a2))
    (case a1 => exact len1)
    (case a2 => exact lt3 (by dsimp only; omega) (by dsimp only; omega) (by dsimp only; omega))
    unfold NB
    intro h5 tk5 D5 vs5 ns5 n5 F5 N5 hi5 hl5 hd5
    dsimp only
    (with_unfolding_all (refine' wpAny_mono (law_all (E := fun _ _ => False) ?bb ?xx ?tt F5 N5 hi5 hl5 ?c1 ?c2 ?c3 PassesOwn.never ?en) (fun _ _ h => h) (fun _ _ h => h.elim)))
    (case bb => k_asm)
    (case xx => k_asm)
    (case tt => k_asm)
    (case c1 => with_unfolding_all assumption)
    (case c2 => with_unfolding_all assumption)
    (case c3 => with_unfolding_all assumption)
    (case en =>
      intro h6 tk6 m6 F6
      repeat' (first | (k_unfold; (try dsimp only)) | (k_end; wrow_close) | walk1 | (dsimp only; walk1) | (leave1; try dsimp only) | fail "no step"))))
end
