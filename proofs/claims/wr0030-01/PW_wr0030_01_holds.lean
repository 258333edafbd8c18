import PyProof.Rows.All
import Wide.All
import OpenK.AllK
import Wide.FinOn
import PyProof.StrLawsReplace
import PyProof.AttrMissHeap
import Lean
import PySem.Challenge.RW_wr0030_01
set_option Elab.async false
set_option compiler.extract_closed false
set_option rowWalk.seconds 0
section
open PySem PySem.W PyProof.Rows
set_option Elab.async false
set_option maxRecDepth 100000
set_option maxHeartbeats 8000000
local macro_rules | `(tactic| refine $t:term) => do
  let f := if t.raw.getKind == ``Lean.Parser.Term.app then t.raw[0] else t.raw
  if f.isIdent && f.getId.eraseMacroScopes == `PySem.W.holds_open then
    `(tactic| (refine ($t); case $(Lean.mkIdent `hl):ident => (intro w; kernel_rfl)))
  else Lean.Macro.throwUnsupported
open_top Mine.hd for PySem.Challenge.rw_wr0030_01
end
theorem Mine.rest_Hd {prog : PySem.Program} {w : PySem.World} {A : PySem.Around} {E : PySem.Value → PySem.Shared → Prop} {s : PySem.Shared} {env : PySem.Env} : PySem.wpAny (PySem.model prog w) A (PySem.execs [] env) (fun _ _ => True) E s := by
  w_top off
  first | (walk1; trivial) | exact PySem.wpAny_execs_nil trivial
section
open PySem
set_option Elab.async false
namespace Mine

/-- each `c` of `l` written as `z` -/
noncomputable def subL (c : Nat) (z l : List Nat) : List Nat := l.flatMap fun d => if d = c then z else [d]

theorem subL_append (c : Nat) (z a b : List Nat) : subL c z (a ++ b) = subL c z a ++ subL c z b := by
  simp [subL, List.flatMap_append]
theorem subL_free (c : Nat) (z : List Nat) : ∀ l : List Nat, c ∉ l → subL c z l = l
  | [], _ => rfl
  | k :: r, h => by
    have h1 : ¬ k = c := fun e => h (e ▸ List.mem_cons_self ..)
    have h2 : c ∉ r := fun m => h (List.mem_cons_of_mem _ m)
    have ih := subL_free c z r h2
    unfold subL at ih ⊢
    rw [List.flatMap_cons, ih, if_neg h1]; rfl
theorem subL_one (c : Nat) (z : List Nat) : subL c z [c] = z := by simp [subL]

theorem subL_join (c : Nat) (z : Str) : ∀ parts : List Str, (∀ p ∈ parts, c ∉ p.cps.toList) →
    subL c z.cps.toList (Str.join ⟨#[c]⟩ parts).cps.toList = (Str.join z parts).cps.toList
  | [], _ => rfl
  | [p], h => subL_free c _ _ (h p (List.mem_singleton.mpr rfl))
  | p :: q :: r, h => by
    have ih := subL_join c z (q :: r) fun a ha => h a (List.mem_cons_of_mem _ ha)
    show subL c z.cps.toList (p ++ ⟨#[c]⟩ ++ Str.join ⟨#[c]⟩ (q :: r)).cps.toList = (p ++ z ++ Str.join z (q :: r)).cps.toList
    simp only [Str.cps_append, Array.toList_append]
    rw [subL_append, subL_append, ih, subL_free c _ _ (h p (List.mem_cons_self ..))]
    show p.cps.toList ++ subL c _ [c] ++ _ = _
    rw [subL_one]

theorem replace_flat (x z : Str) (c : Nat) : (Txt.replace x ⟨#[c]⟩ z).cps.toList = subL c z.cps.toList x.cps.toList := by
  rw [StrLaws.replace_one, ← subL_join c _ _ (StrLaws.split_free x c), StrLaws.join_split]

theorem subL_length (c : Nat) (z l : List Nat) (hz : z.length ≤ 6) : (subL c z l).length ≤ 6 * l.length := by
  induction l with
  | nil => simp [subL]
  | cons k r ih =>
    have e : subL c z (k :: r) = (if k = c then z else [k]) ++ subL c z r := by simp [subL]
    rw [e, List.length_append, List.length_cons]
    have : (if k = c then z else [k]).length ≤ 6 := by split <;> simp_all
    omega

theorem str_ext {x : Str} {l : List Nat} (h : x.cps.toList = l) : x = ⟨l.toArray⟩ := by
  obtain ⟨⟨a⟩⟩ := x
  simp at h; subst h; rfl
theorem str_one {x : Str} (h : x.length = 1) : ∃ n, x = ⟨#[n]⟩ := by
  obtain ⟨⟨a⟩⟩ := x
  match a, h with
  | [n], _ => exact ⟨n, rfl⟩
end Mine
end
theorem Mine.rest_P1 {prog : PySem.Program} {w : PySem.World} {A : PySem.Around} {E : PySem.Value → PySem.Shared → Prop} {s : PySem.Shared} {env : PySem.Env} : PySem.wpAny (PySem.model prog w) A (PySem.execs [] env) (fun _ _ => True) E s := by
  w_top off
  first | (walk1; trivial) | exact PySem.wpAny_execs_nil trivial
section
open PySem PySem.W PyProof.Rows
set_option Elab.async false
set_option maxRecDepth 100000
set_option maxHeartbeats 8000000
set_option linter.unusedVariables false
namespace Mine
theorem fr_lk {h₀ h : Heap} {L : Addr} {l l' : List (Str × Value)} (F : Fr h₀ L h (fun y => List.lookup y l)) (e : l = l') : Fr h₀ L h (fun y => List.lookup y l') := e ▸ F
theorem gen_tk {M : Model} {A : Around} {α : Type} {t : Sem α} {Q : α → Shared → Prop} {E : Value → Shared → Prop} {hp : Heap} {g d o} {n : Nat}
    (h : ∀ tk : Nat, wpAny M A t Q E ⟨hp, g, d, tk, o⟩) : wpAny M A t Q E ⟨hp, g, d, n, o⟩ := h _
theorem lt5 {P : Nat → Prop} (h0 : P 0) (h1 : P 1) (h2 : P 2) (h3 : P 3) (h4 : P 4) {n : Nat} (hn : n < 5) : P n := by
  match n, hn with
  | 0, _ => exact h0
  | 1, _ => exact h1
  | 2, _ => exact h2
  | 3, _ => exact h3
  | 4, _ => exact h4
end Mine
end
theorem Mine.rest_P2 {prog : PySem.Program} {w : PySem.World} {A : PySem.Around} {E : PySem.Value → PySem.Shared → Prop} {s : PySem.Shared} {env : PySem.Env} : PySem.wpAny (PySem.model prog w) A (PySem.execs [] env) (fun _ _ => True) E s := by
  w_top off
  first | (walk1; trivial) | exact PySem.wpAny_execs_nil trivial
section
open PySem PySem.W PyProof.Rows
set_option Elab.async false
set_option maxRecDepth 100000
set_option maxHeartbeats 8000000
namespace Mine
noncomputable abbrev Claim1 (w : World) (mean : ExcName → Option Value) (mg mb : Str → Option Value) (f : Addr) (news : List (Addr × Obj)) (pre : Prop) (vs : List Value) (R : Tok → Value) : Prop :=
  CbClaim Challenge.rw_wr0030_01.row.prog w (hd.heap_39 w.params) hd.view_39 (looseW hd.view_39 []) mean mg mb f news [] pre vs R

theorem gen_toks {M : Model} {A : Around} {α : Type} {t : Sem α} {Q : α → Shared → Prop} {E : Value → Shared → Prop} {hp : Heap} {g d o} {n : Nat}
    (h : ∀ tk : Nat, 0 < tk → wpAny M A t Q E ⟨hp, g, d, tk, o⟩) : wpAny M A t Q E ⟨hp, g, d, n + 1, o⟩ := h _ (Nat.succ_pos _)

theorem replace_none {x c z : Str} (h : (Builtin.Str.occurrences x c 0 x.length 1).isEmpty = true) : Txt.replace x c z = x := by
  have h0 : ∀ i, ¬ StrLaws.At x c x.length i := by
    rcases StrLaws.occ_head x c 1 (Nat.le_refl _) with ⟨_, hn⟩ | ⟨i, r, e, _⟩
    · exact hn
    · rw [e] at h; cases h
  have h1 : (Builtin.Str.occurrences x c 0 x.length (x.length + 1)).isEmpty = true := by
    rcases StrLaws.occ_head x c (x.length + 1) (Nat.succ_pos _) with ⟨e, _⟩ | ⟨i, r, e, hi, _⟩
    · rw [e]; rfl
    · exact absurd hi (h0 i)
  unfold Txt.replace
  rw [h1]; simp

section
variable {prog : Program} {w : World} {A : Around} {E : Value → Shared → Prop} {s : Shared} {h₀ : Heap} {m : Str → Option Value} {news : List (Addr × Obj)}
  {name : Str} {scope : Scope} {L a : Addr} {cd : Value}

theorem if_replace {x : Str} {t : Tok} {c z : String} {Q : Flow → Shared → Prop} {k1 k2 k3 : Nat} {p1 p2 p3 p4 p5 p6 p7 p8 p9 p10 p11 : Pos}
    (F : Fr h₀ L s.heap m) (N : News h₀ L s.heap news) (hv : m (Str.ofString "text") = some (.str x t)) (htk : 0 < s.toks)
    {B : Nat} (hB : x.length ≤ B) (hb : B + (B + 1) * 6 ≤ 16777216) (hc : (Str.ofString c).length = 1) (hz : (Str.ofString z).length ≤ 6) (hyz : (Str.ofString c == Str.ofString z) = false)
    (h : ∀ h' tk' t', 0 < tk' → (Txt.replace x (Str.ofString c) (Str.ofString z)).length ≤ 6 * B → Fr h₀ L h' (fun y => if y = Str.ofString "text" then some (.str (Txt.replace x (Str.ofString c) (Str.ofString z)) t') else m y) → News h₀ L h' news →
      Q .next { s with heap := h', toks := tk' })
    (hk : scope.kind = .function := by rfl) (hl : (envOf name scope L a cd).kindOf (Str.ofString "text") = some .local := by rfl)
    (hd : (Str.ofString "text" == ("__debug__" : Str)) = false := by decide) {pl : Sem Bool}
    (he : eval (.Call (.Attribute (.Name (Str.ofString "text") p5) (Str.ofString "replace") p6) [.Constant (.str (Str.ofString c)) k2 p7, .Constant (.str (Str.ofString z)) k3 p8] [] p9) (envOf name scope L a cd) = (do
      let ov ← eval (.Name (Str.ofString "text") p5) (envOf name scope L a cd)
      standAt p6.atName
      let (f, first) ← holding [ov] (getMethod ov (Str.ofString "replace") pl)
      callWith p9 f first (backTo p9 (starEach [.Constant (.str (Str.ofString c)) k2 p7, .Constant (.str (Str.ofString z)) k3 p8] (envOf name scope L a cd))) []) := by rfl) :
    wpAny (model prog w) A (exec (.If (.Compare (.Constant (.str c) k1 p1) [.In] [.Name (Str.ofString "text") p2] p3)
      [.Assign [.Name (Str.ofString "text") p4] (.Call (.Attribute (.Name (Str.ofString "text") p5) "replace" p6) [.Constant (.str c) k2 p7, .Constant (.str z) k3 p8] [] p9) p10] [] p11) (envOf name scope L a cd)) Q E s := by
  have hlen : (Txt.replace x (Str.ofString c) (Str.ofString z)).length ≤ 6 * B := by
    obtain ⟨n, hn⟩ := str_one hc
    have h1 := subL_length n (Str.ofString z).cps.toList x.cps.toList (by simpa [Str.length] using hz)
    rw [← replace_flat, ← hn] at h1
    simp only [Array.length_toList] at h1
    unfold Str.length at hB ⊢
    omega
  have hbb : x.length + (x.length + 1) * (Str.ofString z).length ≤ 16777216 := by
    have h1 : (x.length + 1) * (Str.ofString z).length ≤ (B + 1) * 6 := Nat.mul_le_mul (by omega) hz
    omega
  walk1
  walk1
  walk1
  refine ld F hv ?_ hk hl hd
  refine in_str ?_
  walk1
  cases hocc : (Builtin.Str.occurrences x (Str.ofString c) 0 x.length 1).isEmpty
  · simp only [Bool.not_false, if_true]
    walk1
    walk1
    refine MethodCall_ (pl := pl) ?_ he
    refine ld F hv ?_ hk hl hd
    walk1
    walk1
    walk1
    walk1
    walk1
    walk1
    walk1
    refine SC.replace (by show (_ : Nat) ≠ _; omega) (by show (_ : Nat) ≠ _; omega) (by show (_ : Nat) ≠ _; omega) hyz hbb ?_
    intro t' k'
    refine stN F N (fun h' F' N' => ?_) hk hl
    refine wpAny_pure ?_
    exact h h' _ t' (Nat.succ_pos _) hlen F' N'
  · simp only [Bool.not_true, Bool.false_eq_true, if_false]
    refine wpAny_pure ?_
    refine h s.heap (s.toks + 1) t (Nat.succ_pos _) hlen ?_ N
    rw [replace_none hocc]
    have e : (fun y => if y = Str.ofString "text" then some (Value.str x t) else m y) = m := by
      funext y
      by_cases hy : y = Str.ofString "text"
      · subst hy; simp [hv]
      · simp [hy]
    rw [e]; exact F
end

local macro_rules | `(tactic| walk_at "execs cons") => `(tactic| (k_here; k_dflt (refine gen_toks ?_; intro tk htk)))
local macro_rules | `(tactic| walk_at "exec If") => `(tactic| (k_here; k_dflt (refine if_replace (by assumption) (by assumption) rfl (by assumption) (by assumption) (by omega) (by decide +kernel) (by decide +kernel) (by decide +kernel) ?_; (intro h' tk' t' htk' hlen' F' N'))))

noncomputable def quo : Nat × List Nat := (34, [38, 113, 117, 111, 116, 59])
noncomputable def amp : Nat × List Nat := (38, [38, 97, 109, 112, 59])
noncomputable def ltn : Nat × List Nat := (60, [38, 108, 116, 59])
noncomputable def gtn : Nat × List Nat := (62, [38, 103, 116, 59])
/-- the replacements of each of the five, in the text's order -/
noncomputable def chain : Nat → List (Nat × List Nat)
  | 0 => [amp, ltn, gtn]
  | 1 => [amp, ltn, gtn, quo, (13, [38, 35, 49, 51, 59]), (10, [38, 35, 49, 48, 59]), (9, [38, 35, 48, 57, 59])]
  | 2 => [amp, gtn, quo]
  | 3 => [amp, ltn, gtn, (13, [38, 35, 120, 68, 59])]
  | _ => [amp, ltn, quo, (9, [38, 35, 120, 57, 59]), (10, [38, 35, 120, 65, 59]), (13, [38, 35, 120, 68, 59])]
noncomputable def escL (n : Nat) (l : List Nat) : List Nat := (chain n).foldl (fun l p => subL p.1 p.2 l) l
noncomputable def escS (n : Nat) (x : Str) : Str := ⟨(escL n x.cps.toList).toArray⟩
noncomputable def handA (n : Nat) : Addr := 56 + 7 * n

theorem rep_S {x : Str} {c z : String} {l : List Nat} {n : Nat} {zl : List Nat} (hx : x.cps.toList = l) (hc : Str.ofString c = ⟨#[n]⟩) (hz : (Str.ofString z).cps.toList = zl) :
    (Txt.replace x (Str.ofString c) (Str.ofString z)).cps.toList = subL n zl l := by
  rw [hc, replace_flat, hx, hz]

theorem esc_c0 {w : World} {mean : ExcName → Option Value} {mg mb : Str → Option Value} : ∀ news (x : Str) (tx : Tok),
   Claim1 w mean mg mb 56 news (x.length ≤ 30) [.str x tx] (fun t => .str (escS 0 x) t) := by
  dsimp only [Claim1, CbClaim, CbLists, CbRet]
  k_fill
  intros
  rename_i hret
  refine wpAny_call ?_
  k_dflt cell_enter
  k_steps
  refine cb_retS hret (str_ext ?_) (by k_asm) (by k_asm)
  simp only [escL, chain, List.foldl_cons, List.foldl_nil]
  repeat (refine rep_S ?_ (by decide +kernel) (by decide +kernel))
  rfl

theorem esc_c1 {w : World} {mean : ExcName → Option Value} {mg mb : Str → Option Value} : ∀ news (x : Str) (tx : Tok),
   Claim1 w mean mg mb 63 news (x.length ≤ 30) [.str x tx] (fun t => .str (escS 1 x) t) := by
  dsimp only [Claim1, CbClaim, CbLists, CbRet]
  k_fill
  intros
  rename_i hret
  refine wpAny_call ?_
  k_dflt cell_enter
  k_steps
  refine cb_retS hret (str_ext ?_) (by k_asm) (by k_asm)
  simp only [escL, chain, List.foldl_cons, List.foldl_nil]
  repeat (refine rep_S ?_ (by decide +kernel) (by decide +kernel))
  rfl

theorem esc_c2 {w : World} {mean : ExcName → Option Value} {mg mb : Str → Option Value} : ∀ news (x : Str) (tx : Tok),
   Claim1 w mean mg mb 70 news (x.length ≤ 30) [.str x tx] (fun t => .str (escS 2 x) t) := by
  dsimp only [Claim1, CbClaim, CbLists, CbRet]
  k_fill
  intros
  rename_i hret
  refine wpAny_call ?_
  k_dflt cell_enter
  k_steps
  refine cb_retS hret (str_ext ?_) (by k_asm) (by k_asm)
  simp only [escL, chain, List.foldl_cons, List.foldl_nil]
  repeat (refine rep_S ?_ (by decide +kernel) (by decide +kernel))
  rfl

theorem esc_c3 {w : World} {mean : ExcName → Option Value} {mg mb : Str → Option Value} : ∀ news (x : Str) (tx : Tok),
   Claim1 w mean mg mb 77 news (x.length ≤ 30) [.str x tx] (fun t => .str (escS 3 x) t) := by
  dsimp only [Claim1, CbClaim, CbLists, CbRet]
  k_fill
  intros
  rename_i hret
  refine wpAny_call ?_
  k_dflt cell_enter
  k_steps
  refine cb_retS hret (str_ext ?_) (by k_asm) (by k_asm)
  simp only [escL, chain, List.foldl_cons, List.foldl_nil]
  repeat (refine rep_S ?_ (by decide +kernel) (by decide +kernel))
  rfl

theorem esc_c4 {w : World} {mean : ExcName → Option Value} {mg mb : Str → Option Value} : ∀ news (x : Str) (tx : Tok),
   Claim1 w mean mg mb 84 news (x.length ≤ 30) [.str x tx] (fun t => .str (escS 4 x) t) := by
  dsimp only [Claim1, CbClaim, CbLists, CbRet]
  k_fill
  intros
  rename_i hret
  refine wpAny_call ?_
  k_dflt cell_enter
  k_steps
  refine cb_retS hret (str_ext ?_) (by k_asm) (by k_asm)
  simp only [escL, chain, List.foldl_cons, List.foldl_nil]
  repeat (refine rep_S ?_ (by decide +kernel) (by decide +kernel))
  rfl
end Mine
end
theorem Mine.rest_B1 {prog : PySem.Program} {w : PySem.World} {A : PySem.Around} {E : PySem.Value → PySem.Shared → Prop} {s : PySem.Shared} {env : PySem.Env} : PySem.wpAny (PySem.model prog w) A (PySem.execs [] env) (fun _ _ => True) E s := by
  w_top off
  first | (walk1; trivial) | exact PySem.wpAny_execs_nil trivial
section
open PySem PySem.W PyProof.Rows
set_option Elab.async false
set_option maxRecDepth 100000
set_option maxHeartbeats 8000000
set_option linter.unusedVariables false
namespace Mine
section
variable {prog : Program} {w : World} {A : Around} {E : Value → Shared → Prop} {s : Shared}

noncomputable abbrev ZipRec (h : Heap) (z TI TO : Addr) (f0 f1 : Value) : Prop :=
  h.get? z = some { cls := .type "zip", dict := none, data := .fields #[f0, f1, .bool false, .ref TI, .ref TO], slots := #[] }

/-- what a zip over two drawn iterators rests on -/
structure Z2 {n : Nat} {fp1 fp2 : List Addr} {P1 P2 : Nat → Value → Prop} {St1 St2 : Nat → Heap → Prop} (prog : Program) (w : World) (A : Around) (z TI TO i1 i2 : Addr)
    (D1 : Draws prog w A.in1 i1 fp1 n P1 St1) (D2 : Draws prog w A.in1 i2 fp2 n P2 St2) : Prop where
  z1 : z ∉ fp1
  z2 : z ∉ fp2
  o1 : TO ∉ fp1
  o2 : TO ∉ fp2
  i12 : i1 ∉ fp2
  i21 : i2 ∉ fp1
  i1z : i1 ≠ z
  i2z : i2 ≠ z
  TIz : TI ≠ z
  TIO : TI ≠ TO
  TOz : TO ≠ z
  TI1 : TI ≠ i1
  TI2 : TI ≠ i2
  TO1 : TO ≠ i1
  TO2 : TO ≠ i2

theorem draws_keep {it : Addr} {fp : List Addr} {n : Nat} {P : Nat → Value → Prop} {St : Nat → Heap → Prop} (D : Draws prog w A it fp n P St) {i : Nat} {h h' : Heap} {b : Addr}
    (st : St i h) (hs : Heap.SameBut b h h') (hb : b ∉ fp) : St i h' := D.frame i h h' st fun c hc o e => hs.extBut c o (fun x => hb (x ▸ hc)) e

theorem wpAny_alive {M : Model} {A : Around} {E : Value → Shared → Prop} {s : Shared} {a : Addr} {Q : Option Obj → Shared → Prop} (h : Q (s.heap.get? a) s) :
    wpAny M A (loadIfAlive a) Q E s := fun _ _ _ => h

theorem zip_again {z TI TO i1 i2 T : Addr} {n i : Nat} {fp1 fp2 : List Addr} {P1 P2 : Nat → Value → Prop} {St1 St2 : Nat → Heap → Prop} {f1 : Value} {Q : Option Value → Shared → Prop}
    {D1 : Draws prog w A.in1 i1 fp1 n P1 St1} {D2 : Draws prog w A.in1 i2 fp2 n P2 St2} (Z : Z2 prog w A z TI TO i1 i2 D1 D2)
    (hz : ZipRec s.heap z TI TO (rawInt T) f1) (hT : ∃ o, s.heap.get? T = some o) (hTI : IsPair s.heap TI (.ref i1) (.ref i2))
    (s1 : St1 i s.heap) (s2 : St2 i s.heap) (hi : i < n)
    (hQ : ∀ x y T' h' tk f1', P1 i x → P2 i y → s.heap.get? T' = none → ZipRec h' z TI TO (rawInt T) f1' → IsPair h' TI (.ref i1) (.ref i2) → St1 (i + 1) h' → St2 (i + 1) h' → IsPair h' T' x y →
      (∀ c o, c ≠ z → c ≠ i1 → c ≠ i2 → s.heap.get? c = some o → h'.get? c = some o) → Q (some (.ref T')) { s with heap := h', toks := tk }) :
    wpAny (model prog w) A (pyNext (.ref z)) Q E s := by
  have hT0 : s.TypeIs (.ref z) "zip" := ⟨_, hz, rfl⟩
  unfold pyNext
  refine wpAny_bind (wpAny_attempt (wpAny_callSpecial?_slot (name := Str.ofString "__next__") hT0 F.slot_zip_next
    (wpAny_call_entry F.slot_zip_next hT0 F.entry_zip_next ?_ (F.args_zip_next_1 _))))
  show wpAny _ _ (field (.ref z) 2 >>= _) _ _ _
  refine wpAny_bind (wpAny_field hz rfl (x := .bool false) rfl ?_)
  show wpAny _ _ (field (.ref z) 3 >>= _) _ _ _
  refine wpAny_bind (wpAny_field hz rfl (x := .ref TI) rfl ?_)
  refine wpAny_bind (wpAny_seqItems hTI rfl ?_)
  show wpAny _ _ (Builtin.SmallTypes.ownedTupleIsFree (.ref z) >>= _) _ _ _
  refine wpAny_bind ?_
  refine wpAny_mono (Q := fun b s' => b = false ∧ ∃ h₁ f1', s' = { s with heap := h₁ } ∧ ZipRec h₁ z TI TO (rawInt T) f1' ∧ Heap.SameBut z s.heap h₁) ?_ ?_ fun _ _ e => e
  · unfold Builtin.SmallTypes.ownedTupleIsFree
    refine wpAny_bind (wpAny_field hz rfl (x := rawInt T) rfl ?_)
    obtain ⟨oT, hoT⟩ := hT
    show wpAny _ _ (loadIfAlive (T : Int).toNat >>= _) _ _ _
    refine wpAny_bind (wpAny_alive ?_)
    rw [Int.toNat_natCast, hoT]
    show wpAny _ _ (field (.ref z) 1 >>= _) _ _ _
    refine wpAny_bind (wpAny_field hz rfl (x := f1) rfl ?_)
    dsimp only
    split
    · refine wpAny_bind (wpAny_setField_rec hz (by simp) fun h₁ hz₁ hs₁ => wpAny_pure ⟨rfl, h₁, .bool true, rfl, hz₁, hs₁⟩)
    · exact wpAny_pure ⟨rfl, s.heap, f1, rfl, hz, Heap.SameBut.refl _ _⟩
  · rintro b s' ⟨rfl, h₁, f1', rfl, hz₁, hs₁⟩
    simp only [Bool.false_eq_true, if_false]
    simp only [List.forIn_toArray, List.forIn_cons, List.forIn_nil]
    refine wpAny_bind (wpAny_bind (wpAny_bind (wpAny_holding ?_)))
    show wpAny _ _ (Builtin.SmallTypes.nextOf (.ref i1) >>= _) _ _ _
    refine wpAny_bind (D1.item i _ _ _ hi (draws_keep D1 s1 hs₁ Z.z1) fun x h₂ tk₂ px st1₂ hs₂ => wpAny_pure (wpAny_pure ?_))
    refine wpAny_bind (wpAny_bind (wpAny_holding ?_))
    show wpAny _ _ (Builtin.SmallTypes.nextOf (.ref i2) >>= _) _ _ _
    refine wpAny_bind (D2.item i _ _ _ hi (draws_keep D2 (draws_keep D2 s2 hs₁ Z.z2) hs₂ Z.i12) fun y h₃ tk₃ py st2₃ hs₃ => wpAny_pure (wpAny_pure ?_))
    refine wpAny_pure ?_
    refine wpAny_bind (wpAny_newTuple ?_ (by show 2 ≤ sizeLine; decide))
    refine wpAny_pure ⟨_, rfl, wpAny_pure ?_⟩
    have hsz : h₃.objs.size = s.heap.objs.size := by rw [hs₃.1, hs₂.1, hs₁.1]
    refine hQ x y _ _ _ f1' px py ?_ (Heap.get?_push_of_some _ (hs₃.extBut _ _ Z.i2z.symm (hs₂.extBut _ _ Z.i1z.symm hz₁))) ?_ ?_ ?_ (Heap.get?_push_size _ rfl) ?_
    · cases hq : s.heap.get? h₃.objs.size with
      | none => rfl
      | some o => exact absurd (Heap.lt_size hq) (by rw [hsz]; exact Nat.lt_irrefl _)
    · exact Heap.get?_push_of_some _ (hs₃.extBut _ _ Z.TI2 (hs₂.extBut _ _ Z.TI1 (hs₁.extBut _ _ Z.TIz hTI)))
    · exact D1.frame _ _ _ (draws_keep D1 st1₂ hs₃ Z.i21) fun b _ o e => Heap.get?_push_of_some _ e
    · exact D2.frame _ _ _ st2₃ fun b _ o e => Heap.get?_push_of_some _ e
    · intro c o c1 c2 c3 e
      exact Heap.get?_push_of_some _ (hs₃.extBut _ _ c3 (hs₂.extBut _ _ c2 (hs₁.extBut _ _ c1 e)))

theorem zip_first {z TI TO i1 i2 : Addr} {a b : Value} {n i : Nat} {fp1 fp2 : List Addr} {P1 P2 : Nat → Value → Prop} {St1 St2 : Nat → Heap → Prop} {Q : Option Value → Shared → Prop}
    {D1 : Draws prog w A.in1 i1 fp1 n P1 St1} {D2 : Draws prog w A.in1 i2 fp2 n P2 St2} (Z : Z2 prog w A z TI TO i1 i2 D1 D2)
    (hz : ZipRec s.heap z TI TO .none (.bool false)) (hTO : IsPair s.heap TO a b) (hTI : IsPair s.heap TI (.ref i1) (.ref i2))
    (s1 : St1 i s.heap) (s2 : St2 i s.heap) (hi : i < n)
    (hQ : ∀ x y T' h' tk f1', P1 i x → P2 i y → s.heap.get? T' = none → ZipRec h' z TI TO (rawInt T') f1' → IsPair h' TI (.ref i1) (.ref i2) → St1 (i + 1) h' → St2 (i + 1) h' → IsPair h' T' x y →
      (∀ c o, c ≠ z → c ≠ TO → c ≠ i1 → c ≠ i2 → s.heap.get? c = some o → h'.get? c = some o) → Q (some (.ref T')) { s with heap := h', toks := tk }) :
    wpAny (model prog w) A (pyNext (.ref z)) Q E s := by
  have hT0 : s.TypeIs (.ref z) "zip" := ⟨_, hz, rfl⟩
  unfold pyNext
  refine wpAny_bind (wpAny_attempt (wpAny_callSpecial?_slot (name := Str.ofString "__next__") hT0 F.slot_zip_next
    (wpAny_call_entry F.slot_zip_next hT0 F.entry_zip_next ?_ (F.args_zip_next_1 _))))
  show wpAny _ _ (field (.ref z) 2 >>= _) _ _ _
  refine wpAny_bind (wpAny_field hz rfl (x := .bool false) rfl ?_)
  show wpAny _ _ (field (.ref z) 3 >>= _) _ _ _
  refine wpAny_bind (wpAny_field hz rfl (x := .ref TI) rfl ?_)
  refine wpAny_bind (wpAny_seqItems hTI rfl ?_)
  show wpAny _ _ (Builtin.SmallTypes.ownedTupleIsFree (.ref z) >>= _) _ _ _
  refine wpAny_bind ?_
  unfold Builtin.SmallTypes.ownedTupleIsFree
  refine wpAny_bind (wpAny_field hz rfl (x := .none) rfl (wpAny_pure ?_))
  simp only [if_true]
  refine wpAny_bind (wpAny_rule (wpAny_bind (wpAny_field hz rfl (x := .ref TO) rfl ?_)))
  refine wpAny_bind (wpAny_setField_rec hz (by simp) fun h₁ hz₁ hs₁ => ?_)
  replace hz₁ : ZipRec h₁ z TI TO .ellipsis (.bool false) := hz₁
  refine wpAny_bind ?_
  simp only [List.zipIdx_cons, List.zipIdx_nil, List.forIn_cons, List.forIn_nil]
  -- the first of the two
  refine wpAny_bind (wpAny_bind (wpAny_onRaise ?_))
  show wpAny _ _ (Builtin.SmallTypes.nextOf (.ref i1) >>= _) _ _ _
  refine wpAny_bind (D1.item i _ _ _ hi (draws_keep D1 s1 hs₁ Z.z1) fun x h₂ tk₂ px st1₂ hs₂ => wpAny_pure ?_)
  have hTO₂ : IsPair h₂ TO a b := hs₂.extBut _ _ Z.TO1 (hs₁.extBut _ _ Z.TOz hTO)
  refine wpAny_bind (wpAny_seqItems hTO₂ rfl ?_)
  refine wpAny_bind (wpAny_updateSeq_pair hTO₂ fun h₃ hTO₃ hs₃ => ?_)
  replace hTO₃ : IsPair h₃ TO x b := hTO₃
  refine wpAny_bind (wpAny_letGo (wpAny_pure ?_))
  -- the second of the two
  refine wpAny_bind (wpAny_bind (wpAny_onRaise ?_))
  show wpAny _ _ (Builtin.SmallTypes.nextOf (.ref i2) >>= _) _ _ _
  refine wpAny_bind (D2.item i _ _ _ hi (draws_keep D2 (draws_keep D2 (draws_keep D2 s2 hs₁ Z.z2) hs₂ Z.i12) hs₃ Z.o2) fun y h₄ tk₄ py st2₄ hs₄ => wpAny_pure ?_)
  have hTO₄ : IsPair h₄ TO x b := hs₄.extBut _ _ Z.TO2 hTO₃
  refine wpAny_bind (wpAny_seqItems hTO₄ rfl ?_)
  refine wpAny_bind (wpAny_updateSeq_pair hTO₄ fun h₅ hTO₅ hs₅ => ?_)
  replace hTO₅ : IsPair h₅ TO x y := hTO₅
  refine wpAny_bind (wpAny_letGo (wpAny_pure (wpAny_pure ?_)))
  refine wpAny_bind (wpAny_seqItems hTO₅ rfl ?_)
  refine wpAny_bind (wpAny_newTuple ?_)
  have hsz : h₅.objs.size = s.heap.objs.size := by rw [hs₅.1, hs₄.1, hs₃.1, hs₂.1, hs₁.1]
  have hz₅ : ZipRec h₅ z TI TO .ellipsis (.bool false) := hs₅.extBut _ _ Z.TOz.symm (hs₄.extBut _ _ Z.i2z.symm (hs₃.extBut _ _ Z.TOz.symm (hs₂.extBut _ _ Z.i1z.symm hz₁)))
  have hzlt : z < h₅.objs.size := Heap.lt_size hz₅
  show wpAny _ _ (Builtin.SmallTypes.ownedTupleHandOut (.ref z) (.ref h₅.objs.size) >>= _) _ _ _
  refine wpAny_bind ?_
  unfold Builtin.SmallTypes.ownedTupleHandOut
  have hz₆ : ZipRec (h₅.push { cls := .type "tuple", data := .seq #[x, y] }) z TI TO .ellipsis (.bool false) := Heap.get?_push_of_some _ hz₅
  refine wpAny_bind (wpAny_setField_rec hz₆ (by simp) fun h₇ hz₇ hs₇ => ?_)
  replace hz₇ : ZipRec h₇ z TI TO (rawInt h₅.objs.size) (.bool false) := hz₇
  refine wpAny_setField_rec hz₇ (by simp) fun h₈ hz₈ hs₈ => ?_
  replace hz₈ : ZipRec h₈ z TI TO (rawInt h₅.objs.size) (.bool false) := hz₈
  have up : ∀ c o, c ≠ z → h₅.get? c = some o → h₈.get? c = some o := fun c o c1 e => hs₈.extBut _ _ c1 (hs₇.extBut _ _ c1 (Heap.get?_push_of_some _ e))
  refine wpAny_pure ⟨_, rfl, wpAny_pure ?_⟩
  have hnone : s.heap.get? h₅.objs.size = none := by
    cases hq : s.heap.get? h₅.objs.size with
    | none => rfl
    | some o => exact absurd (Heap.lt_size hq) (by rw [hsz]; exact Nat.lt_irrefl _)
  refine hQ x y _ h₈ tk₄ _ px py hnone hz₈ ?_ ?_ ?_ ?_ ?_
  · exact up _ _ Z.TIz (hs₅.extBut _ _ Z.TIO (hs₄.extBut _ _ Z.TI2 (hs₃.extBut _ _ Z.TIO (hs₂.extBut _ _ Z.TI1 (hs₁.extBut _ _ Z.TIz hTI)))))
  · exact D1.frame _ _ _ (draws_keep D1 (draws_keep D1 (draws_keep D1 st1₂ hs₃ Z.o1) hs₄ Z.i21) hs₅ Z.o1) fun b hb o e => up b o (fun q => Z.z1 (q ▸ hb)) e
  · exact D2.frame _ _ _ (draws_keep D2 st2₄ hs₅ Z.o2) fun b hb o e => up b o (fun q => Z.z2 (q ▸ hb)) e
  · exact hs₈.extBut _ _ (Nat.ne_of_gt hzlt) (hs₇.extBut _ _ (Nat.ne_of_gt hzlt) (Heap.get?_push_size _ rfl))
  · intro c o c1 c2 c3 c4 e
    exact up _ _ c1 (hs₅.extBut _ _ c2 (hs₄.extBut _ _ c4 (hs₃.extBut _ _ c2 (hs₂.extBut _ _ c3 (hs₁.extBut _ _ c1 e)))))

theorem zip_end {z TI TO i1 i2 T : Addr} {n : Nat} {fp1 fp2 : List Addr} {P1 P2 : Nat → Value → Prop} {St1 St2 : Nat → Heap → Prop} {f1 : Value} {Q : Option Value → Shared → Prop}
    {D1 : Draws prog w A.in1 i1 fp1 n P1 St1} {D2 : Draws prog w A.in1 i2 fp2 n P2 St2} (Z : Z2 prog w A z TI TO i1 i2 D1 D2)
    (hz : ZipRec s.heap z TI TO (rawInt T) f1) (hT : ∃ o, s.heap.get? T = some o) (hTI : IsPair s.heap TI (.ref i1) (.ref i2))
    (s1 : St1 n s.heap)
    (hQ : ∀ h' tk, (∀ c o, c ≠ z → c ≠ i1 → s.heap.get? c = some o → h'.get? c = some o) → Q none { s with heap := h', toks := tk }) :
    wpAny (model prog w) A (pyNext (.ref z)) Q E s := by
  have hT0 : s.TypeIs (.ref z) "zip" := ⟨_, hz, rfl⟩
  unfold pyNext
  refine wpAny_bind (wpAny_attempt (wpAny_callSpecial?_slot (name := Str.ofString "__next__") hT0 F.slot_zip_next
    (wpAny_call_entry F.slot_zip_next hT0 F.entry_zip_next ?_ (F.args_zip_next_1 _))))
  show wpAny _ _ (field (.ref z) 2 >>= _) _ _ _
  refine wpAny_bind (wpAny_field hz rfl (x := .bool false) rfl ?_)
  show wpAny _ _ (field (.ref z) 3 >>= _) _ _ _
  refine wpAny_bind (wpAny_field hz rfl (x := .ref TI) rfl ?_)
  refine wpAny_bind (wpAny_seqItems hTI rfl ?_)
  show wpAny _ _ (Builtin.SmallTypes.ownedTupleIsFree (.ref z) >>= _) _ _ _
  refine wpAny_bind ?_
  refine wpAny_mono (Q := fun b s' => b = false ∧ ∃ h₁ f1', s' = { s with heap := h₁ } ∧ ZipRec h₁ z TI TO (rawInt T) f1' ∧ Heap.SameBut z s.heap h₁) ?_ ?_ fun _ _ e => e
  · unfold Builtin.SmallTypes.ownedTupleIsFree
    refine wpAny_bind (wpAny_field hz rfl (x := rawInt T) rfl ?_)
    obtain ⟨oT, hoT⟩ := hT
    show wpAny _ _ (loadIfAlive (T : Int).toNat >>= _) _ _ _
    refine wpAny_bind (wpAny_alive ?_)
    rw [Int.toNat_natCast, hoT]
    show wpAny _ _ (field (.ref z) 1 >>= _) _ _ _
    refine wpAny_bind (wpAny_field hz rfl (x := f1) rfl ?_)
    dsimp only
    split
    · refine wpAny_bind (wpAny_setField_rec hz (by simp) fun h₁ hz₁ hs₁ => wpAny_pure ⟨rfl, h₁, .bool true, rfl, hz₁, hs₁⟩)
    · exact wpAny_pure ⟨rfl, s.heap, f1, rfl, hz, Heap.SameBut.refl _ _⟩
  · rintro b s' ⟨rfl, h₁, f1', rfl, hz₁, hs₁⟩
    simp only [Bool.false_eq_true, if_false]
    simp only [List.forIn_toArray, List.forIn_cons, List.forIn_nil]
    refine wpAny_bind (wpAny_bind (wpAny_bind (wpAny_holding ?_)))
    show wpAny _ _ (Builtin.SmallTypes.nextOf (.ref i1) >>= _) _ _ _
    refine wpAny_bind (D1.done _ _ _ (draws_keep D1 s1 hs₁ Z.z1) fun h₂ e hs₂ he => ?_)
    obtain ⟨oe, hoe, hce⟩ := he
    refine wpAny_bind (wpAny_isInstance (T := "StopIteration") (b := true) ⟨oe, hoe, hce⟩ isSubtype_stop ?_)
    exact wpAny_pure (hQ h₂ _ fun c o c1 c2 x => hs₂ _ _ c2 (hs₁.extBut _ _ c1 x))
end
end Mine
end
theorem Mine.rest_C1 {prog : PySem.Program} {w : PySem.World} {A : PySem.Around} {E : PySem.Value → PySem.Shared → Prop} {s : PySem.Shared} {env : PySem.Env} : PySem.wpAny (PySem.model prog w) A (PySem.execs [] env) (fun _ _ => True) E s := by
  w_top off
  first | (walk1; trivial) | exact PySem.wpAny_execs_nil trivial
section
open PySem PySem.W PyProof.Rows
set_option Elab.async false
set_option maxRecDepth 100000
set_option maxHeartbeats 8000000
set_option linter.unusedVariables false
namespace Mine
theorem zip_getattr_none : typeLookup (.type "zip") "__getattr__" = pure none := by rw [typeLookup_type, builtinLookup_eq_fast]; kernel_rfl
theorem zip_keys_none : typeLookup (.type "zip") "keys" = pure none := by rw [typeLookup_type, builtinLookup_eq_fast]; kernel_rfl
theorem zip_entry_getattribute : entryFor table "zip.__getattribute__" = some Builtin.«object.__getattribute__» :=
  entryFor_alias (id' := "object.__getattribute__") (by rw [fastTable_eq_tree]; kernel_rfl) (by decide +kernel) (by decide +kernel) (by rw [fastTable_eq_tree]; kernel_rfl)

theorem meets_zip_keys (z : Addr) (vs : Array Value) (u : Tok) :
    Meets (Builtin.«object.__getattribute__» ⟨[.ref z, .str "keys" u], []⟩) (fun A R s => s.heap.get? z = some { cls := .type "zip", dict := none, data := .fields vs, slots := #[] } ∧ raisesAttr (.ref z) "keys" A R s) :=
  Meets.of_wp fun prog w A R s hs => by
    obtain ⟨hp, g, d, tk, os⟩ := s
    obtain ⟨hx, hs⟩ := hs
    have hT : (⟨hp, g, d, tk, os⟩ : Shared).TypeIs (.ref z) "zip" := ⟨_, hx, rfl⟩
    have hm := zip_keys_none
    unfold Builtin.«object.__getattribute__»
    repeat (any_goals (first | assumption | wp_step))
    exact wpAny_raiseAttrError hs.1 hs.2 (by decide +kernel)

theorem zip_no_keys {prog : Program} {w : World} {A : Around} {E : Value → Shared → Prop} {s : Shared} {z : Addr} {vs : Array Value} {Q : Option Value → Shared → Prop}
    (hx : s.heap.get? z = some { cls := .type "zip", dict := none, data := .fields vs, slots := #[] }) (hA : A.handled = none)
    (h : ∀ h' tk, (∀ b o, s.heap.get? b = some o → h'.get? b = some o) → Q none { s with heap := h', toks := tk }) :
    wpAny (model prog w) A (getAttr? (.ref z) "keys") Q E s := by
  obtain ⟨hp, g, d, tk, os⟩ := s
  have hT : ∀ tk', (⟨hp, g, d, tk', os⟩ : Shared).TypeIs (.ref z) "zip" := fun _ => ⟨_, hx, rfl⟩
  have f1 := sub_AttributeError
  have f3 := F.slot_zip_getattribute.lookup
  have f4 := F.slot_zip_getattribute.bind (.ref z)
  have f5 := zip_getattr_none
  unfold getAttr? getAttrBy? getAttrBy
  repeat (any_goals (first | assumption | exact hT _ | ((with_reducible show wpAny _ _ (call (Value.builtin "zip.__getattribute__") _ _) _ _ _); refine call_meets F.slot_zip_getattribute (hT _) zip_entry_getattribute (F.args_zip_getattribute_2 _ _) (meets_zip_keys z vs _) ⟨hx, hA, fun h' tk' e hx' => ?_⟩) | wp_step))
  obtain ⟨t', u', he⟩ := hx'.there
  show wpAny _ _ (getattributeRaised _ _ _ _ _ _ _) _ _ _
  unfold getattributeRaised
  repeat (any_goals (first | assumption | wp_step))
  exact h _ _ hx'.keeps
end Mine
end
theorem Mine.rest_C2 {prog : PySem.Program} {w : PySem.World} {A : PySem.Around} {E : PySem.Value → PySem.Shared → Prop} {s : PySem.Shared} {env : PySem.Env} : PySem.wpAny (PySem.model prog w) A (PySem.execs [] env) (fun _ _ => True) E s := by
  w_top off
  first | (walk1; trivial) | exact PySem.wpAny_execs_nil trivial
section
open PySem PySem.W PyProof.Rows
set_option Elab.async false
set_option maxRecDepth 100000
set_option maxHeartbeats 8000000
set_option linter.unusedVariables false
namespace Mine
theorem entry_dul : entryFor table "dict.update.loop" = some Builtin.«dict.update.loop» := entryFor_of_tree (by kernel_rfl)
theorem plain_dul : plainId "dict.update.loop" = true := by decide +kernel

theorem stored_new {K : Type} [DecidableEq K] {kvs : List (K × Value)} {k : K} {v : Value} (h : k ∉ kvs.map (·.1)) : stored kvs k v = kvs ++ [(k, v)] := by
  unfold stored
  rw [if_neg]
  rw [List.any_eq_true]
  rintro ⟨kv, hkv, he⟩
  exact h (List.mem_map.mpr ⟨kv, hkv, of_decide_eq_true he⟩)

theorem not_mem_take {kvs : List (Str × Value)} (hn : (kvs.map (·.1)).Nodup) {i : Nat} {k : Str} {v : Value} (h : kvs[i]? = some (k, v)) : k ∉ (kvs.take i).map (·.1) := by
  intro hm
  rw [List.map_take] at hm
  obtain ⟨j, hj, e⟩ := List.getElem_of_mem hm
  have hlt : i < kvs.length := (List.getElem?_eq_some_iff.mp h).1
  rw [List.length_take, List.length_map] at hj
  rw [List.getElem_take] at e
  have e2 : (kvs.map (·.1))[i]'(by simpa using hlt) = k := by
    have := (List.getElem?_eq_some_iff.mp h).2
    simp [this]
  exact (List.pairwise_iff_getElem.mp hn) j i (by simp; omega) (by simpa using hlt) (by omega) (e.trans e2.symm)
section
variable {prog : Program} {w : World} {A : Around} {R : Result → Shared → Prop}

theorem dul_run {z TI TO i1 i2 d T : Addr} {fp1 fp2 : List Addr} {P1 P2 : Nat → Value → Prop} {St1 St2 : Nat → Heap → Prop} {kvs : List (Str × Value)}
    {D1 : Draws prog w A.in1.in1 i1 fp1 kvs.length P1 St1} {D2 : Draws prog w A.in1.in1 i2 fp2 kvs.length P2 St2} (Z : Z2 prog w A.in1 z TI TO i1 i2 D1 D2)
    (h1 : ∀ i x, P1 i x → ∃ t k v, kvs[i]? = some (k, v) ∧ x = .str k t) (h2 : ∀ i y, P2 i y → ∃ k, kvs[i]? = some (k, y))
    (hn : (kvs.map (·.1)).Nodup) (hsz : kvs.length ≤ sizeLine) (dz : d ≠ z) (d1 : d ≠ i1) (d2 : d ≠ i2) (dTI : TI ≠ d) (df1 : d ∉ fp1) (df2 : d ∉ fp2) (dT : T ≠ d) (Tz : T ≠ z) (T1 : T ≠ i1) (T2 : T ≠ i2) :
    ∀ (k i : Nat) (j : Int) (f1 : Value) (s : Shared), kvs.length - i = k → i ≤ kvs.length → ZipRec s.heap z TI TO (rawInt T) f1 → (∃ o, s.heap.get? T = some o) → IsPair s.heap TI (.ref i1) (.ref i2) →
      St1 i s.heap → St2 i s.heap → s.heap.DictOf (strKind prog w) d (kvs.take i) →
      (∀ h' tk, h'.DictOf (strKind prog w) d kvs → (∀ c o, c ≠ z → c ≠ i1 → c ≠ i2 → c ≠ d → s.heap.get? c = some o → h'.get? c = some o) → R (.ok (.ret .none)) { s with heap := h', toks := tk }) →
      codeAny (model prog w) A (.builtin "dict.update.loop" ⟨[.ref d, .ref z, rawInt j, .none], []⟩) R s := by
  intro k
  induction k with
  | zero =>
    intro i j f1 s hk hi hz hT hTI s1 s2 hd hR
    have hin : i = kvs.length := by omega
    subst hin
    refine codeAny_builtin entry_dul ?_
    rw [Around.under_plainId plain_dul _]
    show wpAny _ A.in1 (pyNext (.ref z) >>= _) _ _ s
    refine wpAny_bind (zip_end Z hz hT hTI s1 fun h' tk hk' => ?_)
    show wpAny _ A.in1 (Builtin.Dict.addKeywords d [] >>= _) _ _ _
    refine wpAny_bind (wpAny_pure (wpAny_pure ?_))
    rw [List.take_length] at hd
    refine hR h' tk ?_ fun c o c1 c2 _ _ e => hk' c o c1 c2 e
    obtain ⟨o, es, ep, ho, r⟩ := hd
    exact ⟨o, es, ep, hk' d o dz d1 ho, r⟩
  | succ k ih =>
    intro i j f1 s hk hi hz hT hTI s1 s2 hd hR
    have hlt : i < kvs.length := by omega
    refine codeAny_builtin entry_dul ?_
    rw [Around.under_plainId plain_dul _]
    show wpAny _ A.in1 (pyNext (.ref z) >>= _) _ _ s
    refine wpAny_bind (zip_again Z hz hT hTI s1 s2 hlt fun x y T' h₁ tk₁ f1' px py hT' hz₁ hTI₁ s1₁ s2₁ hp₁ hk₁ => ?_)
    obtain ⟨t, key, v, hkv, rfl⟩ := h1 i x px
    obtain ⟨key', hkv'⟩ := h2 i y py
    rw [hkv] at hkv'
    obtain ⟨rfl, rfl⟩ : key = key' ∧ v = y := by simpa using hkv'
    have hdT : T' ≠ d := fun e => by
      obtain ⟨o, es, ep, ho, _⟩ := hd
      rw [← e, hT'] at ho; cases ho
    have hd₁ : h₁.DictOf (strKind prog w) d (kvs.take i) := by
      obtain ⟨o, es, ep, ho, r⟩ := hd
      exact ⟨o, es, ep, hk₁ d o dz d1 d2 ho, r⟩
    refine wpAny_bind (wpAny_holding ?_)
    refine wpAny_bind (wpAny_tryCatch ?_)
    unfold Builtin.Dict.pairItems
    refine wpAny_bind (wpAny_typeOf (T := "tuple") ⟨_, hp₁, rfl⟩ ?_)
    rw [if_pos (by decide)]
    refine wpAny_bind (wpAny_seqItems hp₁ rfl (wpAny_pure ?_))
    refine wpAny_holding (wpAny_dictSet_pairs (strKind_is prog w key t) hd₁ (fun h₂ hd₂ hs₂ => ?_) (by have := List.length_take_le i kvs; omega))
    rw [stored_new (not_mem_take hn hkv)] at hd₂
    have e1 : kvs.take i ++ [(key, v)] = kvs.take (i + 1) := by rw [List.take_add_one, hkv]; rfl
    rw [e1] at hd₂
    refine wpAny_pure ⟨plainId_quiet plain_dul _, ?_⟩
    refine ih (i + 1) (j + 1) f1' _ (by omega) hlt (hs₂.extBut _ _ dz.symm hz₁) ?_ (hs₂.extBut _ _ dTI hTI₁) ?_ ?_ hd₂ fun h' tk hd' hk' => ?_
    · obtain ⟨o, ho⟩ := hT
      exact ⟨o, hs₂.extBut _ _ dT (hk₁ _ _ Tz T1 T2 ho)⟩
    · exact D1.frame _ _ _ s1₁ fun b hb o e => hs₂.extBut _ _ (fun q => df1 (q ▸ hb)) e
    · exact D2.frame _ _ _ s2₁ fun b hb o e => hs₂.extBut _ _ (fun q => df2 (q ▸ hb)) e
    · exact hR h' tk hd' fun c o c1 c2 c3 c4 e => hk' c o c1 c2 c3 c4 (hs₂.extBut _ _ c4 (hk₁ _ _ c1 c2 c3 e))
end
end Mine
end
theorem Mine.rest_C3 {prog : PySem.Program} {w : PySem.World} {A : PySem.Around} {E : PySem.Value → PySem.Shared → Prop} {s : PySem.Shared} {env : PySem.Env} : PySem.wpAny (PySem.model prog w) A (PySem.execs [] env) (fun _ _ => True) E s := by
  w_top off
  first | (walk1; trivial) | exact PySem.wpAny_execs_nil trivial
section
open PySem PySem.W PyProof.Rows
set_option Elab.async false
set_option maxRecDepth 100000
set_option maxHeartbeats 8000000
set_option linter.unusedVariables false
namespace Mine
theorem keepF {h₀ h h' : Heap} {L : Addr} {m : Str → Option Value} (F : Fr h₀ L h m) (k : ∀ c o, h.get? c = some o → h'.get? c = some o) : Fr h₀ L h' m :=
  ⟨F.ns.keeps k, fun b o e => k _ _ (F.keep b o e), F.above⟩
theorem keepN {h₀ h h' : Heap} {L : Addr} {news : List (Addr × Obj)} (N : News h₀ L h news) (k : ∀ c o, h.get? c = some o → h'.get? c = some o) : News h₀ L h' news :=
  fun p hp => ⟨k _ _ (N p hp).1, (N p hp).2⟩
/-- an object that was not there joins the ledger -/
theorem keepN_cons {h₀ h h' : Heap} {L d : Addr} {o : Obj} {m : Str → Option Value} {news : List (Addr × Obj)} (F : Fr h₀ L h m) (N : News h₀ L h news) (k : ∀ c o, h.get? c = some o → h'.get? c = some o)
    (hd : h.get? d = none) (ho : h'.get? d = some o) : News h₀ L h' ((d, o) :: news) := by
  intro p hp
  rcases List.mem_cons.mp hp with rfl | hp
  · refine ⟨ho, fun e => ?_, ?_⟩
    · obtain ⟨oL, _, _, hL, _⟩ := F.ns
      have e' : d = L := e
      rw [e', hL] at hd; cases hd
    · cases hq : h₀.get? d with
      | none => rfl
      | some o' => rw [F.keep _ _ hq] at hd; cases hd
  · exact keepN N k p hp

section
variable {prog : Program} {w : World} {A : Around} {E : Value → Shared → Prop} {s : Shared}

theorem nextOf_tuple_item {it t : Addr} {i : Nat} {items : Array Value} {x : Value} {Q : Value → Shared → Prop} (hit : s.heap.IsTupleIter it t i) (ht : s.heap.IsTuple t items) (hx : items[i]? = some x)
    (hQ : ∀ h', h'.IsTupleIter it t (i + 1) → Heap.SameBut it s.heap h' → Q x { s with heap := h' }) : wpAny (model prog w) A (Builtin.SmallTypes.nextOf (.ref it)) Q E s := by
  obtain ⟨o, ho, hc, hd⟩ := id hit
  obtain ⟨ol, hol, _, nl, hdl⟩ := ht
  unfold Builtin.SmallTypes.nextOf
  refine wpAny_bind (wpAny_callSpecial?_slot (name := Str.ofString "__next__") hit.typeIs F.slot_tuple_iterator_next
    (wpAny_call_entry F.slot_tuple_iterator_next hit.typeIs F.entry_tuple_iterator_next ?_ (F.args_tuple_iterator_next_1 _)))
  show wpAny _ _ (field (.ref it) 0 >>= _) _ _ s
  refine wpAny_bind (wpAny_field ho hd (x := .ref t) rfl ?_)
  rw [if_neg (show ¬ ((Value.ref t == Value.none) = true) from Bool.false_ne_true)]
  show wpAny _ _ (field (.ref it) 1 >>= _) _ _ s
  refine wpAny_bind (wpAny_field ho hd (x := .int i 0) rfl ?_)
  show wpAny _ _ (seqItems? (.ref t) >>= _) _ _ s
  refine wpAny_bind (wpAny_seqItems hol hdl ?_)
  simp only [Int.toNat_natCast, hx]
  refine wpAny_bind (wpAny_setField ho hd (by simp) (wpAny_pure ⟨x, rfl, wpAny_pure (hQ _ ⟨_, Heap.get?_update_self _ ho (Obj.isFreed_of_fields (Obj.data_mapFields hd _)), (Obj.cls_mapFields ..).trans hc, ?_⟩ (Heap.SameBut.update ..))⟩))
  rw [Obj.data_mapFields hd]; simp [rawInt]

theorem nextOf_tuple_end {it t : Addr} {i : Nat} {items : Array Value} {Q : Value → Shared → Prop} (hh : A.handled = none) (hit : s.heap.IsTupleIter it t i) (ht : s.heap.IsTuple t items) (hx : items[i]? = none)
    (hE : ∀ h' e, Heap.ExtBut it s.heap h' → (∃ o, h'.get? e = some o ∧ o.cls = .type "StopIteration") → E (.ref e) { s with heap := h' }) : wpAny (model prog w) A (Builtin.SmallTypes.nextOf (.ref it)) Q E s := by
  obtain ⟨o, ho, hc, hd⟩ := id hit
  obtain ⟨ol, hol, _, nl, hdl⟩ := ht
  unfold Builtin.SmallTypes.nextOf
  refine wpAny_bind (wpAny_callSpecial?_slot (name := Str.ofString "__next__") hit.typeIs F.slot_tuple_iterator_next
    (wpAny_call_entry F.slot_tuple_iterator_next hit.typeIs F.entry_tuple_iterator_next ?_ (F.args_tuple_iterator_next_1 _)))
  show wpAny _ _ (field (.ref it) 0 >>= _) _ _ s
  refine wpAny_bind (wpAny_field ho hd (x := .ref t) rfl ?_)
  rw [if_neg (show ¬ ((Value.ref t == Value.none) = true) from Bool.false_ne_true)]
  show wpAny _ _ (field (.ref it) 1 >>= _) _ _ s
  refine wpAny_bind (wpAny_field ho hd (x := .int i 0) rfl ?_)
  show wpAny _ _ (seqItems? (.ref t) >>= _) _ _ s
  refine wpAny_bind (wpAny_seqItems hol hdl ?_)
  simp only [Int.toNat_natCast, hx]
  refine wpAny_bind (wpAny_rule (wpAny_bind (wpAny_setField ho hd (by simp) ?_)))
  show wpAny _ _ (newExc (.type "StopIteration") [] >>= _) _ _ _
  refine wpAny_bind ?_
  simp only [newExc, newTuple]
  refine wpAny_bind (wpAny_newObj_type ?_ (by size_fits))
  refine wpAny_bind (m := firstArgMember _ _) (wpAny_of_eq (a := Value.none) (by first | rfl | (simp only [firstArgMember]; rfl)) ?_)
  refine wpAny_newObj_type ?_ (by size_fits)
  simp only [raiseNew]
  refine wpAny_bind (wpAny_handled ?_)
  first | rw [show A.in1.handled = none from hh] | rw [hh]
  exact wpAny_bind (wpAny_pure (wpAny_throw (hE _ _ (((Heap.SameBut.update ..).extBut.push _).push _) ⟨_, Heap.get?_push_size _ rfl, rfl⟩)))

theorem drawsTuple (hh : A.handled = none) (it t : Addr) (hne : t ≠ it) (items : Array Value) :
    Draws prog w A it [it, t] items.size (fun i v => items[i]? = some v) (fun i h => h.IsTupleIter it t i ∧ h.IsTuple t items) where
  live := fun _ _ st => let ⟨o, ho, _⟩ := st.1; ⟨o, ho⟩
  frame := fun _ _ _ st hk => ⟨let ⟨o, ho, r⟩ := st.1; ⟨o, hk it (by simp) o ho, r⟩, let ⟨o, ho, r⟩ := st.2; ⟨o, hk t (by simp) o ho, r⟩⟩
  item := fun i s Q E hi st hQ => nextOf_tuple_item st.1 st.2 (x := items[i]) (by simp [hi]) fun h' hit' hs' =>
    hQ _ h' s.toks (by simp [hi]) ⟨hit', st.2.extBut hs'.extBut hne⟩ hs'
  done := fun s Q E st hE => nextOf_tuple_end hh st.1 st.2 (by simp) hE

/-- the heap behind zip(x, t): n is the size ahead of it -/
structure ZipSt (hp h : Heap) (t : Addr) (x : Str) (u : Tok) : Prop where
  size : h.objs.size = hp.objs.size + 5
  keep : ∀ c o, hp.get? c = some o → h.get? c = some o
  rec_ : ZipRec h (hp.objs.size + 4) (hp.objs.size + 2) (hp.objs.size + 3) .none (.bool false)
  its : IsPair h (hp.objs.size + 2) (.ref hp.objs.size) (.ref (hp.objs.size + 1))
  own : IsPair h (hp.objs.size + 3) .none .none
  it1 : h.IsStrIter hp.objs.size "str_ascii_iterator" x u 0
  it2 : h.IsTupleIter (hp.objs.size + 1) t 0

noncomputable abbrev zsH1 (h : Heap) (x : Str) (u : Tok) : Heap := h.push { cls := .type "str_ascii_iterator", data := .fields #[.str x u, .int 0 0] }
noncomputable abbrev zsH2 (h : Heap) (x : Str) (u : Tok) (t : Addr) : Heap := (zsH1 h x u).push { cls := .type "tuple_iterator", data := .fields #[.ref t, .int 0 0] }
noncomputable abbrev zsH3 (h : Heap) (x : Str) (u : Tok) (t : Addr) : Heap := (zsH2 h x u t).push { cls := .type "tuple", data := .seq #[.ref h.objs.size, .ref (zsH1 h x u).objs.size] }
noncomputable abbrev zsH4 (h : Heap) (x : Str) (u : Tok) (t : Addr) : Heap := (zsH3 h x u t).push { cls := .type "tuple", data := .seq #[.none, .none] }
noncomputable abbrev zsH5 (h : Heap) (x : Str) (u : Tok) (t : Addr) : Heap := (zsH4 h x u t).push { cls := .type "zip", data := .fields #[.none, .bool false, .bool false, .ref (zsH2 h x u t).objs.size, .ref (zsH3 h x u t).objs.size] }

theorem meets_zip_st (x : Str) (u : Tok) (t : Addr) (items : Array Value) (ha : x.cps.all (· < 128) = true) :
    Meets (Builtin.«zip.__new__» ⟨[.type "zip", .str x u, .ref t], []⟩) (fun _ R s => s.heap.IsTuple t items ∧
      R (.ok (.ret (.ref (zsH4 s.heap x u t).objs.size))) { s with heap := zsH5 s.heap x u t }) :=
  .of_wp fun prog w A R s h => by
    obtain ⟨hp, g, d, tk, os⟩ := s
    obtain ⟨hl2, h⟩ := h
    have hsub := sub_zip
    have hL2 : Heap.IsTuple (Shared.heap ⟨zsH1 hp x u, g, d, tk, os⟩) t items := hl2.push _
    wp_walk using wpAny_pyIter_ascii ha, wpAny_pyIter_tuple hL2
    exact ⟨_, rfl, h⟩

theorem call_zip_st {x : Str} {u : Tok} {t : Addr} {items : Array Value} {Q : Value → Shared → Prop} (ha : x.cps.all (· < 128) = true) (ht : s.heap.IsTuple t items)
    (h : ∀ h', ZipSt s.heap h' t x u → Q (.ref (s.heap.objs.size + 4)) { s with heap := h' }) :
    wpAny (model prog w) A (call (.type "zip") [.str x u, .ref t]) Q E s := by
  refine callType_new F.called_zip (by decide) (F.typeCall_zip_2 _ _) (F.newCall_zip_2 _ _) (fun obj => F.args_object_init_3 obj _ _) F.entry_zip_new
    (meets_zip_st x u t items ha) ⟨ht, ?_⟩
  have z1 : (zsH1 s.heap x u).objs.size = s.heap.objs.size + 1 := Heap.size_push ..
  have z2 : (zsH2 s.heap x u t).objs.size = s.heap.objs.size + 2 := by rw [Heap.size_push, z1]
  have z3 : (zsH3 s.heap x u t).objs.size = s.heap.objs.size + 3 := by rw [Heap.size_push, z2]
  have z4 : (zsH4 s.heap x u t).objs.size = s.heap.objs.size + 4 := by rw [Heap.size_push, z3]
  have z5 : (zsH5 s.heap x u t).objs.size = s.heap.objs.size + 5 := by rw [Heap.size_push, z4]
  have g5 : (zsH5 s.heap x u t).get? (zsH4 s.heap x u t).objs.size = some _ := Heap.get?_push_size _ rfl
  have g4 : (zsH5 s.heap x u t).get? (zsH3 s.heap x u t).objs.size = some _ := Heap.get?_push_of_some _ (Heap.get?_push_size _ rfl)
  have g3 : (zsH5 s.heap x u t).get? (zsH2 s.heap x u t).objs.size = some _ := Heap.get?_push_of_some _ (Heap.get?_push_of_some _ (Heap.get?_push_size _ rfl))
  have g2 : (zsH5 s.heap x u t).get? (zsH1 s.heap x u).objs.size = some _ := Heap.get?_push_of_some _ (Heap.get?_push_of_some _ (Heap.get?_push_of_some _ (Heap.get?_push_size _ rfl)))
  have g1 : (zsH5 s.heap x u t).get? s.heap.objs.size = some _ := Heap.get?_push_of_some _ (Heap.get?_push_of_some _ (Heap.get?_push_of_some _ (Heap.get?_push_of_some _ (Heap.get?_push_size _ rfl))))
  show _ ∧ _
  rw [z2, z3, z4] at g5
  rw [z1, z2] at g3
  rw [z3] at g4
  rw [z1] at g2
  rw [z4]
  exact ⟨⟨_, g5, rfl⟩, h _ ⟨z5, fun c o e => Heap.get?_push_of_some _ (Heap.get?_push_of_some _ (Heap.get?_push_of_some _ (Heap.get?_push_of_some _ (Heap.get?_push_of_some _ e)))), g5, g3, g4, ⟨_, g1, rfl, rfl⟩, ⟨_, g2, rfl, rfl⟩⟩⟩
end
end Mine
end
theorem Mine.rest_C4 {prog : PySem.Program} {w : PySem.World} {A : PySem.Around} {E : PySem.Value → PySem.Shared → Prop} {s : PySem.Shared} {env : PySem.Env} : PySem.wpAny (PySem.model prog w) A (PySem.execs [] env) (fun _ _ => True) E s := by
  w_top off
  first | (walk1; trivial) | exact PySem.wpAny_execs_nil trivial
section
open PySem PySem.W PyProof.Rows
set_option Elab.async false
set_option maxRecDepth 100000
set_option maxHeartbeats 8000000
set_option linter.unusedVariables false
namespace Mine
section
variable {prog : Program} {w : World} {A : Around} {E : Value → Shared → Prop} {s : Shared}
theorem zip_has_type {h : Heap} {z TI TO : Addr} {f0 f1 : Value} {s : Shared} (hs : s.heap = h) (hz : ZipRec h z TI TO f0 f1) : s.TypeIs (.ref z) "zip" := by
  subst hs; exact ⟨_, hz, rfl⟩

theorem call_dict_zip {hp : Heap} {x : Str} {u : Tok} {t : Addr} {kvs : List (Str × Value)} {Q : Value → Shared → Prop} (hA : A.handled = none)
    (Z : ZipSt hp s.heap t x u) (ht : hp.IsTuple t (kvs.map (·.2)).toArray) (hk : kvs.map (·.1) = x.cps.toList.map fun c => ⟨#[c]⟩) (hn : (kvs.map (·.1)).Nodup) (hpos : 0 < kvs.length) (hsz : kvs.length ≤ sizeLine)
    (h : ∀ h' d tk, @LE.le Nat _ hp.objs.size d → hp.get? d = none → h'.DictOf (strKind prog w) d kvs → (∀ c o, hp.get? c = some o → h'.get? c = some o) → Q (.ref d) { s with heap := h', toks := tk }) :
    wpAny (model prog w) A (call (.type "dict") [.ref (hp.objs.size + 4)]) Q E s := by
  have hfree : ∀ k : Nat, hp.get? (hp.objs.size + k) = none := fun k => by
    cases hq : hp.get? (hp.objs.size + k) with
    | none => rfl
    | some o => exact absurd (Heap.lt_size hq) (Nat.not_lt.mpr (Nat.le_add_right _ _))
  have htlt : @LT.lt Nat _ t hp.objs.size := by obtain ⟨o, e, _⟩ := ht; exact Heap.lt_size e
  have hlen : kvs.length = x.cps.size := by have := congrArg List.length hk; simpa using this
  refine callType_codes (Q₁ := fun obj s₁ => obj = .ref s.heap.objs.size ∧ s₁ = { s with heap := s.heap.push { cls := .type "dict", data := .dict #[] } }) F.kt_called_dict (F.kt_typeCall_dict_1 _) F.entry_dict_init (kt_code_dict_new _ ⟨rfl, rfl⟩) ?_
  rintro obj s₁ ⟨rfl, rfl⟩
  have hnew : (s.heap.push { cls := .type "dict", data := .dict #[] }).DictOf (strKind prog w) s.heap.objs.size [] := Heap.DictOf.new s.heap
  have up : ∀ c o, s.heap.get? c = some o → (s.heap.push { cls := .type "dict", data := .dict #[] }).get? c = some o := fun c o e => Heap.get?_push_of_some _ e
  have hz₁ := up _ _ Z.rec_
  refine ⟨hnew.typeIs, F.args_dict_init_2 _ _, ?_⟩
  unfold Builtin.«dict.__init__»
  refine wpAny_bind ?_
  unfold Builtin.Dict.selfAndRest
  refine wpAny_bind (wpAny_notOrdered_dict hnew.typeIs ?_)
  show wpAny _ _ (pure (s.heap.objs.size, [Value.ref (hp.objs.size + 4)])) _ _ _
  refine wpAny_pure ?_
  show wpAny _ _ (Builtin.Dict.updateFrom "dict.__init__" s.heap.objs.size (.ref (hp.objs.size + 4)) [] .none) _ _ _
  unfold Builtin.Dict.updateFrom
  refine wpAny_bind (wpAny_typeOf (T := "zip") ⟨_, hz₁, rfl⟩ ?_)
  rw [if_pos (by decide)]
  refine wpAny_bind (zip_no_keys hz₁ hA fun h₂ tk₂ hk₂ => ?_)
  rw [if_pos (by rfl)]
  refine wpAny_bind (wpAny_rule ?_)
  have hz₂ := hk₂ _ _ hz₁
  have up₂ : ∀ c o, s.heap.get? c = some o → h₂.get? c = some o := fun c o e => hk₂ _ _ (up _ _ e)
  refine wpAny_bind (wpAny_pyIter_zip hz₂ ?_)
  refine wpAny_pure ⟨plainId_quiet plain_dul _, ?_⟩
  -- the first item
  have D1 := Draws.strAscii (prog := prog) (w := w) (A := A.in1.in1.in1) hA hp.objs.size x u
  have D2 := drawsTuple (prog := prog) (w := w) (A := A.in1.in1.in1) hA (hp.objs.size + 1) t (by k_ne) (kvs.map (·.2)).toArray
  rw [← hlen] at D1
  have hl2 : (kvs.map (·.2)).toArray.size = kvs.length := by simp
  rw [hl2] at D2
  have ZZ : Z2 prog w A.in1.in1 (hp.objs.size + 4) (hp.objs.size + 2) (hp.objs.size + 3) hp.objs.size (hp.objs.size + 1) D1 D2 := by
    constructor <;> (try simp only [List.mem_cons, List.not_mem_nil, or_false]) <;> (first | k_ne | (refine not_or.mpr ⟨?_, ?_⟩ <;> k_ne) | k_ne)
  have s1 : h₂.IsStrIter hp.objs.size "str_ascii_iterator" x u 0 := let ⟨o, e, r⟩ := Z.it1; ⟨o, up₂ _ _ e, r⟩
  have s2 : h₂.IsTupleIter (hp.objs.size + 1) t 0 ∧ h₂.IsTuple t (kvs.map (·.2)).toArray :=
    ⟨let ⟨o, e, r⟩ := Z.it2; ⟨o, up₂ _ _ e, r⟩, let ⟨o, e, r⟩ := ht; ⟨o, up₂ _ _ (Z.keep _ _ e), r⟩⟩
  have hh1 : ∀ (i : Nat) (y : Value), (∃ c v, x.cps[i]? = some c ∧ y = Value.str ⟨#[c]⟩ v) → ∃ t k v, kvs[i]? = some (k, v) ∧ y = .str k t := by
    rintro i y ⟨c, v, hc, rfl⟩
    have hi : i < kvs.length := by rw [hlen]; exact (Array.getElem?_eq_some_iff.mp hc).1
    refine ⟨v, kvs[i].1, kvs[i].2, by simp [hi], ?_⟩
    have e1 : (kvs.map (·.1))[i]? = some kvs[i].1 := by simp [hi]
    rw [hk] at e1
    have e2 : (x.cps.toList.map fun c => (⟨#[c]⟩ : Str))[i]? = some ⟨#[c]⟩ := by simp [hc]
    rw [e1] at e2
    rw [Option.some.inj e2]
  have hh2 : ∀ (i : Nat) (y : Value), (kvs.map (·.2)).toArray[i]? = some y → ∃ k, kvs[i]? = some (k, y) := by
    intro i y hy
    simp only [List.getElem?_toArray, List.getElem?_map] at hy
    cases hq : kvs[i]? with
    | none => rw [hq] at hy; cases hy
    | some p => rw [hq] at hy; exact ⟨p.1, by rw [← Option.some.inj hy]⟩
  refine codeAny_builtin entry_dul ?_
  rw [Around.under_plainId plain_dul _]
  show wpAny _ A.in1.in1 (pyNext (.ref (hp.objs.size + 4)) >>= _) _ _ _
  refine wpAny_bind (zip_first (A := A.in1.in1) ZZ hz₂ (up₂ _ _ Z.own) (up₂ _ _ Z.its) s1 s2 hpos fun a b T' h₃ tk₃ f1' pa pb hT' hz₃ hTI₃ s1₃ s2₃ hp₃ hk₃ => ?_)
  obtain ⟨t₁, key, v, hkv, rfl⟩ := hh1 0 a pa
  obtain ⟨key', hkv'⟩ := hh2 0 b pb
  rw [hkv] at hkv'
  obtain ⟨rfl, rfl⟩ : key = key' ∧ v = b := by simpa using hkv'
  have hsz5 : s.heap.objs.size = hp.objs.size + 5 := Z.size
  have hdlt : ∀ c o, hp.get? c = some o → @LT.lt Nat _ c hp.objs.size := fun c o e => Heap.lt_size e
  have hd₂ : h₂.DictOf (strKind prog w) s.heap.objs.size [] := let ⟨o, es, ep, ho, r⟩ := hnew; ⟨o, es, ep, hk₂ _ _ ho, r⟩
  have hdT : T' ≠ s.heap.objs.size := fun e => by
    obtain ⟨o, es, ep, ho, _⟩ := hd₂
    have hT'' : h₂.get? T' = none := hT'
    rw [← e, hT''] at ho; cases ho
  have hold : ∀ c o, h₂.get? c = some o → T' ≠ c := fun c o e q => by
    have hT'' : h₂.get? T' = none := hT'
    rw [q, e] at hT''; cases hT''
  have Tz := hold _ _ hz₂
  have T1 : T' ≠ hp.objs.size := by obtain ⟨o, e, _⟩ := s1; exact hold _ _ e
  have T2 : T' ≠ hp.objs.size + 1 := by obtain ⟨o, e, _⟩ := s2.1; exact hold _ _ e
  have hd₃ : h₃.DictOf (strKind prog w) s.heap.objs.size [] := let ⟨o, es, ep, ho, r⟩ := hd₂
    ⟨o, es, ep, hk₃ _ _ (by k_ne) (by k_ne) (by k_ne) (by k_ne) ho, r⟩
  refine wpAny_bind (wpAny_holding ?_)
  refine wpAny_bind (wpAny_tryCatch ?_)
  unfold Builtin.Dict.pairItems
  refine wpAny_bind (wpAny_typeOf (T := "tuple") ⟨_, hp₃, rfl⟩ ?_)
  rw [if_pos (by decide)]
  refine wpAny_bind (wpAny_seqItems hp₃ rfl (wpAny_pure ?_))
  refine wpAny_holding (wpAny_dictSet_pairs (strKind_is prog w key t₁) hd₃ (fun h₄ hd₄ hs₄ => ?_) (by decide))
  have e0 : stored ([] : List (Str × Value)) key v = kvs.take 1 := by
    cases kvs with
    | nil => cases hkv
    | cons p r => simp at hkv; subst hkv; rfl
  rw [e0] at hd₄
  refine wpAny_pure ⟨plainId_quiet plain_dul _, ?_⟩
  have hst : kvs.length - 1 = kvs.length - 1 := rfl
  refine dul_run (A := A.in1) ZZ hh1 hh2 hn hsz (by k_ne) (by k_ne) (by k_ne) (by k_ne) (by simp only [List.mem_cons, List.not_mem_nil, or_false]; first | k_ne | (refine not_or.mpr ⟨?_, ?_⟩ <;> k_ne))
    (by simp only [List.mem_cons, List.not_mem_nil, or_false]; first | k_ne | (refine not_or.mpr ⟨?_, ?_⟩ <;> k_ne)) hdT Tz T1 T2 _ 1 1 f1' _ rfl hpos (hs₄.extBut _ _ (by k_ne) hz₃) ⟨_, hs₄.extBut _ _ hdT hp₃⟩ (hs₄.extBut _ _ (by k_ne) hTI₃) ?_ ?_ hd₄ fun h' tk hd' hk' => ?_
  · exact D1.frame _ _ _ s1₃ fun b hb o e => hs₄.extBut _ _ (fun q => by subst q; simp only [List.mem_cons, List.not_mem_nil, or_false] at hb; first | (have hb1 : @Eq Nat _ _ := hb; omega) | (rcases hb with hb | hb <;> (have hb1 : @Eq Nat _ _ := hb; omega))) e
  · exact D2.frame _ _ _ s2₃ fun b hb o e => hs₄.extBut _ _ (fun q => by subst q; simp only [List.mem_cons, List.not_mem_nil, or_false] at hb; first | (have hb1 : @Eq Nat _ _ := hb; omega) | (rcases hb with hb | hb <;> (have hb1 : @Eq Nat _ _ := hb; omega))) e
  · refine ⟨rfl, h h' _ tk (hsz5 ▸ Nat.le_add_right hp.objs.size 5) (hsz5 ▸ hfree 5) hd' fun c o e => ?_⟩
    have hc := hdlt c o e
    exact hk' c o (by k_ne) (by k_ne) (by k_ne) (by k_ne) (hs₄.extBut _ _ (by k_ne) (hk₃ _ _ (by k_ne) (by k_ne) (by k_ne) (by k_ne) (up₂ _ _ (Z.keep _ _ e))))
end
end Mine
end
theorem Mine.rest_C5 {prog : PySem.Program} {w : PySem.World} {A : PySem.Around} {E : PySem.Value → PySem.Shared → Prop} {s : PySem.Shared} {env : PySem.Env} : PySem.wpAny (PySem.model prog w) A (PySem.execs [] env) (fun _ _ => True) E s := by
  w_top off
  first | (walk1; trivial) | exact PySem.wpAny_execs_nil trivial
section
open PySem PySem.W PyProof.Rows
set_option Elab.async false
set_option maxRecDepth 100000
set_option maxHeartbeats 8000000
set_option linter.unusedVariables false
namespace Mine
noncomputable def Stop' (p : Prop) : Prop := p
theorem stop_it' {p : Prop} (h : Stop' p) : p := h
/-- a contract of a def: what its caller learns is Ret -/
noncomputable abbrev Callee (w : World) (mean : ExcName → Option Value) (mg mb : Str → Option Value) (f : Addr) (news : List (Addr × Obj)) (pre : Prop) (vs : List Value)
    (Ret : Heap → Addr → (Str → Option Value) → Shared → (Value → Shared → Prop) → Prop) : Prop :=
  ∀ (dp un : Nat) (gd : Option (List Code)) (cn : Str) (cs : Scope) (a : Addr) (ccd : Value) (cl : List (Str × Addr)) (outer : List Env) (A₀ : Around) (base h₀ : Heap) (L : Addr) (m : Str → Option Value) (s : Shared) (Q E : Value → Shared → Prop),
    Below A₀ base outer h₀ → Fr h₀ L s.heap m → (hd.heap_39 w.params).In h₀ → News h₀ L s.heap news → Top hd.view_39 (looseW hd.view_39 []) mean mg mb h₀ → cs.kind = .function →
    pre → dp + 1 < recursionLimit → un + 8 < cLine → Ret h₀ L m s Q →
      wpAny (model Challenge.rw_wr0030_01.row.prog w) (ktrTop dp un gd cn cs L a ccd cl outer) (call (.ref f) vs) Q E s

noncomputable def sgn (n : Nat) : List Nat := if n = 4 then [9, 10, 13, 38, 60, 62] else [9, 10, 13, 38, 62, 60]
noncomputable def spS (n c : Nat) : Str := ⟨(escL n [c]).toArray⟩
noncomputable def spKV (n : Nat) (ts : Nat → Tok) : List (Str × Value) := (sgn n).map fun c => (⟨#[c]⟩, .str (spS n c) (ts c))
noncomputable def tokAt (a b c d e f : Tok) (n : Nat) : Tok := if n = 9 then a else if n = 10 then b else if n = 13 then c else if n = 38 then d else if n = 62 then e else f

theorem tuple_eq {a b : List Value} (h : a = b) {h₁ : Heap} {t : Addr} (x : h₁.IsTuple t a.toArray) : h₁.IsTuple t b.toArray := h ▸ x
theorem sp_vals {n : Nat} (hn : n ≠ 4) {x1 x2 x3 x4 x5 x6 : Str} {t1 t2 t3 t4 t5 t6 : Tok} (h1 : x1 = spS n 9) (h2 : x2 = spS n 10) (h3 : x3 = spS n 13) (h4 : x4 = spS n 38) (h5 : x5 = spS n 62) (h6 : x6 = spS n 60) :
    [Value.str x1 t1, .str x2 t2, .str x3 t3, .str x4 t4, .str x5 t5, .str x6 t6] = (spKV n (tokAt t1 t2 t3 t4 t5 t6)).map (·.2) := by
  subst h1 h2 h3 h4 h5 h6
  simp [spKV, sgn, hn, tokAt]
theorem sp_vals4 {x1 x2 x3 x4 x5 x6 : Str} {t1 t2 t3 t4 t5 t6 : Tok} (h1 : x1 = spS 4 9) (h2 : x2 = spS 4 10) (h3 : x3 = spS 4 13) (h4 : x4 = spS 4 38) (h5 : x5 = spS 4 60) (h6 : x6 = spS 4 62) :
    [Value.str x1 t1, .str x2 t2, .str x3 t3, .str x4 t4, .str x5 t5, .str x6 t6] = (spKV 4 (tokAt t1 t2 t3 t4 t6 t5)).map (·.2) := by
  subst h1 h2 h3 h4 h5 h6
  simp [spKV, sgn, tokAt]
theorem sp_keys (n : Nat) (ts : Nat → Tok) : (spKV n ts).map (·.1) = (sgn n).map fun c => (⟨#[c]⟩ : Str) := by simp [spKV]
theorem sp_nodup (n : Nat) (ts : Nat → Tok) : ((spKV n ts).map (·.1)).Nodup := by
  rw [sp_keys]
  unfold sgn
  split <;> decide
theorem sp_len (n : Nat) (ts : Nat → Tok) : (spKV n ts).length = 6 := by
  unfold spKV sgn
  split <;> rfl
theorem sp_at {n c : Nat} (ts : Nat → Tok) (h : c ∈ sgn n) : valueAt (spKV n ts) ⟨#[c]⟩ = some (.str (spS n c) (ts c)) := by
  unfold sgn at h
  unfold spKV sgn
  split at h <;> (rename_i hn; simp only [hn, if_true, if_false]; (simp only [List.mem_cons, List.not_mem_nil, or_false] at h); rcases h with rfl | rfl | rfl | rfl | rfl | rfl <;> rfl)

theorem one_lt {mean : ExcName → Option Value} {mg mb : Str → Option Value} {h₀ hp : Heap} {L d : Addr} {m : Str → Option Value} (T : Top hd.view_39 (looseW hd.view_39 []) mean mg mb h₀) (F : Fr h₀ L hp m) (h : @LE.le Nat _ hp.objs.size d) : @LT.lt Nat _ 1 d := by
  have h1 : @LT.lt Nat _ mainGlobals h₀.objs.size := T.g.lt
  have h2 : @LE.le Nat _ h₀.objs.size L := F.above
  have h3 : @LT.lt Nat _ L hp.objs.size := F.ns.lt
  have h4 : @LE.le Nat _ 1 mainGlobals := by decide
  exact Nat.lt_of_le_of_lt h4 (Nat.lt_of_lt_of_le h1 (Nat.le_trans h2 (Nat.le_trans (Nat.le_of_lt h3) h)))
noncomputable abbrev SpRet (w : World) (n : Nat) (news : List (Addr × Obj)) (h₀ : Heap) (L : Addr) (m : Str → Option Value) (s : Shared) (Q : Value → Shared → Prop) : Prop :=
  ∀ d o h' tk' ts, Fr h₀ L h' m → News h₀ L h' ((d, o) :: news) → o.IsDictOf (strKind Challenge.rw_wr0030_01.row.prog w) (spKV n ts) → @LT.lt Nat _ 1 d → Q (.ref d) { s with heap := h', toks := tk' }
noncomputable abbrev HandRet (n : Nat) (news : List (Addr × Obj)) (h₀ : Heap) (L : Addr) (m : Str → Option Value) (s : Shared) (Q : Value → Shared → Prop) : Prop :=
  ∀ h' tk', Fr h₀ L h' m → News h₀ L h' news → Q (.ref (handA n)) { s with heap := h', toks := tk' }

section
variable {M : Model} {A : Around} {E : Value → Shared → Prop} {s : Shared} {h₀ : Heap} {L : Addr} {m : Str → Option Value} {news : List (Addr × Obj)} {vs : List Value}
theorem newTup_o {Q : Value → Shared → Prop} (F : Fr h₀ L s.heap m) (N : News h₀ L s.heap news)
    (h : ∀ D o h', Fr h₀ L h' m → News h₀ L h' ((D, o) :: news) → o = ({ cls := .type "tuple", data := .seq vs.toArray } : Obj) → Q (.ref D) { s with heap := h' }) (hz : vs.length ≤ sizeLine) : wpAny M A (newTuple vs) Q E s :=
  kup_newTuple F N (fun D h' F' N' _ => h D _ h' F' N' rfl) hz
end
noncomputable abbrev tupO (vs : List Value) : Obj := { cls := .type "tuple", data := .seq vs.toArray }
local macro_rules | `(tactic| walk_at "newTuple") => `(tactic| (k_here; (rename Fr _ _ _ _ => Fv); (rename News _ _ _ _ => Nv); k_dflt (refine newTup_o Fv Nv ?_ (Nat.le_of_ble_eq_true rfl)); clear Fv Nv; intro D' o' h' F' N' o1))
local macro_rules | `(tactic| walk_at "subscriptTail Tuple Name ref int") => `(tactic| (k_here; k_dflt (refine stop_it' ?_)))
theorem keys_ne {n : Nat} (h : n ≠ 4) : (sgn n).map (fun c => (⟨#[c]⟩ : Str)) = ("\t\n\r&><" : Str).cps.toList.map fun c => (⟨#[c]⟩ : Str) := by
  unfold sgn
  rw [if_neg h]
  decide +kernel
theorem amp_all : ((List.range 5).all fun n => decide (("&amp;" : Str) = spS n 38)) = true := by decide +kernel
theorem amp_eq {n : Nat} (hn : n < 5) : ("&amp;" : Str) = spS n 38 := of_decide_eq_true (List.all_eq_true.mp amp_all n (List.mem_range.mpr hn))
theorem gt_all : ((List.range 4).all fun n => decide (("&gt;" : Str) = spS n 62)) = true := by decide +kernel
theorem gt_eq {n : Nat} (hn : n < 5) (h4 : n ≠ 4) : ("&gt;" : Str) = spS n 62 := of_decide_eq_true (List.all_eq_true.mp gt_all n (List.mem_range.mpr (Nat.lt_of_le_of_ne (Nat.le_of_lt_succ hn) h4)))
theorem lt_all : ((List.range 5).all fun n => decide (n = 4) || (decide (n = 2) || decide (("&lt;" : Str) = spS n 60))) = true := by decide +kernel
theorem lt_eq {n : Nat} (hn : n < 5) (h4 : n ≠ 4) (h2 : n ≠ 2) : ("&lt;" : Str) = spS n 60 := by
  have h := List.all_eq_true.mp lt_all n (List.mem_range.mpr hn)
  rw [decide_eq_false h4, decide_eq_false h2, Bool.false_or, Bool.false_or] at h
  exact of_decide_eq_true h
theorem lt2_eq : ("<" : Str) = spS 2 60 := by decide +kernel
/-- the ends of the tuple of tuples -/
theorem ends_at {n : Nat} (hn : n < 5) {h₀ h : Heap} {L : Addr} {t1 t2 t3 t4 t5 T0 : Addr} {o1 o2 o3 o4 o5 o0 : Obj} {news : List (Addr × Obj)} {a1 b1 c1 a2 b2 c2 a3 b3 c3 a4 b4 c4 a5 b5 c5 : Tok} (N : News h₀ L h ((T0, o0) :: (t5, o5) :: (t4, o4) :: (t3, o3) :: (t2, o2) :: (t1, o1) :: news))
    (e1 : o1 = tupO [.str "\t" a1, .str "\n" b1, .str "\r" c1]) (e2 : o2 = tupO [.str "&#09;" a2, .str "&#10;" b2, .str "&#13;" c2]) (e3 : o3 = tupO [.str "\t" a3, .str "\n" b3, .str "\r" c3])
    (e4 : o4 = tupO [.str "\t" a4, .str "\n" b4, .str "&#xD;" c4]) (e5 : o5 = tupO [.str "&#x9;" a5, .str "&#xA;" b5, .str "&#xD;" c5]) :
    ∃ te a b c, [Value.ref t1, .ref t2, .ref t3, .ref t4, .ref t5][n]? = some (.ref te) ∧ News h₀ L h ((te, tupO [.str (spS n 9) a, .str (spS n 10) b, .str (spS n 13) c]) :: news) := by
  subst e1 e2 e3 e4 e5
  have one : ∀ p : Addr × Obj, p ∈ _ → News h₀ L h (p :: news) := fun p hp q hq => N q (by
    rcases List.mem_cons.mp hq with rfl | hq
    · exact hp
    · exact List.mem_cons_of_mem _ (List.mem_cons_of_mem _ (List.mem_cons_of_mem _ (List.mem_cons_of_mem _ (List.mem_cons_of_mem _ (List.mem_cons_of_mem _ hq))))))
  refine lt5 (P := fun n => ∃ te a b c, [Value.ref t1, .ref t2, .ref t3, .ref t4, .ref t5][n]? = some (.ref te) ∧ News h₀ L h ((te, tupO [.str (spS n 9) a, .str (spS n 10) b, .str (spS n 13) c]) :: news)) ?_ ?_ ?_ ?_ ?_ hn
  · exact ⟨t1, a1, b1, c1, rfl, by rw [show spS 0 9 = ("\t" : Str) by decide +kernel, show spS 0 10 = ("\n" : Str) by decide +kernel, show spS 0 13 = ("\r" : Str) by decide +kernel]; exact one _ (List.mem_cons_of_mem _ (List.mem_cons_of_mem _ (List.mem_cons_of_mem _ (List.mem_cons_of_mem _ (List.mem_cons_of_mem _ (List.mem_cons_self ..))))))⟩
  · exact ⟨t2, a2, b2, c2, rfl, by rw [show spS 1 9 = ("&#09;" : Str) by decide +kernel, show spS 1 10 = ("&#10;" : Str) by decide +kernel, show spS 1 13 = ("&#13;" : Str) by decide +kernel]; exact one _ (List.mem_cons_of_mem _ (List.mem_cons_of_mem _ (List.mem_cons_of_mem _ (List.mem_cons_of_mem _ (List.mem_cons_self ..)))))⟩
  · exact ⟨t3, a3, b3, c3, rfl, by rw [show spS 2 9 = ("\t" : Str) by decide +kernel, show spS 2 10 = ("\n" : Str) by decide +kernel, show spS 2 13 = ("\r" : Str) by decide +kernel]; exact one _ (List.mem_cons_of_mem _ (List.mem_cons_of_mem _ (List.mem_cons_of_mem _ (List.mem_cons_self ..))))⟩
  · exact ⟨t4, a4, b4, c4, rfl, by rw [show spS 3 9 = ("\t" : Str) by decide +kernel, show spS 3 10 = ("\n" : Str) by decide +kernel, show spS 3 13 = ("&#xD;" : Str) by decide +kernel]; exact one _ (List.mem_cons_of_mem _ (List.mem_cons_of_mem _ (List.mem_cons_self ..)))⟩
  · exact ⟨t5, a5, b5, c5, rfl, by rw [show spS 4 9 = ("&#x9;" : Str) by decide +kernel, show spS 4 10 = ("&#xA;" : Str) by decide +kernel, show spS 4 13 = ("&#xD;" : Str) by decide +kernel]; exact one _ (List.mem_cons_of_mem _ (List.mem_cons_self ..))⟩
theorem seqIndex_nat {n k : Nat} (h : n < k) : seqIndex? (n : Int) k = some n := by
  have h0 : ¬ (n : Int) < 0 := Int.not_lt.mpr (Int.natCast_nonneg n)
  have h1 : decide ((0 : Int) ≤ n) = true := decide_eq_true (Int.natCast_nonneg n)
  have h2 : decide ((n : Int) < (k : Int)) = true := decide_eq_true (Int.ofNat_lt.mpr h)
  show (if (decide ((0 : Int) ≤ (if (n : Int) < 0 then (n : Int) + k else n)) && decide ((if (n : Int) < 0 then (n : Int) + k else n) < (k : Int))) = true then some (if (n : Int) < 0 then (n : Int) + k else (n : Int)).toNat else none) = some n
  rw [if_neg h0, h1, h2]; rfl
theorem spelled_g {w : World} {mean : ExcName → Option Value} {mg mb : Str → Option Value} {n : Nat} (hn : n < 5) : ∀ news (tx : Tok),
   Callee w mean mg mb 98 news True [.int n tx] (SpRet w n news) := by
  intro news tx
  dsimp only [Callee, SpRet]
  k_fill
  intros
  rename_i hret
  refine wpAny_call ?_
  k_dflt cell_enter
  rename Fr _ _ _ _ => F0
  replace F0 := fr_lk (l' := [((("number" : Str)), Value.int n tx)]) F0 (by rfl)
  refine gen_tk ?_
  intro tk0
  k_steps
  rename Fr _ _ _ _ => Fz
  rename News _ _ _ _ => Nz
  have hT := (Nz _ (List.mem_cons_self ..)).1
  obtain ⟨te, a, b, c, hx, Nw⟩ := ends_at hn Nz (by assumption) (by assumption) (by assumption) (by assumption) (by assumption)
  rename_i o1
  subst o1
  refine item_tupleL ⟨_, hT, rfl, _, rfl⟩ (by omega) (by omega) (seqIndex_nat hn) hx ?_
  clear Nz hT hx
  k_steps
  · obtain rfl : n = 4 := by omega
    rename @Eq Obj _ _ => oz
    subst oz
    k_steps
    rename Fr _ _ _ _ => Fz
    rename News _ _ _ _ => Nz
    refine call_zip_st (by decide +kernel) ⟨_, (Nz _ (List.Mem.head _)).1, rfl, _, rfl⟩ fun hz Zz => ?_
    have F' := keepF Fz Zz.keep
    have N' := keepN Nz Zz.keep
    k_steps
    refine call_dict_zip (kvs := spKV 4 (tokAt _ _ _ _ _ _)) (by rfl) Zz (tuple_eq (sp_vals4 rfl rfl rfl (amp_eq (by decide)) (by decide +kernel) (by decide +kernel)) ⟨_, (Nz _ (List.Mem.head _)).1, rfl, _, rfl⟩) (by rw [sp_keys]; decide +kernel) (sp_nodup _ _) (by rw [sp_len]; decide) (by rw [sp_len]; decide) fun hq d tkq hle hnone hd hkeep => ?_
    have hone := one_lt ‹Top _ _ _ _ _ _› Fz hle
    have hd' := hd
    obtain ⟨o, ho, hod⟩ := Heap.dictOf_iff.mp hd'
    have F' := keepF Fz hkeep
    have N' := keepN_cons Fz Nz hkeep hnone ho
    clear Zz Fz Nz
    k_steps
    rename Fr _ _ _ _ => Fz
    rename News _ _ _ _ => Nz
    exact hret _ _ _ _ _ Fz (cb_drop Nz (by kcj_all)) hod hone
  · obtain rfl : n = 2 := by omega
    rename @Eq Obj _ _ => oz
    subst oz
    k_steps
    rename Fr _ _ _ _ => Fz
    rename News _ _ _ _ => Nz
    refine call_zip_st (by decide +kernel) ⟨_, (Nz _ (List.Mem.head _)).1, rfl, _, rfl⟩ fun hz Zz => ?_
    have F' := keepF Fz Zz.keep
    have N' := keepN Nz Zz.keep
    k_steps
    refine call_dict_zip (kvs := spKV 2 (tokAt _ _ _ _ _ _)) (by rfl) Zz (tuple_eq (sp_vals (n := 2) (by decide) rfl rfl rfl (amp_eq (by decide)) (gt_eq (by decide) (by decide)) lt2_eq) ⟨_, (Nz _ (List.Mem.head _)).1, rfl, _, rfl⟩) (by rw [sp_keys]; decide +kernel) (sp_nodup _ _) (by rw [sp_len]; decide) (by rw [sp_len]; decide) fun hq d tkq hle hnone hd hkeep => ?_
    have hone := one_lt ‹Top _ _ _ _ _ _› Fz hle
    have hd' := hd
    obtain ⟨o, ho, hod⟩ := Heap.dictOf_iff.mp hd'
    have F' := keepF Fz hkeep
    have N' := keepN_cons Fz Nz hkeep hnone ho
    clear Zz Fz Nz
    k_steps
    rename Fr _ _ _ _ => Fz
    rename News _ _ _ _ => Nz
    exact hret _ _ _ _ _ Fz (cb_drop Nz (by kcj_all)) hod hone
  · have h4 : n ≠ 4 := by omega
    have h2 : n ≠ 2 := by omega
    rename @Eq Obj _ _ => oz
    subst oz
    k_steps
    rename Fr _ _ _ _ => Fz
    rename News _ _ _ _ => Nz
    refine call_zip_st (by decide +kernel) ⟨_, (Nz _ (List.Mem.head _)).1, rfl, _, rfl⟩ fun hz Zz => ?_
    have F' := keepF Fz Zz.keep
    have N' := keepN Nz Zz.keep
    k_steps
    refine call_dict_zip (kvs := spKV n (tokAt _ _ _ _ _ _)) (by rfl) Zz (tuple_eq (sp_vals h4 rfl rfl rfl (amp_eq hn) (gt_eq hn h4) (lt_eq hn h4 h2)) ⟨_, (Nz _ (List.Mem.head _)).1, rfl, _, rfl⟩) (by rw [sp_keys]; exact keys_ne h4) (sp_nodup _ _) (by rw [sp_len]; decide) (by rw [sp_len]; decide) fun hq d tkq hle hnone hd hkeep => ?_
    have hone := one_lt ‹Top _ _ _ _ _ _› Fz hle
    have hd' := hd
    obtain ⟨o, ho, hod⟩ := Heap.dictOf_iff.mp hd'
    have F' := keepF Fz hkeep
    have N' := keepN_cons Fz Nz hkeep hnone ho
    clear Zz Fz Nz
    k_steps
    rename Fr _ _ _ _ => Fz
    rename News _ _ _ _ => Nz
    exact hret _ _ _ _ _ Fz (cb_drop Nz (by kcj_all)) hod hone
end Mine
end
theorem Mine.rest_D1 {prog : PySem.Program} {w : PySem.World} {A : PySem.Around} {E : PySem.Value → PySem.Shared → Prop} {s : PySem.Shared} {env : PySem.Env} : PySem.wpAny (PySem.model prog w) A (PySem.execs [] env) (fun _ _ => True) E s := by
  w_top off
  first | (walk1; trivial) | exact PySem.wpAny_execs_nil trivial
section
open PySem PySem.W PyProof.Rows
set_option Elab.async false
set_option maxRecDepth 100000
set_option maxHeartbeats 8000000
set_option linter.unusedVariables false
namespace Mine
noncomputable def strcollF (x y : Str) : Int := b2i (decide (y.cps.toList < x.cps.toList)) - b2i (decide (x.cps.toList < y.cps.toList))
noncomputable abbrev IntRet (v : Int) (news : List (Addr × Obj)) (h₀ : Heap) (L : Addr) (m : Str → Option Value) (s : Shared) (Q : Value → Shared → Prop) : Prop :=
  ∀ t h' tk', Fr h₀ L h' m → News h₀ L h' news → Q (.int v t) { s with heap := h', toks := tk' }
noncomputable abbrev StrRet (v : Str) (news : List (Addr × Obj)) (h₀ : Heap) (L : Addr) (m : Str → Option Value) (s : Shared) (Q : Value → Shared → Prop) : Prop :=
  ∀ t h' tk', Fr h₀ L h' m → News h₀ L h' news → Q (.str v t) { s with heap := h', toks := tk' }
noncomputable abbrev BoolRet (v : Bool) (news : List (Addr × Obj)) (h₀ : Heap) (L : Addr) (m : Str → Option Value) (s : Shared) (Q : Value → Shared → Prop) : Prop :=
  ∀ h' tk', Fr h₀ L h' m → News h₀ L h' news → Q (.bool v) { s with heap := h', toks := tk' }

theorem strcoll_c {w : World} {mean : ExcName → Option Value} {mg mb : Str → Option Value} : ∀ news (x : Str) (tx : Tok) (y : Str) (ty : Tok),
   Callee w mean mg mb 21 news True [.str x tx, .str y ty] (IntRet (strcollF x y) news) := by
  dsimp only [Callee, IntRet]
  k_fill
  intros
  rename_i hret
  refine wpAny_call ?_
  k_dflt cell_enter
  k_steps
  exact hret _ _ _ (by k_asm) (by k_asm)

theorem hand_c0 {w : World} {mean : ExcName → Option Value} {mg mb : Str → Option Value} : ∀ news (tx : Tok),
   Callee w mean mg mb 91 news True [.int 0 tx] (HandRet 0 news) := by
  dsimp only [Callee, HandRet]
  k_fill
  intros
  rename_i hret
  refine wpAny_call ?_
  k_dflt cell_enter
  k_steps
  rename Fr _ _ _ _ => Fz
  rename News _ _ _ _ => Nz
  exact hret _ _ Fz (cb_drop Nz (by kcj_all))

theorem hand_c1 {w : World} {mean : ExcName → Option Value} {mg mb : Str → Option Value} : ∀ news (tx : Tok),
   Callee w mean mg mb 91 news True [.int 1 tx] (HandRet 1 news) := by
  dsimp only [Callee, HandRet]
  k_fill
  intros
  rename_i hret
  refine wpAny_call ?_
  k_dflt cell_enter
  k_steps
  rename Fr _ _ _ _ => Fz
  rename News _ _ _ _ => Nz
  exact hret _ _ Fz (cb_drop Nz (by kcj_all))

theorem hand_c2 {w : World} {mean : ExcName → Option Value} {mg mb : Str → Option Value} : ∀ news (tx : Tok),
   Callee w mean mg mb 91 news True [.int 2 tx] (HandRet 2 news) := by
  dsimp only [Callee, HandRet]
  k_fill
  intros
  rename_i hret
  refine wpAny_call ?_
  k_dflt cell_enter
  k_steps
  rename Fr _ _ _ _ => Fz
  rename News _ _ _ _ => Nz
  exact hret _ _ Fz (cb_drop Nz (by kcj_all))

theorem hand_c3 {w : World} {mean : ExcName → Option Value} {mg mb : Str → Option Value} : ∀ news (tx : Tok),
   Callee w mean mg mb 91 news True [.int 3 tx] (HandRet 3 news) := by
  dsimp only [Callee, HandRet]
  k_fill
  intros
  rename_i hret
  refine wpAny_call ?_
  k_dflt cell_enter
  k_steps
  rename Fr _ _ _ _ => Fz
  rename News _ _ _ _ => Nz
  exact hret _ _ Fz (cb_drop Nz (by kcj_all))

theorem hand_c4 {w : World} {mean : ExcName → Option Value} {mg mb : Str → Option Value} : ∀ news (tx : Tok),
   Callee w mean mg mb 91 news True [.int 4 tx] (HandRet 4 news) := by
  dsimp only [Callee, HandRet]
  k_fill
  intros
  rename_i hret
  refine wpAny_call ?_
  k_dflt cell_enter
  k_steps
  rename Fr _ _ _ _ => Fz
  rename News _ _ _ _ => Nz
  exact hret _ _ Fz (cb_drop Nz (by kcj_all))

theorem esc_k {w : World} {mean : ExcName → Option Value} {mg mb : Str → Option Value} {n : Nat} (hn : n < 5) : ∀ news (x : Str) (tx : Tok),
   Callee w mean mg mb (handA n) news (x.length ≤ 30) [.str x tx] (StrRet (escS n x) news) :=
  lt5 (P := fun n => ∀ news (x : Str) (tx : Tok), Callee w mean mg mb (handA n) news (x.length ≤ 30) [.str x tx] (StrRet (escS n x) news)) esc_c0 esc_c1 esc_c2 esc_c3 esc_c4 hn
theorem hand_k {w : World} {mean : ExcName → Option Value} {mg mb : Str → Option Value} {n : Nat} (hn : n < 5) : ∀ news (tx : Tok),
   Callee w mean mg mb 91 news True [.int n tx] (HandRet n news) :=
  lt5 (P := fun n => ∀ news (tx : Tok), Callee w mean mg mb 91 news True [.int n tx] (HandRet n news)) hand_c0 hand_c1 hand_c2 hand_c3 hand_c4 hn
theorem spelled_k {w : World} {mean : ExcName → Option Value} {mg mb : Str → Option Value} {n : Nat} (hn : n < 5) : ∀ news (tx : Tok),
   Callee w mean mg mb 98 news True [.int n tx] (SpRet w n news) := spelled_g hn
end Mine
end
theorem Mine.rest_D2 {prog : PySem.Program} {w : PySem.World} {A : PySem.Around} {E : PySem.Value → PySem.Shared → Prop} {s : PySem.Shared} {env : PySem.Env} : PySem.wpAny (PySem.model prog w) A (PySem.execs [] env) (fun _ _ => True) E s := by
  w_top off
  first | (walk1; trivial) | exact PySem.wpAny_execs_nil trivial
section
open PySem PySem.W PyProof.Rows
set_option Elab.async false
set_option maxRecDepth 100000
set_option maxHeartbeats 8000000
set_option linter.unusedVariables false
namespace Mine
section
variable {prog : Program} {w : World} {A : Around} {E : Value → Shared → Prop} {s : Shared} {env : Env} {h₀ : Heap} {x : Str} {body : List Stmt} {Q : Flow → Shared → Prop}

/-- a loop over what is walked; the ledger stays, the names are told by J -/
theorem loop_walk {I : Addr} {fp wr : List Addr} {n : Nat} {P : Nat → Value → Prop} {St : Nat → Heap → Prop} {m₀ : Str → Option Value} {news : List (Addr × Obj)}
    (W : Walks prog w A I fp wr n P St) (J : Nat → (Str → Option Value) → Prop) (hL : env.locals ∉ fp) (hw : ∀ b ∈ wr, h₀.get? b = none) (hnw : ∀ p ∈ news, p.1 ∉ wr)
    (st : St 0 s.heap) (F : Fr h₀ env.locals s.heap m₀) (N : News h₀ env.locals s.heap news) (hj : J 0 m₀)
    (turn : ∀ i v m₁ h tk own, i < n → P i v → J i m₁ → Fr h₀ env.locals h (fun y => if y = x then some v else m₁ y) → News h₀ env.locals h (own ++ news) →
      wpAny (model prog w) A (execs body env) (InvPost h₀ env.locals (J (i + 1)) (own ++ news) { s with heap := h, toks := tk } Q) E { s with heap := h, toks := tk })
    (done : ∀ m₁ h tk, J n m₁ → Fr h₀ env.locals h m₁ → News h₀ env.locals h news → Q .next { s with heap := h, toks := tk }) :
    LoopAtV prog w A h₀ env x body Q E (.ref I) s := by
  refine ⟨I, fp, wr, n, P, St, m₀, news, fun i m₁ news₁ => news₁ = news ∧ J i m₁, rfl, W, hL, hw, hnw, st, F, N, ⟨rfl, hj⟩, ?_, ?_⟩
  · rintro i v m₁ news₁ s₁ own ⟨hh', tk', rfl⟩ hin hP ⟨rfl, hJ⟩ hoff _ _ _ _ F₁ N₁
    refine wpAny_mono (turn i v m₁ hh' tk' own hin hP hJ F₁ N₁) (fun f s₂ p => ?_) fun _ _ e => e
    have fin : InvEnd h₀ env.locals (J (i + 1)) (own ++ news₁) { s with heap := hh', toks := tk' } s₂ → LoopStepU h₀ env.locals wr own (fun m₂ news₂ => news₂ = news₁ ∧ J (i + 1) m₂) { s with heap := hh', toks := tk' } .next s₂ := by
      rintro ⟨h', tk, m', news', e, F', N', hn, hm⟩
      exact ⟨rfl, h', tk, m', news₁, e, F', fun p hp => N' p (hn p hp), hoff, rfl, hm⟩
    cases f with
    | ret v => exact .ret p
    | brk => exact .brk p
    | next => exact .next (fin p)
    | cont => exact .cont (fin p)
  · rintro h' tk m' news' F' N' _ ⟨rfl, hJ⟩
    exact done m' h' tk hJ F' N'

/-- a loop over a list of the call's own -/
theorem iter_made {l : Addr} {vs : List Value} {o : Obj} {m₀ : Str → Option Value} {news : List (Addr × Obj)} (J : Nat → (Str → Option Value) → Prop)
    (hh : A.handled = none) (hm : (l, o) ∈ news) (ho : o.cls = .type "list" ∧ ∃ n, o.data = .seq vs.toArray n) (F : Fr h₀ env.locals s.heap m₀) (N : News h₀ env.locals s.heap news) (hj : J 0 m₀)
    (turn : ∀ i v m₁ h tk own, vs[i]? = some v → J i m₁ → Fr h₀ env.locals h (fun y => if y = x then some v else m₁ y) → News h₀ env.locals h (own ++ news) →
      wpAny (model prog w) A (execs body env) (InvPost h₀ env.locals (J (i + 1)) (own ++ news) { s with heap := h, toks := tk } Q) E { s with heap := h, toks := tk })
    (done : ∀ m₁ h tk, J vs.length m₁ → Fr h₀ env.locals h m₁ → News h₀ env.locals h news → Q .next { s with heap := h, toks := tk }) :
    wpAny (model prog w) A (pyIter (.ref l)) (fun it s₂ => LoopAtV prog w A h₀ env x body Q E it s₂) E s := by
  have hl : s.heap.IsList l vs.toArray := ⟨o, (N _ hm).1, ho⟩
  have hlt : l < s.heap.objs.size := Heap.lt_size (N _ hm).1
  refine wpAny_pyIter_list hl ?_
  have W := Walks.list (prog := prog) (w := w) hh s.heap.objs.size l (Nat.ne_of_lt hlt) vs.toArray
  have hlen : vs.toArray.size = vs.length := by simp
  rw [hlen] at W
  refine loop_walk (s := { s with heap := s.heap.push { cls := .type "list_iterator", data := .fields #[.ref l, .int 0 0] } }) W J ?_ ?_ ?_ ⟨⟨_, Heap.get?_push_size _ rfl, rfl, rfl⟩, hl.at fun o e => Heap.get?_push_of_some _ e⟩ (F.push _) (fun p hp => ⟨Heap.get?_push_of_some _ (N p hp).1, (N p hp).2⟩) hj ?_ done
  · intro hm'
    rcases List.mem_cons.mp hm' with e | hm'
    · exact absurd F.ns.lt (e ▸ Nat.lt_irrefl _)
    · exact (N _ hm).2.1 (List.mem_singleton.mp hm').symm
  · intro b hb
    rw [List.mem_singleton.mp hb]
    exact next_is_new F
  · intro p hp hI
    exact absurd (Heap.lt_size (N p hp).1) ((List.mem_singleton.mp hI) ▸ Nat.lt_irrefl _)
  · intro i v m₁ h tk own _ hP
    exact turn i v m₁ h tk own (by simpa using hP)
end
end Mine
end
theorem Mine.rest_L0 {prog : PySem.Program} {w : PySem.World} {A : PySem.Around} {E : PySem.Value → PySem.Shared → Prop} {s : PySem.Shared} {env : PySem.Env} : PySem.wpAny (PySem.model prog w) A (PySem.execs [] env) (fun _ _ => True) E s := by
  w_top off
  first | (walk1; trivial) | exact PySem.wpAny_execs_nil trivial
section
open PySem PySem.W PyProof.Rows
set_option Elab.async false
set_option maxRecDepth 100000
set_option maxHeartbeats 8000000
set_option linter.unusedVariables false
namespace Mine

noncomputable def find4 (x y : Str) (i j : Int) : Int :=
  match Builtin.Str.occurrences x y (fromIndex x.length i) (min (fromIndex x.length j) x.length) 1 with | k :: _ => (k : Int) | [] => -1

section
variable {prog : Program} {w : World} {A : Around} {E : Value → Shared → Prop} {s : Shared} {h₀ : Heap} {L : Addr} {m : Str → Option Value} {news : List (Addr × Obj)} {x y : Str} {t u : Tok}
theorem gives_find4 (i j : Int) (t u v v' : Tok) : Gives (Builtin.«str.find» ⟨[.str x t, .str y u, .int i v, .int j v'], []⟩) (.int (find4 x y i j)) := by
  show Gives (match Builtin.Str.occurrences x y (fromIndex x.length i) (min (fromIndex x.length j) x.length) 1 with | k :: _ => retInt k | [] => (do rule "str.find.not-found"; retInt (-1))) _
  unfold find4
  cases Builtin.Str.occurrences x y (fromIndex x.length i) (min (fromIndex x.length j) x.length) 1 with
  | nil => exact .rule (.of_eq rfl)
  | cons k _ => exact .of_eq rfl
theorem call_find4 {i j : Int} {v v' : Tok} {Q : Value → Shared → Prop} (hq : Q (.int (find4 x y i j) s.toks) { s with toks := s.toks + 1 }) :
    wpAny (model prog w) A (call (.builtin "str.find") [.str x t, .str y u, .int i v, .int j v']) Q E s :=
  call_gives F.slot_str_find (typeIs_str _ _ _) F.entry_str_find (F.args_str_find_4 _ _ _ _) (gives_find4 i j t u v v') hq

theorem truthy_pos {Q : Bool → Shared → Prop} (h0 : 0 < x.length) (h1 : x.length ≤ 2000) (h : ∀ k, Q true { s with toks := k }) : wpAny (model prog w) A (truthy (.str x t)) Q E s := by
  refine PySem.P.truthy_str (by omega) ?_
  have e : ((x.length : Int) != 0) = true := by simp; omega
  rw [e]; exact h _
theorem truthy_zero {Q : Bool → Shared → Prop} (h0 : x.length = 0) (h : ∀ k, Q false { s with toks := k }) : wpAny (model prog w) A (truthy (.str x t)) Q E s := by
  refine PySem.P.truthy_str (by omega) ?_
  have e : ((x.length : Int) != 0) = false := by simp [h0]
  rw [e]; exact h _

theorem split_parts {parts : List Str} {Q : Value → Shared → Prop} (F : Fr h₀ L s.heap m) (N : News h₀ L s.heap news) (hsp : Txt.split x y = parts) (hx : x.length ≤ 2000) (hy : (y.length == 0) = false)
    (h : ∀ D l h' k, l.map (·.1) = parts → Fr h₀ L h' m → News h₀ L h' ((D, { cls := .type "list", data := .seq (strValues l).toArray }) :: news) → (∀ p ∈ news, p.1 < D) → Q (.ref D) { s with heap := h', toks := k }) :
    wpAny (model prog w) A (call (.builtin "str.split") [.str x t, .str y u]) Q E s :=
  splitN1 F N hy (fun l h' k e F' N' => h _ l h' k (e.trans hsp) F' N' fun p hp => Heap.lt_size (N p hp).1) (by rw [sizeLine_eq]; omega)

end
/-- the text of the marks -/
noncomputable def dots : Str := ⟨#[46, 46, 46]⟩

noncomputable def ellLoop (y : Str) (ep : Int) : List Str → Int → Bool
  | [], _ => true
  | w :: r, sp => if find4 y w sp ep < 0 then false else ellLoop y ep r (find4 y w sp ep + w.length)


/-- what holds ahead of turn i of the loop over the pieces -/
noncomputable def EJ (y : Str) (ep : Int) (l : List (Str × Tok)) (sp0 : Int) (m₀ : Str → Option Value) (i : Nat) (m₁ : Str → Option Value) : Prop :=
  ∃ sp t u, m₁ = (fun z : Str => if z = "startpos" then some (.int sp t) else if z = "w" then u else m₀ z) ∧ ellLoop y ep ((l.drop i).map (·.1)) sp = ellLoop y ep (l.map (·.1)) sp0
section
variable {prog : Program} {w : World} {A : Around} {E : Value → Shared → Prop} {s : Shared} {env : Env} {h₀ : Heap} {body : List Stmt} {Q : Flow → Shared → Prop}
theorem ell_for_l {la : Addr} {o : Obj} {l : List (Str × Tok)} {n : Nat} {m₀ : Str → Option Value} {news : List (Addr × Obj)} {y : Str} {ty te t0 : Tok} {ep sp0 : Int} (hh : A.handled = none) (F : Fr h₀ env.locals s.heap m₀) (N : News h₀ env.locals s.heap news)
    (hm : (la, o) ∈ news) (ho1 : o.cls = .type "list") (ho2 : o.data = .seq (strValues l).toArray n)
    (hgot : m₀ "got" = some (.str y ty)) (hep : m₀ "endpos" = some (.int ep te)) (hsp : m₀ "startpos" = some (.int sp0 t0))
    (turn : ∀ i a t sp tsp u h tk own, ellLoop y ep (a :: (l.drop (i + 1)).map (·.1)) sp = ellLoop y ep (l.map (·.1)) sp0 →
      Fr h₀ env.locals h (fun z : Str => if z = "w" then some (.str a t) else if z = "startpos" then some (.int sp tsp) else if z = "w" then u else m₀ z) → News h₀ env.locals h (own ++ news) →
      (a, t) ∈ l → wpAny (model prog w) A (execs body env) (InvPost h₀ env.locals (EJ y ep l sp0 m₀ (i + 1)) (own ++ news) { s with heap := h, toks := tk } Q) E { s with heap := h, toks := tk })
    (done : ∀ m₁ h tk, ellLoop y ep (l.map (·.1)) sp0 = true → Fr h₀ env.locals h m₁ → News h₀ env.locals h news → Q .next { s with heap := h, toks := tk }) :
    wpAny (model prog w) A (pyIter (.ref la)) (fun it s₂ => LoopAtV prog w A h₀ env "w" body Q E it s₂) E s := by
  refine iter_made (vs := strValues l) (EJ y ep l sp0 m₀) hh hm ⟨ho1, n, ho2⟩ F N ⟨sp0, t0, m₀ "w", ?_, rfl⟩ ?_ ?_
  · funext z
    by_cases h1 : z = "startpos"
    · subst h1; simp [hsp]
    · by_cases h2 : z = "w"
      · subst h2; rw [if_neg h1, if_pos rfl]
      · simp [h1, h2]
  · rintro i v m₁ h tk own hv ⟨sp, tsp, u, rfl, he⟩ F₁ N₁
    have hi : i < l.length := by
      have := (List.getElem?_eq_some_iff.mp hv).1
      simpa [strValues] using this
    have hv' : v = .str l[i].1 l[i].2 := by
      have e1 : (strValues l)[i]? = some (.str l[i].1 l[i].2) := by
        unfold strValues
        rw [List.getElem?_map, List.getElem?_eq_getElem hi]; rfl
      rw [e1] at hv; exact (Option.some.inj hv).symm
    subst hv'
    refine turn i l[i].1 l[i].2 sp tsp u h tk own ?_ F₁ N₁ (List.getElem_mem hi)
    rw [← he, List.drop_eq_getElem_cons hi, List.map_cons]
  · rintro m₁ h tk ⟨sp, tsp, u, rfl, he⟩ F₁ N₁
    refine done _ h tk ?_ F₁ N₁
    rw [← he]
    have e1 : (strValues l).length = l.length := by unfold strValues; exact List.length_map ..
    rw [e1, List.drop_length]; rfl
end
noncomputable def ellEnd (y : Str) (ws : List Str) (sp ep : Int) : Bool := if ep < sp then false else ellLoop y ep ws sp
noncomputable def ellTail (y : Str) (ws : List Str) (sp : Int) : Bool :=
  match ws.getLast? with
  | none => false
  | some w => if w.length = 0 then ellEnd y ws sp y.length else if Txt.endswith y w then ellEnd y ws.dropLast sp (y.length - w.length) else false
/-- what _ellipsis_match answers where want falls into ws -/
noncomputable def ellF (ws : List Str) (y : Str) : Bool :=
  match ws with
  | [] => false
  | w :: r => if w.length = 0 then ellTail y ws 0 else if Txt.startswith y w then ellTail y r w.length else false

theorem retB {h₀ h' : Heap} {L : Addr} {m : Str → Option Value} {news : List (Addr × Obj)} {s : Shared} {Q : Value → Shared → Prop} {x y : Bool} {tk' : Nat}
    (hret : ∀ h' tk', Fr h₀ L h' m → News h₀ L h' news → Q (.bool x) { s with heap := h', toks := tk' }) (e : y = x) (F : Fr h₀ L h' m) (N : News h₀ L h' news) : Q (.bool y) { s with heap := h', toks := tk' } := by
  subst e
  exact hret h' tk' F N
theorem EJ_next {y : Str} {ep : Int} {l : List (Str × Tok)} {sp0 sp : Int} {m₀ : Str → Option Value} {i : Nat} {a : Str} {t tsp' : Tok} {m' : Str → Option Value}
    (he : ellLoop y ep (a :: (l.drop (i + 1)).map (·.1)) sp = ellLoop y ep (l.map (·.1)) sp0) (hf : ¬ find4 y a sp ep < 0)
    (hm : m' = fun z : Str => if z = "startpos" then some (.int (find4 y a sp ep + a.length) tsp') else if z = "w" then some (.str a t) else m₀ z) : EJ y ep l sp0 m₀ (i + 1) m' := by
  refine ⟨_, tsp', some (.str a t), hm, ?_⟩
  rw [← he]
  conv => rhs; unfold ellLoop
  rw [if_neg hf]
theorem ell_out {y : Str} {ep sp sp0 : Int} {a : Str} {r l : List Str} (he : ellLoop y ep (a :: r) sp = ellLoop y ep l sp0) (hf : find4 y a sp ep < 0) : ellLoop y ep l sp0 = false := by
  rw [← he]; unfold ellLoop; rw [if_pos hf]

theorem ff' {b : Bool} {P : Prop} (h2 : b = false) (h1 : b = true) : P := by cases h1.symm.trans h2
theorem ellF_2 {y p q : Str} (hp : 0 < p.length) (hq : 0 < q.length) : ellF [p, q] y = if Txt.startswith y p = true then (if Txt.endswith y q = true then ellEnd y [] p.length (y.length - q.length) else false) else false := by
  simp [ellF, ellTail, Nat.ne_of_gt hp, Nat.ne_of_gt hq]
theorem ellF_m {y p : Str} : ellF [⟨#[]⟩, p, ⟨#[]⟩] y = ellEnd y [⟨#[]⟩, p, ⟨#[]⟩] 0 y.length := by
  simp [ellF, ellTail, Str.length]
theorem ellF_h {y p : Str} (hp : 0 < p.length) : ellF [p, ⟨#[]⟩] y = if Txt.startswith y p = true then ellEnd y [⟨#[]⟩] p.length y.length else false := by
  simp [ellF, ellTail, Nat.ne_of_gt hp, show (⟨#[]⟩ : Str).length = 0 from rfl]
theorem ellF_t {y p : Str} (hp : 0 < p.length) : ellF [⟨#[]⟩, p] y = if Txt.endswith y p = true then ellEnd y [⟨#[]⟩] 0 (y.length - p.length) else false := by
  simp [ellF, ellTail, Nat.ne_of_gt hp, show (⟨#[]⟩ : Str).length = 0 from rfl]
theorem ellF_mm {y p q : Str} : ellF [⟨#[]⟩, p, q, ⟨#[]⟩] y = ellEnd y [⟨#[]⟩, p, q, ⟨#[]⟩] 0 y.length := by
  simp [ellF, ellTail, Str.length]
theorem ellF_3 {y p q r : Str} (hp : 0 < p.length) (hr : 0 < r.length) : ellF [p, q, r] y = if Txt.startswith y p = true then (if Txt.endswith y r = true then ellEnd y [q] p.length (y.length - r.length) else false) else false := by
  simp [ellF, ellTail, Nat.ne_of_gt hp, Nat.ne_of_gt hr]

end Mine
end
theorem Mine.rest_E2 {prog : PySem.Program} {w : PySem.World} {A : PySem.Around} {E : PySem.Value → PySem.Shared → Prop} {s : PySem.Shared} {env : PySem.Env} : PySem.wpAny (PySem.model prog w) A (PySem.execs [] env) (fun _ _ => True) E s := by
  w_top off
  first | (walk1; trivial) | exact PySem.wpAny_execs_nil trivial
section
open PySem PySem.W PyProof.Rows
set_option Elab.async false
set_option maxRecDepth 100000
set_option maxHeartbeats 8000000
set_option linter.unusedVariables false
namespace Mine
section
variable {M : Model} {A : Around} {R : GenEnd} {Y : Protocol} {n : Nat} {s₀ : Shared} {c : Code} {fs : List Frame} {s : Shared} {env : Env}
  {K : Flow → Sem Fin} {H : Value → Sem Fin} {gd : Bool → Bool} {lv : List Value → List Value}

theorem seg_If {test : Expr} {body orelse : List Stmt} {pos : Pos}
    (h : wpAny M (A.over c fs) (isTrue test env (eval test env)) (fun b s' => if b = true then Seg M A R Y n s₀ c ((execs body env).wrap K H gd lv) fs s'
      else Seg M A R Y n s₀ c ((execs orelse env).wrap K H gd lv) fs s') (fun x s' => Seg M A R Y n s₀ c (H x) fs s') s) :
    Seg M A R Y n s₀ c ((exec (.If test body orelse pos) env).wrap K H gd lv) fs s := by
  rw [exec_If]
  refine seg_bind_wrap (wpAny_standAt (seg_bind_wrap (wpAny_mono h (fun b s' hb => ?_) fun _ _ e => e)))
  cases b
  · simpa using hb
  · simpa using hb

theorem seg_For {target iter : Expr} {body orelse : List Stmt} {pos : Pos}
    (h : wpAny M (A.over c fs) (eval iter env) (fun x s₁ => wpAny M (A.over c fs) (pyIter x) (fun it s₂ => ∀ p,
      Seg M A R Y n s₀ (.forLoop target it body orelse env) (M.den (.forLoop target it body orelse env))
        (.ret (fun r => ((match r with | .ok f => (.pure f : Sem Flow) | .error e => .raise e).onRaise fun (x : Value) => do
          if (← field x 1) == Value.none then unsupported "frame.own-activation:exception-without-traceback"
          setFlight x env.frame).wrap K H gd lv) none (gd false) (lv []) c p [] :: fs) s₂) (fun x s' => Seg M A R Y n s₀ c (H x) fs s') s₁) (fun x s' => Seg M A R Y n s₀ c (H x) fs s') s)
    (hs : ∀ x, foldedSetIterable iter env x = pure x := by intro _; rfl) :
    Seg M A R Y n s₀ c ((exec (.For target iter body orelse pos) env).wrap K H gd lv) fs s := by
  rw [exec_For]
  refine seg_bind_wrap (wpAny_standAt (seg_bind_wrap (wpAny_mono h (fun x s₁ h₁ => ?_) fun _ _ e => e)))
  refine seg_bind_wrap (wpAny_of_eq (hs x) (seg_bind_wrap (wpAny_standAt (seg_bind_wrap (wpAny_holding (wpAny_mono h₁ (fun it s₂ h₂ => ?_) fun _ _ e => e))))))
  exact seg_call h₂
end

/-- one turn of a for loop, a segment of a generator -/
theorem seg_forTurn {prog : Program} {w : World} {A : Around} {R : GenEnd} {Y : Protocol} {n : Nat} {s₀ : Shared} {fs : List Frame} {s : Shared} {env : Env} {target : Expr} {it : Value} {body orelse : List Stmt}
    (h : wpAny (model prog w) (A.over (.forLoop target it body orelse env) fs) (pyNext it) (fun r s₁ => match r with
      | none => Seg (model prog w) A R Y n s₀ (.block orelse env) ((model prog w).den (.block orelse env)) fs s₁
      | some v => wpAny (model prog w) (A.over (.forLoop target it body orelse env) fs) (letOwnedTupleGo target it v) (fun _ s₂ =>
          wpAny (model prog w) (A.over (.forLoop target it body orelse env) fs) (assign target env v) (fun _ s₃ =>
            Seg (model prog w) A R Y n s₀ (.forLoop target it body orelse env) ((execs body env).wrap (fun f => match f with
              | .next | .cont => .pure (.again (.forLoop target it body orelse env))
              | .brk => .pure (.done .next)
              | .ret v => .pure (.done (.ret v))) (fun e => (do noteFrame e env; theTreesLotGoes e : Sem Unit).wrap (fun _ => .raise e) .raise id id) id id) fs s₃)
            (fun _ _ => False) s₂) (fun _ _ => False) s₁) (fun _ _ => False) s) :
    Seg (model prog w) A R Y n s₀ (.forLoop target it body orelse env) ((model prog w).den (.forLoop target it body orelse env)) fs s := by
  show Seg _ A R Y n s₀ _ ((forTurn target it body orelse env).onRaise (fun x => do noteFrame x env; theTreesLotGoes x)) fs s
  unfold forTurn
  rw [Sem.onRaise_eq_wrap]
  refine seg_bind_wrap (wpAny_standAt (seg_bind_wrap (wpAny_onRaise (wpAny_mono h (fun r s₁ h₁ => ?_) fun _ _ e => e.elim))))
  cases r with
  | none => exact seg_again (by rfl) h₁
  | some v =>
    refine seg_bind_wrap (wpAny_mono h₁ (fun _ s₂ h₂ => ?_) fun _ _ e => e.elim)
    refine seg_bind_wrap (wpAny_mono h₂ (fun _ s₃ h₃ => ?_) fun _ _ e => e.elim)
    rw [Sem.bind_eq_wrap', Sem.wrap_wrap]
    rw [Sem.wrap_congr (execs body env) _ _ (K' := fun f => match f with
              | .next | .cont => .pure (.again (.forLoop target it body orelse env))
              | .brk => .pure (.done .next)
              | .ret v => .pure (.done (.ret v))) (H' := (fun e => (do noteFrame e env; theTreesLotGoes e : Sem Unit).wrap (fun _ => .raise e) .raise id id))
        (fun f => by cases f <;> rfl)
        (fun e => by first | exact Sem.bind_eq_wrap _ _ | (show (do noteFrame e env; theTreesLotGoes e : Sem Unit).bind (fun _ => .raise e) = _; rw [Sem.bind_eq_wrap]))]
    exact h₃
end Mine
end
theorem Mine.rest_G1 {prog : PySem.Program} {w : PySem.World} {A : PySem.Around} {E : PySem.Value → PySem.Shared → Prop} {s : PySem.Shared} {env : PySem.Env} : PySem.wpAny (PySem.model prog w) A (PySem.execs [] env) (fun _ _ => True) E s := by
  w_top off
  first | (walk1; trivial) | exact PySem.wpAny_execs_nil trivial
section
open PySem PySem.W PyProof.Rows
set_option Elab.async false
set_option maxRecDepth 100000
set_option maxHeartbeats 8000000
set_option linter.unusedVariables false
namespace Mine
noncomputable def bodyAt (i : Nat) : List Stmt := match Challenge.pw_wr0030_01.main.body[i]? with | some (.FunctionDef _ _ b _ _ _ _ _ _ _) => b | _ => []
noncomputable def scopeAt (i : Nat) : Scope := match Challenge.pw_wr0030_01.main.body[i]? with | some (.FunctionDef _ _ _ _ _ _ sc _ _ _) => sc | _ => default
noncomputable def genBody : List Stmt := match (bodyAt 6)[2]? with | some (PySem.Stmt.For _ _ b _ _) => b | _ => []
noncomputable def genTarget : PySem.Expr := match (bodyAt 6)[2]? with | some (PySem.Stmt.For t _ _ _ _) => t | _ => default
noncomputable abbrev genEnv (C : Addr) : Env := envOf "_iter_escaped_chars" (scopeAt 6) C 35 (.ref 34)

/-- what the generator yields from sign i on -/
noncomputable def gl : List Nat → Nat → Bool → List (Nat × List Nat)
  | [], i, true => [(i - 1, [92])]
  | [], _, false => []
  | c :: r, i, true => (i, [92, c]) :: gl r (i + 1) false
  | c :: r, i, false => if c = 92 then gl r (i + 1) true else (i, [c]) :: gl r (i + 1) false

/-- is the last sign an open backslash -/
noncomputable def escEnd : List Nat → Bool → Bool
  | [], e => e
  | _ :: r, true => escEnd r false
  | c :: r, false => escEnd r (c == 92)

/-- all that stands in h, three addresses left out -/
noncomputable def restOf (h : Heap) (C e it : Addr) : List (Addr × Obj) :=
  (List.range h.objs.size).filterMap fun b => if b = C ∨ b = e ∨ b = it then none else (h.get? b).map fun o => (b, o)
theorem mem_restOf {h : Heap} {C e it b : Addr} {o : Obj} (hb : h.get? b = some o) (h1 : b ≠ C) (h2 : b ≠ e) (h3 : b ≠ it) : (b, o) ∈ restOf h C e it := by
  refine List.mem_filterMap.mpr ⟨b, List.mem_range.mpr (Heap.lt_size hb), ?_⟩
  rw [if_neg (by simp [h1, h2, h3]), hb]; rfl
theorem restOf_spec {h : Heap} {C e it : Addr} {p : Addr × Obj} (hp : p ∈ restOf h C e it) : h.get? p.1 = some p.2 ∧ p.1 ≠ C ∧ p.1 ≠ e ∧ p.1 ≠ it := by
  obtain ⟨b, _, hb⟩ := List.mem_filterMap.mp hp
  split at hb
  · cases hb
  · rename_i hn
    cases hq : h.get? b with
    | none => rw [hq] at hb; cases hb
    | some o =>
      rw [hq] at hb
      cases hb
      exact ⟨hq, fun x => hn (.inl x), fun x => hn (.inr (.inl x)), fun x => hn (.inr (.inr x))⟩
theorem empty_none (b : Addr) : ({} : Heap).get? b = none := by
  unfold Heap.get?
  simp
theorem newsAll (h : Heap) (C e it : Addr) : News {} C h (restOf h C e it) := fun p hp => ⟨(restOf_spec hp).1, (restOf_spec hp).2.1, empty_none _⟩
theorem frEmpty {h : Heap} {C : Addr} {m : Str → Option Value} (hn : h.Ns C m) : Fr {} C h m := ⟨hn, fun b o e => (by rw [empty_none] at e; cases e), Nat.zero_le _⟩

noncomputable abbrev GSt (e it : Addr) (x : Str) (u : Tok) (i : Nat) (h : Heap) : Prop := (∃ old, IsEnum h e it i old) ∧ h.IsStrIter it "str_ascii_iterator" x u i
theorem GSt.keep {e it : Addr} {x : Str} {u : Tok} {i : Nat} {h h' : Heap} (g : GSt e it x u i h) (k1 : ∀ o, h.get? e = some o → h'.get? e = some o) (k2 : ∀ o, h.get? it = some o → h'.get? it = some o) : GSt e it x u i h' :=
  ⟨let ⟨old, he⟩ := g.1; ⟨old, k1 _ he⟩, let ⟨o, ho, r⟩ := g.2; ⟨o, k2 o ho, r⟩⟩

noncomputable def genR (C e it : Addr) : GenEnd := fun n s₀ r s₁ => r = .ok (.ret .none) ∧ (n = 0 ∧ GenSince C [e, it] s₀ s₁)
noncomputable def genY (C e it : Addr) (ys : List (Nat × List Nat)) : Protocol := fun m s₀ v s kap =>
  (∃ T p txt t1 t2, v = .ref T ∧ ys[ys.length - 1 - m]? = some (p, txt) ∧ s₀.heap.get? T = none ∧ IsPair s.heap T (.int (p : Int) t1) (.str ⟨txt.toArray⟩ t2)) ∧ GenSince C [e, it] s₀ s ∧ (∃ oC oE oI, s.heap.get? C = some oC ∧ s.heap.get? e = some oE ∧ s.heap.get? it = some oI) ∧
    ∀ s'' : Shared, (∀ b ∈ [C, e, it], ∀ o, s.heap.get? b = some o → s''.heap.get? b = some o) → kap (.send .none) s''


theorem fresh_of {C e it : Addr} {oe oi : Obj} {h h0 : Heap} {mm : Str → Option Value} (F : Fr {} C h mm) (N : News {} C h ((e, oe) :: (it, oi) :: restOf h0 C e it)) : h0.get? h.objs.size = none := by
  cases hq : h0.get? h.objs.size with
  | none => rfl
  | some o =>
    exfalso
    have nC : h.objs.size ≠ C := Nat.ne_of_gt F.ns.lt
    have ne : h.objs.size ≠ e := Nat.ne_of_gt (Heap.lt_size (N (e, oe) (List.Mem.head _)).1)
    have ni : h.objs.size ≠ it := Nat.ne_of_gt (Heap.lt_size (N (it, oi) (List.Mem.tail _ (List.Mem.head _))).1)
    exact Nat.lt_irrefl _ (Heap.lt_size (N _ (List.Mem.tail _ (List.Mem.tail _ (mem_restOf hq nC ne ni)))).1)
theorem genSince_of {C e it : Addr} {news : List (Addr × Obj)} {s₀ s : Shared} (hs : ∃ h' tk, s = { s₀ with heap := h', toks := tk }) (N : News {} C s.heap news) (hr : ∀ q ∈ restOf s₀.heap C e it, q ∈ news) : GenSince C [e, it] s₀ s := by
  obtain ⟨h', tk, rfl⟩ := hs
  refine ⟨h', tk, rfl, fun b o hb hw ho => ?_⟩
  simp only [List.mem_cons, List.not_mem_nil, or_false, not_or] at hw
  exact (N _ (hr _ (mem_restOf ho hb hw.1 hw.2))).1
theorem genY_here {C e it T : Addr} {oE oI : Obj} {mm : Str → Option Value} {ys pre tail : List (Nat × List Nat)} {p : Nat} {txt : List Nat} {t1 t2 : Tok} {s₀ s : Shared} {news : List (Addr × Obj)} {kap : Resume → Shared → Prop} (hys : ys = pre ++ (p, txt) :: tail)
    (hs : ∃ h' tk, s = { s₀ with heap := h', toks := tk }) (N : News {} C s.heap ((T, { cls := .type "tuple", data := .seq #[.int (p : Int) t1, .str ⟨txt.toArray⟩ t2] }) :: news)) (hr : ∀ q ∈ restOf s₀.heap C e it, q ∈ news) (hT : s₀.heap.get? T = none) (F : Fr {} C s.heap mm) (m1 : (e, oE) ∈ news) (m2 : (it, oI) ∈ news)
    (hk : ∀ s'' : Shared, (∀ b ∈ [C, e, it], ∀ o, s.heap.get? b = some o → s''.heap.get? b = some o) → kap (.send .none) s'') : genY C e it ys tail.length s₀ (.ref T) s kap := by
  refine ⟨⟨T, p, txt, t1, t2, rfl, ?_, hT, (N _ (List.Mem.head _)).1⟩, genSince_of hs N fun q hq => List.Mem.tail _ (hr q hq), (let ⟨oL, _, _, hL, _⟩ := F.ns; ⟨oL, oE, oI, hL, (N _ (List.Mem.tail _ m1)).1, (N _ (List.Mem.tail _ m2)).1⟩), hk⟩
  subst hys
  have e1 : (pre ++ (p, txt) :: tail).length - 1 - tail.length = pre.length := by rw [List.length_append, List.length_cons]; omega
  rw [e1, List.getElem?_append_right (Nat.le_refl _), Nat.sub_self]; rfl

theorem back_in {C e it : Addr} {x : Str} {u : Tok} {i : Nat} {h h0 : Heap} {mm : Str → Option Value} {old : Value} {oI : Obj} (F : Fr {} C h mm)
    (N : News {} C h ((e, { cls := .type "enumerate", dict := none, data := .fields #[.none, .bool false, .ref it, rawInt ((i + 1 : Nat) : Int), .none, old], slots := #[] }) :: (it, oI) :: restOf h0 C e it))
    (hc : oI.cls = .type "str_ascii_iterator") (hd : oI.data = .fields #[.str x u, .int ((i + 1 : Nat) : Int) 0]) : GSt e it x u (i + 1) h ∧ h.Ns C mm ∧ News {} C h (restOf h0 C e it) :=
  ⟨⟨⟨old, (N _ (List.Mem.head _)).1⟩, oI, (N (it, oI) (List.Mem.tail _ (List.Mem.head _))).1, hc, hd⟩, F.ns, fun p hp => N p (List.Mem.tail _ (List.Mem.tail _ hp))⟩
/-- behind a yield: another heap, in which the generator's own three objects stand as they stood -/
theorem woken {C e it : Addr} {oe oi : Obj} {h h' : Heap} {mm : Str → Option Value} {news : List (Addr × Obj)} (F : Fr {} C h mm) (N : News {} C h news) (m1 : (e, oe) ∈ news) (m2 : (it, oi) ∈ news)
    (hal : ∀ b ∈ [C, e, it], ∀ o, h.get? b = some o → h'.get? b = some o) : Fr {} C h' mm ∧ News {} C h' ((e, oe) :: (it, oi) :: restOf h' C e it) :=
  ⟨frEmpty (F.ns.at' fun o ho => hal C (by simp) o ho), List.forall_mem_cons.mpr ⟨⟨hal e (by simp) _ (N _ m1).1, (N _ m1).2.1, empty_none _⟩, List.forall_mem_cons.mpr ⟨⟨hal it (by simp) _ (N _ m2).1, (N _ m2).2.1, empty_none _⟩, newsAll _ _ _ _⟩⟩⟩

section
variable {prog : Program} {w : World} {A : Around}
theorem gen_loop (hh : A.handled = none) (C e it : Addr) (x : Str) (u : Tok) (ys : List (Nat × List Nat)) (heC : e ≠ C) (hiC : it ≠ C) (hei : e ≠ it) (fs : List Frame) (hfs : splitAtGen fs = none) (hfg : fs.any Frame.guarded = false) (hfh : ∀ c, (A.over c fs).handled = none)
    (hend : ∀ (s₀ s : Shared) (m : Str → Option Value), m "escape" = some (.bool false) → s.heap.Ns C m → News {} C s.heap (restOf s₀.heap C e it) → (∃ h' tk, s = { s₀ with heap := h', toks := tk }) →
      ∀ c, Seg (model prog w) A (genR C e it) (genY C e it ys) 0 s₀ c (.pure (.done .next)) fs s) :
    ∀ (rest : List Nat) (i : Nat) (esc : Bool) (s₀ s : Shared) (m : Str → Option Value), x.cps.toList.drop i = rest → i ≤ x.cps.size → GSt e it x u i s.heap → s.heap.Ns C m →
      m "escape" = some (.bool esc) → escEnd rest esc = false → News {} C s.heap (restOf s₀.heap C e it) → (∃ h' tk, s = { s₀ with heap := h', toks := tk }) →
      (∃ pre, ys = pre ++ gl rest i esc) →
      Seg (model prog w) A (genR C e it) (genY C e it ys) (gl rest i esc).length s₀ (.forLoop genTarget (.ref e) genBody [] (genEnv C))
        ((model prog w).den (.forLoop genTarget (.ref e) genBody [] (genEnv C))) fs s := by
  intro rest
  induction rest with
  | nil =>
    intro i esc s₀ s m hd hi hst hn hm hee hN hs hpre
    have hin : i = x.cps.size := by
      have := congrArg List.length hd
      simp at this; omega
    subst hin
    have W := WalksT.enumerateD (prog := prog) (w := w) (A := A.over (.forLoop genTarget (.ref e) genBody [] (genEnv C)) fs) (Draws.strAscii (A := (A.over (.forLoop genTarget (.ref e) genBody [] (genEnv C)) fs).in1) (hfh (.forLoop genTarget (.ref e) genBody [] (genEnv C))) it x u) e hei (by simpa using hei) (by simp)
    refine seg_forTurn (W.done s _ _ hst fun h' tk hk => ?_)
    show Seg _ _ _ _ _ _ (.block [] (genEnv C)) (.pure (.done .next)) fs _
    have hk' : ∀ p ∈ restOf s₀.heap C e it, p.1 ∉ [e, it] := fun p hp => by
      have := restOf_spec hp
      simp [this.2.2.1, this.2.2.2]
    have hef : esc = false := hee
    subst hef
    refine hend s₀ _ m hm (hn.at' fun o ho => hk _ o (by simp [Ne.symm heC, Ne.symm hiC]) ho) (fun p hp => ⟨hk _ _ (hk' p hp) (hN p hp).1, (hN p hp).2⟩) ?_ _
    obtain ⟨h₁, t₁, rfl⟩ := hs
    exact ⟨h', tk, rfl⟩
  | cons c r ih =>
    intro i esc s₀ s m hd hi hst hn hm hee hN hs hpre
    have hlt : i < x.cps.size := by
      have := congrArg List.length hd
      simp at this; omega
    have W := WalksT.enumerateD (prog := prog) (w := w) (A := A.over (.forLoop genTarget (.ref e) genBody [] (genEnv C)) fs) (Draws.strAscii (A := (A.over (.forLoop genTarget (.ref e) genBody [] (genEnv C)) fs).in1) (hfh (.forLoop genTarget (.ref e) genBody [] (genEnv C))) it x u) e hei (by simpa using hei) (by simp)
    refine seg_forTurn (W.item i s _ _ hlt hst fun T vals h₁ tk₁ hv hsz hT hmid hk₁ => ?_)
    dsimp only
    refine W.go _ _ _ i T _ _ _ hmid fun h₂ hst₂ hk₂ => ?_
    obtain ⟨tp, xv, ⟨c', v, hc', rfl⟩, rfl⟩ := hv
    have hkT : h₂.IsTuple T #[.int i tp, .str ⟨#[c']⟩ v] := let ⟨o, ho, r⟩ := hT; ⟨o, hk₂ _ _ (W.apart i T h₁ hmid) ho, r⟩
    show wpAny _ _ (assign (.Tuple _ _ _) (genEnv C) (.ref T)) _ _ _
    refine assign_Tuple_tuple (hfh _) hkT (by rfl) (by rfl) fun h₃ hk₃ => ?_
    have up₃ : ∀ b o, b ∉ [e, it] → s.heap.get? b = some o → h₃.get? b = some o := fun b o hb ho =>
      hk₃ b o (Nat.ne_of_lt (Heap.lt_size (hk₂ b o hb (hk₁ b o hb ho)))) (hk₂ b o hb (hk₁ b o hb ho))
    have F₃ : Fr {} (genEnv C).locals h₃ m := frEmpty (hn.at' fun o ho => up₃ _ o (by simp [Ne.symm heC, Ne.symm hiC]) ho)
    have N₃ : News {} (genEnv C).locals h₃ (restOf s₀.heap C e it) := fun p hp => by
      have := restOf_spec hp
      exact ⟨up₃ _ _ (by simp [this.2.2.1, this.2.2.2]) (hN p hp).1, (hN p hp).2⟩
    have st₃ : GSt e it x u (i + 1) h₃ := GSt.keep hst₂ (fun o ho => hk₃ _ o (Nat.ne_of_lt (Heap.lt_size ho)) ho) (fun o ho => hk₃ _ o (Nat.ne_of_lt (Heap.lt_size ho)) ho)
    obtain ⟨⟨oldE, hoE⟩, oI, hoI, hcI, hdI⟩ := st₃
    have N₄ : News {} (genEnv C).locals h₃ ((e, _) :: (it, oI) :: restOf s₀.heap C e it) := List.forall_mem_cons.mpr ⟨⟨hoE, heC, empty_none _⟩, List.forall_mem_cons.mpr ⟨⟨hoI, hiC, empty_none _⟩, N₃⟩⟩
    clear hk₃ hkT hk₂ hst₂ hk₁ hmid hT hsz up₃ N₃ W
    repeat walk1
    -- the body
    show Seg _ _ _ _ _ _ _ ((execs (_ :: _) _).wrap _ _ _ _) _ _
    refine seg_execs_cons ?_
    show Seg _ _ _ _ _ _ _ ((exec (.If _ _ _ _) _).wrap _ _ _ _) _ _
    refine seg_If ?_
    have hesc := hm
    have hcc : c' = c := by
      have h1 : x.cps.toList[i]? = some c := by
        have := congrArg (·[0]?) hd
        simpa using this
      have h2 : x.cps.toList[i]? = some c' := by simpa using hc'
      rw [h1] at h2; exact (Option.some.inj h2).symm
    subst hcc
    have hd' : x.cps.toList.drop (i + 1) = r := by
      rw [← List.drop_drop, hd]; rfl
    rename Fr _ _ _ _ => F₅
    rename News _ _ _ _ => N₅
    walk1
    refine ld F₅ (v := .bool esc) (by exact hesc) ?_
    walk1
    cases esc with
    | true =>
      dsimp only
      rw [if_pos rfl]
      show Seg _ _ _ _ _ _ _ ((execs (_ :: _) _).wrap _ _ _ _) _ _
      refine seg_execs_cons (seg_Expr_Yield hfs rfl hfg ?_)
      have hfr := fresh_of F₅ N₅
      repeat walk1
      rename Fr _ _ _ _ => F₆
      rename News _ _ _ _ => N₆
      rename_i hkap
      obtain ⟨pre, hpre⟩ := hpre
      have e1 : (Str.ofString "\\" ++ ⟨#[c']⟩ : Str) = ⟨([92, c'] : List Nat).toArray⟩ := by
        rw [show Str.ofString "\\" = ⟨#[92]⟩ by decide +kernel]; rfl
      rw [e1] at N₆
      refine genY_here hpre (by obtain ⟨h', t', rfl⟩ := hs; exact ⟨_, _, rfl⟩) N₆ (fun q hq => List.Mem.tail _ (List.Mem.tail _ hq)) hfr F₆ (List.Mem.head _) (List.Mem.tail _ (List.Mem.head _)) fun s'' hal => hkap .none _ ?_
      obtain ⟨F₇, N₇⟩ := woken F₆ N₆ (List.Mem.tail _ (List.Mem.head _)) (List.Mem.tail _ (List.Mem.tail _ (List.Mem.head _))) hal
      clear F₆ N₆ F₅ N₅ hkap hfr hal
      show Seg _ _ _ _ _ _ _ ((execs (_ :: _) _).wrap _ _ _ _) _ _
      refine seg_execs_cons (seg_wrap ?_)
      repeat walk1
      rename Fr _ _ _ _ => F₈
      rename News _ _ _ _ => N₈
      obtain ⟨g8, n8, r8⟩ := back_in F₈ N₈ hcI hdI
      refine seg_again rfl (ih (i + 1) false s'' _ _ hd' hlt g8 n8 rfl hee r8 ⟨_, _, rfl⟩ ⟨pre ++ [(i, [92, c'])], by rw [hpre]; simp [gl]⟩)
    | false =>
      dsimp only
      rw [if_neg Bool.false_ne_true]
      show Seg _ _ _ _ _ _ _ ((execs (_ :: _) _).wrap _ _ _ _) _ _
      refine seg_execs_cons (seg_If ?_)
      have e0 : Str.ofString "\\" = ⟨#[92]⟩ := by decide +kernel
      repeat walk1
      · rename_i hc92
        have hc : c' = 92 := by rw [e0] at hc92; simpa using hc92
        subst hc
        have egl : gl (92 :: r) i false = gl r (i + 1) true := by simp [gl]
        rw [egl] at hpre ⊢
        show Seg _ _ _ _ _ _ _ ((execs (_ :: _) _).wrap _ _ _ _) _ _
        refine seg_execs_cons (seg_wrap ?_)
        repeat walk1
        rename Fr _ _ _ _ => F₈
        rename News _ _ _ _ => N₈
        obtain ⟨g8, n8, r8⟩ := back_in F₈ N₈ hcI hdI
        refine seg_again rfl (ih (i + 1) true s₀ _ _ hd' hlt g8 n8 rfl hee r8 (by obtain ⟨h', t', rfl⟩ := hs; exact ⟨_, _, rfl⟩) hpre)
      · rename_i hc92
        have hc : c' ≠ 92 := by
          rw [e0] at hc92
          intro q; subst q; simp at hc92
        have egl : gl (c' :: r) i false = (i, [c']) :: gl r (i + 1) false := by simp [gl, hc]
        rw [egl] at hpre ⊢
        have hb : (c' == 92) = false := by simpa using hc
        have hee' : escEnd r false = false := by simpa [escEnd, hb] using hee
        show Seg _ _ _ _ _ _ _ ((execs (_ :: _) _).wrap _ _ _ _) _ _
        refine seg_execs_cons (seg_Expr_Yield hfs rfl hfg ?_)
        have hfr := fresh_of F₅ N₅
        repeat walk1
        rename Fr _ _ _ _ => F₆
        rename News _ _ _ _ => N₆
        rename_i hkap
        obtain ⟨pre, hpre⟩ := hpre
        refine genY_here hpre (by obtain ⟨h', t', rfl⟩ := hs; exact ⟨_, _, rfl⟩) N₆ (fun q hq => List.Mem.tail _ (List.Mem.tail _ hq)) hfr F₆ (List.Mem.head _) (List.Mem.tail _ (List.Mem.head _)) fun s'' hal => hkap .none _ ?_
        obtain ⟨F₇, N₇⟩ := woken F₆ N₆ (List.Mem.tail _ (List.Mem.head _)) (List.Mem.tail _ (List.Mem.tail _ (List.Mem.head _))) hal
        clear hkap hfr hal
        obtain ⟨g8, n8, r8⟩ := back_in F₇ N₇ hcI hdI
        refine seg_again rfl (ih (i + 1) false s'' _ _ hd' hlt g8 n8 hesc hee' r8 ⟨_, _, rfl⟩ ⟨pre ++ [(i, [c'])], by rw [hpre]; simp⟩)
end
end Mine
end
theorem Mine.rest_G2 {prog : PySem.Program} {w : PySem.World} {A : PySem.Around} {E : PySem.Value → PySem.Shared → Prop} {s : PySem.Shared} {env : PySem.Env} : PySem.wpAny (PySem.model prog w) A (PySem.execs [] env) (fun _ _ => True) E s := by
  w_top off
  first | (walk1; trivial) | exact PySem.wpAny_execs_nil trivial
section
open PySem PySem.W PyProof.Rows
set_option Elab.async false
set_option maxRecDepth 100000
set_option maxHeartbeats 8000000
set_option linter.unusedVariables false
namespace Mine
section
variable {prog : Program} {w : World} {A : Around}
theorem gen_start (hh : A.handled = none) (C : Addr) (x : Str) (u : Tok) (ha : x.cps.all (· < 128) = true) (s : Shared) (m mg mb : Str → Option Value) (hn : s.heap.Ns C m) (hm : m "addr" = some (.str x u))
    (hg : s.heap.Ns mainGlobals mg) (hb : s.heap.Ns builtinsNs mb) (h1 : mg "enumerate" = none) (h2 : mb "enumerate" = some (.type "enumerate")) (hCg : mainGlobals ≠ C) (hCb : builtinsNs ≠ C) (hee : escEnd x.cps.toList false = false) :
    Seg (model prog w) A (genR C (s.heap.objs.size + 1) s.heap.objs.size) (genY C (s.heap.objs.size + 1) s.heap.objs.size (gl x.cps.toList 0 false)) (gl x.cps.toList 0 false).length s
      (.func (bodyAt 6) (genEnv C)) ((model prog w).den (.func (bodyAt 6) (genEnv C))) [] s := by
  refine seg_func ?_
  have hl : ∀ y : Str, (genEnv C).scope.names.lookup y = (scopeAt 6).names.lookup y := fun _ => rfl
  show Seg _ _ _ _ _ _ _ ((execs (_ :: _) _).wrap _ _ _ _) _ _
  refine seg_execs_cons (seg_wrap ?_)
  have hCs : @LT.lt Nat _ C s.heap.objs.size := hn.lt
  walk1
  walk1
  refine wpAny_storeName_local (by rfl) hn (fun h₁ hn₁ hs₁ => ?_) (by rfl)
  show Seg _ _ _ _ _ _ _ ((execs (_ :: _) _).wrap _ _ _ _) _ _
  refine seg_execs_cons (seg_wrap ?_)
  walk1
  walk1
  refine wpAny_storeName_local (by rfl) hn₁ (fun h₂ hn₂ hs₂ => ?_) (by rfl)
  have hs : Heap.SameBut C s.heap h₂ := ⟨hs₂.1.trans hs₁.1, fun b hb => (hs₂.2 b hb).trans (hs₁.2 b hb)⟩
  have hsize : h₂.objs.size = s.heap.objs.size := hs.1
  show Seg _ _ _ _ _ _ _ ((execs (_ :: _) _).wrap _ _ _ _) _ _
  refine seg_execs_cons (seg_For ?_)
  refine Call_ ?_
  refine Calls.Name_function_global (by rfl) (by rfl) (Calls.loadGlobal_builtin (env := genEnv C) (hg.sameBut hs hCg) h1 (hb.sameBut hs hCb) h2 ?_) (by decide)
  refine PyProof.Rows.callWith_type1 ?_
  have F₂ := frEmpty hn₂
  refine args_cons ?_
  refine ld F₂ (v := .str x u) (by exact hm) ?_
  refine args_nil ?_
  refine call_enumerate_str fun h₃ he₃ hi₃ hz₃ hk₃ => ?_
  dsimp only at he₃ hi₃ hz₃ hk₃
  rw [hsize] at he₃ hi₃ hz₃
  rw [hsize]
  refine wpAny_pyIter_enum (he₃ : IsEnum _ _ _ _ _) ?_
  have hst : strIterType x = "str_ascii_iterator" := by unfold strIterType; rw [ha]; rfl
  rw [hst] at hi₃
  have hfr : ∀ k : Nat, s.heap.get? (s.heap.objs.size + k) = none := fun k => by
    cases hq : s.heap.get? (s.heap.objs.size + k) with
    | none => rfl
    | some o => exact absurd (Heap.lt_size hq) (Nat.not_lt.mpr (Nat.le_add_right _ _))
  have hkeep : ∀ b o, b ≠ C → s.heap.get? b = some o → h₃.get? b = some o := fun b o hb ho => hk₃ b o (by rw [hs.2 b hb]; exact ho)
  have hN : News {} C h₃ (restOf s.heap C (s.heap.objs.size + 1) s.heap.objs.size) := fun p hp => by
    have := restOf_spec hp
    exact ⟨hkeep _ _ this.2.1 this.1, this.2.1, empty_none _⟩
  intro p
  refine gen_loop hh C (s.heap.objs.size + 1) s.heap.objs.size x u _ (by k_ne) (by k_ne) (by k_ne) _ rfl rfl ?hfh ?_ _ 0 false s _ _ rfl (Nat.zero_le _) ⟨⟨.none, he₃⟩, hi₃⟩ (hn₂.keeps hk₃) rfl hee hN ⟨_, _, rfl⟩ ⟨[], rfl⟩
  case hfh =>
    intro c
    show (marksOver _ (A.handled, A.handled)).1 = none
    rw [hh]
    rfl
  intro s₀ s₁ m₁ hesc hn₁' hN₁ hs₁' c
  refine seg_leaf (.ok .next) ?_
  show Seg _ _ _ _ _ _ _ ((execs (_ :: _) _).wrap _ _ _ _) _ _
  refine seg_execs_cons (seg_If ?_)
  have F₄ := frEmpty hn₁'
  walk1
  refine ld F₄ (v := .bool false) (by exact hesc) ?_
  walk1
  rw [if_neg Bool.false_ne_true]
  show Seg _ _ _ _ _ _ _ (leafOf (.ok (.ret .none))) [] _
  exact seg_end (.ok (.ret .none)) ⟨rfl, rfl, genSince_of hs₁' hN₁ fun q hq => hq⟩
end
end Mine
end
theorem Mine.rest_G3 {prog : PySem.Program} {w : PySem.World} {A : PySem.Around} {E : PySem.Value → PySem.Shared → Prop} {s : PySem.Shared} {env : PySem.Env} : PySem.wpAny (PySem.model prog w) A (PySem.execs [] env) (fun _ _ => True) E s := by
  w_top off
  first | (walk1; trivial) | exact PySem.wpAny_execs_nil trivial
section
open PySem PySem.W PyProof.Rows
set_option Elab.async false
set_option maxRecDepth 100000
set_option maxHeartbeats 8000000
set_option linter.unusedVariables false
namespace Mine
section
variable {w : World} {A : Around} {E : Value → Shared → Prop} {s : Shared}
/-- the generator's call: a frame, a generator that has not begun -/
theorem call_iter {x : Str} {t : Tok} {Q : Value → Shared → Prop} (X : (hd.heap_39 w.params).In s.heap) (hlim : s.heap.NoLimit) (hroom : A.depth < recursionLimit)
    (h : ∀ C a h' tk, s.heap.get? C = none → s.heap.get? a = none → a ≠ C → h'.Ns C (fun y => if y = "addr" then some (.str x t) else none) → h'.IsGen a s.gens.size → (∀ b o, s.heap.get? b = some o → h'.get? b = some o) →
      Q (.ref a) { s with heap := h', gens := s.gens.push (.fresh (.func (bodyAt 6) (genEnv C))), toks := tk }) :
    wpAny (model Challenge.rw_wr0030_01.row.prog w) A (call (.ref 35) [.str x t]) Q E s := by
  have hk : ∃ o, (hd.heap_39 w.params).lookup 35 = some o := ⟨_, rfl⟩
  refine wpAny_call (codeAny_call_generator hroom (X 35 _ rfl) rfl (by rfl) (by rfl) (by rfl) (codeRec_of X (by rfl)) ?_)
  refine wpAny_of_eq (show bindArgs _ _ = (pure [((("addr" : Str)), Value.str x t)] : Sem (List (Str × Value))) from rfl) ?_
  refine wpAny_newFunctionEnv ?_ ?_ ?_ (by rfl)
  · intro y hy
    exact of_decide_eq_true ((List.all_eq_true (p := fun y : Str × NameKind => decide (y.2 ≠ .cell))).mp (by rfl) y hy)
  · intro y hy
    cases List.mem_singleton.mp hy
    rfl
  · intro h' hns hsb
    have hkeep : ∀ b o, s.heap.get? b = some o → h'.get? b = some o := fun b o hb => by
      rw [hsb.2 b (Nat.ne_of_lt (Heap.lt_size hb))]
      exact Heap.get?_push_of_some _ hb
    have hsz : h'.objs.size = s.heap.objs.size + 1 := hsb.1.trans (Heap.size_push ..)
    refine ⟨hlim.keeps hkeep, h s.heap.objs.size h'.objs.size _ _ ?_ ?_ ?_ ?_ ?_ ?_⟩
    · cases hq : s.heap.get? s.heap.objs.size with
      | none => rfl
      | some o => exact absurd (Heap.lt_size hq) (Nat.lt_irrefl _)
    · cases hq : s.heap.get? h'.objs.size with
      | none => rfl
      | some o => exact absurd (Heap.lt_size hq) (by rw [hsz]; exact Nat.not_lt.mpr (Nat.le_succ _))
    · rw [hsz]; exact Nat.succ_ne_self _
    · rw [show (fun y : Str => if y = "addr" then some (Value.str x t) else none) = (fun y => [((("addr" : Str)), Value.str x t)].reverse.lookup y) from funext fun y => ?_]
      exact hns.push _
      by_cases hy : y = "addr"
      · subst hy; rfl
      · rw [if_neg hy]
        show none = List.lookup y [(("addr" : Str), _)]
        rw [List.lookup, beq_eq_false_iff_ne.mpr hy]
        rfl
    · exact ⟨_, _, _, Heap.get?_push_size _ rfl, rfl, rfl, rfl⟩
    · intro b o hb
      exact Heap.get?_push_of_some _ (hkeep b o hb)
end
end Mine
end
theorem Mine.rest_G4 {prog : PySem.Program} {w : PySem.World} {A : PySem.Around} {E : PySem.Value → PySem.Shared → Prop} {s : PySem.Shared} {env : PySem.Env} : PySem.wpAny (PySem.model prog w) A (PySem.execs [] env) (fun _ _ => True) E s := by
  w_top off
  first | (walk1; trivial) | exact PySem.wpAny_execs_nil trivial
section
open PySem PySem.W PyProof.Rows
set_option Elab.async false
set_option maxRecDepth 100000
set_option maxHeartbeats 8000000
set_option linter.unusedVariables false
namespace Mine
section
variable {w : World} {A : Around} {E : Value → Shared → Prop} {s : Shared}
noncomputable abbrev pw := Challenge.rw_wr0030_01.row.prog
theorem genIn1 (h : A.handled = none) : A.in1.handled = none := h

/-- one item, or the end, of a generator that goes -/
theorem next_core {C a e it : Addr} {gs : GenState} {G0 : Array GenState} {ys : List (Nat × List Nat)} {n : Nat} {Q : Option Value → Shared → Prop} (hh : A.handled = none) (hl : s.heap.NoLimit) (hroom : A.depth < recursionLimit)
    (hG : s.gens = G0.push gs) (hg : s.heap.IsGen a G0.size)
    (hgo : gs.Goes (model pw w) A.in1 (genR C e it) (genY C e it ys) n (.send .none) { s with gens := G0.push .running })
    (hY : ∀ T p txt t1 t2 h' tk gs' m, n = m + 1 → ys[ys.length - 1 - m]? = some (p, txt) → s.heap.get? T = none → IsPair h' T (.int (p : Int) t1) (.str ⟨txt.toArray⟩ t2) →
      (∀ b o, b ≠ C → b ≠ e → b ≠ it → s.heap.get? b = some o → h'.get? b = some o) → (∃ oC oE oI, h'.get? C = some oC ∧ h'.get? e = some oE ∧ h'.get? it = some oI) →
      (∀ s'' : Shared, (∀ b ∈ [C, e, it], ∀ o, h'.get? b = some o → s''.heap.get? b = some o) → gs'.Goes (model pw w) A.in1 (genR C e it) (genY C e it ys) m (.send .none) s'') →
      Q (some (.ref T)) { s with heap := h', gens := G0.push gs', toks := tk })
    (hP : ∀ h' tk, n = 0 → (∀ b o, b ≠ C → b ≠ e → b ≠ it → s.heap.get? b = some o → h'.get? b = some o) → Q none { s with heap := h', gens := G0.push .finished, toks := tk }) :
    wpAny (model pw w) A (pyNext (.ref a)) Q E s := by
  have hs : ∀ y, s.setGen G0.size y = { s with gens := G0.push y } := fun y => by
    unfold Shared.setGen
    rw [hG]
    congr 1
    apply Array.ext_getElem?
    intro i
    rw [Array.getElem?_setIfInBounds, Array.getElem?_push, Array.getElem?_push]
    split
    · rename_i e; subst e; simp
    · rename_i ne; simp [Ne.symm ne]
  have hs2 : ∀ (h' : Heap) (tk : Nat) (x y : GenState), ({ s with heap := h', gens := G0.push x, toks := tk } : Shared).setGen G0.size y = { s with heap := h', gens := G0.push y, toks := tk } := fun h' tk x y => by
    unfold Shared.setGen
    congr 1
    apply Array.ext_getElem?
    intro i
    rw [Array.getElem?_setIfInBounds, Array.getElem?_push, Array.getElem?_push]
    split
    · rename_i e; subst e; simp
    · rename_i ne; simp [Ne.symm ne]
  refine wpAny_pyNext_gen (n := n) (gs := gs) (P := fun n s₀ s₁ => n = 0 ∧ GenSince C [e, it] s₀ s₁) (Y := genY C e it ys) hh hl hroom hg (by rw [hG]; exact Array.getElem?_push_size) ?_ ?_ ?_
  · rw [hs]; exact hgo
  · intro v s₁ gs' hy
    rw [hs] at hy
    obtain ⟨⟨T, p, txt, t1, t2, rfl, hp, hT, hpair⟩, ⟨h', tk, rfl, hk⟩, hal, hkap⟩ := hy
    cases n with
    | zero => exact (hkap _ fun _ _ _ y => y).elim
    | succ m =>
      rw [hs2]
      exact hY T p txt t1 t2 h' tk gs' m rfl hp hT hpair (fun b o h1 h2 h3 => hk b o h1 (by simp [h2, h3])) hal hkap
  · rintro s₁ ⟨h0, hg⟩ h'' hk''
    rw [hs] at hg
    obtain ⟨h', tk, rfl, hk⟩ := hg
    rw [hs2]
    exact hP h'' tk h0 fun b o h1 h2 h3 x => hk'' b o (hk b o h1 (by simp [h2, h3]) x)

/-- the generator is ready to be asked: it has given j items -/
noncomputable def Ready (w : World) (A : Around) (x : Str) (t : Tok) (ys : List (Nat × List Nat)) (G0 : Array GenState) (C a : Addr) (oA : Obj) (j : Nat) (gs : GenState) (own : List (Addr × Obj)) : Prop :=
  (∃ oC, j = 0 ∧ own = [(C, oC), (a, oA)] ∧ gs = .fresh (.func (bodyAt 6) (genEnv C)) ∧ ∀ h : Heap, h.get? C = some oC → h.Ns C (fun y => if y = "addr" then some (.str x t) else none)) ∨
  (∃ e it oC oE oI, own = [(C, oC), (a, oA), (e, oE), (it, oI)] ∧ a ≠ e ∧ a ≠ it ∧
    ∀ s'' : Shared, s''.heap.get? C = some oC → s''.heap.get? e = some oE → s''.heap.get? it = some oI → gs.Goes (model pw w) A.in1 (genR C e it) (genY C e it ys) (ys.length - j) (.send .none) s'')

theorem next_ready {C a L : Addr} {gs : GenState} {G0 : Array GenState} {x : Str} {t : Tok} {ys : List (Nat × List Nat)} {j : Nat} {own rest : List (Addr × Obj)} {oA : Obj} {h₀ : Heap} {m mg mb : Str → Option Value} {Q : Option Value → Shared → Prop}
    (hh : A.handled = none) (hl : h₀.NoLimit) (hroom : A.depth < recursionLimit) (hg : h₀.Ns mainGlobals mg) (hb : h₀.Ns builtinsNs mb) (h1 : mg "enumerate" = none) (h2 : mb "enumerate" = some (.type "enumerate"))
    (hx : x.cps.all (· < 128) = true) (hee : escEnd x.cps.toList false = false) (hys : ys = gl x.cps.toList 0 false)
    (hG : s.gens = G0.push gs) (haC : a ≠ C) (hoA : ∃ nm qn, oA.cls = .type "generator" ∧ oA.data = .fields #[.int G0.size 0, nm, qn] ∧ oA.slots = #[]) (hj : j ≤ ys.length) (hR : Ready w A x t ys G0 C a oA j gs own)
    (F : Fr h₀ L s.heap m) (N : News h₀ L s.heap (own ++ rest)) (hoff : ∀ p ∈ rest, p.1 ∉ own.map (·.1))
    (hY : ∀ T p txt t1 t2 h' tk gs' own', ys[j]? = some (p, txt) → Ready w A x t ys G0 C a oA (j + 1) gs' own' →
      Fr h₀ L h' m → News h₀ L h' ((T, { cls := .type "tuple", data := .seq #[.int (p : Int) t1, .str ⟨txt.toArray⟩ t2] }) :: (own' ++ rest)) → (∀ p ∈ rest, p.1 ∉ own'.map (·.1)) → (∀ p ∈ rest, T ≠ p.1) →
      Q (some (.ref T)) { s with heap := h', gens := G0.push gs', toks := tk })
    (hP : ∀ h' tk, j = ys.length → Fr h₀ L h' m → News h₀ L h' rest → Q none { s with heap := h', gens := G0.push .finished, toks := tk }) :
    wpAny (model pw w) A (pyNext (.ref a)) Q E s := by
  -- two places of the generator's own, apart from all that is ours
  obtain ⟨e, it, oC, hCm, hae, hai, hrest, hL, hold, hgo⟩ : ∃ e it oC, (C, oC) ∈ own ∧ a ≠ e ∧ a ≠ it ∧ (∀ p ∈ rest, p.1 ≠ C ∧ p.1 ≠ e ∧ p.1 ≠ it) ∧ (L ≠ C ∧ L ≠ e ∧ L ≠ it) ∧ (∀ b o, h₀.get? b = some o → b ≠ C ∧ b ≠ e ∧ b ≠ it) ∧
      gs.Goes (model pw w) A.in1 (genR C e it) (genY C e it ys) (ys.length - j) (.send .none) { s with gens := G0.push .running } := by
    rcases hR with ⟨oC, rfl, rfl, rfl, hns⟩ | ⟨e, it, oC, oE, oI, rfl, hae, hai, hgo⟩
    · have nC := N (C, oC) (by simp)
      have nA := N (a, oA) (by simp)
      have lt : ∀ b o, s.heap.get? b = some o → b ≠ s.heap.objs.size + 1 ∧ b ≠ s.heap.objs.size := fun b o ho => ⟨Nat.ne_of_lt (Nat.lt_succ_of_lt (Heap.lt_size ho)), Nat.ne_of_lt (Heap.lt_size ho)⟩
      have low : ∀ b o, h₀.get? b = some o → b ≠ C := fun b o ho q => by rw [← q] at nC; rw [ho] at nC; cases nC.2.2
      refine ⟨s.heap.objs.size + 1, s.heap.objs.size, oC, by simp, (lt a oA nA.1).1, (lt a oA nA.1).2, ?_, ?_, ?_, ?_⟩
      · intro p hp
        have := N p (by simp [hp])
        exact ⟨fun q => hoff p hp (by simp [q]), (lt _ _ this.1).1, (lt _ _ this.1).2⟩
      · obtain ⟨oL, _, _, hL, _⟩ := F.ns
        exact ⟨nC.2.1.symm, (lt _ _ hL).1, (lt _ _ hL).2⟩
      · intro b o ho
        exact ⟨low b o ho, (lt _ _ (F.keep _ _ ho)).1, (lt _ _ (F.keep _ _ ho)).2⟩
      · obtain ⟨og, _, _, hog, _⟩ := id hg
        obtain ⟨ob, _, _, hob, _⟩ := id hb
        subst hys
        refine ⟨rfl, gen_start (s := { s with gens := G0.push .running }) (genIn1 hh) C x t hx _ mg mb (hns _ nC.1) rfl (Heap.Ns.keeps hg F.keep) (Heap.Ns.keeps hb F.keep) h1 h2 (low _ _ hog) (low _ _ hob) hee⟩
    · have nC := N (C, oC) (by simp)
      have nE := N (e, oE) (by simp)
      have nI := N (it, oI) (by simp)
      have low : ∀ b o c o', h₀.get? b = some o → (s.heap.get? c = some o' ∧ c ≠ L ∧ h₀.get? c = none) → b ≠ c := fun b o c o' ho nC q => by rw [← q] at nC; rw [ho] at nC; cases nC.2.2
      refine ⟨e, it, oC, by simp, hae, hai, ?_, ?_, ?_, ?_⟩
      · intro p hp
        exact ⟨fun q => hoff p hp (by simp [q]), fun q => hoff p hp (by simp [q]), fun q => hoff p hp (by simp [q])⟩
      · exact ⟨nC.2.1.symm, nE.2.1.symm, nI.2.1.symm⟩
      · intro b o ho
        exact ⟨low _ _ _ _ ho nC, low _ _ _ _ ho nE, low _ _ _ _ ho nI⟩
      · exact hgo _ nC.1 nE.1 nI.1
  have hAm : (a, oA) ∈ own := by
    rcases hR with ⟨oC, rfl, rfl, rfl, hns⟩ | ⟨e, it, oC, oE, oI, rfl, hae, hai, hgo⟩ <;> simp
  have nA := N _ (List.mem_append_left rest hAm)
  have nC := N _ (List.mem_append_left rest hCm)
  obtain ⟨nm, qn, hA⟩ := hoA
  refine next_core (n := ys.length - j) hh (hl.keeps F.keep) hroom hG ⟨oA, nm, qn, nA.1, hA⟩ hgo ?_ ?_
  · rintro T p txt t1 t2 h' tk gs' k hk hp hT hpair hkeep ⟨oC', oE', oI', hC', hE', hI'⟩ hgo'
    have ej : ys.length - 1 - k = j := by omega
    rw [ej] at hp
    have hkeep' : ∀ q ∈ rest, h'.get? q.1 = some q.2 := fun q hq => hkeep _ _ (hrest q hq).1 (hrest q hq).2.1 (hrest q hq).2.2 (N q (by simp [hq])).1
    have F' : Fr h₀ L h' m := ⟨F.ns.at fun o ho => hkeep _ _ hL.1 hL.2.1 hL.2.2 ho, fun b o ho => hkeep b o (hold b o ho).1 (hold b o ho).2.1 (hold b o ho).2.2 (F.keep b o ho), F.above⟩
    have hTL : T ≠ L := fun q => by
      obtain ⟨oL, _, _, hL', _⟩ := F.ns
      rw [← q, hT] at hL'; cases hL'
    have hT0 : h₀.get? T = none := by
      cases hq : h₀.get? T with
      | none => rfl
      | some o => rw [F.keep _ _ hq] at hT; cases hT
    have fr0 : ∀ b o, (s.heap.get? b = some o ∧ b ≠ L ∧ h₀.get? b = none) → b ≠ L ∧ h₀.get? b = none := fun b o q => q.2
    have hz : ∀ b, b ≠ L → b = e ∨ b = it → h₀.get? b = none := fun b _ q => by
      cases hq : h₀.get? b with
      | none => rfl
      | some o =>
        rcases q with q | q
        · exact absurd q (hold b o hq).2.1
        · exact absurd q (hold b o hq).2.2
    refine hY T p txt t1 t2 h' tk gs' [(C, oC'), (a, oA), (e, oE'), (it, oI')] hp (.inr ⟨e, it, oC', oE', oI', rfl, hae, hai, fun s'' c1 c2 c3 => ?_⟩) F' ?_ ?_ (fun q hq r => by rw [r, (N q (by simp [hq])).1] at hT; cases hT)
    · have : ys.length - (j + 1) = k := by omega
      rw [this]
      refine hgo' s'' fun b hb o ho => ?_
      simp only [List.mem_cons, List.not_mem_nil, or_false] at hb
      rcases hb with rfl | rfl | rfl
      · rw [hC'] at ho; rw [c1]; exact ho
      · rw [hE'] at ho; rw [c2]; exact ho
      · rw [hI'] at ho; rw [c3]; exact ho
    · intro q hq
      rcases List.mem_cons.mp hq with rfl | hq
      · exact ⟨hpair, hTL, hT0⟩
      rcases List.mem_append.mp hq with hq | hq
      · simp only [List.mem_cons, List.not_mem_nil, or_false] at hq
        rcases hq with rfl | rfl | rfl | rfl
        · exact ⟨hC', nC.2.1, nC.2.2⟩
        · exact ⟨hkeep _ _ haC hae hai nA.1, nA.2.1, nA.2.2⟩
        · exact ⟨hE', hL.2.1.symm, hz _ hL.2.1.symm (.inl rfl)⟩
        · exact ⟨hI', hL.2.2.symm, hz _ hL.2.2.symm (.inr rfl)⟩
      · exact ⟨hkeep' q hq, (N q (by simp [hq])).2⟩
    · intro q hq hm
      simp only [List.map_cons, List.map_nil, List.mem_cons, List.not_mem_nil, or_false] at hm
      rcases hm with r | r | r | r
      · exact (hrest q hq).1 r
      · exact hoff q hq (r ▸ List.mem_map_of_mem (f := (·.1)) hAm)
      · exact (hrest q hq).2.1 r
      · exact (hrest q hq).2.2 r
  · intro h' tk h0 hkeep
    refine hP h' tk (by omega) ⟨F.ns.at fun o ho => hkeep _ _ hL.1 hL.2.1 hL.2.2 ho, fun b o ho => hkeep b o (hold b o ho).1 (hold b o ho).2.1 (hold b o ho).2.2 (F.keep b o ho), F.above⟩ ?_
    intro q hq
    exact ⟨hkeep _ _ (hrest q hq).1 (hrest q hq).2.1 (hrest q hq).2.2 (N q (by simp [hq])).1, (N q (by simp [hq])).2⟩
end
end Mine
end
theorem Mine.rest_G5 {prog : PySem.Program} {w : PySem.World} {A : PySem.Around} {E : PySem.Value → PySem.Shared → Prop} {s : PySem.Shared} {env : PySem.Env} : PySem.wpAny (PySem.model prog w) A (PySem.execs [] env) (fun _ _ => True) E s := by
  w_top off
  first | (walk1; trivial) | exact PySem.wpAny_execs_nil trivial
section
open PySem PySem.W PyProof.Rows
set_option Elab.async false
set_option maxRecDepth 100000
set_option maxHeartbeats 8000000
set_option linter.unusedVariables false
namespace Mine
section
variable {w : World} {A : Around} {E : Value → Shared → Prop} {s : Shared} {env : Env} {target : PySem.Expr} {body : List Stmt}

noncomputable def GenPost (h₀ : Heap) (L : Addr) (J : (Str → Option Value) → Obj → Prop) (res : Addr) (keep : List (Addr × Obj)) (s : Shared) : Flow → Shared → Prop := fun f s₃ =>
  (f = .next ∨ f = .cont) ∧ ∃ h' tk' m' o' news', s₃ = { s with heap := h', toks := tk' } ∧ Fr h₀ L h' m' ∧ News h₀ L h' news' ∧ (∀ p ∈ (res, o') :: keep, p ∈ news') ∧ J m' o'

noncomputable def GInv (w : World) (A : Around) (env : Env) (C a res : Addr) (G0 : Array GenState) (x : Str) (t : Tok) (ys : List (Nat × List Nat)) (news : List (Addr × Obj)) (oA : Obj) (h₀ : Heap) (J : Nat → (Str → Option Value) → Obj → Prop) (s : Shared) (k : Nat) (s' : Shared) : Prop :=
  ∃ j h' tk gs own m' o', s' = { s with heap := h', gens := G0.push gs, toks := tk } ∧ j ≤ ys.length ∧ k = ys.length - j ∧ Ready w A x t ys G0 C a oA j gs own ∧
    Fr h₀ env.locals h' m' ∧ News h₀ env.locals h' (own ++ (res, o') :: news) ∧ (∀ p ∈ (res, o') :: news, p.1 ∉ own.map (·.1)) ∧ J j m' o'

theorem gen_for {C a res : Addr} {G0 : Array GenState} {x : Str} {t : Tok} {ys : List (Nat × List Nat)} {news : List (Addr × Obj)} {o₀ oA oC : Obj} {h₀ : Heap} {m₀ mg mb : Str → Option Value} {Q : Flow → Shared → Prop} (J : Nat → (Str → Option Value) → Obj → Prop)
    (hh : A.handled = none) (hl : h₀.NoLimit) (hroom : A.depth < recursionLimit) (hg : h₀.Ns mainGlobals mg) (hb : h₀.Ns builtinsNs mb) (h1 : mg "enumerate" = none) (h2 : mb "enumerate" = some (.type "enumerate"))
    (hx : x.cps.all (· < 128) = true) (hee : escEnd x.cps.toList false = false) (hys : ys = gl x.cps.toList 0 false)
    (hG : s.gens = G0.push (.fresh (.func (bodyAt 6) (genEnv C)))) (haC : a ≠ C) (hoA : ∃ nm qn, oA.cls = .type "generator" ∧ oA.data = .fields #[.int G0.size 0, nm, qn] ∧ oA.slots = #[])
    (hns : ∀ h : Heap, h.get? C = some oC → h.Ns C (fun y => if y = "addr" then some (.str x t) else none))
    (F : Fr h₀ env.locals s.heap m₀) (N : News h₀ env.locals s.heap ((C, oC) :: (a, oA) :: (res, o₀) :: news)) (hoff : ∀ p ∈ (res, o₀) :: news, p.1 ≠ C ∧ p.1 ≠ a) (hnr : ∀ p ∈ news, p.1 ≠ res) (hj : J 0 m₀ o₀)
    (turn : ∀ (j p : Nat) (txt : List Nat) (T : Addr) (t1 t2 : Tok) (h : Heap) (tk : Nat) (gs : GenState) (own : List (Addr × Obj)) (m₁ : Str → Option Value) (o₁ : Obj), ys[j]? = some (p, txt) → J j m₁ o₁ → Fr h₀ env.locals h m₁ → News h₀ env.locals h ((T, { cls := .type "tuple", data := .seq #[.int (p : Int) t1, .str ⟨txt.toArray⟩ t2] }) :: (res, o₁) :: (own ++ news)) → T ≠ res → (∀ p ∈ own ++ news, p.1 ≠ res) →
      wpAny (model pw w) A (assign target env (.ref T)) (fun _ s₂ => wpAny (model pw w) A (execs body env) (GenPost h₀ env.locals (J (j + 1)) res (own ++ news) { s with heap := h, gens := G0.push gs, toks := tk }) (fun _ _ => False) s₂) (fun _ _ => False)
        { s with heap := h, gens := G0.push gs, toks := tk })
    (done : ∀ m₁ o₁ h tk, J ys.length m₁ o₁ → Fr h₀ env.locals h m₁ → News h₀ env.locals h ((res, o₁) :: news) → Q .next { s with heap := h, gens := G0.push .finished, toks := tk }) :
    wpAny (model pw w) A (pyIter (.ref a)) (fun it s₂ => codeAny (model pw w) A (.forLoop target it body [] env) (fun r s' => match r with | .ok f => Q f s' | .error e => cameBackBy (model pw w) A env E e s') s₂) E s := by
  obtain ⟨nm, qn, hA⟩ := id hoA
  refine wpAny_pyIter_gen ⟨oA, nm, qn, (N (a, oA) (by simp)).1, hA⟩ ?_
  refine codeAny_forLoop_any (GInv w A env C a res G0 x t ys news oA h₀ J s) ?_ ys.length ?_
  · rintro k s' ⟨j, h', tk, gs, own, m', o', rfl, hjl, rfl, hR, F', N', hoff', hJ⟩
    refine next_ready (L := env.locals) (own := own) (rest := (res, o') :: news) (G0 := G0) (gs := gs) hh hl hroom hg hb h1 h2 hx hee hys rfl haC hoA hjl hR F' N' hoff' ?_ ?_
    · intro T p txt t1 t2 h₂ tk₂ gs₂ own₂ hp hR₂ F₂ N₂ hoff₂ hT₂
      dsimp only
      have nA : h₂.get? a = some oA := by
        refine (N₂ (a, oA) (List.mem_cons_of_mem _ (List.mem_append_left _ ?_))).1
        rcases hR₂ with ⟨oC, _, rfl, _⟩ | ⟨e, it, oC, oE, oI, rfl, _⟩ <;> simp
      have hown : letOwnedTupleGo target (.ref a) (.ref T) = pure () ∨ (do
          let o ← load a
          match o.cls, o.data with
          | .type n, .fields vs =>
            if ["enumerate", "zip", "dict_itemiterator", "dict_reverseitemiterator", "odict_iterator", "itertools.zip_longest", "itertools.pairwise"].contains n && vs[0]? == some (rawInt T) then
              rule "for.unpacks-the-owned-tuple"
              updateField a 0 .none
          | _, _ => pure () : Sem Unit) = letOwnedTupleGo target (.ref a) (.ref T) := by
        unfold letOwnedTupleGo
        split
        · exact .inr rfl
        · exact .inr rfl
        · exact .inl rfl
      have fin : wpAny (model pw w) A (assign target env (.ref T)) (fun _ s₂ => wpAny (model pw w) A (execs body env) (fun f s₃ => match f with
            | .next | .cont => ∃ m, m < ys.length - j ∧ GInv w A env C a res G0 x t ys news oA h₀ J s m s₃
            | .brk => Q .next s₃
            | .ret v => Q (.ret v) s₃) (notedBy (model pw w) A env fun e s' => cameBackBy (model pw w) A env E e s') s₂) (notedBy (model pw w) A env fun e s' => cameBackBy (model pw w) A env E e s') { s with heap := h₂, gens := G0.push gs₂, toks := tk₂ } := by
        refine wpAny_mono (turn j p txt T t1 t2 h₂ tk₂ gs₂ own₂ m' o' hp hJ F₂ ?_ (hT₂ _ (List.mem_cons_self ..)) ?_) (fun _ s₂ h => wpAny_mono h (fun f s₃ h => ?_) fun _ _ e => e.elim) fun _ _ e => e.elim
        · intro q hq
          refine N₂ q ?_
          simp only [List.mem_cons, List.mem_append] at hq ⊢
          rcases hq with q | q | q | q <;> simp [q]
        · intro q hq
          rcases List.mem_append.mp hq with hq | hq
          · intro r
            exact hoff₂ (res, o') (List.mem_cons_self ..) (List.mem_map.mpr ⟨q, hq, r⟩)
          · exact hnr q hq
        · have jlt : j < ys.length := by
            rcases Nat.lt_or_ge j ys.length with q | q
            · exact q
            · rw [List.getElem?_eq_none q] at hp; cases hp
          have main : ∃ m, m < ys.length - j ∧ GInv w A env C a res G0 x t ys news oA h₀ J s m s₃ := by
            obtain ⟨_, h₃, tk₃, m₃, o₃, news₃, rfl, F₃, N₃, hk₃, hJ₃⟩ := h
            refine ⟨ys.length - (j + 1), by omega, j + 1, h₃, tk₃, gs₂, own₂, m₃, o₃, rfl, jlt, rfl, hR₂, F₃, ?_, ?_, hJ₃⟩
            · intro q hq
              refine N₃ q (hk₃ q ?_)
              simp only [List.mem_cons, List.mem_append] at hq ⊢
              rcases hq with q | q | q <;> simp [q]
            · intro q hq
              rcases List.mem_cons.mp hq with rfl | hq
              · exact hoff₂ (res, o') (List.mem_cons_self ..)
              · exact hoff₂ q (List.mem_cons_of_mem _ hq)
          rcases h.1 with rfl | rfl <;> exact main
      rcases hown with e | e
      · exact wpAny_of_eq e fin
      · rw [← e]
        refine wpAny_bind (wpAny_load nA ?_)
        rw [hA.1, hA.2.1]
        exact wpAny_pure fin
    · intro h₂ tk₂ hjl₂ F₂ N₂
      subst hjl₂
      dsimp only
      exact wpAny_of_eq (show execs [] env = pure .next from rfl) (done m' o' h₂ tk₂ hJ F₂ N₂)
  · refine ⟨0, s.heap, s.toks, _, [(C, oC), (a, oA)], m₀, o₀, ?_, Nat.zero_le _, rfl, .inl ⟨oC, rfl, rfl, rfl, hns⟩, F, N, ?_, hj⟩
    · rw [← hG]
    · intro p hp hm
      simp only [List.map_cons, List.map_nil, List.mem_cons, List.not_mem_nil, or_false] at hm
      rcases hm with r | r
      · exact (hoff p hp).1 r
      · exact (hoff p hp).2 r

/-- the call, in the ledger's words -/
theorem call_iterK {x : Str} {t : Tok} {h₀ : Heap} {L : Addr} {m : Str → Option Value} {news : List (Addr × Obj)} {Q : Value → Shared → Prop} (X : (hd.heap_39 w.params).In s.heap) (hlim : s.heap.NoLimit) (hroom : A.depth < recursionLimit) (F : Fr h₀ L s.heap m) (N : News h₀ L s.heap news)
    (h : ∀ C a oC oA h' tk, a ≠ C → (∃ nm qn, oA.cls = .type "generator" ∧ oA.data = .fields #[.int s.gens.size 0, nm, qn] ∧ oA.slots = #[]) → (∀ h'' : Heap, h''.get? C = some oC → h''.Ns C (fun y => if y = "addr" then some (.str x t) else none)) →
      (∀ p ∈ news, p.1 ≠ C ∧ p.1 ≠ a) → Fr h₀ L h' m → News h₀ L h' ((C, oC) :: (a, oA) :: news) →
      Q (.ref a) { s with heap := h', gens := s.gens.push (.fresh (.func (bodyAt 6) (genEnv C))), toks := tk }) :
    wpAny (model pw w) A (call (.ref 35) [.str x t]) Q E s := by
  refine call_iter X hlim hroom fun C a h' tk hC ha hne hns hgen hk => ?_
  obtain ⟨oA, nm, qn, hoA, h1, h2, h3⟩ := hgen
  obtain ⟨oC, es, ep, hoC, hr⟩ := hns
  have ne : ∀ b o c, s.heap.get? b = some o → s.heap.get? c = none → b ≠ c := fun b o c x y q => by rw [q, y] at x; cases x
  obtain ⟨oL, _, _, hL, _⟩ := id F.ns
  have h0 : ∀ c, s.heap.get? c = none → h₀.get? c = none := fun c hc => by
    cases hq : h₀.get? c with
    | none => rfl
    | some o => rw [F.keep _ _ hq] at hc; cases hc
  refine h C a oC oA h' tk hne ⟨nm, qn, h1, h2, h3⟩ (fun h'' hh => ⟨oC, es, ep, hh, hr⟩) (fun p hp => ⟨ne _ _ _ (N p hp).1 hC, ne _ _ _ (N p hp).1 ha⟩) ⟨F.ns.keeps hk, fun b o ho => hk b o (F.keep b o ho), F.above⟩ ?_
  intro p hp
  rcases List.mem_cons.mp hp with rfl | hp
  · exact ⟨hoC, (ne _ _ _ hL hC).symm, h0 _ hC⟩
  rcases List.mem_cons.mp hp with rfl | hp
  · exact ⟨hoA, (ne _ _ _ hL ha).symm, h0 _ ha⟩
  · exact ⟨hk _ _ (N p hp).1, (N p hp).2⟩

theorem append_J {T res : Addr} {oT : Obj} {its : Array Value} {n : Nat} {v : Value} {keep : List (Addr × Obj)} {h₀ : Heap} {L : Addr} {m : Str → Option Value} {Q : Value → Shared → Prop}
    (F : Fr h₀ L s.heap m) (N : News h₀ L s.heap ((T, oT) :: (res, listOf its n) :: keep)) (hT : T ≠ res) (hk : ∀ p ∈ keep, p.1 ≠ res) (hsz : its.size ≤ sizeLine)
    (h : ∀ h', Fr h₀ L h' m → News h₀ L h' ((T, oT) :: (res, listOf (its.push v) (n + 1)) :: keep) → Q .none { s with heap := h' }) :
    wpAny (model pw w) A (call (.builtin "list.append") [.ref res, v]) Q E s := by
  have z := N (res, listOf its n) (by simp)
  refine append_at (hsz := hsz) z.1 fun h' hs ho' => h h' (F.change hs z.2.1 z.2.2) ?_
  exact news_set (pre := [(T, oT)]) N (by simpa using hT) hk hs ho'
end
end Mine
end
theorem Mine.rest_G6 {prog : PySem.Program} {w : PySem.World} {A : PySem.Around} {E : PySem.Value → PySem.Shared → Prop} {s : PySem.Shared} {env : PySem.Env} : PySem.wpAny (PySem.model prog w) A (PySem.execs [] env) (fun _ _ => True) E s := by
  w_top off
  first | (walk1; trivial) | exact PySem.wpAny_execs_nil trivial
section
open PySem PySem.W PyProof.Rows
set_option Elab.async false
set_option maxRecDepth 100000
set_option maxHeartbeats 8000000
set_option linter.unusedVariables false
set_option linter.unusedSimpArgs false
namespace Mine
/-- what the loop holds: start, the open mark, the parts -/
noncomputable abbrev SSt := Nat × Option Nat × List Str
noncomputable def sStep (x : Str) (st : SSt) (it : Nat × List Nat) : SSt :=
  if it.2 = [34] then (match st.2.1 with
    | none => (st.1, some it.1, st.2.2)
    | some o => (it.1 + 1, none, if st.1 = o then st.2.2 else st.2.2 ++ [Txt.slice x (some (st.1 : Int)) (some (o : Int))]))
  else st
noncomputable def sRun (x : Str) (l : List (Nat × List Nat)) : SSt := l.foldl (sStep x) (0, none, [])
noncomputable def optV (o : Option Nat) (t : Tok) : Value := match o with | none => .none | some k => .int (k : Int) t
noncomputable def sNames (x : Str) (tx : Tok) (res : Addr) (st : SSt) (ts to : Tok) (u1 u2 : Option Value) : Str → Option Value := fun y =>
  if y = "result" then some (.ref res) else if y = "open_pos" then some (optV st.2.1 to) else if y = "start" then some (.int (st.1 : Int) ts) else if y = "addr" then some (.str x tx) else if y = "pos" then u1 else if y = "ch" then u2 else none
noncomputable def SJ (x : Str) (tx : Tok) (res : Addr) (ys : List (Nat × List Nat)) (j : Nat) (m : Str → Option Value) (o : Obj) : Prop :=
  ∃ ts to u1 u2 n, m = sNames x tx res (sRun x (ys.take j)) ts to u1 u2 ∧ ∃ vs : List (Str × Tok), o = listOf (vs.map fun p => Value.str p.1 p.2).toArray n ∧ vs.map (·.1) = (sRun x (ys.take j)).2.2 ∧ vs.length ≤ j

theorem lookup_one (y k : Str) (v : Value) : List.lookup y [(k, v)] = if y = k then some v else none := by
  by_cases h : y = k
  · subst h; rw [if_pos rfl, List.lookup, beq_self_eq_true]
  · rw [if_neg h, List.lookup, beq_eq_false_iff_ne.mpr h]; rfl
theorem sNames_start (x : Str) (tx : Tok) (res : Addr) (ts : Tok) : (fun y : Str => if y = "result" then some (Value.ref res) else if y = "open_pos" then some Value.none else if y = "start" then some (Value.int 0 ts) else List.lookup y [((("addr" : Str)), Value.str x tx)]) = sNames x tx res (0, none, []) ts 0 none none := by
  funext y
  unfold sNames
  simp only [lookup_one, optV]
  repeat' split
  all_goals rfl
theorem fr_lookup {h₀ h : Heap} {L : Addr} {l l' : List (Str × Value)} (F : Fr h₀ L h (fun y => List.lookup y l)) (e : l = l') : Fr h₀ L h (fun y => List.lookup y l') := e ▸ F
theorem SJ_start (x : Str) (tx : Tok) (res : Addr) (ys : List (Nat × List Nat)) (ts : Tok) : SJ x tx res ys 0 (fun y : Str => if y = "result" then some (Value.ref res) else if y = "open_pos" then some Value.none else if y = "start" then some (Value.int 0 ts) else List.lookup y [((("addr" : Str)), Value.str x tx)]) (listOf #[] 0) := by
  refine ⟨ts, 0, none, none, 0, ?_, [], rfl, ?_, Nat.zero_le _⟩
  · rw [List.take_zero]; exact sNames_start x tx _ _
  · rw [List.take_zero]; rfl
theorem six {m m' : Str → Option Value} (h1 : m "result" = m' "result") (h2 : m "open_pos" = m' "open_pos") (h3 : m "start" = m' "start") (h4 : m "addr" = m' "addr") (h5 : m "pos" = m' "pos") (h6 : m "ch" = m' "ch")
    (h7 : ∀ y : Str, y ≠ "result" → y ≠ "open_pos" → y ≠ "start" → y ≠ "addr" → y ≠ "pos" → y ≠ "ch" → m y = m' y) : m = m' := by
  funext y
  by_cases e1 : y = "result"
  · rw [e1]; exact h1
  by_cases e2 : y = "open_pos"
  · rw [e2]; exact h2
  by_cases e3 : y = "start"
  · rw [e3]; exact h3
  by_cases e4 : y = "addr"
  · rw [e4]; exact h4
  by_cases e5 : y = "pos"
  · rw [e5]; exact h5
  by_cases e6 : y = "ch"
  · rw [e6]; exact h6
  exact h7 y e1 e2 e3 e4 e5 e6
theorem gp_end {h₀ h' : Heap} {L : Addr} {J : (Str → Option Value) → Obj → Prop} {res T : Addr} {oT o' : Obj} {keep : List (Addr × Obj)} {s : Shared} {tk : Nat} {m' : Str → Option Value} (F : Fr h₀ L h' m') (N : News h₀ L h' ((T, oT) :: (res, o') :: keep)) (hJ : J m' o') :
    GenPost h₀ L J res keep s .next { s with heap := h', toks := tk } :=
  ⟨.inl rfl, h', tk, m', o', _, rfl, F, N, fun p hp => List.mem_cons_of_mem _ hp, hJ⟩
theorem gp_at {h₀ h' : Heap} {L : Addr} {x : Str} {tx : Tok} {res T : Addr} {oT : Obj} {keep : List (Addr × Obj)} {s : Shared} {tk : Nat} {m' : Str → Option Value} {ys : List (Nat × List Nat)} {j n : Nat} {st' : SSt} {vs' : List (Str × Tok)} {ts to : Tok} {u1 u2 : Option Value}
    (F : Fr h₀ L h' m') (N : News h₀ L h' ((T, oT) :: (res, listOf (vs'.map fun p => Value.str p.1 p.2).toArray n) :: keep))
    (h1 : m' "result" = some (.ref res)) (h2 : m' "open_pos" = some (optV st'.2.1 to)) (h3 : m' "start" = some (.int (st'.1 : Int) ts)) (h4 : m' "addr" = some (.str x tx)) (h5 : m' "pos" = u1) (h6 : m' "ch" = u2)
    (h7 : ∀ y : Str, y ≠ "result" → y ≠ "open_pos" → y ≠ "start" → y ≠ "addr" → y ≠ "pos" → y ≠ "ch" → m' y = none) (hst : sRun x (ys.take (j + 1)) = st') (hv : vs'.map (·.1) = st'.2.2) (hl : vs'.length ≤ j + 1) :
    GenPost h₀ L (SJ x tx res ys (j + 1)) res keep s .next { s with heap := h', toks := tk } := by
  refine gp_end F N ⟨ts, to, u1, u2, n, ?_, vs', rfl, by rw [hst]; exact hv, hl⟩
  rw [hst]
  refine six h1 h2 h3 h4 h5 h6 fun y a b c d e f => ?_
  rw [h7 y a b c d e f]
  simp only [sNames, if_neg a, if_neg b, if_neg c, if_neg d, if_neg e, if_neg f]
theorem gp_push {h₀ h' : Heap} {L : Addr} {x : Str} {tx : Tok} {res T : Addr} {oT : Obj} {keep : List (Addr × Obj)} {s : Shared} {tk : Nat} {m' : Str → Option Value} {ys : List (Nat × List Nat)} {j n : Nat} {st' : SSt} {vs : List (Str × Tok)} {z : Str} {tz : Tok} {ts to : Tok} {u1 u2 : Option Value}
    (F : Fr h₀ L h' m') (N : News h₀ L h' ((T, oT) :: (res, listOf ((vs.map fun p => Value.str p.1 p.2).toArray.push (.str z tz)) n) :: keep))
    (h1 : m' "result" = some (.ref res)) (h2 : m' "open_pos" = some (optV st'.2.1 to)) (h3 : m' "start" = some (.int (st'.1 : Int) ts)) (h4 : m' "addr" = some (.str x tx)) (h5 : m' "pos" = u1) (h6 : m' "ch" = u2)
    (h7 : ∀ y : Str, y ≠ "result" → y ≠ "open_pos" → y ≠ "start" → y ≠ "addr" → y ≠ "pos" → y ≠ "ch" → m' y = none) (hst : sRun x (ys.take (j + 1)) = st') (hv : vs.map (·.1) ++ [z] = st'.2.2) (hl : vs.length ≤ j) :
    GenPost h₀ L (SJ x tx res ys (j + 1)) res keep s .next { s with heap := h', toks := tk } := by
  have e : (vs.map fun p => Value.str p.1 p.2).toArray.push (.str z tz) = ((vs ++ [(z, tz)]).map fun p => Value.str p.1 p.2).toArray := by
    rw [List.map_append, List.map_singleton, List.push_toArray]
  rw [e] at N
  exact gp_at F N h1 h2 h3 h4 h5 h6 h7 hst (by rw [List.map_append]; exact hv) (by rw [List.length_append]; exact Nat.succ_le_succ hl)
theorem eq34 {txt : List Nat} (h : (({ cps := txt.toArray } : Str) == "\"") = true) : txt = [34] := by
  have e0 : Str.ofString "\"" = ⟨[34].toArray⟩ := by decide +kernel
  rw [e0] at h
  have := eq_of_beq h
  injection this with h
  exact congrArg Array.toList h
theorem ne34 {txt : List Nat} (h : (({ cps := txt.toArray } : Str) == "\"") = false) : txt ≠ [34] := by
  rintro rfl
  have e0 : Str.ofString "\"" = ⟨[34].toArray⟩ := by decide +kernel
  rw [e0, beq_self_eq_true] at h; cases h
theorem sStep_le (x : Str) (st : SSt) (it : Nat × List Nat) (h : ∀ p ∈ st.2.2, p.length ≤ x.length) : ∀ p ∈ (sStep x st it).2.2, p.length ≤ x.length := by
  unfold sStep
  split
  · split
    · exact h
    · dsimp only
      split
      · exact h
      · intro p hp
        rcases List.mem_append.mp hp with hp | hp
        · exact h p hp
        · rw [List.mem_singleton.mp hp]; exact Txt.slice_le _ _ _
  · exact h
theorem sRun_le (x : Str) (l : List (Nat × List Nat)) : ∀ p ∈ (sRun x l).2.2, p.length ≤ x.length := by
  suffices H : ∀ (l : List (Nat × List Nat)) (st : SSt), (∀ p ∈ st.2.2, p.length ≤ x.length) → ∀ p ∈ (l.foldl (sStep x) st).2.2, p.length ≤ x.length from H l _ fun _ hp => nomatch hp
  intro l
  induction l with
  | nil => intro st h; exact h
  | cons a r ih => intro st h; exact ih _ (sStep_le x st a h)
noncomputable def stripF (x : Str) : Str :=
  let st := sRun x (gl x.cps.toList 0 false)
  Txt.join "" (if (st.1 : Int) < (x.length : Int) then st.2.2 ++ [Txt.slice x (some (st.1 : Int)) none] else st.2.2)
theorem sum_le (l : List Nat) (k : Nat) (h : ∀ p ∈ l, p ≤ k) : l.sum ≤ l.length * k := by
  induction l with
  | nil => simp
  | cons a r ih =>
    have := h a (List.mem_cons_self ..)
    have := ih fun p hp => h p (List.mem_cons_of_mem _ hp)
    rw [List.sum_cons, List.length_cons, Nat.add_mul]; omega
theorem join_J {prog : Program} {w : World} {A : Around} {E : Value → Shared → Prop} {s : Shared} {Q : Value → Shared → Prop} {h₀ : Heap} {L res : Addr} {vs : List (Str × Tok)} {n : Nat} {news : List (Addr × Obj)} {t : Tok} (N : News h₀ L s.heap ((res, listOf (vs.map fun p => Value.str p.1 p.2).toArray n) :: news))
    (hb : ∀ p ∈ vs.map (·.1), p.length ≤ 500) (hl : vs.length ≤ 502) (hq : ∀ t' k, Q (.str (Txt.join "" (vs.map (·.1))) t') { s with toks := k }) :
    wpAny (model prog w) A (call (.builtin "str.join") [.str "" t, .ref res]) Q E s := by
  refine SC.join (l := vs) ⟨_, (N _ (List.mem_cons_self ..)).1, rfl, n, rfl⟩ rfl (joinOk_of_weight ?_ (by decide +kernel)) hq
  have := sum_le ((vs.map (·.1)).map (·.length)) 500 (by
    intro p hp
    obtain ⟨q, hq, rfl⟩ := List.mem_map.mp hp
    exact hb q hq)
  simp only [List.length_map] at this ⊢
  omega
theorem join_J2 {prog : Program} {w : World} {A : Around} {E : Value → Shared → Prop} {s : Shared} {Q : Value → Shared → Prop} {h₀ : Heap} {L res : Addr} {vs : List (Str × Tok)} {y : Str} {u : Tok} {n : Nat} {news : List (Addr × Obj)} {t : Tok} (N : News h₀ L s.heap ((res, listOf ((vs.map fun p => Value.str p.1 p.2).toArray.push (.str y u)) n) :: news))
    (hb : ∀ p ∈ vs.map (·.1), p.length ≤ 500) (hy : y.length ≤ 500) (hl : vs.length ≤ 501) (hq : ∀ t' k, Q (.str (Txt.join "" (vs.map (·.1) ++ [y])) t') { s with toks := k }) :
    wpAny (model prog w) A (call (.builtin "str.join") [.str "" t, .ref res]) Q E s := by
  have e : (vs.map fun p => Value.str p.1 p.2).toArray.push (.str y u) = ((vs ++ [(y, u)]).map fun p => Value.str p.1 p.2).toArray := by
    rw [List.map_append, List.map_singleton, List.push_toArray]
  rw [e] at N
  refine join_J N ?_ (by rw [List.length_append]; exact Nat.succ_le_succ hl) (by rw [List.map_append]; exact hq)
  intro p hp
  rw [List.map_append] at hp
  rcases List.mem_append.mp hp with hp | hp
  · exact hb p hp
  · rw [List.mem_singleton.mp hp]; exact hy
theorem noLimit_of {mean : ExcName → Option Value} {mg mb : Str → Option Value} {h : Heap} (T : Top hd.view_39 (looseW hd.view_39 []) mean mg mb h) : h.NoLimit := T.nolimit
theorem mg_enum {mean : ExcName → Option Value} {mg mb : Str → Option Value} {h : Heap} (T : Top hd.view_39 (looseW hd.view_39 []) mean mg mb h) : mg "enumerate" = none :=
  T.free "enumerate" (by decide +kernel) (by decide +kernel) (by decide +kernel) (by decide +kernel) (by decide +kernel)
theorem mb_enum {mean : ExcName → Option Value} {mg mb : Str → Option Value} {h : Heap} (T : Top hd.view_39 (looseW hd.view_39 []) mean mg mb h) : mb "enumerate" = some (.type "enumerate") :=
  (T.builtins "enumerate" (by decide +kernel)).trans (by decide +kernel)

theorem gl_length : ∀ (l : List Nat) (i : Nat) (e : Bool), (gl l i e).length ≤ l.length + 1
  | [], _, true => by simp [gl]
  | [], _, false => by simp [gl]
  | c :: r, i, true => by simpa [gl] using gl_length r (i + 1) false
  | c :: r, i, false => by
    by_cases h : c = 92
    · simpa [gl, h] using Nat.le_succ_of_le (gl_length r (i + 1) true)
    · simpa [gl, h] using gl_length r (i + 1) false
local macro_rules | `(tactic| walk_at "exec For") => `(tactic| (k_here; k_dflt (refine wpAny_For ?_)))
local macro_rules | `(tactic| walk_at "call ref") => `(tactic| (k_here; (rename Fr _ _ _ _ => Fl); (rename News _ _ _ _ => Nl); (rename Heap.In _ _ => Xl); (rename Top _ _ _ _ _ _ => Tl); k_dflt (refine call_iterK (by assumption) (by assumption) (by assumption) Fl Nl ?_); intro C a oC oA h' tk hne hoA hns hap F' N'))
local macro_rules | `(tactic| walk_at "call builtin:list.append") => `(tactic| (k_here; (rename Fr _ _ _ _ => Fa); (rename News _ _ _ _ => Na); k_dflt (refine append_J Fa Na (by assumption) (by assumption) (by assumption) ?_); intro h' F' N'; clear Fa Na))
local macro_rules | `(tactic| walk_at "call builtin:str.join") => `(tactic| (k_here; (rename News _ _ _ _ => Nj); k_dflt (first | (refine join_J2 Nj (by assumption) (by exact Nat.le_trans (Txt.slice_le _ _ _) (by assumption)) (by assumption) ?_; intro t' k') | (refine join_J Nj (by assumption) (by exact Nat.le_succ_of_le (by assumption)) ?_; intro t' k'))))
/-- what the strip's call gives: a text, and one generator more, that is done -/
noncomputable abbrev StripRet (v : Str) (news : List (Addr × Obj)) (h₀ : Heap) (L : Addr) (m : Str → Option Value) (s : Shared) (Q : Value → Shared → Prop) : Prop :=
  ∀ t h' tk', Fr h₀ L h' m → News h₀ L h' news → Q (.str v t) { s with heap := h', gens := s.gens.push .finished, toks := tk' }
theorem strip_no {w : World} {mean : ExcName → Option Value} {mg mb : Str → Option Value} : ∀ news (x : Str) (tx : Tok),
   x.length ≤ 500 → (Builtin.Str.occurrences x "\"" 0 x.length 1).isEmpty = true → Callee w mean mg mb 42 news True [.str x tx] (StrRet x news) := by
  intro news x tx hx hno
  dsimp only [Callee, StrRet]
  k_fill
  intros
  rename_i hret
  refine wpAny_call ?_
  k_dflt cell_enter
  rename Fr _ _ _ _ => F0
  replace F0 := fr_lookup (l' := [((("addr" : Str)), Value.str x tx)]) F0 (by rfl)
  k_steps
  · rename Fr _ _ _ _ => Fz
    rename News _ _ _ _ => Nz
    exact hret _ _ _ Fz (cb_drop Nz (by kcj_all))
theorem strip_q {w : World} {mean : ExcName → Option Value} {mg mb : Str → Option Value} : ∀ news (x : Str) (tx : Tok),
   x.length ≤ 500 → x.cps.all (· < 128) = true → escEnd x.cps.toList false = false → (Builtin.Str.occurrences x "\"" 0 x.length 1).isEmpty = false → Callee w mean mg mb 42 news True [.str x tx] (StripRet (stripF x) news) := by
  intro news x tx hx hasc hesc hyes
  dsimp only [Callee, StripRet]
  k_fill
  intros
  rename_i hret
  refine wpAny_call ?_
  k_dflt cell_enter
  rename Fr _ _ _ _ => F0
  replace F0 := fr_lookup (l' := [((("addr" : Str)), Value.str x tx)]) F0 (by rfl)
  k_steps
  · rename_i res _ lt1 _ Fl Nl
    have Tl := ‹Top _ _ _ _ _ _›
    have Xl := ‹Frag.In _ _›
    have hroom : _ + 1 < recursionLimit := ‹_ + 1 < recursionLimit›
    refine call_iterK (Xl.keeps Fl.keep) (Tl.nolimit.keeps Fl.keep) (by exact hroom) Fl Nl ?_
    intro C a oC oA h' tk hne hoA hns hap F' N'
    refine gen_for (SJ x tx res (gl x.cps.toList 0 false)) rfl Tl.nolimit (by exact hroom) Tl.g Tl.b (mg_enum Tl) (mb_enum Tl) hasc hesc rfl rfl hne hoA hns F' N' hap (fun p hp => Nat.ne_of_lt (lt1 p hp)) ?j0 ?turn ?done
    case j0 =>
      exact SJ_start _ _ _ _ _
    case turn =>
      clear F' N' hap hne hoA hns Nl Fl
      rintro j p txt T t1 t2 h tk gs own m₁ o₁ hp ⟨ts, to, u1, u2, n, rfl, vs, rfl, hvs, hlen⟩ F N hT hk
      generalize hst : sRun x ((gl x.cps.toList 0 false).take j) = st at F hvs
      obtain ⟨start, opn, parts⟩ := st
      have hnx : sRun x ((gl x.cps.toList 0 false).take (j + 1)) = sStep x (start, opn, parts) (p, txt) := by
        rw [List.take_add_one, hp, ← hst]
        unfold sRun
        rw [List.foldl_append]; rfl
      refine assign_Tuple_tuple rfl ⟨_, (N _ (List.mem_cons_self ..)).1, rfl, _, rfl⟩ (by rfl) (by rfl) fun h₃ hk₃ => ?_
      have ex₃ : ∀ b o, h.get? b = some o → h₃.get? b = some o := fun b o hb => hk₃ b o (Nat.ne_of_lt (Heap.lt_size hb)) hb
      have F₃ := Fr.after F ex₃
      have N₃ : News _ _ h₃ _ := fun q hq => ⟨ex₃ _ _ (N q hq).1, (N q hq).2⟩
      clear F N hk₃ ex₃
      have hsz : (vs.map fun p => Value.str p.1 p.2).toArray.size ≤ sizeLine := by
        rw [List.size_toArray, List.length_map, sizeLine_eq]
        have h1 := gl_length x.cps.toList 0 false
        have h2 : j < (gl x.cps.toList 0 false).length := by
          rcases Nat.lt_or_ge j (gl x.cps.toList 0 false).length with q | q
          · exact q
          · rw [List.getElem?_eq_none q] at hp; cases hp
        have h3 : x.cps.toList.length = x.length := Array.length_toList
        omega
      replace hvs : vs.map (·.1) = parts := hvs
      subst hvs
      cases opn with
      | none =>
        delta sNames at F₃; dsimp only [optV] at F₃
        k_steps
        all_goals (rename Fr _ _ _ _ => Fz; rename News _ _ _ _ => Nz)
        · rename_i h34 _
          refine gp_end Fz Nz ⟨ts, t1, some (.int p t1), some (.str ⟨txt.toArray⟩ t2), n, ?_, vs, rfl, ?_, Nat.le_succ_of_le hlen⟩
          · rw [hnx, sStep, if_pos (eq34 (by assumption))]
            refine six rfl rfl rfl rfl rfl rfl fun y a b c d e f => ?_
            simp only [sNames, if_neg a, if_neg b, if_neg c, if_neg d, if_neg e, if_neg f]
          · rw [hnx, sStep, if_pos (eq34 (by assumption))]
        · refine gp_end Fz Nz ⟨ts, 0, some (.int p t1), some (.str ⟨txt.toArray⟩ t2), n, ?_, vs, rfl, ?_, Nat.le_succ_of_le hlen⟩
          · rw [hnx, sStep, if_neg (ne34 (by assumption))]
            refine six rfl rfl rfl rfl rfl rfl fun y a b c d e f => ?_
            simp only [sNames, if_neg a, if_neg b, if_neg c, if_neg d, if_neg e, if_neg f]
          · rw [hnx, sStep, if_neg (ne34 (by assumption))]
      | some o =>
        delta sNames at F₃; dsimp only [optV] at F₃
        k_steps
        all_goals (rename Fr _ _ _ _ => Fz; rename News _ _ _ _ => Nz)
        · have hso : start ≠ o := fun q => absurd (congrArg Int.ofNat q) (by assumption)
          refine gp_push (st' := (p + 1, none, vs.map (·.1) ++ [Txt.slice x (some (start : Int)) (some (o : Int))])) (to := 0) Fz Nz rfl rfl rfl rfl rfl rfl (fun y a b c d e f => ?_) ?_ rfl hlen
          · simp only [if_neg a, if_neg b, if_neg c, if_neg d, if_neg e, if_neg f]
          · rw [hnx, sStep, if_pos (eq34 (by assumption))]
            dsimp only
            rw [if_neg hso]
        · have hso : start = o := Int.ofNat.inj (by assumption)
          refine gp_at (st' := (p + 1, none, vs.map (·.1))) (to := 0) Fz Nz rfl rfl rfl rfl rfl rfl (fun y a b c d e f => ?_) ?_ rfl (Nat.le_succ_of_le hlen)
          · simp only [if_neg a, if_neg b, if_neg c, if_neg d, if_neg e, if_neg f]
          · rw [hnx, sStep, if_pos (eq34 (by assumption))]
            dsimp only
            rw [if_pos hso]
        · refine gp_end Fz Nz ⟨ts, to, some (.int p t1), some (.str ⟨txt.toArray⟩ t2), n, ?_, vs, rfl, ?_, Nat.le_succ_of_le hlen⟩
          · rw [hnx, sStep, if_neg (ne34 (by assumption))]
            refine six rfl rfl rfl rfl rfl rfl fun y a b c d e f => ?_
            simp only [sNames, if_neg a, if_neg b, if_neg c, if_neg d, if_neg e, if_neg f]
          · rw [hnx, sStep, if_neg (ne34 (by assumption))]
    case done =>
      clear F' N' hap hne hoA hns Nl Fl
      rintro m₁ o₁ h tk ⟨ts, to, u1, u2, n, rfl, vs, rfl, hvs, hlen⟩ F N
      rw [List.take_length] at F hvs
      generalize hst : sRun x (gl x.cps.toList 0 false) = st at F hvs
      have hb : ∀ p ∈ st.2.2, p.length ≤ 500 := fun p hp => Nat.le_trans (sRun_le x _ p (hst ▸ hp)) hx
      obtain ⟨start, opn, parts⟩ := st
      replace hvs : vs.map (·.1) = parts := hvs
      subst hvs
      have hl5 : vs.length ≤ 501 := by
        have h1 := gl_length x.cps.toList 0 false
        have h3 : x.cps.toList.length = x.length := Array.length_toList
        omega
      have hsz : (vs.map fun p => Value.str p.1 p.2).toArray.size ≤ sizeLine := by
        rw [List.size_toArray, List.length_map, sizeLine_eq]
        omega
      delta sNames at F; dsimp only at F
      dsimp only
      dsimp only at hb
      k_steps
      · rename Fr _ _ _ _ => Fz
        rename News _ _ _ _ => Nz
        have e : Txt.join "" (vs.map (·.1) ++ [Txt.slice x (some (start : Int)) none]) = stripF x := by
          unfold stripF
          rw [hst]
          dsimp only
          rw [if_pos (by assumption)]
        rw [e]
        exact hret _ _ _ Fz (cb_drop Nz (by kcj_all))
      · rename Fr _ _ _ _ => Fz
        rename News _ _ _ _ => Nz
        have e : Txt.join "" (vs.map (·.1)) = stripF x := by
          unfold stripF
          rw [hst]
          dsimp only
          rw [if_neg (by assumption)]
        rw [e]
        exact hret _ _ _ Fz (cb_drop Nz (by kcj_all))
end Mine
end
theorem Mine.rest_G7 {prog : PySem.Program} {w : PySem.World} {A : PySem.Around} {E : PySem.Value → PySem.Shared → Prop} {s : PySem.Shared} {env : PySem.Env} : PySem.wpAny (PySem.model prog w) A (PySem.execs [] env) (fun _ _ => True) E s := by
  w_top off
  first | (walk1; trivial) | exact PySem.wpAny_execs_nil trivial
section
open PySem PySem.W PyProof.Rows
set_option Elab.async false
set_option maxRecDepth 100000
set_option maxHeartbeats 8000000
set_option linter.unusedVariables false
set_option linter.unusedSimpArgs false
namespace Mine
/-- a mark at which the walk halts -/
noncomputable def Stop (p : Prop) : Prop := p
theorem stop_it {p : Prop} (h : Stop p) : p := h

section
variable {prog : Program} {w : World} {A : Around} {h₀ : Heap} {L : Addr} {m : Str → Option Value} {env : Env} {elt : Expr} {x : Str} {scope : Scope} {cl : List (Str × Addr)} {s : Shared} {S : List (Addr × Obj) → Prop} {P : Nat → Value → Prop} {Fin : List Value → List (Addr × Obj) → Prop} {news : List (Addr × Obj)}
/-- the turns of a comprehension, the ledger stays, each item told by G -/
theorem my_rest {n : Nat} (G : Nat → Value → Prop)
    (turn : ∀ i v I oI C oC D m₂ ys h tk (E' : Value → Shared → Prop), i < n → P i v → LCg.NsObj oC m₂ → m₂ x = some v → Fr h₀ L h m → News h₀ L h ((I, oI) :: (C, oC) :: (D, LCg.lst ys) :: news) → LCg.Off3 I C D news → ((@Ne Nat I C) ∧ (@Ne Nat I D) ∧ (@Ne Nat C D)) →
      wpAny (model prog w) A (eval elt (compEnvC scope cl C env)) (LCg.CompEnd h₀ L m { s with heap := h, toks := tk } I oI C oC D (LCg.lst ys) S (fun y news' => news' = news ∧ G i y)) E' { s with heap := h, toks := tk })
    (fin : ∀ ys : List Value, ys.length = n → (∀ i y, ys[i]? = some y → G i y) → Fin ys news) : LCg.CompRest prog w A h₀ L m env elt x scope cl s S P Fin n 0 [] news := by
  have key : ∀ (j i : Nat) (ys : List Value), i + j = n → ys.length = i → (∀ i y, ys[i]? = some y → G i y) → LCg.CompRest prog w A h₀ L m env elt x scope cl s S P Fin j i ys news := by
    intro j
    induction j with
    | zero =>
      intro i ys hi hl hy
      exact LCg.CompRest.zero (fin ys (by omega) hy)
    | succ j ih =>
      intro i ys hi hl hy
      refine LCg.CompRest.succ ?_
      intro v I oI C oC D m₂ h tk E' hv hC hx F N off ne
      refine wpAny_mono (turn i v I oI C oC D m₂ ys h tk E' (by omega) hv hC hx F N off ne) (fun y s₂ hq => ?_) fun _ _ e => e
      obtain ⟨h', tk', nw, e, F', N', off', hS, hn, hy'⟩ := hq
      rw [hn] at N' off' hS
      refine ⟨h', tk', news, e, F', N', off', hS, ih (i + 1) _ (by omega) (by rw [List.length_append]; simp [hl]) ?_⟩
      intro k z hk
      rcases Nat.lt_or_ge k ys.length with q | q
      · rw [List.getElem?_append_left q] at hk; exact hy k z hk
      · rw [List.getElem?_append_right q] at hk
        have : k - ys.length = 0 := by
          rcases Nat.eq_zero_or_pos (k - ys.length) with e0 | e0
          · exact e0
          · rw [List.getElem?_eq_none (by rw [List.length_singleton]; exact e0)] at hk; cases hk
        rw [this] at hk
        have ek : k = i := by omega
        rw [ek]
        cases hk
        exact hy'
  exact key n 0 [] (by omega) rfl fun i y h => by simp at h
end
section
variable {prog : Program} {w : World} {A : Around} {h₀ : Heap} {L : Addr} {m : Str → Option Value} {env : Env} {ct elt : Expr} {x : Str} {scope : Scope} {cl : List (Str × Addr)} {s : Shared} {S : List (Addr × Obj) → Prop} {P : Nat → Value → Prop} {Fin : List Value → List (Addr × Obj) → Prop} {news : List (Addr × Obj)}
/-- the turns of a comprehension with a test: how many pass -/
theorem my_restT {n : Nat} (pz : Nat → Bool)
    (turn : ∀ i v I oI C oC D m₂ ys h tk (E' : Value → Shared → Prop), i < n → P i v → LCg.NsObj oC m₂ → m₂ x = some v → Fr h₀ L h m → News h₀ L h ((I, oI) :: (C, oC) :: (D, LCg.lst ys) :: news) → LCg.Off3 I C D news → ((@Ne Nat I C) ∧ (@Ne Nat I D) ∧ (@Ne Nat C D)) →
      wpAny (model prog w) A (isTrue ct (compEnvC scope cl C env) (eval ct (compEnvC scope cl C env))) (fun ok s' => if ok = true then
        wpAny (model prog w) A (eval elt (compEnvC scope cl C env)) (LCg.CompEnd h₀ L m { s with heap := h, toks := tk } I oI C oC D (LCg.lst ys) S (fun y news' => news' = news ∧ pz i = true)) E' s'
        else LCg.CompEnd h₀ L m { s with heap := h, toks := tk } I oI C oC D (LCg.lst ys) S (fun _ news' => news' = news ∧ pz i = false) Value.none s') E' { s with heap := h, toks := tk })
    (fin : ∀ ys : List Value, ys.length = ((List.range n).filter pz).length → Fin ys news) : LCt.CompRestT prog w A h₀ L m env ct elt x scope cl s S P Fin n 0 [] news := by
  have key : ∀ (j i : Nat) (ys : List Value), i + j = n → ys.length = ((List.range i).filter pz).length → LCt.CompRestT prog w A h₀ L m env ct elt x scope cl s S P Fin j i ys news := by
    intro j
    induction j with
    | zero =>
      intro i ys hi hl
      have e : i = n := by omega
      subst e
      exact LCt.CompRestT.zero (fin ys hl)
    | succ j ih =>
      intro i ys hi hl
      refine LCt.CompRestT.succ ?_
      intro v I oI C oC D m₂ h tk E' hv hC hx F N off ne
      refine wpAny_mono (turn i v I oI C oC D m₂ ys h tk E' (by omega) hv hC hx F N off ne) (fun ok s₂ hq => ?_) fun _ _ e => e
      have step : ∀ b, pz i = b → ((List.range (i + 1)).filter pz).length = ((List.range i).filter pz).length + (if b = true then 1 else 0) := by
        rintro b rfl
        rw [List.range_succ, List.filter_append, List.length_append]
        congr 1
        by_cases h : pz i = true
        · rw [List.filter_cons_of_pos h, if_pos h]; rfl
        · rw [List.filter_cons_of_neg h, if_neg h]; rfl
      cases ok with
      | true =>
        rw [if_pos rfl] at hq ⊢
        refine wpAny_mono hq (fun y s₃ hq' => ?_) fun _ _ e => e
        obtain ⟨h', tk', nw, e, F', N', off', hS, hn, hz⟩ := hq'
        rw [hn] at N' off' hS
        refine ⟨h', tk', news, e, F', N', off', hS, ih (i + 1) _ (by omega) ?_⟩
        rw [step true hz, List.length_append, hl]; rfl
      | false =>
        rw [if_neg Bool.false_ne_true] at hq ⊢
        obtain ⟨h', tk', nw, e, F', N', off', hS, hn, hz⟩ := hq
        rw [hn] at N' off' hS
        refine ⟨h', tk', news, e, F', N', off', hS, ih (i + 1) _ (by omega) ?_⟩
        rw [step false hz, hl]; rfl
  exact key n 0 [] (by omega) rfl
end
theorem filter_range {α : Type} (l : List α) (f : α → Bool) (d : α) : ((List.range l.length).filter fun i => f (l.getD i d)).length = (l.filter f).length := by
  have e : l = (List.range l.length).map fun i => l.getD i d := by
    apply List.ext_getElem
    · simp
    · intro i h1 h2
      simp [h1]
  have e2 : (l.filter f).length = (((List.range l.length).map fun i => l.getD i d).filter f).length := congrArg (fun z => (z.filter f).length) e
  rw [e2, List.filter_map, List.length_map]
  rfl
theorem len_lst {prog : Program} {w : World} {A : Around} {E : Value → Shared → Prop} {s : Shared} {Q : Value → Shared → Prop} {h₀ : Heap} {L l : Addr} {news : List (Addr × Obj)} {ys : List Value} {n : Nat}
    (N : News h₀ L s.heap news) (hm : (l, listOf ys.toArray n) ∈ news) (hb : ys.length ≤ 1000) (h : ∀ t k, Q (.int (ys.length : Int) t) { s with toks := k }) : wpAny (model prog w) A (call (.builtin "len") [.ref l]) Q E s := by
  refine PySem.Calls.call_len_list ⟨_, (N _ hm).1, rfl, n, rfl⟩ (by rw [List.size_toArray]; omega) ?_
  rw [List.size_toArray]
  exact h _ _
theorem item_at {cs : List Nat} {j : Int} {i c : Nat} (hc : cs[i]? = some c) (hj : j = i ∨ j + cs.length = i ∧ j < 0) : Txt.item ⟨cs.toArray⟩ j = ⟨#[c]⟩ ∧ -(((⟨cs.toArray⟩ : Str).length : Nat) : Int) ≤ j ∧ j < ((⟨cs.toArray⟩ : Str).length : Nat) := by
  have hl : (⟨cs.toArray⟩ : Str).length = cs.length := List.size_toArray ..
  have hi : i < cs.length := by
    rcases Nat.lt_or_ge i cs.length with q | q
    · exact q
    · rw [List.getElem?_eq_none q] at hc; cases hc
  rw [hl]
  refine ⟨?_, by omega, by omega⟩
  unfold Txt.item Txt.charAt
  rw [hl]
  have : seqIndex? j cs.length = some i := by
    unfold seqIndex?
    rcases hj with rfl | ⟨h1, h2⟩
    · simp; omega
    · simp; omega
  rw [this]
  simp [hc]

theorem lst_item {prog : Program} {w : World} {A : Around} {E : Value → Shared → Prop} {s : Shared} {Q : Value → Shared → Prop} {h₀ : Heap} {L l : Addr} {news : List (Addr × Obj)} {its : Array Value} {n : Nat} {k : Int} {tk : Tok} {v : Value} {value slice : PySem.Expr}
    (N : News h₀ L s.heap news) (hm : (l, listOf its n) ∈ news) (h0 : 0 ≤ k) (hfit : k < 2 ^ 63) (hx : its[k.toNat]? = some v) (h : Q v s)
    (hs : subscripted slice false (.ref l) (.int k tk) = operate [.ref l, .int k tk] (getItem (.ref l) (.int k tk)) := by with_unfolding_all rfl) (hg : ∀ r, letTemporaryGo value (.ref l) r = pure () := by intro _; with_unfolding_all rfl) :
    wpAny (model prog w) A (subscriptTail value slice (.ref l) (.int k tk)) Q E s :=
  have hl : s.heap.IsList l its := ⟨_, (N _ hm).1, rfl, n, rfl⟩
  subscriptTail_builtin hl.typeIs slot_list_getitem.lookup (wpAny_getItem_list hl h0 hfit hx h) hs hg
theorem lst_itemN {prog : Program} {w : World} {A : Around} {E : Value → Shared → Prop} {s : Shared} {Q : Value → Shared → Prop} {h₀ : Heap} {L l : Addr} {news : List (Addr × Obj)} {its : List Value} {n : Nat} {k : Int} {tk : Tok} {v : Value} {value slice : PySem.Expr} (q : Nat)
    (N : News h₀ L s.heap news) (hm : (l, listOf its.toArray n) ∈ news) (hk : k = (q : Int)) (hq : q < 1000) (hx : its[q]? = some v) (h : Q v s)
    (hs : subscripted slice false (.ref l) (.int k tk) = operate [.ref l, .int k tk] (getItem (.ref l) (.int k tk)) := by with_unfolding_all rfl) (hg : ∀ r, letTemporaryGo value (.ref l) r = pure () := by intro _; with_unfolding_all rfl) :
    wpAny (model prog w) A (subscriptTail value slice (.ref l) (.int k tk)) Q E s := by
  subst hk
  exact lst_item N hm (by omega) (by omega) (by simpa using hx) h hs hg
theorem item_ring {prog : Program} {w : World} {A : Around} {E : Value → Shared → Prop} {s : Shared} {Q : Value → Shared → Prop} {cs : List Nat} {j : Int} {i c : Nat} {t u : Tok} {value slice : PySem.Expr} (hc : cs[i]? = some c) (hj : j = i ∨ j + cs.length = i ∧ j < 0) (hl : cs.length ≤ 100)
    (h : Q (.str ⟨#[c]⟩ s.toks) { s with toks := s.toks + 1 })
    (hs : subscripted slice false (.str ⟨cs.toArray⟩ t) (.int j u) = operate [.str ⟨cs.toArray⟩ t, .int j u] (getItem (.str ⟨cs.toArray⟩ t) (.int j u)) := by with_unfolding_all rfl)
    (ht : ∀ r, letTemporaryGo value (.str ⟨cs.toArray⟩ t) r = pure () := by intro _; with_unfolding_all rfl) :
    wpAny (model prog w) A (subscriptTail value slice (.str ⟨cs.toArray⟩ t) (.int j u)) Q E s := by
  obtain ⟨e, h1, h2⟩ := item_at hc hj
  have hl' : (⟨cs.toArray⟩ : Str).length = cs.length := List.size_toArray ..
  refine item_str (fitsSsize_of (N := 200) (by omega) (by omega) (by decide)) h1 h2 (fun _ => ?_) hs ht
  rw [e]
  exact h

/-- as Callee, with room for calls below -/
noncomputable abbrev CalleeD (k : Nat) (w : World) (mean : ExcName → Option Value) (mg mb : Str → Option Value) (f : Addr) (news : List (Addr × Obj)) (pre : Prop) (vs : List Value)
    (Ret : Heap → Addr → (Str → Option Value) → Shared → (Value → Shared → Prop) → Prop) : Prop :=
  ∀ (dp un : Nat) (gd : Option (List Code)) (cn : Str) (cs : Scope) (a : Addr) (ccd : Value) (cl : List (Str × Addr)) (outer : List Env) (A₀ : Around) (base h₀ : Heap) (L : Addr) (m : Str → Option Value) (s : Shared) (Q E : Value → Shared → Prop),
    Below A₀ base outer h₀ → Fr h₀ L s.heap m → (hd.heap_39 w.params).In h₀ → News h₀ L s.heap news → Top hd.view_39 (looseW hd.view_39 []) mean mg mb h₀ → cs.kind = .function →
    pre → dp + k < recursionLimit → un + 8 * k < cLine → Ret h₀ L m s Q →
      wpAny (model Challenge.rw_wr0030_01.row.prog w) (ktrTop dp un gd cn cs L a ccd cl outer) (call (.ref f) vs) Q E s
theorem sp_item {w : World} {A : Around} {E : Value → Shared → Prop} {s : Shared} {Q : Value → Shared → Prop} {h₀ : Heap} {L d : Addr} {o : Obj} {n : Nat} {ts : Nat → Tok} {news : List (Addr × Obj)} {c : Nat} {tk : Tok} {value slice : PySem.Expr}
    (N : News h₀ L s.heap news) (hp : (d, o) ∈ news) (hd : o.IsDictOf (PySem.strKind Challenge.rw_wr0030_01.row.prog w) (spKV n ts)) (hc : c ∈ sgn n) (h : Q (.str (spS n c) (ts c)) { s with toks := s.toks + 1 })
    (hs : subscripted slice false (.ref d) (.str ⟨#[c]⟩ tk) = operate [.ref d, .str ⟨#[c]⟩ tk] (getItem (.ref d) (.str ⟨#[c]⟩ tk)) := by with_unfolding_all rfl) (hg : ∀ r, letTemporaryGo value (.ref d) r = pure () := by intro _; with_unfolding_all rfl) :
    wpAny (model Challenge.rw_wr0030_01.row.prog w) A (subscriptTail value slice (.ref d) (.str ⟨#[c]⟩ tk)) Q E s :=
  kda_item N hp hd (by simp [PySem.strKind, Value.isStrOf]) (sp_at ts hc) h hs hg
end Mine
end
theorem Mine.rest_R0 {prog : PySem.Program} {w : PySem.World} {A : PySem.Around} {E : PySem.Value → PySem.Shared → Prop} {s : PySem.Shared} {env : PySem.Env} : PySem.wpAny (PySem.model prog w) A (PySem.execs [] env) (fun _ _ => True) E s := by
  w_top off
  first | (walk1; trivial) | exact PySem.wpAny_execs_nil trivial
section
open PySem PySem.W PyProof.Rows
set_option Elab.async false
set_option maxRecDepth 100000
set_option maxHeartbeats 8000000
set_option linter.unusedVariables false
namespace Mine
noncomputable abbrev ellEnv (L : Addr) : Env := envOf "_ellipsis_match" (scopeAt 4) L 28 (.ref 27)
local macro_rules | `(tactic| walk_at "truthy str") => `(tactic| (k_here; k_dflt (first | (refine truthy_pos (by assumption) (by assumption) ?_; intro k) | (refine truthy_zero rfl ?_; intro k))))
local macro_rules | `(tactic| walk_at "call builtin:str.find") => `(tactic| (k_here; k_dflt (refine call_find4 ?_)))
local macro_rules | `(tactic| walk_at "eval Name") => `(tactic| (k_here; k_dflt (refine' nameX_L ?F ?v ?_ ?a ?b; (case F => k_asm); (case a => rfl); (case b => rfl); (case v => first | exact rfl | assumption); k_whole)))
local macro_rules | `(tactic| walk_at $k:str) => if ["exec For", "exec For Name Name cons nil", "exec For Name Name"].contains k.getString then `(tactic| (k_here; k_dflt (refine stop_it ?_))) else Lean.Macro.throwUnsupported
theorem ell_end {w : World} {mean : ExcName → Option Value} {mg mb : Str → Option Value} {dp un : Nat} {gd : Option (List Code)} {cn : Str} {cs : Scope} {L₀ a₀ : Addr} {ccd₀ : Value} {cl : List (Str × Addr)} {outer : List Env} {g h : Heap} {L : Addr} {ge : Array GenState} {dr : Drawn} {tk : Nat} {os : OsState} {Q : Flow → Shared → Prop} {E : Value → Shared → Prop} {base : Str → Option Value} {rest : List (Addr × Obj)} {y : Str} {ty t1 t2 : Tok} {la : Addr} {c : Nat} {l : List (Str × Tok)} {sp ep : Int}
    (F : Fr g L h base) (N : News g L h ((la, listOf (strValues l).toArray c) :: rest)) (T : Top hd.view_39 (looseW hd.view_39 []) mean mg mb g)
    (hy : base "got" = some (.str y ty)) (hw : base "ws" = some (.ref la)) (hs : base "startpos" = some (.int sp t1)) (he : base "endpos" = some (.int ep t2)) (yl : y.length ≤ 2000) (hl : ∀ p ∈ l, p.1.length ≤ 2000)
    (hE : PassesOwn (model Challenge.rw_wr0030_01.row.prog w) ((ktrTop dp un gd cn cs L₀ a₀ ccd₀ cl outer).deeper (ellEnv L)) (ellEnv L) E)
    (next : ∀ m h tk b, b = ellEnd y (l.map (·.1)) sp ep → Fr g L h m → News g L h rest → Q (.ret (.bool b)) ⟨h, ge, dr, tk, os⟩) :
    (hd.heap_39 w.params).In g → wpAny (model Challenge.rw_wr0030_01.row.prog w) ((ktrTop dp un gd cn cs L₀ a₀ ccd₀ cl outer).deeper (ellEnv L)) (execs ((bodyAt 4).drop 8) (ellEnv L)) Q E ⟨h, ge, dr, tk, os⟩ := by
  k_fill
  intro X
  unfold ellEnv at hE ⊢
  conv in (occs := *) (scopeAt 4) => all_goals whnf
  show wpAny _ _ (execs (_ :: _) _) _ _ _
  k_steps
  · exact next _ _ _ false (by unfold ellEnd; rw [if_pos (by assumption)]) F (cb_drop N fun p hp => List.mem_cons_of_mem _ hp)
  unfold Stop
  refine For_invV g (by rfl) (by rfl) ?_ (hE := hE)
  k_steps
  refine ell_for_l rfl F N (List.mem_cons_self ..) rfl rfl hy he hs ?t1 ?d1
  case t1 =>
    intro i a t sp' tsp u h' tk' own hel F' N' ha
    have hal := hl _ ha
    clear F N
    k_steps
    · rename Fr _ _ _ _ => Fz
      rename News _ _ _ _ => Nz
      exact next _ _ _ false (by unfold ellEnd; rw [if_neg (by assumption)]; exact (ell_out hel (by assumption)).symm) Fz (cb_drop Nz fun p hp => List.mem_append_right _ (List.mem_cons_of_mem _ hp))
    · rename Fr _ _ _ _ => Fz
      rename News _ _ _ _ => Nz
      refine InvEnd.intro Fz Nz (fun p hp => hp) ?_
      refine' EJ_next (t := t) (tsp' := ?eu) hel (by assumption) ?ehm
      case ehm =>
        funext z
        by_cases h1 : z = "startpos"
        · subst h1; rfl
        · by_cases h2 : z = "w"
          · subst h2; rfl
          · simp only [if_neg h1, if_neg h2]
  case d1 =>
    intro m h' tk' hel F' N'
    clear F N
    k_steps
    exact next _ _ _ true (by unfold ellEnd; rw [if_neg (by assumption)]; exact hel.symm) F' (cb_drop N' fun p hp => List.mem_cons_of_mem _ hp)
end Mine
end
theorem Mine.rest_E3 {prog : PySem.Program} {w : PySem.World} {A : PySem.Around} {E : PySem.Value → PySem.Shared → Prop} {s : PySem.Shared} {env : PySem.Env} : PySem.wpAny (PySem.model prog w) A (PySem.execs [] env) (fun _ _ => True) E s := by
  w_top off
  first | (walk1; trivial) | exact PySem.wpAny_execs_nil trivial
section
open PySem PySem.W PyProof.Rows
set_option Elab.async false
set_option maxRecDepth 100000
set_option maxHeartbeats 8000000
set_option linter.unusedVariables false
namespace Mine
local macro_rules | `(tactic| walk_at "truthy str") => `(tactic| (k_here; k_dflt (first | (refine truthy_pos (by assumption) (by assumption) ?_; intro k) | (refine truthy_zero (by assumption) ?_; intro k))))
local macro_rules | `(tactic| walk_at "eval Name") => `(tactic| (k_here; k_dflt (refine' nameX_L ?F ?v ?_ ?a ?b; (case F => k_asm); (case a => rfl); (case b => rfl); (case v => first | exact rfl | assumption); k_whole)))
local macro_rules | `(tactic| walk_at $k:str) => if ["delItem ref int", "subscriptTail Name UnaryOp ref int"].contains k.getString then `(tactic| (k_here; k_dflt (refine stop_it ?_))) else Lean.Macro.throwUnsupported
local macro_rules | `(tactic| walk_at "loadName") => `(tactic| (k_here; k_dflt (refine ldn (by assumption) (by first | exact rfl | assumption) ?_)))
local macro_rules | `(tactic| walk_at "execs cons") => `(tactic| (k_here; (with_reducible show wpAny _ _ (execs (Stmt.If (PySem.Expr.Compare _ _ _ _) _ _ _ :: _) _) _ _ _); k_dflt (refine stop_it ?_)))
theorem lst_last {prog : Program} {w : World} {A : Around} {E : Value → Shared → Prop} {s : Shared} {Q : Value → Shared → Prop} {h₀ : Heap} {L l : Addr} {news : List (Addr × Obj)} {vs : List Value} {n : Nat} {tk : Tok} {v : Value} {value slice : PySem.Expr}
    (N : News h₀ L s.heap news) (hm : (l, listOf (vs ++ [v]).toArray n) ∈ news) (h : Q v s)
    (hs : subscripted slice false (.ref l) (.int (-1) tk) = operate [.ref l, .int (-1) tk] (getItem (.ref l) (.int (-1) tk)) := by with_unfolding_all rfl) (hg : ∀ r, letTemporaryGo value (.ref l) r = pure () := by intro _; with_unfolding_all rfl) :
    wpAny (model prog w) A (subscriptTail value slice (.ref l) (.int (-1) tk)) Q E s := by
  have hl : s.heap.IsList l (vs ++ [v]).toArray := ⟨_, (N _ hm).1, rfl, n, rfl⟩
  refine subscriptTail_builtin hl.typeIs slot_list_getitem.lookup (wpAny_getItem_list_neg hl (by decide) ?_ (by decide) ?_ h) hs hg
  · rw [List.size_toArray, List.length_append, List.length_singleton]; omega
  · rw [List.size_toArray, List.length_append, List.length_singleton, show ((-1 : Int) + ((vs.length + 1 : Nat) : Int)).toNat = vs.length by omega]
    simp
theorem del_last {prog : Program} {w : World} {A : Around} {E : Value → Shared → Prop} {s : Shared} {Q : Unit → Shared → Prop} {h₀ : Heap} {L D : Addr} {m : Str → Option Value} {rest : List (Addr × Obj)} {vs : List Value} {n : Nat} {u : Tok} {v : Value}
    (F : Fr h₀ L s.heap m) (N : News h₀ L s.heap ((D, listOf (vs ++ [v]).toArray n) :: rest)) (hD : ∀ p ∈ rest, p.1 ≠ D) (hn : vs.length ≤ 100) (h : ∀ h', Fr h₀ L h' m → News h₀ L h' ((D, listOf vs.toArray (n + 1)) :: rest) → Q () { s with heap := h' }) :
    wpAny (model prog w) A (delItem (.ref D) (.int (-1) u)) Q E s := by
  have e : ∀ l : List Value, ki_delL (l ++ [v]) l.length = some l := fun l => by
    induction l with
    | nil => rfl
    | cons a l ih => unfold ki_delL; rw [List.cons_append, List.length_cons]; dsimp only; rw [ih]
  refine ki_del F N rfl (k := vs.length) ?_ (e vs) (.head hD) ?_ h
  · rw [List.size_toArray, List.length_append, List.length_singleton]
    unfold seqIndex?
    simp; omega
  · rw [List.length_append, List.length_singleton, sizeLine_eq]; omega
theorem del_first {prog : Program} {w : World} {A : Around} {E : Value → Shared → Prop} {s : Shared} {Q : Unit → Shared → Prop} {h₀ : Heap} {L D : Addr} {m : Str → Option Value} {rest : List (Addr × Obj)} {vs : List Value} {n : Nat} {u : Tok} {v : Value}
    (F : Fr h₀ L s.heap m) (N : News h₀ L s.heap ((D, listOf (v :: vs).toArray n) :: rest)) (hD : ∀ p ∈ rest, p.1 ≠ D) (hn : vs.length ≤ 100) (h : ∀ h', Fr h₀ L h' m → News h₀ L h' ((D, listOf vs.toArray (n + 1)) :: rest) → Q () { s with heap := h' }) :
    wpAny (model prog w) A (delItem (.ref D) (.int 0 u)) Q E s := by
  refine ki_del F N rfl (k := 0) ?_ rfl (.head hD) ?_ h
  · rw [List.size_toArray, List.length_cons]
    unfold seqIndex?
    simp
  · rw [List.length_cons, sizeLine_eq]; omega
theorem ellTail_snoc {y z : Str} {r : List Str} {sp : Int} : ellTail y (r ++ [z]) sp = if z.length = 0 then ellEnd y (r ++ [z]) sp y.length else if Txt.endswith y z then ellEnd y r sp (y.length - z.length) else false := by
  unfold ellTail
  rw [List.getLast?_concat, List.dropLast_concat]
theorem ell_tail {w : World} {mean : ExcName → Option Value} {mg mb : Str → Option Value} {dp un : Nat} {gd : Option (List Code)} {cn : Str} {cs : Scope} {L₀ a₀ : Addr} {ccd₀ : Value} {cl : List (Str × Addr)} {outer : List Env} {g h : Heap} {L : Addr} {ge : Array GenState} {dr : Drawn} {tk : Nat} {os : OsState} {Q : Flow → Shared → Prop} {E : Value → Shared → Prop} {base : Str → Option Value} {rest : List (Addr × Obj)} {y : Str} {ty t1 t2 : Tok} {la : Addr} {c : Nat} {l : List (Str × Tok)} {z : Str} {tz : Tok} {sp : Int}
    (F : Fr g L h base) (N : News g L h ((la, listOf (strValues (l ++ [(z, tz)])).toArray c) :: rest)) (T : Top hd.view_39 (looseW hd.view_39 []) mean mg mb g)
    (hy : base "got" = some (.str y ty)) (hw : base "ws" = some (.ref la)) (hs : base "startpos" = some (.int sp t1)) (he : base "endpos" = some (.int y.length t2)) (yl : y.length ≤ 2000) (hl : ∀ p ∈ l ++ [(z, tz)], p.1.length ≤ 2000) (hn : l.length ≤ 100) (hla : ∀ p ∈ rest, p.1 ≠ la)
    (hE : PassesOwn (model Challenge.rw_wr0030_01.row.prog w) ((ktrTop dp un gd cn cs L₀ a₀ ccd₀ cl outer).deeper (ellEnv L)) (ellEnv L) E)
    (next : ∀ m h tk b, b = ellTail y ((l ++ [(z, tz)]).map (·.1)) sp → Fr g L h m → News g L h rest → Q (.ret (.bool b)) ⟨h, ge, dr, tk, os⟩) :
    (hd.heap_39 w.params).In g → wpAny (model Challenge.rw_wr0030_01.row.prog w) ((ktrTop dp un gd cn cs L₀ a₀ ccd₀ cl outer).deeper (ellEnv L)) (execs ((bodyAt 4).drop 6) (ellEnv L)) Q E ⟨h, ge, dr, tk, os⟩ := by
  k_fill
  intro X
  have ev : strValues (l ++ [(z, tz)]) = strValues l ++ [Value.str z tz] := by unfold strValues; rw [List.map_append]; rfl
  have hvl : (strValues l).length ≤ 100 := by unfold strValues; rw [List.length_map]; omega
  rw [ev] at N
  have hz : z.length ≤ 2000 := hl (z, tz) (List.mem_append_right _ (List.mem_cons_self ..))
  unfold ellEnv at hE ⊢
  conv in (occs := *) (scopeAt 4) => all_goals whnf
  show wpAny _ _ (execs (_ :: _) _) _ _ _
  have et := @ellTail_snoc y z (l.map (·.1)) sp
  rw [show l.map (·.1) ++ [z] = (l ++ [(z, tz)]).map (·.1) by rw [List.map_append]; rfl] at et
  rcases Nat.eq_zero_or_pos z.length with hz0 | hz0
  · rw [if_pos hz0] at et
    k_steps
    unfold Stop
    refine lst_last N (List.mem_cons_self ..) ?_
    k_steps
    unfold Stop
    rename Fr _ _ _ _ => Fz
    rename News _ _ _ _ => Nz
    rw [← ev] at Nz
    refine ell_end (l := l ++ [(z, tz)]) Fz Nz T hy hw hs he yl hl hE (fun m h tk b hb F N => next m h tk b (hb.trans et.symm) F N) X
  · rw [if_neg (Nat.ne_of_gt hz0)] at et
    k_steps
    unfold Stop
    refine lst_last N (List.mem_cons_self ..) ?_
    k_steps
    · rename Fr _ _ _ _ => Fz
      rename News _ _ _ _ => Nz
      unfold Stop
      refine del_last Fz Nz hla hvl ?_
      clear Fz Nz
      intro h' Fz Nz
      k_steps
      unfold Stop
      refine ell_end (l := l) Fz Nz T hy hw hs rfl yl (fun p hp => hl p (List.mem_append_left _ hp)) hE (fun m h tk b hb F N => next m h tk b (hb.trans (Eq.trans (if_pos (by assumption)).symm et.symm)) F N) X
    · rename Fr _ _ _ _ => Fz
      rename News _ _ _ _ => Nz
      exact next _ _ _ false (Eq.trans (if_neg (fun q => ff' (by assumption) q)).symm et.symm) Fz (cb_drop Nz fun p hp => List.mem_cons_of_mem _ hp)
end Mine
end
theorem Mine.rest_E4 {prog : PySem.Program} {w : PySem.World} {A : PySem.Around} {E : PySem.Value → PySem.Shared → Prop} {s : PySem.Shared} {env : PySem.Env} : PySem.wpAny (PySem.model prog w) A (PySem.execs [] env) (fun _ _ => True) E s := by
  w_top off
  first | (walk1; trivial) | exact PySem.wpAny_execs_nil trivial
section
open PySem PySem.W PyProof.Rows
set_option Elab.async false
set_option maxRecDepth 100000
set_option maxHeartbeats 8000000
set_option linter.unusedVariables false
namespace Mine
local macro_rules | `(tactic| walk_at "truthy str") => `(tactic| (k_here; k_dflt (first | (refine truthy_pos (by assumption) (by assumption) ?_; intro k) | (refine truthy_zero (by assumption) ?_; intro k))))
local macro_rules | `(tactic| walk_at $k:str) => if ["delItem ref int", "subscriptTail Name Constant ref int", "call builtin:str.split"].contains k.getString then `(tactic| (k_here; k_dflt (refine stop_it ?_))) else Lean.Macro.throwUnsupported
local macro_rules | `(tactic| walk_at "call builtin:len") => `(tactic| (k_here; (with_reducible show wpAny _ _ (call _ [Value.ref _]) _ _ _); k_dflt (refine stop_it ?_)))
local macro_rules | `(tactic| walk_at "execs cons") => `(tactic| (k_here; (with_reducible show wpAny _ _ (execs (Stmt.Assign _ (PySem.Expr.Subscript _ (PySem.Expr.UnaryOp _ _ _) _) _ :: _) _) _ _ _); k_dflt (refine stop_it ?_)))
theorem ell_any {w : World} {mean : ExcName → Option Value} {mg mb : Str → Option Value} : ∀ news (x : Str) (tx : Tok) (y : Str) (ty : Tok) (ps : List Str),
   x.length ≤ 2000 → y.length ≤ 2000 → Txt.split x "..." = ps → (Builtin.Str.occurrences x "..." 0 x.length 1).isEmpty = false → (∀ p ∈ ps, p.length ≤ 2000) → 2 ≤ ps.length → ps.length ≤ 50 →
   Callee w mean mg mb 28 news True [.str x tx, .str y ty] (BoolRet (ellF ps y) news) := by
  intro news x tx y ty ps px py psp poc pps p2 p50
  dsimp only [Callee, BoolRet]
  k_fill
  intros
  rename_i hret
  refine wpAny_call ?_
  k_dflt cell_enter
  rename Fr _ _ _ _ => F0
  replace F0 := fr_lk (l' := [((("got" : Str)), Value.str y ty), ((("want" : Str)), Value.str x tx)]) F0 (by rfl)
  refine gen_tk ?_
  intro tk0
  k_steps
  unfold Stop
  rename Fr _ _ _ _ => Fz
  rename News _ _ _ _ => Nz
  refine split_parts Fz Nz (by assumption) (by assumption) (by decide +kernel) ?_
  intro D l h' k el Fa Na hD
  have Nb : News _ _ h' ((D, listOf (strValues l).toArray 0) :: news) := Na
  clear Na
  have hll : l.length = ps.length := by rw [← el, List.length_map]
  have hlv : (strValues l).length = ps.length := by unfold strValues; rw [List.length_map]; exact hll
  k_steps
  unfold Stop
  rename Fr _ _ _ _ => Fz
  rename News _ _ _ _ => Nz
  refine len_lst Nz (List.mem_cons_self ..) (by omega) ?_
  intro tl kl
  k_steps
  unfold Stop
  rename Fr _ _ _ _ => Fz
  rename News _ _ _ _ => Nz
  obtain ⟨⟨a, ta⟩, l2, ⟨z, tz⟩, rfl⟩ : ∃ p r q, l = p :: (r ++ [q]) := by
    cases l with
    | nil => rw [← hll] at p2; exact absurd p2 (by decide)
    | cons p r =>
      rcases List.eq_nil_or_concat r with rfl | ⟨r', q, rfl⟩
      · rw [List.length_singleton] at hll; omega
      · exact ⟨p, r', q, by rw [List.concat_eq_append]⟩
  subst el
  refine lst_itemN 0 Nz (List.mem_cons_of_mem _ (List.mem_cons_self ..)) rfl (by decide) rfl ?_
  have Ny := cb_drop Nz (news := (D, listOf (strValues ((a, ta) :: (l2 ++ [(z, tz)]))).toArray 0) :: news) (fun p hp => List.mem_cons_of_mem _ hp)
  have hne : ∀ p ∈ news, p.1 ≠ D := fun p hp => Nat.ne_of_lt (hD p hp)
  have hal : ∀ p ∈ (a, ta) :: (l2 ++ [(z, tz)]), p.1.length ≤ 2000 := fun p hp => pps _ (List.mem_map_of_mem (f := fun q : Str × Tok => q.1) hp)
  have ha2 : a.length ≤ 2000 := hal _ (List.mem_cons_self ..)
  have hl2 : l2.length ≤ 48 := by
    rw [List.length_map, List.length_cons, List.length_append, List.length_singleton] at p50
    exact Nat.le_of_succ_le_succ (Nat.le_of_succ_le_succ p50)
  clear psp hll hlv p2
  rcases Nat.eq_zero_or_pos a.length with ha0 | ha0
  · have ef : ellF (((a, ta) :: (l2 ++ [(z, tz)])).map (·.1)) y = ellTail y (((a, ta) :: (l2 ++ [(z, tz)])).map (·.1)) 0 := by
      show (if a.length = 0 then _ else _) = _
      rw [if_pos ha0]
    k_steps
    unfold Stop
    rename Fr _ _ _ _ => Fy
    rename News _ _ _ _ => Nx
    refine ell_tail (l := (a, ta) :: l2) Fy (cb_drop Nx (by first | exact fun p hp => hp | exact fun p hp => List.mem_cons_of_mem _ hp)) (by assumption) rfl rfl rfl rfl py hal (by rw [List.length_cons]; omega) hne (by passes_own) ?_ (by assumption)
    intro m h tk b hb F N
    k_steps
    rename Fr _ _ _ _ => Fy
    rename News _ _ _ _ => Ny
    exact retB hret (hb.trans ef.symm) Fy Ny
  · have ef : ellF (((a, ta) :: (l2 ++ [(z, tz)])).map (·.1)) y = if Txt.startswith y a then ellTail y ((l2 ++ [(z, tz)]).map (·.1)) a.length else false := by
      show (if a.length = 0 then _ else _) = _
      rw [if_neg (Nat.ne_of_gt ha0)]
    k_steps
    · unfold Stop
      rename Fr _ _ _ _ => Fy
      rename News _ _ _ _ => Nx
      refine del_first Fy Nx hne (by rw [List.length_map, List.length_append, List.length_singleton]; omega) ?_
      intro h' Fu Nu
      k_steps
      unfold Stop
      rename Fr _ _ _ _ => Fy
      rename News _ _ _ _ => Nx
      rename Txt.startswith _ _ = true => hsw
      rw [if_pos hsw] at ef
      refine ell_tail (l := l2) Fy Nx (by assumption) rfl rfl rfl rfl py (fun p hp => hal p (List.mem_cons_of_mem _ hp)) (by omega) hne (by passes_own) ?_ (by assumption)
      intro m h tk b hb F N
      k_steps
      rename Fr _ _ _ _ => Fy
      rename News _ _ _ _ => Ny
      exact retB hret (hb.trans ef.symm) Fy Ny
    · rename Fr _ _ _ _ => Fy
      rename News _ _ _ _ => Nx
      rename Txt.startswith _ _ = false => hsw
      rw [if_neg (fun q => ff' hsw q)] at ef
      exact retB hret ef.symm Fy (cb_drop Nx fun p hp => List.mem_cons_of_mem _ hp)
end Mine
end
theorem Mine.rest_E5 {prog : PySem.Program} {w : PySem.World} {A : PySem.Around} {E : PySem.Value → PySem.Shared → Prop} {s : PySem.Shared} {env : PySem.Env} : PySem.wpAny (PySem.model prog w) A (PySem.execs [] env) (fun _ _ => True) E s := by
  w_top off
  first | (walk1; trivial) | exact PySem.wpAny_execs_nil trivial
section
open PySem PySem.W PyProof.Rows
set_option Elab.async false
set_option maxRecDepth 100000
set_option maxHeartbeats 8000000
set_option linter.unusedVariables false
namespace Mine
section
variable {prog : Program} {w : World} {A : Around} {E : Value → Shared → Prop} {s : Shared} {env : Env} {h₀ : Heap} {x : Str} {body : List Stmt} {Q : Flow → Shared → Prop}

/-- a loop over what is walked; one list of the ledger is written to -/
theorem loop_mut {I : Addr} {fp wr : List Addr} {n : Nat} {P : Nat → Value → Prop} {St : Nat → Heap → Prop} {m₀ : Str → Option Value} {rest : List (Addr × Obj)} {res : Addr} {o₀ : Obj}
    (W : Walks prog w A I fp wr n P St) (J : Nat → (Str → Option Value) → Obj → Prop) (hL : env.locals ∉ fp) (hw : ∀ b ∈ wr, h₀.get? b = none) (hres : res ∉ fp) (hnw : ∀ p ∈ rest, p.1 ∉ wr) (hd : ∀ p ∈ rest, p.1 ≠ res)
    (st : St 0 s.heap) (F : Fr h₀ env.locals s.heap m₀) (N : News h₀ env.locals s.heap ((res, o₀) :: rest)) (hj : J 0 m₀ o₀)
    (turn : ∀ i v m₁ o₁ h tk own, i < n → P i v → J i m₁ o₁ → Fr h₀ env.locals h (fun y => if y = x then some v else m₁ y) → News h₀ env.locals h ((res, o₁) :: (rest ++ own)) → (∀ p ∈ rest ++ own, p.1 ≠ res) →
      wpAny (model prog w) A (execs body env) (GenPost h₀ env.locals (J (i + 1)) res (rest ++ own) { s with heap := h, toks := tk }) E { s with heap := h, toks := tk })
    (done : ∀ m₁ o₁ h tk, J n m₁ o₁ → Fr h₀ env.locals h m₁ → News h₀ env.locals h ((res, o₁) :: rest) → Q .next { s with heap := h, toks := tk }) :
    LoopAtV prog w A h₀ env x body Q E (.ref I) s := by
  have off : ∀ o₁ : Obj, ∀ p ∈ (res, o₁) :: rest, p.1 ∉ wr := fun o₁ p hp => by
    rcases List.mem_cons.mp hp with rfl | hp
    · exact fun q => hres (W.sub _ q)
    · exact hnw p hp
  refine ⟨I, fp, wr, n, P, St, m₀, (res, o₀) :: rest, fun i m₁ news₁ => ∃ o₁, news₁ = (res, o₁) :: rest ∧ J i m₁ o₁, rfl, W, hL, hw, off o₀, st, F, N, ⟨o₀, rfl, hj⟩, ?_, ?_⟩
  · rintro i v m₁ news₁ s₁ own ⟨hh', tk', rfl⟩ hin hP ⟨o₁, rfl, hJ⟩ hoff hown _ _ _ F₁ N₁
    have N₂ : News h₀ env.locals hh' ((res, o₁) :: (rest ++ own)) := fun p hp => N₁ p (by
      simp only [List.mem_cons, List.mem_append] at hp ⊢
      rcases hp with hp | hp | hp <;> simp [hp])
    have hd₂ : ∀ p ∈ rest ++ own, p.1 ≠ res := fun p hp => by
      rcases List.mem_append.mp hp with hp | hp
      · exact hd p hp
      · exact fun q => hres (q ▸ hown p hp)
    refine wpAny_mono (turn i v m₁ o₁ hh' tk' own hin hP hJ F₁ N₂ hd₂) (fun f s₂ p => ?_) fun _ _ e => e
    obtain ⟨hf, h', tk, m', o', news', rfl, F', N', hk', hJ'⟩ := p
    have fin : LoopStepU h₀ env.locals wr own (fun m₂ news₂ => ∃ o₁, news₂ = (res, o₁) :: rest ∧ J (i + 1) m₂ o₁) { s with heap := hh', toks := tk' } .next { s with heap := h', toks := tk } :=
      ⟨rfl, h', tk, m', (res, o') :: rest, rfl, F', fun p hp => N' p (hk' p (by
        simp only [List.mem_cons, List.mem_append] at hp ⊢
        rcases hp with hp | hp | hp <;> simp [hp])), off o', o', rfl, hJ'⟩
    rcases hf with rfl | rfl
    · exact .next fin
    · exact .cont fin
  · rintro h' tk m' news' F' N' _ ⟨o', rfl, hJ⟩
    exact done m' o' h' tk hJ F' N'

theorem for_range_mut {a b : Int} {n : Nat} {r : Addr} {t u v : Tok} {m₀ : Str → Option Value} {rest : List (Addr × Obj)} {res : Addr} {o₀ : Obj} (J : Nat → (Str → Option Value) → Obj → Prop)
    (hh : A.handled = none) (hr : IsRange s.heap r a b 1 t u v) (hsm : Builtin.Range.small a b 1 = true) (hn : Builtin.Range.rangeSize a b 1 = (n : Int))
    (F : Fr h₀ env.locals s.heap m₀) (N : News h₀ env.locals s.heap ((res, o₀) :: rest)) (hd : ∀ p ∈ rest, p.1 ≠ res) (hj : J 0 m₀ o₀)
    (turn : ∀ i t m₁ o₁ h tk own, i < n → J i m₁ o₁ → Fr h₀ env.locals h (fun y => if y = x then some (.int (a + (i : Nat)) t) else m₁ y) → News h₀ env.locals h ((res, o₁) :: (rest ++ own)) → (∀ p ∈ rest ++ own, p.1 ≠ res) →
      wpAny (model prog w) A (execs body env) (GenPost h₀ env.locals (J (i + 1)) res (rest ++ own) { s with heap := h, toks := tk }) E { s with heap := h, toks := tk })
    (done : ∀ m₁ o₁ h tk, J n m₁ o₁ → Fr h₀ env.locals h m₁ → News h₀ env.locals h ((res, o₁) :: rest) → Q .next { s with heap := h, toks := tk }) :
    wpAny (model prog w) A (pyIter (.ref r)) (fun it s₂ => LoopAtV prog w A h₀ env x body Q E it s₂) E s := by
  refine wpAny_pyIter_range hr hsm ?_
  have W := Walks.range (prog := prog) (w := w) hh s.heap.objs.size a 1 n
  rw [hn]
  have lt : ∀ p ∈ (res, o₀) :: rest, @LT.lt Nat _ p.1 s.heap.objs.size := fun p hp => Heap.lt_size (N p hp).1
  refine loop_mut (s := { s with heap := s.heap.push { cls := .type "range_iterator", data := .fields #[rawInt a, rawInt (n : Int), rawInt 1] } }) W J ?_ ?_ ?_ ?_ hd ?_ (F.push _) (fun p hp => ⟨Heap.get?_push_of_some _ (N p hp).1, (N p hp).2⟩) hj ?_ done
  · intro hm
    exact absurd F.ns.lt (List.mem_singleton.mp hm ▸ Nat.lt_irrefl _)
  · intro b hb
    rw [List.mem_singleton.mp hb]
    exact next_is_new F
  · intro hm
    exact absurd (lt _ (List.mem_cons_self ..)) (List.mem_singleton.mp hm ▸ Nat.lt_irrefl _)
  · intro p hp hm
    exact absurd (lt p (List.mem_cons_of_mem _ hp)) (List.mem_singleton.mp hm ▸ Nat.lt_irrefl _)
  · show IsRangeIter _ _ _ _ _
    have e1 : a + ((0 : Nat) : Int) * 1 = a := by omega
    have e2 : (n : Int) - ((0 : Nat) : Int) = n := by omega
    rw [e1, e2]
    exact Heap.get?_push_size _ rfl
  · rintro i v m₁ o₁ h tk own hin ⟨t, rfl⟩
    rw [Int.mul_one]
    exact turn i t m₁ o₁ h tk own hin
theorem for_range_mutB {a b : Int} {n : Nat} {r : Addr} {t u v : Tok} {m₀ : Str → Option Value} {rest : List (Addr × Obj)} {res : Addr} {o₀ : Obj} (J : (Str → Option Value) → Nat → (Str → Option Value) → Obj → Prop)
    (hh : A.handled = none) (hr : IsRange s.heap r a b 1 t u v) (hsm : Builtin.Range.small a b 1 = true) (hn : Builtin.Range.rangeSize a b 1 = (n : Int))
    (F : Fr h₀ env.locals s.heap m₀) (N : News h₀ env.locals s.heap ((res, o₀) :: rest)) (hd : ∀ p ∈ rest, p.1 ≠ res) (hj : J m₀ 0 m₀ o₀)
    (turn : ∀ i t m₁ o₁ h tk own, i < n → J m₀ i m₁ o₁ → Fr h₀ env.locals h (fun y => if y = x then some (.int (a + (i : Nat)) t) else m₁ y) → News h₀ env.locals h ((res, o₁) :: (rest ++ own)) → (∀ p ∈ rest ++ own, p.1 ≠ res) →
      wpAny (model prog w) A (execs body env) (GenPost h₀ env.locals (J m₀ (i + 1)) res (rest ++ own) { s with heap := h, toks := tk }) E { s with heap := h, toks := tk })
    (done : ∀ m₁ o₁ h tk, J m₀ n m₁ o₁ → Fr h₀ env.locals h m₁ → News h₀ env.locals h ((res, o₁) :: rest) → Q .next { s with heap := h, toks := tk }) :
    wpAny (model prog w) A (pyIter (.ref r)) (fun it s₂ => LoopAtV prog w A h₀ env x body Q E it s₂) E s :=
  for_range_mut (J m₀) hh hr hsm hn F N hd hj turn done
end
theorem append_R {prog : Program} {w : World} {A : Around} {E : Value → Shared → Prop} {s : Shared} {res : Addr} {its : Array Value} {n : Nat} {v : Value} {keep : List (Addr × Obj)} {h₀ : Heap} {L : Addr} {m : Str → Option Value} {Q : Value → Shared → Prop}
    (F : Fr h₀ L s.heap m) (N : News h₀ L s.heap ((res, listOf its n) :: keep)) (hk : ∀ p ∈ keep, p.1 ≠ res) (hsz : its.size ≤ sizeLine)
    (h : ∀ h', Fr h₀ L h' m → News h₀ L h' ((res, listOf (its.push v) (n + 1)) :: keep) → Q .none { s with heap := h' }) :
    wpAny (model prog w) A (call (.builtin "list.append") [.ref res, v]) Q E s := by
  have z := N (res, listOf its n) (by simp)
  refine append_at (hsz := hsz) z.1 fun h' hs ho' => h h' (F.change hs z.2.1 z.2.2) ?_
  exact news_set (pre := []) N (by simp) hk hs ho'
theorem canon2 {a b : Str} {base m : Str → Option Value} (h : ∀ y, y ≠ a → y ≠ b → m y = base y) :
    ∃ u1, m = fun y => if y = a then m a else if y = b then u1 else base y := by
  refine ⟨m b, funext fun y => ?_⟩
  by_cases h1 : y = a
  · rw [if_pos h1, h1]
  by_cases h2 : y = b
  · rw [if_neg h1, if_pos h2, h2]
  rw [if_neg h1, if_neg h2]
  exact h y h1 h2
theorem canon2' {a b : Str} {base m : Str → Option Value} {v : Value} (h : ∀ y, y ≠ a → y ≠ b → m y = base y) (hv : m a = some v) :
    ∃ u1, m = fun y => if y = a then some v else if y = b then u1 else base y := by
  obtain ⟨u1, e⟩ := canon2 h
  exact ⟨u1, by rw [← hv]; exact e⟩
theorem gp_res {h₀ h' : Heap} {L : Addr} {J : (Str → Option Value) → Obj → Prop} {res : Addr} {o' : Obj} {keep news' : List (Addr × Obj)} {s : Shared} {tk : Nat} {m' : Str → Option Value} (F : Fr h₀ L h' m') (N : News h₀ L h' news') (hk : ∀ p ∈ (res, o') :: keep, p ∈ news') (hJ : J m' o') :
    GenPost h₀ L J res keep s .next { s with heap := h', toks := tk } :=
  ⟨.inl rfl, h', tk, m', o', _, rfl, F, N, hk, hJ⟩
theorem fr_eq {h₀ h : Heap} {L : Addr} {m m' : Str → Option Value} (F : Fr h₀ L h m) (e : m = m') : Fr h₀ L h m' := e ▸ F
theorem canon6 {a b c d e f : Str} {base m : Str → Option Value} (h : ∀ y, y ≠ a → y ≠ b → y ≠ c → y ≠ d → y ≠ e → y ≠ f → m y = base y) :
    ∃ u0 u1 u2 u3 u4 u5, m = fun y => if y = a then u0 else if y = b then u1 else if y = c then u2 else if y = d then u3 else if y = e then u4 else if y = f then u5 else base y := by
  refine ⟨m a, m b, m c, m d, m e, m f, funext fun y => ?_⟩
  by_cases h1 : y = a
  · rw [if_pos h1, h1]
  by_cases h2 : y = b
  · rw [if_neg h1, if_pos h2, h2]
  by_cases h3 : y = c
  · rw [if_neg h1, if_neg h2, if_pos h3, h3]
  by_cases h4 : y = d
  · rw [if_neg h1, if_neg h2, if_neg h3, if_pos h4, h4]
  by_cases h5 : y = e
  · rw [if_neg h1, if_neg h2, if_neg h3, if_neg h4, if_pos h5, h5]
  by_cases h6 : y = f
  · rw [if_neg h1, if_neg h2, if_neg h3, if_neg h4, if_neg h5, if_pos h6, h6]
  rw [if_neg h1, if_neg h2, if_neg h3, if_neg h4, if_neg h5, if_neg h6]
  exact h y h1 h2 h3 h4 h5 h6
end Mine
end
theorem Mine.rest_L1 {prog : PySem.Program} {w : PySem.World} {A : PySem.Around} {E : PySem.Value → PySem.Shared → Prop} {s : PySem.Shared} {env : PySem.Env} : PySem.wpAny (PySem.model prog w) A (PySem.execs [] env) (fun _ _ => True) E s := by
  w_top off
  first | (walk1; trivial) | exact PySem.wpAny_execs_nil trivial
section
open PySem PySem.W PyProof.Rows
set_option Elab.async false
set_option maxRecDepth 100000
namespace Mine
theorem len_of (cs : List Nat) : (⟨cs.toArray⟩ : Str).length = cs.length := List.size_toArray ..
theorem sl_from (cs : List Nat) {a : Int} {i : Nat} (ha : a = i) (h : i ≤ cs.length) : Txt.slice ⟨cs.toArray⟩ (some a) none = ⟨(cs.drop i).toArray⟩ := by
  subst ha
  rw [slice_from_eq (b := cs.length) (by omega) (by rw [len_of]; omega) (by rw [len_of])]
  have e1 : ((i : Int)).toNat = i := by omega
  have e2 : ((cs.length : Int) - (i : Int)).toNat = cs.length - i := by omega
  rw [e1, e2]
  have : (cs.drop i).take (cs.length - i) = cs.drop i := List.take_of_length_le (by rw [List.length_drop]; exact Nat.le_refl _)
  exact congrArg (fun l : List Nat => (⟨l.toArray⟩ : Str)) this
theorem sl_to (cs : List Nat) {a : Int} {j : Nat} (ha : a = j) (h : j ≤ cs.length) : Txt.slice ⟨cs.toArray⟩ none (some a) = ⟨(cs.take j).toArray⟩ := by
  subst ha
  rw [eq_of_beq (slice_closes_toL (x := ⟨cs.toArray⟩) (j := j) (by omega) (by rw [len_of]; omega))]
  have e2 : ((j : Int) - 0).toNat = j := by omega
  rw [e2]
  rfl
theorem sl_mid (cs : List Nat) {a b : Int} {i j : Nat} (ha : a = i) (hb : b = j) (hij : i ≤ j) (h : j ≤ cs.length) : Txt.slice ⟨cs.toArray⟩ (some a) (some b) = ⟨((cs.drop i).take (j - i)).toArray⟩ := by
  subst ha hb
  rw [eq_of_beq (slice_closesL (x := ⟨cs.toArray⟩) (i := i) (j := j) (by omega) (by omega) (by rw [len_of]; omega))]
  have e1 : ((i : Int)).toNat = i := by omega
  have e2 : ((j : Int) - (i : Int)).toNat = j - i := by omega
  rw [e1, e2]
theorem app_of (a b : List Nat) : (⟨a.toArray⟩ ++ ⟨b.toArray⟩ : Str) = ⟨(a ++ b).toArray⟩ := by
  show (⟨a.toArray ++ b.toArray⟩ : Str) = _
  simp
end Mine
end
theorem Mine.rest_S0 {prog : PySem.Program} {w : PySem.World} {A : PySem.Around} {E : PySem.Value → PySem.Shared → Prop} {s : PySem.Shared} {env : PySem.Env} : PySem.wpAny (PySem.model prog w) A (PySem.execs [] env) (fun _ _ => True) E s := by
  w_top off
  first | (walk1; trivial) | exact PySem.wpAny_execs_nil trivial
section
open PySem PySem.W PyProof.Rows
set_option Elab.async false
set_option maxRecDepth 100000
set_option maxHeartbeats 8000000
set_option linter.unusedVariables false
set_option linter.unusedSimpArgs false
namespace Mine

/-- the sign at turn k, from the end for k = -1 -/
noncomputable def at9 (cs : List Nat) (i : Nat) : Nat := cs.getD i 0
/-- does sign i rise above the one ahead -/
noncomputable def riseF (n : Nat) (cs : List Nat) (i : Nat) : Bool := decide (strcollF (spS n (at9 cs ((i + 8) % 9))) (spS n (at9 cs i)) < 0)
local macro_rules | `(tactic| walk_at $k:str) => if ["exec For", "exec For Name Call cons nil", "CompSrc", "CompEnd", "subscriptTail Name BinOp str int", "subscriptTail Name Name str int", "pyIter ref", "last pyIter ref", "CompSrcT", "call builtin:list.append", "subscriptTail Name BinOp ref int", "GenPost", "subscriptTail Name Constant ref int", "call builtin:len"].contains k.getString then `(tactic| (k_here; k_dflt (refine stop_it ?_))) else Lean.Macro.throwUnsupported
/-- the inner loop: the sizes, the size -/
noncomputable def szStep (bs : Nat → Bool) (st : List Nat × Nat) (k : Nat) : List Nat × Nat :=
  if 1 < st.2 + 1 ∧ bs (k % 9) = true then (st.1 ++ [st.2 + 1], 0) else (st.1, st.2 + 1)
noncomputable def szRun (bs : Nat → Bool) (turn : Nat) : Nat → List Nat × Nat
  | 0 => ([], 0)
  | j + 1 => szStep bs (szRun bs turn j) (turn + j)
noncomputable def rot (cs : List Nat) (t : Nat) : List Nat := cs.drop t ++ cs.take t
noncomputable def third (n : Nat) (w : List Nat) (i : Nat) : Str := escS n ⟨((w.drop (3 * i)).take 3).toArray⟩
/-- is the turn taken -/
noncomputable def tkOne (n : Nat) (cs : List Nat) (t : Nat) : Bool :=
  let st := szRun (riseF n cs) t 9
  decide (st.2 = 0) && decide (st.1.headD 0 % 2 = 1) &&
    (decide ((st.1.filter fun k => k % 2 == 1).length = 1) ||
      (decide (0 ≤ strcollF (third n (rot cs t) 0) (third n (rot cs t) 1)) && decide (strcollF (third n (rot cs t) 1) (third n (rot cs t) 2) < 0)))
noncomputable def takenF (n : Nat) (cs : List Nat) (t : Nat) : List (List Nat) := ((List.range t).filter (tkOne n cs)).map (rot cs)
noncomputable def TJ (n : Nat) (cs : List Nat) (base : Str → Option Value) (t : Nat) (m : Str → Option Value) (o : Obj) : Prop :=
  (∀ y : Str, y ≠ "turn" → y ≠ "word" → y ≠ "sizes" → y ≠ "size" → y ≠ "k" → y ≠ "thirds" → m y = base y) ∧
    ∃ (ws : List (List Nat × Tok)) (c : Nat), o = listOf (ws.map fun p => Value.str ⟨p.1.toArray⟩ p.2).toArray c ∧ ws.map (·.1) = takenF n cs t ∧ ws.length ≤ t
noncomputable def SzJ (bs : Nat → Bool) (turn : Nat) (base : Str → Option Value) (j : Nat) (m : Str → Option Value) (o : Obj) : Prop :=
  (∀ y : Str, y ≠ "size" → y ≠ "k" → m y = base y) ∧ (∃ t, m "size" = some (.int ((szRun bs turn j).2 : Int) t)) ∧
    ∃ (vs : List (Nat × Tok)) (c : Nat), o = listOf (vs.map fun p => Value.int (p.1 : Int) p.2).toArray c ∧ vs.map (·.1) = (szRun bs turn j).1 ∧ vs.length ≤ j
local macro_rules | `(tactic| walk_at "eval Name") => `(tactic| (k_here; k_dflt (refine' nameX_C ?N ?c ?m ?d ?_ ?a ?b ?e; (case b => rfl); (case a => rfl); (case e => rfl); (case N => k_asm); (case c => rfl); (case m => k_mem); (case d => assumption))))
local macro_rules | `(tactic| walk_at "call type:range") => `(tactic| (k_here; (with_reducible show wpAny _ _ (call (Value.type _) [Value.int _ _, Value.int _ _]) _ _ _); (rename Fr _ _ _ _ => F'); (rename News _ _ _ _ => N'); k_dflt (refine range2_rows F' N' ?_); intro h' tk' t1 t2 t3 hr' F' N' hk'))
theorem SzJ_start (bs : Nat → Bool) (turn : Nat) (base : Str → Option Value) (t : Tok) (h : base "size" = some (.int 0 t)) : SzJ bs turn base 0 base (listOf #[] 0) :=
  ⟨fun y _ _ => rfl, ⟨t, h⟩, [], 0, rfl, rfl, Nat.le_refl _⟩
theorem szRun_keep {bs : Nat → Bool} {turn j : Nat} (h : ¬ (1 < (szRun bs turn j).2 + 1 ∧ bs ((turn + j) % 9) = true)) : szRun bs turn (j + 1) = ((szRun bs turn j).1, (szRun bs turn j).2 + 1) := by
  show szStep bs (szRun bs turn j) (turn + j) = _
  unfold szStep
  rw [if_neg h]
theorem szRun_cut {bs : Nat → Bool} {turn j : Nat} (h1 : 1 < (szRun bs turn j).2 + 1) (h2 : bs ((turn + j) % 9) = true) : szRun bs turn (j + 1) = ((szRun bs turn j).1 ++ [(szRun bs turn j).2 + 1], 0) := by
  show szStep bs (szRun bs turn j) (turn + j) = _
  unfold szStep
  rw [if_pos ⟨h1, h2⟩]
theorem SzJ_keep {bs : Nat → Bool} {turn j : Nat} {base m : Str → Option Value} {vs : List (Nat × Tok)} {c : Nat} {t : Tok} (h : ¬ (1 < (szRun bs turn j).2 + 1 ∧ bs ((turn + j) % 9) = true)) (hm : ∀ y : Str, y ≠ "size" → y ≠ "k" → m y = base y)
    (hs : m "size" = some (.int (((szRun bs turn j).2 : Int) + 1) t)) (hvs : vs.map (·.1) = (szRun bs turn j).1) (hl : vs.length ≤ j) : SzJ bs turn base (j + 1) m (listOf (vs.map fun p => Value.int (p.1 : Int) p.2).toArray c) :=
  ⟨hm, ⟨t, by rw [szRun_keep h]; exact hs⟩, vs, c, rfl, by rw [szRun_keep h]; exact hvs, Nat.le_succ_of_le hl⟩
theorem SzJ_cut {bs : Nat → Bool} {turn j : Nat} {base m : Str → Option Value} {vs : List (Nat × Tok)} {c : Nat} {t tz : Tok} (h1 : 1 < (szRun bs turn j).2 + 1) (h2 : bs ((turn + j) % 9) = true) (hm : ∀ y : Str, y ≠ "size" → y ≠ "k" → m y = base y)
    (hs : m "size" = some (.int 0 tz)) (hvs : vs.map (·.1) = (szRun bs turn j).1) (hl : vs.length ≤ j) : SzJ bs turn base (j + 1) m (listOf ((vs.map fun p => Value.int (p.1 : Int) p.2).toArray.push (.int (((szRun bs turn j).2 : Int) + 1) t)) c) := by
  refine ⟨hm, ⟨tz, by rw [szRun_cut h1 h2]; exact hs⟩, vs ++ [((szRun bs turn j).2 + 1, t)], c, ?_, ?_, ?_⟩
  · rw [List.map_append, List.map_singleton, List.push_toArray]; rfl
  · rw [szRun_cut h1 h2, List.map_append, hvs]; rfl
  · rw [List.length_append]; exact Nat.succ_le_succ hl
theorem word_eq {cs : List Nat} (hr : cs.length = 9) {i : Nat} (hi : i < 9) : Txt.slice ⟨cs.toArray⟩ (some (0 + (i : Int))) none ++ Txt.slice ⟨cs.toArray⟩ none (some (0 + (i : Int))) = ⟨(rot cs i).toArray⟩ := by
  rw [sl_from cs (i := i) (by omega) (by omega), sl_to cs (j := i) (by omega) (by omega), app_of]; rfl
theorem rot_len {cs : List Nat} (hr : cs.length = 9) (i : Nat) : (rot cs i).length = 9 := by
  unfold rot
  rw [List.length_append, List.length_drop, List.length_take]; omega
theorem szRun_ne (bs : Nat → Bool) (t : Nat) : ∀ j, 0 < j → (szRun bs t j).2 = 0 → (szRun bs t j).1 ≠ []
  | 0, h, _ => absurd h (Nat.lt_irrefl _)
  | j + 1, _, h => by
    by_cases hc : 1 < (szRun bs t j).2 + 1 ∧ bs ((t + j) % 9) = true
    · rw [szRun_cut hc.1 hc.2]; simp
    · rw [szRun_keep hc] at h; simp at h
theorem takenF_succ (n : Nat) (cs : List Nat) (t : Nat) : takenF n cs (t + 1) = takenF n cs t ++ (if tkOne n cs t = true then [rot cs t] else []) := by
  unfold takenF
  rw [List.range_succ, List.filter_append, List.map_append]
  by_cases h : tkOne n cs t = true
  · rw [if_pos h, List.filter_cons_of_pos h]; rfl
  · rw [if_neg h, List.filter_cons_of_neg h]; rfl
theorem TJ_no {n : Nat} {cs : List Nat} {base m : Str → Option Value} {t c : Nat} {ws : List (List Nat × Tok)} (hm : ∀ y : Str, y ≠ "turn" → y ≠ "word" → y ≠ "sizes" → y ≠ "size" → y ≠ "k" → y ≠ "thirds" → m y = base y)
    (hws : ws.map (·.1) = takenF n cs t) (hwl : ws.length ≤ t) (h : tkOne n cs t = false) : TJ n cs base (t + 1) m (listOf (ws.map fun p => Value.str ⟨p.1.toArray⟩ p.2).toArray c) :=
  ⟨hm, ws, c, rfl, by rw [takenF_succ, h, if_neg Bool.false_ne_true, List.append_nil]; exact hws, Nat.le_succ_of_le hwl⟩
theorem TJ_yes {n : Nat} {cs : List Nat} {base m : Str → Option Value} {t c : Nat} {tw : Tok} {ws : List (List Nat × Tok)} (hm : ∀ y : Str, y ≠ "turn" → y ≠ "word" → y ≠ "sizes" → y ≠ "size" → y ≠ "k" → y ≠ "thirds" → m y = base y)
    (hws : ws.map (·.1) = takenF n cs t) (hwl : ws.length ≤ t) (h : tkOne n cs t = true) : TJ n cs base (t + 1) m (listOf ((ws.map fun p => Value.str ⟨p.1.toArray⟩ p.2).toArray.push (.str ⟨(rot cs t).toArray⟩ tw)) c) := by
  refine ⟨hm, ws ++ [(rot cs t, tw)], c, ?_, ?_, ?_⟩
  · rw [List.map_append, List.map_singleton, List.push_toArray]
  · rw [takenF_succ, if_pos h, List.map_append, hws]; rfl
  · rw [List.length_append]; exact Nat.succ_le_succ hwl
local macro_rules | `(tactic| walk_at "call ref") => `(tactic| (k_here; (with_reducible show wpAny _ _ (call (Value.ref (handA _)) [Value.str _ _]) _ _ _); k_dflt (refine' esc_k (by with_reducible assumption) _ _ _ _ _ _ _ _ _ _ _ _ _ _ _ _ _ _ _ _ ?B ?F ?X ?N ?T ?k ?zp ?d ?u ?_; (case B => k_asm); (case F => k_asm); (case X => k_asm); (case N => k_asm); (case T => k_asm); (case k => first | exact rfl | assumption); (case zp => exact Nat.le_trans (Txt.slice_le _ _ _) (by with_reducible assumption)); (case d => ktr_room); (case u => ktr_units)); intro t' h' tk' F' N'))
theorem tkOne_1 {n : Nat} {cs : List Nat} {t : Nat} (h : (szRun (riseF n cs) t 9).2 ≠ 0) : tkOne n cs t = false := by
  unfold tkOne
  simp [h]
theorem tkOne_2 {n : Nat} {cs : List Nat} {t k : Nat} {r : List Nat} (e : (szRun (riseF n cs) t 9).1 = k :: r) (h : k % 2 ≠ 1) : tkOne n cs t = false := by
  unfold tkOne
  simp [e, h]
theorem keep_hand {w : World} {n : Nat} (hn : n < 5) : keepIn (hd.heap_39 w.params) (.ref (handA n)) = true := by
  match n, hn with
  | 0, _ => rfl
  | 1, _ => rfl
  | 2, _ => rfl
  | 3, _ => rfl
  | 4, _ => rfl
local macro_rules | `(tactic| walk_at "callWith ref") => `(tactic| (k_here; (with_reducible show wpAny _ _ (callWith _ (Value.ref (handA _)) _ _ _) _ _ _); k_dflt (refine callWith_K ‹Frag.In _ _› (keep_hand (by assumption)) ?_)))
local macro_rules | `(tactic| walk_at "newList") => `(tactic| (k_here; (rename Fr _ _ _ _ => Fv); (rename News _ _ _ _ => Nv); k_dflt (refine newList_K Fv Nv ?_ (Nat.le_of_ble_eq_true rfl)); intro l' h' F' N' l1; (try k_lt l1); (try k_sweep)))
theorem tkOne_eq {n : Nat} {cs : List Nat} {t k : Nat} {r : List Nat} (hz : (szRun (riseF n cs) t 9).2 = 0) (e : (szRun (riseF n cs) t 9).1 = k :: r) (h : k % 2 = 1) :
    tkOne n cs t = (decide (((szRun (riseF n cs) t 9).1.filter fun k => k % 2 == 1).length = 1) ||
      (decide (0 ≤ strcollF (third n (rot cs t) 0) (third n (rot cs t) 1)) && decide (strcollF (third n (rot cs t) 1) (third n (rot cs t) 2) < 0))) := by
  unfold tkOne
  simp [hz, e, h]
theorem third_0 {n : Nat} {w : List Nat} (h : w.length = 9) : escS n (Txt.slice ⟨w.toArray⟩ none (some 3)) = third n w 0 := by
  rw [sl_to w (a := 3) (j := 3) rfl (by omega)]; rfl
theorem third_1 {n : Nat} {w : List Nat} (h : w.length = 9) : escS n (Txt.slice ⟨w.toArray⟩ (some 3) (some 6)) = third n w 1 := by
  rw [sl_mid w (a := 3) (b := 6) (i := 3) (j := 6) rfl rfl (by omega) (by omega)]; rfl
theorem third_2 {n : Nat} {w : List Nat} (h : w.length = 9) : escS n (Txt.slice ⟨w.toArray⟩ (some 6) none) = third n w 2 := by
  rw [sl_from w (a := 6) (i := 6) rfl (by omega)]
  unfold third
  rw [List.take_of_length_le (l := w.drop (3 * 2)) (by rw [List.length_drop]; omega)]
theorem TJ_start (n : Nat) (cs : List Nat) (base : Str → Option Value) : TJ n cs base 0 base (listOf #[] 0) := by
  refine ⟨fun y _ _ _ _ _ _ => rfl, [], 0, rfl, ?_, Nat.le_refl _⟩
  unfold takenF
  rw [List.range_zero]
  rfl
theorem allLt_mem {d : Nat} : ∀ {l : List (Addr × Obj)}, AllLt d l → ∀ p ∈ l, @LT.lt Nat _ p.1 d
  | [], _, _, h => nomatch h
  | _ :: _, x, p, h => by
    rcases List.mem_cons.mp h with rfl | h
    · exact x.1
    · exact allLt_mem x.2 p h
theorem at9_get {cs : List Nat} (h : cs.length = 9) {i : Nat} (hi : i < 9) : cs[i]? = some (at9 cs i) := by
  unfold at9
  rw [List.getD_eq_getElem?_getD, List.getElem?_eq_getElem (by omega)]
  rfl
local macro_rules | `(tactic| walk_at "subscriptTail Name Subscript ref str") => `(tactic| (k_here; k_dflt (refine' sp_item ?N ?p ?d ?c ?_; (case N => k_asm); (case p => (repeat (first | assumption | refine List.mem_cons_of_mem _ ?_))); (case d => assumption); (case c => assumption))))
local macro_rules | `(tactic| walk_at "call ref") => `(tactic| (k_here; (with_reducible show wpAny _ _ (call (Value.ref 21) [Value.str _ _, Value.str _ _]) _ _ _); k_dflt (refine' strcoll_c _ _ _ _ _ _ _ _ _ _ _ _ _ _ _ _ _ _ _ _ _ _ ?B ?F ?X ?N ?T ?k True.intro ?d ?u ?_; (case B => k_asm); (case F => k_asm); (case X => k_asm); (case N => k_asm); (case T => k_asm); (case k => first | exact rfl | assumption); (case d => ktr_room); (case u => ktr_units)); intro t' h' tk' F' N'))
noncomputable abbrev TakenRet (n : Nat) (cs : List Nat) (news : List (Addr × Obj)) (h₀ : Heap) (L : Addr) (m : Str → Option Value) (s : Shared) (Q : Value → Shared → Prop) : Prop :=
  ∀ l h' tk' (ws : List (List Nat × Tok)) (c : Nat), Fr h₀ L h' m → News h₀ L h' ((l, listOf (ws.map fun p => Value.str ⟨p.1.toArray⟩ p.2).toArray c) :: news) → ws.map (·.1) = takenF n cs 9 → Q (.ref l) { s with heap := h', toks := tk' }
theorem taken_c {w : World} {mean : ExcName → Option Value} {mg mb : Str → Option Value} (n : Nat) (hn : n < 5) : ∀ news (cs : List Nat) (tr : Tok) (d : Addr) (o : Obj) (ts : Nat → Tok),
   cs.length = 9 → (∀ c ∈ cs, c ∈ sgn n) → (d, o) ∈ news → o.IsDictOf (PySem.strKind Challenge.rw_wr0030_01.row.prog w) (spKV n ts) →
   CalleeD 3 w mean mg mb 103 news True [.str ⟨cs.toArray⟩ tr, .ref d, .ref (handA n)] (TakenRet n cs news) := by
  intro news cs tr d o ts hr hrs hd ho
  dsimp only [CalleeD, TakenRet]
  k_fill
  intros
  rename_i hret
  refine wpAny_call ?_
  k_dflt (refine' code_defC ?k1 ?k2 ?k3 ?k4 ?k5 ?kA ?kF ?kK ?k6 ?k7 ?k8 ?k9 ?kB ?kD ?_ ?c2 ?c3 ?c4; (case kA => exact rfl); (case kF => exact rfl); (case kK => assumption); (case k1 => k_asm); (case k2 => k_asm); (case k3 => k_asm); (case k4 => k_asm); (case k5 => k_asm); (case k6 => k_is); (case k7 => k_is); (case k8 => ktr_room); (case k9 => exact BindsTo.of_eq rfl); (case kB => exact rfl); (case kD => decide +kernel); (case c2 => exact rfl); (case c3 => exact rfl); (case c4 => exact rfl); k_whole; intro g' L' h' tk' cells' FG' F' N' Y' B' X' T' l1; (try k_lt l1); k_cells Y'; (try simp only [List.cons_append, List.nil_append] at N'); (try dsimp only); (try k_lift B'); (try k_fold))
  rename Fr _ _ _ _ => F0
  replace F0 := fr_eq (m' := fun y => if y = "hand" then some (.ref (handA n)) else none) F0 (by rfl)
  rename_i oS oR dS dR
  replace dR : oR.data = Data.cell (some (.str ⟨cs.toArray⟩ tr)) := dR
  replace dS : oS.data = Data.cell (some (.ref d)) := dS
  k_steps
  unfold Stop
  refine LCg.CompSrc.range (by rfl) (by k_asm) (by k_asm) (by assumption) (by decide) (n := 9) (by decide) (by decide) ?_
  intro g'
  have hel : ∀ i, i < 9 → at9 cs i ∈ sgn n := fun i hi => hrs _ (List.mem_of_getElem? (at9_get hr hi))
  refine my_rest (fun i y => y = .bool (riseF n cs i)) ?_ ?_
  · intro i v I oI C oC D m₂ ys h tk E' hi hP hC hx F N off ne
    obtain ⟨t, rfl⟩ := hP
    have hA := at9_get hr (i := (i + 8) % 9) (by omega)
    have hB := at9_get hr hi
    have hA' := hel ((i + 8) % 9) (by omega)
    have hB' := hel i hi
    k_steps
    unfold Stop
    refine item_ring hA (by omega) (by omega) ?_
    k_steps
    unfold Stop
    refine item_ring hB (by omega) (by omega) ?_
    k_steps
    unfold Stop
    rename Fr _ _ _ _ => Fz
    rename News _ _ _ _ => Nz
    exact LCg.CompEnd.intro Fz Nz _ (fun p hp => hp) off trivial ⟨rfl, rfl⟩
  · intro ys hlen hys
    have hget : ∀ q, q < 9 → ys[q]? = some (.bool (riseF n cs q)) := fun q hq => by
      have e := List.getElem?_eq_getElem (l := ys) (i := q) (by omega)
      rw [e, hys q _ e]
    k_steps
    unfold Stop
    rename Fr _ _ _ _ => Fy
    refine For_invVF Fy (by rfl) (by rfl) ?_
    k_steps
    unfold Stop
    rename Fr _ _ _ _ => Fz
    rename News _ _ _ _ => Nz
    refine for_range_mutB (n := 9) (TJ n cs) (by rfl) (by assumption) (by decide) (by decide) Fz Nz ?hd ?hj ?turn ?done
    case hd =>
      have l2 := ‹_ ∧ _ ∧ _ ∧ AllLt _ news›
      intro p hp
      simp only [List.mem_cons] at hp
      rcases hp with rfl | rfl | rfl | hp
      · exact Nat.ne_of_lt l2.1
      · exact Nat.ne_of_lt l2.2.1
      · exact Nat.ne_of_lt l2.2.2.1
      · exact Nat.ne_of_lt (allLt_mem l2.2.2.2 p hp)
    case hj => exact TJ_start _ _ _
    case turn =>
      rintro i t m₁ o₁ h tk own hi ⟨hm, ws, c, rfl, hws, hwl⟩ F N hd'
      simp only [List.cons_append] at N hd'
      obtain ⟨u0, u1, u2, u3, u4, u5, rfl⟩ := canon6 hm
      k_steps
      unfold Stop
      rename Fr _ _ _ _ => Fy
      refine For_invVF Fy (by rfl) (by rfl) ?_
      k_steps
      unfold Stop
      rename Fr _ _ _ _ => Fz
      rename News _ _ _ _ => Nz
      have l3 := ‹_ ∧ _ ∧ _ ∧ _ ∧ AllLt _ (news ++ own)›
      have Nz' := cb_drop Nz (news := ((_, listOf #[] 0) :: _)) (fun p hp => List.mem_cons_of_mem _ hp)
      refine for_range_mutB (n := 9) (SzJ (riseF n cs) i) (by rfl) (by assumption) (small_one (by omega) (by omega) (by omega) (by omega)) (by rw [rangeSize_nat]; omega) Fz Nz' ?hd2 ?hj2 ?turn2 ?done2
      case hd2 =>
        intro p hp
        simp only [List.mem_cons] at hp
        rcases hp with rfl | rfl | rfl | rfl | hp
        · exact Nat.ne_of_lt l3.1
        · exact Nat.ne_of_lt l3.2.1
        · exact Nat.ne_of_lt l3.2.2.1
        · exact Nat.ne_of_lt l3.2.2.2.1
        · exact Nat.ne_of_lt (allLt_mem l3.2.2.2.2 p hp)
      case hj2 => exact SzJ_start _ _ _ _ rfl
      case turn2 =>
        try clear l3
        try clear Nz'
        try clear Nz
        try clear Fz
        try clear Fy
        try clear F
        try clear N
        rintro j tj m₂ o₂ h₂ tk₂ own₂ hj ⟨hm₂, ⟨tsz, hsz⟩, vs, c₂, rfl, hvs, hvl⟩ F N hd₂
        simp only [List.cons_append] at N hd₂
        obtain ⟨uk, rfl⟩ := canon2' hm₂ hsz
        k_steps
        · unfold Stop
          rename Fr _ _ _ _ => Fz
          rename News _ _ _ _ => Nz
          refine lst_itemN ((i + j) % 9) Nz (by k_mem) ?_ (by omega) (hget _ (by omega)) ?_
          · rw [Int.fmod_eq_emod_of_nonneg _ (by decide)]; omega
          have h1 : 1 < (szRun (riseF n cs) i j).2 + 1 := by omega
          k_steps
          · unfold Stop
            rename Fr _ _ _ _ => Fz
            rename News _ _ _ _ => Nz
            refine append_R Fz Nz hd₂ ?_ ?_
            · rw [List.size_toArray, List.length_map, sizeLine_eq]; omega
            intro h₅ F₅ N₅
            k_steps
            unfold Stop
            rename Fr _ _ _ _ => Fz
            rename News _ _ _ _ => Nz
            refine gp_res Fz Nz (fun p hp => hp) (SzJ_cut h1 (by assumption) (fun y a b => ?_) rfl hvs hvl)
            simp only [if_neg a, if_neg b]
          · unfold Stop
            rename Fr _ _ _ _ => Fz
            rename News _ _ _ _ => Nz
            have h2 : ¬ riseF n cs ((i + j) % 9) = true := by simp [*]
            refine gp_res Fz Nz (fun p hp => hp) (SzJ_keep (fun q => h2 q.2) (fun y a b => ?_) rfl hvs hvl)
            simp only [if_neg a, if_neg b]
        · unfold Stop
          rename Fr _ _ _ _ => Fz
          rename News _ _ _ _ => Nz
          have h1 : ¬ 1 < (szRun (riseF n cs) i j).2 + 1 := by omega
          refine gp_res Fz Nz (fun p hp => hp) (SzJ_keep (fun q => h1 q.1) (fun y a b => ?_) rfl hvs hvl)
          simp only [if_neg a, if_neg b]
      case done2 =>
        try clear l3
        try clear Nz'
        try clear Nz
        try clear Fz
        try clear Fy
        try clear F
        try clear N
        rintro m₂ o₂ h₂ tk₂ ⟨hm₂, ⟨tsz, hsz⟩, vs, c₂, rfl, hvs, hvl⟩ F N
        obtain ⟨uk, rfl⟩ := canon2' hm₂ hsz
        rw [word_eq hr hi] at F
        have hwl9 : (⟨(rot cs i).toArray⟩ : Str).length ≤ 30 := by rw [len_of, rot_len hr]; decide
        k_steps
        · unfold Stop
          rename Fr _ _ _ _ => Fz
          rename News _ _ _ _ => Nz
          have hz : (szRun (riseF n cs) i 9).2 = 0 := by omega
          obtain ⟨⟨z0, tz0⟩, vs', rfl⟩ : ∃ p r, vs = p :: r := by
            cases vs with
            | nil => exact absurd hvs.symm (szRun_ne _ _ 9 (by decide) hz)
            | cons p r => exact ⟨p, r, rfl⟩
          have hz0 : (szRun (riseF n cs) i 9).1 = z0 :: vs'.map (·.1) := hvs.symm
          refine lst_itemN 0 Nz (by k_mem) rfl (by decide) rfl ?_
          k_steps
          · unfold Stop
            rename Fr _ _ _ _ => Fz
            rename News _ _ _ _ => Nz
            have hpar0 : z0 % 2 = 1 := by
              have h : Int.fmod (z0 : Int) 2 = 1 := by assumption
              rw [Int.fmod_eq_emod_of_nonneg _ (by decide)] at h
              omega
            have htk := tkOne_eq hz hz0 hpar0
            have h9r := rot_len hr i
            rw [third_0 h9r, third_1 h9r, third_2 h9r] at Nz
            refine LCt.CompSrcT.ledger (by rfl) Fz Nz (by k_mem) ?_ ?_
            · rw [List.size_toArray, List.length_map, sizeLine_eq]; omega
            intro g'
            refine my_restT (fun q => (((z0 :: vs'.map (·.1)).getD q 0) % 2 == 1)) ?_ ?_
            · intro q v I oI C oC D m₃ ys₃ h₃ tk₃ E₃ hq hv hC hx F₃ N₃ off ne
              have hv' : ∃ tv, v = .int ((((z0 :: vs'.map (·.1)).getD q 0 : Nat)) : Int) tv := by
                rw [List.getElem?_toArray, List.getElem?_map] at hv
                obtain ⟨pq, hpq, rfl⟩ := Option.map_eq_some_iff.mp hv
                refine ⟨pq.2, ?_⟩
                have e : (z0 :: vs'.map (·.1)).getD q 0 = pq.1 := by
                  have e1 : z0 :: vs'.map (·.1) = ((z0, tz0) :: vs').map (·.1) := rfl
                  rw [e1, List.getD_eq_getElem?_getD, List.getElem?_map, hpq]; rfl
                rw [e]
              obtain ⟨tv, rfl⟩ := hv'
              generalize (z0 :: vs'.map (·.1)).getD q 0 = zq at hx
              k_steps
              · unfold Stop
                rename Fr _ _ _ _ => Fw
                rename News _ _ _ _ => Nw
                refine LCg.CompEnd.intro Fw Nw _ (fun p hp => hp) off ?_ ⟨rfl, ?_⟩
                · exact .inr ⟨_, by k_mem, rfl, _, rfl⟩
                · rename_i hpar
                  rw [Int.fmod_eq_emod_of_nonneg _ (by decide)] at hpar
                  exact beq_iff_eq.mpr (by omega)
              · unfold Stop
                rename Fr _ _ _ _ => Fw
                rename News _ _ _ _ => Nw
                refine LCg.CompEnd.intro Fw Nw _ (fun p hp => hp) off ?_ ⟨rfl, ?_⟩
                · exact .inr ⟨_, by k_mem, rfl, _, rfl⟩
                · rename_i hpar
                  rw [Int.fmod_eq_emod_of_nonneg _ (by decide)] at hpar
                  exact beq_eq_false_iff_ne.mpr (by omega)
            · intro ys₃ hl₃
              k_steps
              unfold Stop
              rename News _ _ _ _ => Nw
              have hlz : ((z0, tz0) :: vs').length = (z0 :: vs'.map (·.1)).length := by rw [List.length_cons, List.length_cons, List.length_map]
              have hf3 : ys₃.length = ((szRun (riseF n cs) i 9).1.filter fun k => k % 2 == 1).length := by
                rw [hz0, ← filter_range (z0 :: vs'.map (·.1)) (fun k => k % 2 == 1) 0, hl₃, List.size_toArray, List.length_map, hlz]
              have hy9 : ys₃.length ≤ 1000 := by
                have := List.length_filter_le (fun k => k % 2 == 1) (szRun (riseF n cs) i 9).1
                rw [hz0, ← hz0] at this
                have h9 : (szRun (riseF n cs) i 9).1.length ≤ 9 := by rw [← hvs, List.length_map]; exact hvl
                omega
              refine len_lst Nw (by k_mem) hy9 ?_
              intro tl kl
              rw [hf3]
              k_steps
              · unfold Stop
                rename Fr _ _ _ _ => Fw
                rename News _ _ _ _ => Nw
                refine append_R (its := (ws.map fun p => Value.str ⟨p.1.toArray⟩ p.2).toArray) (n := c) Fw (cb_drop Nw (by first | exact fun p hp => .tail _ (.tail _ (.tail _ hp)) | exact fun p hp => .tail _ (.tail _ (.tail _ (.tail _ hp))))) hd' ?_ ?_
                · rw [List.size_toArray, List.length_map, sizeLine_eq]; omega
                intro h₅ F₅ N₅
                k_steps
                unfold Stop
                rename Fr _ _ _ _ => Fw
                rename News _ _ _ _ => Nw
                refine gp_res Fw Nw (fun p hp => hp) (TJ_yes (fun y a b c d e f => ?_) hws hwl ?_)
                · simp only [if_neg a, if_neg b, if_neg c, if_neg d, if_neg e, if_neg f]
                · rw [htk]
                  simp only [Bool.or_eq_true, Bool.and_eq_true, decide_eq_true_eq]
                  omega
              · unfold Stop
                rename News _ _ _ _ => Nw
                refine lst_itemN 0 Nw (by k_mem) rfl (by decide) rfl ?_
                k_steps
                unfold Stop
                rename News _ _ _ _ => Nw
                refine lst_itemN 1 Nw (by k_mem) rfl (by decide) rfl ?_
                k_steps
                · unfold Stop
                  rename News _ _ _ _ => Nw
                  refine lst_itemN 1 Nw (by k_mem) rfl (by decide) rfl ?_
                  k_steps
                  unfold Stop
                  rename News _ _ _ _ => Nw
                  refine lst_itemN 2 Nw (by k_mem) rfl (by decide) rfl ?_
                  k_steps
                  · unfold Stop
                    rename Fr _ _ _ _ => Fw
                    rename News _ _ _ _ => Nw
                    refine append_R (its := (ws.map fun p => Value.str ⟨p.1.toArray⟩ p.2).toArray) (n := c) Fw (cb_drop Nw (by first | exact fun p hp => .tail _ (.tail _ (.tail _ hp)) | exact fun p hp => .tail _ (.tail _ (.tail _ (.tail _ hp))))) hd' ?_ ?_
                    · rw [List.size_toArray, List.length_map, sizeLine_eq]; omega
                    intro h₅ F₅ N₅
                    k_steps
                    unfold Stop
                    rename Fr _ _ _ _ => Fw
                    rename News _ _ _ _ => Nw
                    refine gp_res Fw Nw (fun p hp => hp) (TJ_yes (fun y a b c d e f => ?_) hws hwl ?_)
                    · simp only [if_neg a, if_neg b, if_neg c, if_neg d, if_neg e, if_neg f]
                    · rw [htk]
                      simp only [Bool.or_eq_true, Bool.and_eq_true, decide_eq_true_eq]
                      omega
                  · unfold Stop
                    rename Fr _ _ _ _ => Fw
                    rename News _ _ _ _ => Nw
                    refine gp_res Fw Nw (by first | exact fun p hp => .tail _ (.tail _ (.tail _ hp)) | exact fun p hp => .tail _ (.tail _ (.tail _ (.tail _ hp)))) (TJ_no (fun y a b c d e f => ?_) hws hwl ?_)
                    · simp only [if_neg a, if_neg b, if_neg c, if_neg d, if_neg e, if_neg f]
                    · rw [htk]
                      simp only [Bool.or_eq_false_iff, Bool.and_eq_false_iff, decide_eq_false_iff_not]
                      omega
                · unfold Stop
                  rename Fr _ _ _ _ => Fw
                  rename News _ _ _ _ => Nw
                  refine gp_res Fw Nw (by first | exact fun p hp => .tail _ (.tail _ (.tail _ hp)) | exact fun p hp => .tail _ (.tail _ (.tail _ (.tail _ hp)))) (TJ_no (fun y a b c d e f => ?_) hws hwl ?_)
                  · simp only [if_neg a, if_neg b, if_neg c, if_neg d, if_neg e, if_neg f]
                  · rw [htk]
                    simp only [Bool.or_eq_false_iff, Bool.and_eq_false_iff, decide_eq_false_iff_not]
                    omega
          · unfold Stop
            rename Fr _ _ _ _ => Fz
            rename News _ _ _ _ => Nz
            have hpar0 : ¬ z0 % 2 = 1 := by
              have h : ¬ Int.fmod (z0 : Int) 2 = 1 := by assumption
              rw [Int.fmod_eq_emod_of_nonneg _ (by decide)] at h
              omega
            refine gp_res Fz Nz (fun p hp => List.mem_cons_of_mem _ hp) (TJ_no (fun y a b c d e f => ?_) hws hwl (tkOne_2 hz0 hpar0))
            simp only [if_neg a, if_neg b, if_neg c, if_neg d, if_neg e, if_neg f]
        · unfold Stop
          rename Fr _ _ _ _ => Fz
          rename News _ _ _ _ => Nz
          refine gp_res Fz Nz (fun p hp => List.mem_cons_of_mem _ hp) (TJ_no (fun y a b c d e f => ?_) hws hwl (tkOne_1 (by omega)))
          simp only [if_neg a, if_neg b, if_neg c, if_neg d, if_neg e, if_neg f]
    case done =>
      rintro m₁ o₁ h tk ⟨hm, ws, c, rfl, hws, hwl⟩ F N
      obtain ⟨u0, u1, u2, u3, u4, u5, rfl⟩ := canon6 hm
      k_steps
      rename Fr _ _ _ _ => Fz
      rename News _ _ _ _ => Nz
      exact hret _ _ _ ws c Fz (cb_drop Nz (by kcj_all)) hws
end Mine
end
theorem Mine.rest_T1 {prog : PySem.Program} {w : PySem.World} {A : PySem.Around} {E : PySem.Value → PySem.Shared → Prop} {s : PySem.Shared} {env : PySem.Env} : PySem.wpAny (PySem.model prog w) A (PySem.execs [] env) (fun _ _ => True) E s := by
  w_top off
  first | (walk1; trivial) | exact PySem.wpAny_execs_nil trivial
section
open PySem PySem.W PyProof.Rows
set_option Elab.async false
set_option maxRecDepth 100000
set_option maxHeartbeats 8000000
set_option linter.unusedVariables false
namespace Mine
open PySem
open PySem.AutoSeq1 (wpAny_loadPart')
theorem meets_enumerate_newT (l : Addr) (items : Array Value) (n : Nat) (dct : Option Addr) (sl : Array (Option Value)) :
    Meets (Builtin.«enumerate.__new__» ⟨[.type "enumerate", .ref l], []⟩) (fun _ R s => s.heap.get? l = some { cls := .type "tuple", dict := dct, data := .seq items n, slots := sl } ∧
      R (.ok (.ret (.ref (s.heap.push { cls := .type "tuple_iterator", data := .fields #[.ref l, .int 0 0] }).objs.size)))
        { s with heap := (s.heap.push { cls := .type "tuple_iterator", data := .fields #[.ref l, .int 0 0] }).push { cls := .type "enumerate", data := .fields #[.none, .bool false, .ref s.heap.objs.size, rawInt 0, .none, .none] } }) :=
  .of_wp fun prog w A R s h => by
    obtain ⟨hp, g, d, tk, os⟩ := s; obtain ⟨hl, h⟩ := h
    have hsub := sub_enumerate
    have hL : Heap.IsTuple (Shared.heap ⟨hp, g, d, tk, os⟩) l items := ⟨_, hl, rfl, n, rfl⟩
    wp_walk using wpAny_loadPart' hl
    refine wpAny_stack_any fun st => wpAny_pure ?_
    split
    · rename_i c _ _ _ _ _
      cases (c == Value.type "enumerate")
      · wp_walk using wpAny_loadPart' hl, wpAny_pyIter_tuple hL
        exact ⟨_, rfl, h⟩
      · wp_walk using wpAny_loadPart' hl, wpAny_pyIter_tuple hL
        exact ⟨_, rfl, h⟩
    · wp_walk using wpAny_loadPart' hl, wpAny_pyIter_tuple hL
      exact ⟨_, rfl, h⟩
section
variable {prog : Program} {w : World} {A : Around} {E : Value → Shared → Prop} {s : Shared}
theorem call_enumerate_tuple {l : Addr} {items : Array Value} {Q : Value → Shared → Prop} (hL : s.heap.IsTuple l items)
    (h : ∀ h', IsEnum h' (s.heap.objs.size + 1) s.heap.objs.size 0 .none → h'.IsTupleIter s.heap.objs.size l 0 → h'.objs.size = s.heap.objs.size + 2 →
      (∀ b o, s.heap.get? b = some o → h'.get? b = some o) → Q (.ref (s.heap.objs.size + 1)) { s with heap := h' }) :
    wpAny (model prog w) A (call (.type "enumerate") [.ref l]) Q E s := by
  obtain ⟨⟨c, dct, dt, sl⟩, hl, hc, n, hd⟩ := hL
  replace hc : c = .type "tuple" := hc
  replace hd : dt = .seq items n := hd
  subst hc hd
  refine callType_new F.called_enumerate (by decide) (F.typeCall_enumerate_1 _) (F.newCall_enumerate_1 _) (fun obj => F.args_object_init_2 obj _) F.entry_enumerate_new
    (meets_enumerate_newT l items n dct sl) ⟨hl, ?_⟩
  have hz : (s.heap.push { cls := .type "tuple_iterator", data := .fields #[.ref l, .int 0 0] }).objs.size = s.heap.objs.size + 1 := Heap.size_push ..
  show _ ∧ _
  rw [hz]
  have he : IsEnum ((s.heap.push { cls := .type "tuple_iterator", data := .fields #[.ref l, .int 0 0] }).push
      { cls := .type "enumerate", data := .fields #[.none, .bool false, .ref s.heap.objs.size, rawInt 0, .none, .none] }) (s.heap.objs.size + 1) s.heap.objs.size 0 .none := by
    have := Heap.get?_push_size (s.heap.push { cls := .type "tuple_iterator", data := .fields #[.ref l, .int 0 0] })
      (o := { cls := .type "enumerate", data := .fields #[.none, .bool false, .ref s.heap.objs.size, rawInt 0, .none, .none] }) rfl
    rw [hz] at this; exact this
  refine ⟨⟨_, he, rfl⟩, h _ he ⟨_, Heap.get?_push_of_some _ (Heap.get?_push_size _ rfl), rfl, rfl⟩ (by rw [Heap.size_push, hz]) fun b o x => Heap.get?_push_of_some _ (Heap.get?_push_of_some _ x)⟩
end
end Mine
end
theorem Mine.rest_N0 {prog : PySem.Program} {w : PySem.World} {A : PySem.Around} {E : PySem.Value → PySem.Shared → Prop} {s : PySem.Shared} {env : PySem.Env} : PySem.wpAny (PySem.model prog w) A (PySem.execs [] env) (fun _ _ => True) E s := by
  w_top off
  first | (walk1; trivial) | exact PySem.wpAny_execs_nil trivial
section
open PySem PySem.W PyProof.Rows
open PySem.Spec PySem.Calls
open PyProof.Rows.LCg PyProof.Rows.LCp
set_option Elab.async false
set_option maxRecDepth 100000
set_option maxHeartbeats 8000000
set_option linter.unusedVariables false
namespace Mine
section
variable {prog : Program} {w : World} {A : Around} {E : Value → Shared → Prop} {s : Shared} {h₀ : Heap} {L : Addr} {m : Str → Option Value} {env : Env}
theorem fr_but2 {h h' : Heap} {L e it : Addr} {m : Str → Option Value} (F : Fr h₀ L h m) (hk : ∀ b o, b ∉ [e, it] → h.get? b = some o → h'.get? b = some o) (hL : L ≠ e ∧ L ≠ it) (hI : h₀.get? e = none ∧ h₀.get? it = none) : Fr h₀ L h' m :=
  ⟨F.ns.at' fun o x => hk L o (by simp [hL.1, hL.2]) x, fun b o x => hk b o (fun hm => by
    simp only [List.mem_cons, List.not_mem_nil, or_false] at hm
    rcases hm with rfl | rfl
    · rw [hI.1] at x; cases x
    · rw [hI.2] at x; cases x) (F.keep b o x), F.above⟩
theorem news_but2 {h h' : Heap} {L e it : Addr} {news : List (Addr × Obj)} (N : News h₀ L h news) (hk : ∀ b o, b ∉ [e, it] → h.get? b = some o → h'.get? b = some o) (off : ∀ p ∈ news, p.1 ≠ e ∧ p.1 ≠ it) : News h₀ L h' news :=
  fun p hp => ⟨hk _ _ (by simp [off p hp]) (N p hp).1, (N p hp).2⟩

theorem block_E {elt iter : Expr} {x x₂ : Str} {px px₂ tp : Pos} {tk} {scope : Scope} {cl : List (Str × Addr)} {pos : Pos} {s₂ : Shared} {e it : Addr} {fp : List Addr} {n : Nat} {Pt : Nat → Array Value → Prop} {St : Nat → Heap → Prop} {Mid : Nat → Addr → Heap → Prop} {news : List (Addr × Obj)}
    {G : Nat → Value → Prop} {PP : Nat → Value → Value → Prop} {RR : Value → Addr → Result → Shared → Prop}
    (W : WalksT prog w A e fp [e, it] n Pt St Mid) (hsz : n ≤ sizeLine) (hIo : ∀ i h, St i h → (∃ o, h.get? e = some o) ∧ ∃ o, h.get? it = some o) (hei : e ≠ it) (hPt : ∀ i vals, Pt i vals → ∃ v₁ v₂, vals = #[v₁, v₂] ∧ PP i v₁ v₂)
    (hfpn : ∀ b ∈ fp, b = e ∨ b = it ∨ ∃ o, (b, o) ∈ news)
    (hcell : ∀ y ∈ scope.names, y.2 ≠ .cell) (hkind : scope.kind = .function) (hx : scope.names.lookup x = some .local) (hx₂ : scope.names.lookup x₂ = some .local) (hxx : x ≠ x₂) (hh : A.handled = none) (hst : St 0 s₂.heap) (hfp : ∀ b ∈ fp, b < s₂.heap.objs.size)
    (F : Fr h₀ L s₂.heap m) (N : News h₀ L s₂.heap news) (hIL : L ≠ e ∧ L ≠ it) (hI₀ : h₀.get? e = none ∧ h₀.get? it = none) (off : ∀ p ∈ news, p.1 ≠ e ∧ p.1 ≠ it)
    (turn : ∀ i v₁ v₂ oE C oC D oIt m₂ ys h tk' (E' : Value → Shared → Prop), i < n → PP i v₁ v₂ → NsObj oC m₂ → m₂ x = some v₁ → m₂ x₂ = some v₂ → Fr h₀ L h m → News h₀ L h ((e, oE) :: (C, oC) :: (D, lst ys) :: (it, oIt) :: news) → Off3 e C D ((it, oIt) :: news) → ((@Ne Nat e C) ∧ (@Ne Nat e D) ∧ (@Ne Nat C D)) →
      wpAny (model prog w) A (eval elt (compEnvC scope cl C env)) (CompEnd h₀ L m { s₂ with heap := h, toks := tk' } e oE C oC D (lst ys) (fun _ => True) (fun y news' => news' = (it, oIt) :: news ∧ G i y)) E' { s₂ with heap := h, toks := tk' })
    (hRR : ∀ D C h tk m' ys, Fr h₀ L h m → News h₀ L h ((D, lst ys) :: news) → Off1 D news → h.Ns C m' → h₀.get? C = none → h₀.get? D = none → C ≠ L → D ≠ L → C ≠ D → (∀ p ∈ news, p.1 ≠ C) → ys.length = n → (∀ i y, ys[i]? = some y → G i y) → RR (.ref D) C (.ok .next) { s₂ with heap := h, toks := tk }) :
    wpAny (model prog w) A (newList []) (fun acc s₃ => wpAny (model prog w) A (newFunctionEnv scope env.globals cl [] env.qual none .none (some env)) (fun cenv s₄ =>
      codeAny (model prog w) A (.compStart (.ListComp elt [⟨.Tuple [.Name x px, .Name x₂ px₂] tk tp, iter, [], 0⟩] scope pos) 0 (.ref e) acc { cenv with scope := relabel scope env }) (RR acc cenv.locals) s₄) E s₃) E s₂ := by
  refine wpAny_newObj_type (wpAny_newFunctionEnv hcell (by intro y hy; simp at hy) (fun h₁ hns₁ hsb₁ => ?_) hkind)
  dsimp only at hns₁ hsb₁ ⊢
  generalize hH2 : s₂.heap.push { cls := .type "list", dict := none, data := .seq ([] : List Value).toArray } = H2 at hns₁ hsb₁ ⊢
  have hC : H2.objs.size = s₂.heap.objs.size + 1 := by rw [← hH2, Heap.size_push]
  have hDC : s₂.heap.objs.size ≠ H2.objs.size := by rw [hC]; exact Nat.ne_of_lt (Nat.lt_succ_self _)
  have below : ∀ b, b < s₂.heap.objs.size → b ≠ H2.objs.size ∧ b ≠ s₂.heap.objs.size := fun b hb => ⟨by rw [hC]; exact Nat.ne_of_lt (Nat.lt_succ_of_lt hb), Nat.ne_of_lt hb⟩
  have hDf : s₂.heap.objs.size ∉ fp := fun hm => Nat.lt_irrefl _ (hfp _ hm)
  have hCf : H2.objs.size ∉ fp := fun hm => by have := hfp _ hm; rw [hC] at this; exact Nat.lt_irrefl _ (Nat.lt_of_succ_lt this)
  have hef : e ∈ fp := W.sub e (by simp)
  have hif : it ∈ fp := W.sub it (by simp)
  have old : ∀ b o, s₂.heap.get? b = some o → h₁.get? b = some o := fun b o e => hsb₁.extBut b o (below b (Heap.lt_size e)).1 (Heap.get?_push_of_some _ (hH2 ▸ Heap.get?_push_of_some _ e))
  have hacc : h₁.get? s₂.heap.objs.size = some (lst []) := hsb₁.extBut _ _ hDC (Heap.get?_push_of_some _ (hH2 ▸ Heap.get?_push_size _ rfl))
  have hst₁ : St 0 h₁ := W.frame _ _ _ hst fun b _ o e => old b o e
  have fresh : ∀ a, s₂.heap.objs.size ≤ a → s₂.heap.get? a = none := fun a ha => by
    cases q : s₂.heap.get? a with
    | none => rfl
    | some o' => exact absurd (Heap.lt_size q) (Nat.not_lt.mpr ha)
  have fresh₀ : ∀ a, s₂.heap.objs.size ≤ a → h₀.get? a = none := fun a ha => by
    cases q : h₀.get? a with
    | none => rfl
    | some o' => have := F.keep a o' q; rw [fresh a ha] at this; cases this
  have hD₀ : h₀.get? s₂.heap.objs.size = none := fresh₀ _ (Nat.le_refl _)
  have hC₀ : h₀.get? H2.objs.size = none := fresh₀ _ (by rw [hC]; exact Nat.le_succ _)
  have hLlt : L < s₂.heap.objs.size := F.ns.lt
  have hDL : s₂.heap.objs.size ≠ L := Ne.symm (below L hLlt).2
  have hCL : H2.objs.size ≠ L := Ne.symm (below L hLlt).1
  have hCe : e ≠ H2.objs.size := (below e (hfp _ hef)).1
  have hDe : e ≠ s₂.heap.objs.size := (below e (hfp _ hef)).2
  have hCi : it ≠ H2.objs.size := (below it (hfp _ hif)).1
  have hDi : it ≠ s₂.heap.objs.size := (below it (hfp _ hif)).2
  have offC : ∀ p ∈ news, p.1 ≠ H2.objs.size ∧ p.1 ≠ s₂.heap.objs.size := fun p hp => below _ (Heap.lt_size (N p hp).1)
  have off1 : Off1 s₂.heap.objs.size news := (Off3.of fun p hp => ⟨(off p hp).1, (offC p hp).1, (offC p hp).2⟩ : Off3 e H2.objs.size s₂.heap.objs.size news).one
  have loop : ∀ s₃ : Shared, s₃ = { s₂ with heap := h₁, toks := s₂.toks + ([] : List (Str × Value)).length } →
      codeAny (model prog w) A (.compLoop (.ListComp elt [⟨.Tuple [.Name x px, .Name x₂ px₂] tk tp, iter, [], 0⟩] scope pos) 0 (.ref e) (.ref s₂.heap.objs.size) (compEnvC scope cl H2.objs.size env))
        (RR (.ref s₂.heap.objs.size) H2.objs.size) s₃ := by
    rintro s₃ rfl
    refine codeAny_compLoop_pair
      (fun k s' => ∃ h' tk i ys m', s' = { s₂ with heap := h', toks := tk } ∧ i ≤ n ∧ k = n + 1 - i ∧ ys.length = i ∧ St i h' ∧ Fr h₀ L h' m ∧ h'.Ns H2.objs.size m' ∧ News h₀ L h' ((s₂.heap.objs.size, lst ys) :: news) ∧
        (∀ j y, ys[j]? = some y → G j y)) ?_ (n + 1)
      ⟨h₁, _, 0, [], _, rfl, Nat.zero_le _, rfl, rfl, hst₁, F.keeps old, hns₁, fun p hp => ?_, fun j y q => by simp at q⟩
    · rintro k s' ⟨h', tk, i, ys, m', rfl, hi, rfl, hyl, hst', F', hn', N', hG⟩
      have offD : ∀ p ∈ (s₂.heap.objs.size, lst ys) :: news, p.1 ≠ e ∧ p.1 ≠ it := fun p hp => by
        rcases List.mem_cons.mp hp with rfl | hp
        · exact ⟨Ne.symm hDe, Ne.symm hDi⟩
        · exact off p hp
      by_cases hlt : i < n
      · refine W.item i _ _ _ hlt hst' fun T vals h₂ tk₂ hPv hTs hT hmid hk₂ => ?_
        dsimp only
        obtain ⟨v₁, v₂, rfl, hPP⟩ := hPt i vals hPv
        have hTa := W.apart i T h₂ hmid
        refine W.go _ _ _ i T _ _ _ hmid fun h₂' hst₂ hk₂' => ?_
        have ht : IsTup h₂' T #[v₁, v₂] := let ⟨o, ho, r⟩ := hT; ⟨o, hk₂' _ _ hTa ho, r⟩
        refine assign_Tuple_tuple hh ht rfl rfl fun h₅ he => ?_
        have he' : ∀ b o, h₂'.get? b = some o → h₅.get? b = some o := fun b o e => he b o (Nat.ne_of_lt (Heap.lt_size e)) e
        have hk5 : ∀ b o, b ∉ [e, it] → h'.get? b = some o → h₅.get? b = some o := fun b o hb q => he' _ _ (hk₂' b o hb (hk₂ b o hb q))
        refine assignInOrder_cons (wpAny_assign_Name (wpAny_storeName_local (lookup_relabel_local hx) (hn'.at' fun o q => hk5 _ o (by simp [Ne.symm hCe, Ne.symm hCi]) q) (fun h₆ hn₆ hs₆ => ?_) (by simp [compEnvC, relabel, hkind])))
        refine assignInOrder_cons (wpAny_assign_Name (wpAny_storeName_local (lookup_relabel_local hx₂) hn₆ (fun h₃ hn₃ hs₃ => ?_) (by simp [compEnvC, relabel, hkind])))
        refine assignInOrder_nil ?_
        have old3 : ∀ b o, b ≠ H2.objs.size → h₂'.get? b = some o → h₃.get? b = some o := fun b o hb q => hs₃.extBut b o hb (hs₆.extBut b o hb (he' b o q))
        have hst₃ : St (i + 1) h₃ := W.frame _ _ _ hst₂ fun b hb o q => old3 b o (fun q' => hCf (by rw [← q']; exact hb)) q
        obtain ⟨⟨oE, heE⟩, oIt, heI⟩ := hIo _ _ hst₃
        obtain ⟨oC, heC, hoC⟩ := ns_obj hn₃
        have F₃ : Fr h₀ L h₃ m := ((fr_but2 F' hk5 hIL hI₀).change hs₆ hCL hC₀).change hs₃ hCL hC₀
        have N₅ := news_but2 N' hk5 offD
        have N₃ : News h₀ L h₃ ((e, oE) :: (H2.objs.size, oC) :: (s₂.heap.objs.size, lst ys) :: (it, oIt) :: news) := fun p hp => by
          simp only [List.mem_cons] at hp
          rcases hp with rfl | rfl | rfl | rfl | hp
          · exact ⟨heE, Ne.symm hIL.1, hI₀.1⟩
          · exact ⟨heC, hCL, hC₀⟩
          · have z := N₅ _ (List.mem_cons_self ..)
            exact ⟨hs₃.extBut _ _ hDC (hs₆.extBut _ _ hDC z.1), z.2⟩
          · exact ⟨heI, Ne.symm hIL.2, hI₀.2⟩
          · have z := N₅ p (List.mem_cons_of_mem _ hp)
            exact ⟨hs₃.extBut _ _ (offC p hp).1 (hs₆.extBut _ _ (offC p hp).1 z.1), z.2⟩
        have off3 : Off3 e H2.objs.size s₂.heap.objs.size ((it, oIt) :: news) := Off3.of fun p hp => by
          rcases List.mem_cons.mp hp with rfl | hp
          · exact ⟨Ne.symm hei, hCi, hDi⟩
          · exact ⟨(off p hp).1, (offC p hp).1, (offC p hp).2⟩
        refine wpAny_mono (turn i v₁ v₂ oE H2.objs.size oC s₂.heap.objs.size oIt _ ys h₃ _ _ hlt hPP hoC (by simp [hxx]) (by simp) F₃ N₃ off3 ⟨hCe, hDe, Ne.symm hDC⟩) (fun y s₄ h₄ => ?_) fun _ _ e => e
        obtain ⟨h₄, tk₄, news₄, rfl, F₄, N₄, off₄, hS₄, rfl, hGy⟩ := h₄
        have zE := (N₄ (e, oE) (by simp)).1
        have zI := (N₄ (it, oIt) (by simp)).1
        have zC := (N₄ (H2.objs.size, oC) (by simp)).1
        have zD := (N₄ (s₂.heap.objs.size, lst ys) (by simp)).1
        have hst₄ : St (i + 1) h₄ := W.frame _ _ _ hst₃ fun b hb o q => by
          rcases hfpn b hb with rfl | rfl | ⟨ob, hob⟩
          · rw [heE] at q; rw [zE]; exact q
          · rw [heI] at q; rw [zI]; exact q
          · have z3 := (N₃ (b, ob) (by simp [hob])).1
            have z4 := (N₄ (b, ob) (by simp [hob])).1
            rw [z3] at q; rw [z4]; exact q
        refine append_at (hsz := by show ys.toArray.size ≤ sizeLine; rw [List.size_toArray, hyl]; exact Nat.le_trans hi hsz) zD fun h₅ hs₅ hD₅ => ?_
        refine ⟨n + 1 - (i + 1), by omega, h₅, tk₄, i + 1, ys ++ [y], _, rfl, hlt, rfl, by rw [List.length_append, List.length_singleton, hyl], W.frame _ _ _ hst₄ fun b hb o e => hs₅.extBut b o (fun q => hDf (q ▸ hb)) e, F₄.change hs₅ hDL hD₀,
          (hoC.ns zC).sameBut hs₅ (Ne.symm hDC), fun p hp => ?_, ?_⟩
        · rcases List.mem_cons.mp hp with rfl | hp
          · exact ⟨hD₅.trans (congrArg some (lst_snoc ys y)), hDL, hD₀⟩
          · have z := N₄ p (by simp [hp])
            exact ⟨hs₅.extBut _ _ (offC p hp).2 z.1, z.2⟩
        · intro j z hz
          rcases Nat.lt_or_ge j ys.length with q | q
          · rw [List.getElem?_append_left q] at hz; exact hG j z hz
          · rw [List.getElem?_append_right q] at hz
            have e0 : j - ys.length = 0 := by
              rcases Nat.eq_zero_or_pos (j - ys.length) with e0 | e0
              · exact e0
              · rw [List.getElem?_eq_none (by rw [List.length_singleton]; exact e0)] at hz; cases hz
            rw [e0] at hz
            have ek : j = i := by omega
            rw [ek]
            cases hz
            exact hGy
      · obtain rfl : i = n := Nat.le_antisymm hi (Nat.not_lt.mp hlt)
        refine W.done _ _ _ hst' fun h₂ tk₂ hk₂ => ?_
        exact hRR _ _ h₂ tk₂ _ ys (fr_but2 F' hk₂ hIL hI₀) (news_but2 N' hk₂ offD) off1 (hn'.at' fun o q => hk₂ _ o (by simp [Ne.symm hCe, Ne.symm hCi]) q) hC₀ hD₀ hCL hDL (Ne.symm hDC) (fun p hp => (offC p hp).1) hyl hG
    · rcases List.mem_cons.mp hp with rfl | hp
      · exact ⟨hacc, hDL, hD₀⟩
      · exact ⟨old _ _ (N p hp).1, (N p hp).2⟩
  exact codeAny_compStart_list (loop _ rfl) (W.self 0 _ _ _ hst₁ (loop _ rfl))
/-- what the iterable gives: an enumerate over a tuple of the ledger, fresh -/
noncomputable def SrcE (prog : Program) (w : World) (A : Around) (h₀ : Heap) (L : Addr) (m : Str → Option Value) (env : Env) (elt : Expr) (x x₂ : Str) (scope : Scope) (cl : List (Str × Addr)) (y : Str) (Q : Flow → Shared → Prop) (xv : Value) (s₁ : Shared) : Prop :=
  ∃ (e it t : Addr) (ot : Obj) (nt : Nat) (items : Array Value) (news : List (Addr × Obj)) (G : Nat → Value → Prop), xv = .ref e ∧ A.handled = none ∧ Fr h₀ L s₁.heap m ∧ News h₀ L s₁.heap news ∧ (t, ot) ∈ news ∧ ot.cls = .type "tuple" ∧ ot.data = .seq items nt ∧ items.size ≤ sizeLine ∧
    IsEnum s₁.heap e it 0 .none ∧ s₁.heap.IsTupleIter it t 0 ∧ e ≠ it ∧ (L ≠ e ∧ L ≠ it) ∧ (h₀.get? e = none ∧ h₀.get? it = none) ∧ (∀ p ∈ news, p.1 ≠ e ∧ p.1 ≠ it) ∧
    (∀ (i : Nat) t' v oE C oC D oIt m₂ ys h tk' (E' : Value → Shared → Prop), items[i]? = some v → NsObj oC m₂ → m₂ x = some (.int (i : Int) t') → m₂ x₂ = some v → Fr h₀ L h m → News h₀ L h ((e, oE) :: (C, oC) :: (D, lst ys) :: (it, oIt) :: news) → Off3 e C D ((it, oIt) :: news) → ((@Ne Nat e C) ∧ (@Ne Nat e D) ∧ (@Ne Nat C D)) →
      wpAny (model prog w) A (eval elt (compEnvC scope cl C env)) (CompEnd h₀ L m { s₁ with heap := h, toks := tk' } e oE C oC D (lst ys) (fun _ => True) (fun y news' => news' = (it, oIt) :: news ∧ G i y)) E' { s₁ with heap := h, toks := tk' }) ∧
    (∀ D h tk ys, ys.length = items.size → (∀ i z, ys[i]? = some z → G i z) → Fr h₀ L h (fun z => if z = y then some (.ref D) else m z) → News h₀ L h ((D, lst ys) :: news) → Off1 D news → Q .next { s₁ with heap := h, toks := tk })

theorem assign_comp_E {elt iter : Expr} {x x₂ y : Str} {px px₂ tp py : Pos} {tk} {scope : Scope} {cl : List (Str × Addr)} {pos spos : Pos} {Q : Flow → Shared → Prop} (F₀ : Fr h₀ L s.heap m) (hLe : env.locals = L)
    (hsw : swapsWith (.ListComp elt [⟨.Tuple [.Name x px, .Name x₂ px₂] tk tp, iter, [], 0⟩] scope pos) (some (.Name y py)) spos.line env = pure true)
    (hclos : closureFor scope env = pure cl) (hcell : ∀ z ∈ scope.names, z.2 ≠ .cell) (hkind : scope.kind = .function)
    (hnames : ∀ z ∈ scope.names, z.2 = .local → scope.names.lookup z.1 = some .local) (hx : scope.names.lookup x = some .local) (hx₂ : scope.names.lookup x₂ = some .local) (hxx : x ≠ x₂)
    (hy : env.kindOf y = some .local) (hp : (env.scope.kind == .class || (env.scope.kind == .module && env.locals != env.globals)) = false)
    (h : wpAny (model prog w) A (eval iter env) (SrcE prog w A h₀ L m env elt x x₂ scope cl y Q) E s)
    (hs : ∀ x, foldedSetIterable iter env x = pure x := by intro _; rfl) :
    wpAny (model prog w) A (exec (.Assign [.Name y py] (.ListComp elt [⟨.Tuple [.Name x px, .Name x₂ px₂] tk tp, iter, [], 0⟩] scope pos) spos) env) Q E s := by
  subst hLe
  rw [exec_Assign_Name_used _ _ _ _ hsw]
  refine wpAny_bind (wpAny_standAt (wpAny_bind ?_))
  show wpAny _ A (do let _ ← comprehension (.ListComp elt [⟨.Tuple [.Name x px, .Name x₂ px₂] tk tp, iter, [], 0⟩] scope pos) scope env _ (newList []) false (eval iter env) (some (assign (.Name y py) env))) _ _ s
  refine wpAny_bind (wpAny_mono (wpAny_comprehension_free (use := some (assign (.Name y py) env)) (Q := fun _ s' => Q .next s') rfl hs hclos hkind hnames
    (wpAny_mono h (fun xv s₁ h₁ => ?_) fun _ _ e => e)) (fun _ s' hq => wpAny_pure (wpAny_pure hq)) fun _ _ e => e)
  obtain ⟨e, it, t, ot, nt, items, news, G, rfl, hh, F, N, hmt, hct, hdt, hsz, hE, hI, hei, hIL, hI₀, off, turn, fin⟩ := h₁
  have hL : s₁.heap.IsTuple t items := ⟨ot, (N _ hmt).1, hct, nt, hdt⟩
  have W := WalksT.enumerateD (prog := prog) (w := w) (A := A) (drawsTuple (A := A.in1) hh it t (off _ hmt).2 items) e hei (by simp [hei, Ne.symm (off _ hmt).1]) (by simp)
  refine wpAny_pyIter_enum hE ?_
  refine block_E (G := G) (PP := fun i v₁ v₂ => ∃ t', v₁ = .int (i : Int) t' ∧ items[i]? = some v₂) W hsz (fun i h st => ⟨let ⟨old, q⟩ := st.1; ⟨_, q⟩, let ⟨o, q, _⟩ := st.2.1; ⟨o, q⟩⟩) hei (fun i vals ⟨t', xv, hxv, hv⟩ => ⟨_, _, hv, t', rfl, hxv⟩) ?_ hcell hkind hx hx₂ hxx hh ⟨⟨_, hE⟩, hI, hL⟩ ?_ F N hIL hI₀ off ?_ ?_
  · intro b hb
    simp only [List.mem_cons, List.not_mem_nil, or_false] at hb
    rcases hb with rfl | rfl | rfl
    · exact .inl rfl
    · exact .inr (.inl rfl)
    · exact .inr (.inr ⟨ot, hmt⟩)
  · intro b hb
    simp only [List.mem_cons, List.not_mem_nil, or_false] at hb
    rcases hb with rfl | rfl | rfl
    · exact Heap.lt_size hE
    · obtain ⟨o, q, _⟩ := hI; exact Heap.lt_size q
    · exact Heap.lt_size (N _ hmt).1
  · rintro i v₁ v₂ oE C oC D oIt m₂ ys h tk' E' hi ⟨t', rfl, hv₂⟩
    exact turn i t' v₂ oE C oC D oIt m₂ ys h tk' E' hv₂
  · intro D C h' tk m' ys F' N' o1 hn hC₀ hD₀ hCL hDL hCD offC hlen hG
    show wpAny _ A (assign (.Name y py) env (.ref D)) _ _ _
    refine wpAny_assign_Name (wpAny_storeName_local hy F'.ns (fun h₂ hn₂ hs₂ => ?_) hp)
    have hL₀ : h₀.get? env.locals = none := Heap.get?_none_of_le F'.above
    have F₂ : Fr h₀ env.locals h₂ (fun z => if z = y then some (.ref D) else m z) := ⟨hn₂, fun b o e => hs₂.extBut b o (fun q => by rw [q, hL₀] at e; cases e) (F'.keep b o e), F'.above⟩
    refine ⟨m', hn.sameBut hs₂ hCL, fun h'' hs'' => fin D h'' _ ys hlen hG (F₂.change hs'' hCL hC₀) (fun p hp => ?_) o1⟩
    have z : h₂.get? p.1 = some p.2 := hs₂.extBut _ _ (N' p hp).2.1 (N' p hp).1
    refine ⟨hs''.extBut _ _ ?_ z, (N' p hp).2⟩
    rcases List.mem_cons.mp hp with rfl | hp
    · exact Ne.symm hCD
    · exact offC p hp
end
end Mine
end
theorem Mine.rest_NP {prog : PySem.Program} {w : PySem.World} {A : PySem.Around} {E : PySem.Value → PySem.Shared → Prop} {s : PySem.Shared} {env : PySem.Env} : PySem.wpAny (PySem.model prog w) A (PySem.execs [] env) (fun _ _ => True) E s := by
  w_top off
  first | (walk1; trivial) | exact PySem.wpAny_execs_nil trivial
section
open PySem PySem.W PyProof.Rows
open PySem.Spec PySem.Calls PyProof.V
set_option Elab.async false
set_option maxRecDepth 100000
set_option maxHeartbeats 8000000
namespace Mine
section
variable {prog : Program} {w : World} {A : Around} {E : Value → Shared → Prop} {s : Shared} {h₀ : Heap} {L t : Addr} {m : Str → Option Value} {news : List (Addr × Obj)}
theorem sum_lstG {xs : Array (Int × Tok)} {Q : Value → Shared → Prop} (hh : A.handled = none) (ht : s.heap.IsList t (intItems xs))
    (h : ∀ h' tk t', (∀ b o, s.heap.get? b = some o → h'.get? b = some o) → Q (.int (preSum (numAt xs) xs.size) t') { s with heap := h', toks := tk }) :
    wpAny (model prog w) A (call (.builtin "sum") [.ref t]) Q E s := by
  obtain ⟨o, ho, hc, n, hd⟩ := id ht
  have hne : t ≠ s.heap.objs.size := Nat.ne_of_lt (Heap.lt_size ho)
  have hsz : (intItems xs).size = xs.size := by simp [intItems]
  have W := (Walks.list (prog := prog) (w := w) (A := A.in1) hh s.heap.objs.size t hne (intItems xs)).toS
  rw [hsz] at W
  refine call_sum_walkAnyS (wpAny_pyIter_list ht ?_)
  refine ⟨s.heap.objs.size, _, _, _, _, _, _, numAt xs, rfl, W, ⟨⟨_, Heap.get?_push_size _ rfl, rfl, rfl⟩, ht.at fun o e => Heap.get?_push_of_some _ e⟩, fun b hb => ?_, fun i v hP => intItems_at hP, fun s' t' hm => ?_⟩
  · rcases List.mem_cons.mp hb with rfl | hb
    · exact Heap.lt_size (Heap.get?_push_size _ rfl)
    · obtain rfl := List.mem_singleton.mp hb
      exact Heap.lt_size (Heap.get?_push_of_some _ ho)
  · obtain ⟨h', g', d', tk', os'⟩ := s'
    have e1 : g' = s.gens := hm.gens
    have e2 : d' = s.drawn := hm.drawn
    have e3 : os' = s.os := hm.os
    subst e1 e2 e3
    exact h h' tk' t' fun b o e => hm.heap b o (fun hb => absurd (Heap.lt_size e) ((List.mem_singleton.mp hb) ▸ Nat.lt_irrefl _)) (Heap.get?_push_of_some _ e)
theorem sum_lst {its : Array Value} {n : Nat} {ns : List Int} {Q : Value → Shared → Prop} (hh : A.handled = none) (F : Fr h₀ L s.heap m) (N : News h₀ L s.heap news) (hm : (t, listOf its n) ∈ news) (hi : IntsAre its.toList ns)
    (h : ∀ h' tk t', Fr h₀ L h' m → News h₀ L h' news → Q (.int ns.sum t') { s with heap := h', toks := tk }) :
    wpAny (model prog w) A (call (.builtin "sum") [.ref t]) Q E s := by
  have hl : s.heap.IsList t its := ⟨_, (N _ hm).1, rfl, n, rfl⟩
  obtain ⟨xs, hx⟩ := hi.allInts.items
  have hn : numsOf its.toList = ns := hi.numsOf
  rw [show its.toList.toArray = its from rfl] at hx
  subst hx
  rw [nums_intItems] at hn
  refine sum_lstG hh hl fun h' tk t' hk => ?_
  have := h h' tk t' (F.keeps hk) (N.grown hk)
  rw [preSum_eq, List.take_of_length_le (by simp), hn]
  exact this
end
theorem ints_of_all : ∀ (l : List Value), (∀ x ∈ l, ∃ k t, x = Value.int k t) → ∃ ns, IntsAre l ns
  | [], _ => ⟨[], .nil⟩
  | x :: r, h => by
    obtain ⟨k, t, rfl⟩ := h x (List.mem_cons_self ..)
    obtain ⟨ns, hn⟩ := ints_of_all r fun y hy => h y (List.mem_cons_of_mem _ hy)
    exact ⟨k :: ns, .cons k t hn⟩
theorem ints_pick {vs : List Value} {ns : List Int} (hi : IntsAre vs ns) (lo up st : Option Int) : ∃ ms, IntsAre (slicePick vs.toArray lo up st).toList ms := by
  refine ints_of_all _ fun x hx => ?_
  unfold slicePick at hx
  rw [show ∀ l : List Value, l.toArray.toList = l from fun _ => rfl] at hx
  obtain ⟨j, _, hj⟩ := List.mem_filterMap.mp hx
  rw [List.getElem?_toArray] at hj
  obtain ⟨k, t, e, hk⟩ := IntsAre.at hi j x hj
  exact ⟨k, t, e⟩
end Mine
end
theorem Mine.rest_NS {prog : PySem.Program} {w : PySem.World} {A : PySem.Around} {E : PySem.Value → PySem.Shared → Prop} {s : PySem.Shared} {env : PySem.Env} : PySem.wpAny (PySem.model prog w) A (PySem.execs [] env) (fun _ _ => True) E s := by
  w_top off
  first | (walk1; trivial) | exact PySem.wpAny_execs_nil trivial
section
open PySem
set_option Elab.async false
set_option linter.unusedVariables false
namespace Mine
open PySem.StrLaws PySem.Builtin PySem.Builtin.Str

noncomputable abbrev dt : Str := ⟨#[46, 46, 46]⟩
theorem at_dots {x : Str} {k : Nat} : At x dt x.length k ↔ (x.cps.toList.drop k).take 3 = [46, 46, 46] := by
  unfold At
  rw [subAt_eq, beq_iff_eq]
  show k + 3 ≤ x.cps.size ∧ (x.cps.toList.drop k).take 3 = [46, 46, 46] ↔ _
  constructor
  · exact fun h => h.2
  · intro h
    refine ⟨?_, h⟩
    have := congrArg List.length h
    simp at this
    omega

theorem split_step (x : Str) : ∀ (parts : List Str) (cuts : List Nat) (a f : Nat), parts ≠ [] → (∀ p ∈ parts, 46 ∉ p.cps.toList) → a ≤ x.length →
    x.cps.toList.drop a = (Str.join dt parts).cps.toList → ChainG x dt x.length a cuts f → (∀ k, f ≤ k → ¬ At x dt x.length k) →
    partsFrom x 3 a cuts = parts
  | [], _, _, _, h, _, _, _, _, _ => absurd rfl h
  | [p], cuts, a, f, _, hfree, ha, he, hc, hn => by
    have he' : x.cps.toList.drop a = p.cps.toList := he
    have no : ∀ k, a ≤ k → ¬ At x dt x.length k := by
      intro k hk hA
      rw [at_dots] at hA
      have e1 : x.cps.toList.drop k = p.cps.toList.drop (k - a) := by
        rw [← he', List.drop_drop]; congr 1; omega
      have h1 : 46 ∈ (x.cps.toList.drop k).take 3 := by rw [hA]; simp
      rw [e1] at h1
      exact hfree p (List.mem_singleton.mpr rfl) (List.mem_of_mem_drop (List.mem_of_mem_take h1))
    cases cuts with
    | cons c r => exact absurd hc.2.1 (no c hc.1)
    | nil =>
      show [strSub x a x.length] = [p]
      congr 1
      apply Str.ext'
      apply Array.toList_inj.mp
      rw [strSub_toList, he', List.take_of_length_le]
      have := congrArg List.length he'
      simp [Str.length] at this ⊢
      omega
  | p :: q :: r, cuts, a, f, _, hfree, ha, he, hc, hn => by
    have he' : x.cps.toList.drop a = p.cps.toList ++ ([46, 46, 46] ++ (Str.join dt (q :: r)).cps.toList) := by
      rw [he]
      show (p ++ dt ++ Str.join dt (q :: r)).cps.toList = _
      simp only [Str.cps_append, Array.toList_append, List.append_assoc]
    have hlen : x.length - a = p.cps.toList.length + (3 + (Str.join dt (q :: r)).cps.toList.length) := by
      have := congrArg List.length he'
      simp [Str.length] at this ⊢
      omega
    have drp : ∀ k, a ≤ k → x.cps.toList.drop k = (p.cps.toList ++ ([46, 46, 46] ++ (Str.join dt (q :: r)).cps.toList)).drop (k - a) := by
      intro k hk
      rw [← he', List.drop_drop]; congr 1; omega
    have hit : At x dt x.length (a + p.cps.toList.length) := by
      rw [at_dots, drp _ (by omega), Nat.add_sub_cancel_left, List.drop_left]; rfl
    have lo : ∀ k, a ≤ k → k < a + p.cps.toList.length → ¬ At x dt x.length k := by
      intro k h1 h2 hA
      rw [at_dots, drp k h1, List.drop_append_of_le_length (by omega)] at hA
      have h3 : p.cps.toList.drop (k - a) ≠ [] := by
        intro h; have := congrArg List.length h; rw [List.length_drop, List.length_nil] at this; omega
      cases hd : p.cps.toList.drop (k - a) with
      | nil => exact h3 hd
      | cons z zs =>
        rw [hd] at hA
        have hz : z = 46 := by
          simp at hA; exact hA.1
        have : z ∈ p.cps.toList := List.mem_of_mem_drop (by rw [hd]; exact List.mem_cons_self ..)
        exact hfree p (List.mem_cons_self ..) (hz ▸ this)
    cases cuts with
    | nil =>
      have hfa : f = a := hc
      exact absurd hit (hn _ (by rw [hfa]; omega))
    | cons c cs =>
      obtain ⟨h1, h2, h3, h4⟩ := hc
      have hce : c = a + p.cps.toList.length := by
        apply Nat.le_antisymm
        · exact Nat.le_of_not_lt fun h => h3 _ (by omega) h hit
        · exact Nat.le_of_not_lt fun h => lo c h1 h h2
      subst hce
      have ih := split_step x (q :: r) cs (a + p.cps.toList.length + 3) f (List.cons_ne_nil _ _) (fun y hy => hfree y (List.mem_cons_of_mem _ hy)) (by omega)
        (by rw [drp _ (by omega)]
            have : a + p.cps.toList.length + 3 - a = p.cps.toList.length + 3 := by omega
            rw [this, ← List.drop_drop, List.drop_left]; rfl) h4 hn
      show strSub x a _ :: partsFrom x 3 _ cs = _
      rw [ih]
      congr 1
      apply Str.ext'
      apply Array.toList_inj.mp
      rw [strSub_toList, he', Nat.add_sub_cancel_left, List.take_left]

theorem kind_dots (x : Str) : ¬ Builtin.Str.strKind x < Builtin.Str.strKind dt := by
  have e : Builtin.Str.strKind dt = 1 := by rw [Builtin.Str.strKind, if_pos (by simp [dt])]
  rw [e]
  unfold Builtin.Str.strKind
  (repeat' split) <;> omega
theorem join_dots_len : ∀ (p q : Str) (r : List Str), 3 ≤ (Str.join dt (p :: q :: r)).length := by
  intro p q r
  show 3 ≤ (p ++ dt ++ Str.join dt (q :: r)).length
  rw [Str.length_append, Str.length_append]
  have : dt.length = 3 := rfl
  omega
/-- a text joined of parts without a dot falls into these parts -/
theorem split_dots (p q : Str) (r : List Str) (hfree : ∀ y ∈ p :: q :: r, 46 ∉ y.cps.toList) :
    Txt.split (Str.join dt (p :: q :: r)) dt = p :: q :: r ∧ (occurrences (Str.join dt (p :: q :: r)) dt 0 (Str.join dt (p :: q :: r)).length 1).isEmpty = false := by
  have hl := join_dots_len p q r
  obtain ⟨f, hc, hn⟩ := occ_tight (Str.join dt (p :: q :: r)) dt (by decide)
  have key := split_step (Str.join dt (p :: q :: r)) (p :: q :: r) _ 0 f (List.cons_ne_nil _ _) hfree (Nat.zero_le _) rfl hc hn
  have hit : At (Str.join dt (p :: q :: r)) dt (Str.join dt (p :: q :: r)).length p.cps.toList.length := by
    rw [at_dots]
    show ((p ++ dt ++ Str.join dt (q :: r)).cps.toList.drop _).take 3 = _
    simp only [Str.cps_append, Array.toList_append, List.append_assoc]
    rw [List.drop_left]; rfl
  constructor
  · unfold Txt.split
    rw [if_neg (by
      have h1 : ¬ (Str.join dt (p :: q :: r)).length < dt.length := Nat.not_lt.mpr hl
      have h2 := kind_dots (Str.join dt (p :: q :: r))
      simp only [Bool.or_eq_true, decide_eq_true_eq]; exact fun h => h.elim h1 h2)]
    split
    · rename_i he
      rw [List.isEmpty_iff] at he
      rw [he] at key
      have := congrArg List.length key
      simp [partsFrom] at this
    · rw [partsBetween_eq]; exact key
  · have := (found_iff (Str.join dt (p :: q :: r)) dt).mpr ⟨_, hit⟩
    revert this
    cases (occurrences (Str.join dt (p :: q :: r)) dt 0 (Str.join dt (p :: q :: r)).length 1).isEmpty <;> simp
end Mine
end
theorem Mine.rest_M1 {prog : PySem.Program} {w : PySem.World} {A : PySem.Around} {E : PySem.Value → PySem.Shared → Prop} {s : PySem.Shared} {env : PySem.Env} : PySem.wpAny (PySem.model prog w) A (PySem.execs [] env) (fun _ _ => True) E s := by
  w_top off
  first | (walk1; trivial) | exact PySem.wpAny_execs_nil trivial
section
set_option Elab.async false
set_option linter.unusedVariables false
namespace Mine

/-- the sizes of the dips, the size that is open -/
noncomputable def seg : List Bool → List Nat → Nat → List Nat × Nat
  | [], l, k => (l, k)
  | true :: r, l, k + 1 => seg r (l ++ [k + 2]) 0
  | _ :: r, l, k => seg r l (k + 1)
noncomputable def kindOf : List Nat × Nat → Nat
  | (l, 0) => if l.headD 0 % 2 == 1 then (if (l.filter fun k => k % 2 == 1).length == 1 then 1 else 3) else 0
  | (_, _ + 1) => 0
noncomputable def kindB (b : List Bool) : Nat := kindOf (seg b [] 0)
noncomputable def kinds (B : List Bool) : List Nat := (List.range 9).map fun t => kindB (B.drop t ++ B.take t)
noncomputable def oneAt (t0 : Nat) : List Nat := (List.range 9).map fun t => if t == t0 then 1 else 0
noncomputable def triAt (t0 : Nat) : List Nat := (List.range 9).map fun t => if t % 3 == t0 then 3 else 0
noncomputable def clsB (B : List Bool) : Bool :=
  B == List.replicate 9 true ||
  (B == List.replicate 9 false && kinds B == List.replicate 9 0) ||
  ((List.range 9).any fun t0 => kinds B == oneAt t0 && !(B.drop 3 ++ B.take 3 == B)) ||
  ((List.range 3).any fun t0 => kinds B == triAt t0)
/-- the open size: none, odd, even; the sizes so far: none, the first even, the first odd alone, more odd ones -/
inductive Sz where | z | o | e
inductive Fs where | n | x | a | m
noncomputable def Fs.evn : Fs → Fs | .n => .x | .x => .x | .a => .a | .m => .m
noncomputable def Fs.odd : Fs → Fs | .n => .a | .x => .x | .a => .m | .m => .m
noncomputable def endA : Sz → Fs → Nat
  | .z, .a => 1
  | .z, .m => 3
  | _, _ => 0
noncomputable def runE {β : Type} (e : Sz → Fs → β) (b : List Bool) : Sz → Fs → β :=
  @List.rec Bool (fun _ => Sz → Fs → β) e
    (fun c _ ih s => @Sz.rec (fun _ => Fs → β) (ih .o) (@Bool.rec (fun _ => Fs → β) (ih .e) (fun f => ih .z f.evn) c) (@Bool.rec (fun _ => Fs → β) (ih .o) (fun f => ih .z f.odd) c) s) b
noncomputable def runA (b : List Bool) : Sz → Fs → Nat := runE endA b
/-- the run over the first n, each step told outright -/
noncomputable def runF {β : Type} (e : Sz → Fs → β) (n : Nat) : List Bool → Sz → Fs → β :=
  @Nat.rec (fun _ => List Bool → Sz → Fs → β) (fun _ => e)
    (fun _ ih b => @List.rec Bool (fun _ => Sz → Fs → β) e
      (fun c r _ s => @Sz.rec (fun _ => Fs → β) (ih r .o)
        (@Bool.rec (fun _ => Fs → β) (ih r .e) (fun f => @Fs.rec (fun _ => β) (ih r .z .x) (ih r .z .x) (ih r .z .a) (ih r .z .m) f) c)
        (@Bool.rec (fun _ => Fs → β) (ih r .o) (fun f => @Fs.rec (fun _ => β) (ih r .z .a) (ih r .z .x) (ih r .z .m) (ih r .z .m) f) c) s) b) n
theorem runF_eq {β : Type} (e : Sz → Fs → β) : ∀ (n : Nat) (b : List Bool) (s : Sz) (f : Fs), runF e n b s f = runE e (b.take n) s f
  | 0, _, _, _ => rfl
  | _ + 1, [], _, _ => rfl
  | n + 1, _ :: r, .z, f => runF_eq e n r .o f
  | n + 1, false :: r, .o, f => runF_eq e n r .e f
  | n + 1, true :: r, .o, .n => runF_eq e n r .z .x
  | n + 1, true :: r, .o, .x => runF_eq e n r .z .x
  | n + 1, true :: r, .o, .a => runF_eq e n r .z .a
  | n + 1, true :: r, .o, .m => runF_eq e n r .z .m
  | n + 1, false :: r, .e, f => runF_eq e n r .o f
  | n + 1, true :: r, .e, .n => runF_eq e n r .z .a
  | n + 1, true :: r, .e, .x => runF_eq e n r .z .x
  | n + 1, true :: r, .e, .a => runF_eq e n r .z .m
  | n + 1, true :: r, .e, .m => runF_eq e n r .z .m
theorem runE_map {β γ : Type} (g : β → γ) (e : Sz → Fs → β) : ∀ (b : List Bool) (s : Sz) (f : Fs), g (runE e b s f) = runE (fun s f => g (e s f)) b s f
  | [], _, _ => rfl
  | _ :: r, .z, f => runE_map g e r .o f
  | false :: r, .o, f => runE_map g e r .e f
  | true :: r, .o, f => runE_map g e r .z f.evn
  | false :: r, .e, f => runE_map g e r .o f
  | true :: r, .e, f => runE_map g e r .z f.odd
noncomputable def kindA (b : List Bool) : Nat := runA b .z .n
noncomputable def szOf (k : Nat) : Sz := if k = 0 then .z else if k % 2 = 1 then .o else .e
noncomputable def fsOf (l : List Nat) : Fs := match l with
  | [] => .n
  | h :: t => if h % 2 = 1 then (if ((h :: t).filter fun k => k % 2 == 1).length = 1 then .a else .m) else .x
theorem fs_cons (h : Nat) (t : List Nat) : fsOf (h :: t) = if h % 2 = 1 then (if ((h :: t).filter fun k => k % 2 == 1).length = 1 then Fs.a else .m) else .x := rfl
theorem fs_snoc (l : List Nat) (c : Nat) : fsOf (l ++ [c]) = if c % 2 = 1 then (fsOf l).odd else (fsOf l).evn := by
  cases l with
  | nil => by_cases h : c % 2 = 1 <;> simp [fsOf, h, Fs.odd, Fs.evn]
  | cons h t =>
    rw [List.cons_append, fs_cons, fs_cons, ← List.cons_append, List.filter_append, List.length_append]
    by_cases hh : h % 2 = 1
    · have h1 : 0 < ((h :: t).filter fun k => k % 2 == 1).length := by
        rw [List.filter_cons_of_pos (by simpa using hh)]; simp
      generalize ((h :: t).filter fun k => k % 2 == 1).length = q at h1
      by_cases hc : c % 2 = 1
      · rw [List.filter_cons_of_pos (by simpa using hc), if_pos hh, if_pos hc, if_pos hh, if_neg (by simp; omega)]
        split <;> rfl
      · have e : q + ([c].filter fun k => k % 2 == 1).length = q := by rw [List.filter_cons_of_neg (by simpa using hc)]; rfl
        rw [if_pos hh, if_neg hc, if_pos hh]
        by_cases hq : q = 1
        · rw [if_pos hq, if_pos (e.trans hq)]; rfl
        · rw [if_neg hq, if_neg fun h => hq (e.symm.trans h)]; rfl
    · rw [if_neg hh, if_neg hh]
      split <;> rfl
theorem endA_eq (l : List Nat) : ∀ k, kindOf (l, k) = endA (szOf k) (fsOf l)
  | k + 1 => by
    show 0 = _
    unfold szOf
    rw [if_neg (Nat.succ_ne_zero k)]
    split <;> rfl
  | 0 => by
    show (if l.headD 0 % 2 == 1 then (if (l.filter fun k => k % 2 == 1).length == 1 then 1 else 3) else 0) = endA .z (fsOf l)
    cases l with
    | nil => rfl
    | cons h t =>
      rw [fs_cons, List.headD_cons]
      by_cases hh : h % 2 = 1
      · rw [if_pos hh, if_pos (by simpa using hh)]
        by_cases hc : ((h :: t).filter fun k => k % 2 == 1).length = 1
        · rw [if_pos hc, if_pos (by simpa using hc)]; rfl
        · rw [if_neg hc, if_neg (by simpa using hc)]; rfl
      · rw [if_neg hh, if_neg (by simpa using hh)]; rfl
theorem runA_eq : ∀ (b : List Bool) (l : List Nat) (k : Nat), kindOf (seg b l k) = runA b (szOf k) (fsOf l)
  | [], l, k => endA_eq l k
  | c :: r, l, 0 => by
    have e : seg (c :: r) l 0 = seg r l 1 := by cases c <;> rfl
    rw [e, runA_eq r l 1]; rfl
  | false :: r, l, k + 1 => by
    show kindOf (seg r l (k + 2)) = _
    rw [runA_eq r l (k + 2)]
    unfold szOf
    rw [if_neg (Nat.succ_ne_zero _), if_neg (Nat.succ_ne_zero _)]
    by_cases h : (k + 1) % 2 = 1
    · rw [if_pos h, if_neg (by omega)]; rfl
    · rw [if_neg h, if_pos (by omega)]; rfl
  | true :: r, l, k + 1 => by
    show kindOf (seg r (l ++ [k + 2]) 0) = _
    rw [runA_eq r _ 0, fs_snoc]
    unfold szOf
    rw [if_pos rfl, if_neg (Nat.succ_ne_zero k)]
    by_cases h : (k + 1) % 2 = 1
    · rw [if_pos h, if_neg (by omega)]; rfl
    · rw [if_neg h, if_pos (by omega)]; rfl
theorem kind_A : kindB = kindA := funext fun b => runA_eq b [] 0
noncomputable def kindsA (B : List Bool) : List Nat := (List.range 9).map fun t => kindA (B.drop t ++ B.take t)
noncomputable def clsA (B : List Bool) : Bool :=
  B == List.replicate 9 true ||
  (B == List.replicate 9 false && kindsA B == List.replicate 9 0) ||
  ((List.range 9).any fun t0 => kindsA B == oneAt t0 && !(B.drop 3 ++ B.take 3 == B)) ||
  ((List.range 3).any fun t0 => kindsA B == triAt t0)
theorem cls_A : ∀ b0 b1 b2 b3 b4 b5 b6 b7 b8 : Bool, clsA [b0, b1, b2, b3, b4, b5, b6, b7, b8] = true := by decide +kernel
theorem cls_all (b0 b1 b2 b3 b4 b5 b6 b7 b8 : Bool) : clsB [b0, b1, b2, b3, b4, b5, b6, b7, b8] = true := by
  have e : clsB = clsA := by unfold clsB kinds; rw [kind_A]; rfl
  rw [e]; exact cls_A ..

noncomputable def bit8 : Nat → List (List Bool)
  | 0 => [[]]
  | k + 1 => (bit8 k).flatMap fun l => [false :: l, true :: l]
noncomputable def kind8 (p : List Bool) : Nat := kindB (false :: p)
noncomputable def gp : List (List Bool) := (bit8 8).filter fun p => kind8 p != 0
noncomputable def pairOk (p q : List Bool) (b : Bool) (o : Nat) : Bool :=
  let v := ((p ++ b :: q).drop o).take 8
  kind8 v == 0 || (kind8 v == 3 && ((o == 3 && kind8 p == 3) || (o == 6 && kind8 q == 3)))
theorem kind8_A : kind8 = fun p => kindA (false :: p) := by unfold kind8; rw [kind_A]
noncomputable def gpA : List (List Bool) := (bit8 8).filter fun p => kindA (false :: p) != 0
theorem gp_A : gp = gpA := by unfold gp; rw [kind8_A]; rfl
noncomputable def pairA (p q : List Bool) (b : Bool) (o : Nat) : Bool :=
  let v := ((p ++ b :: q).drop o).take 8
  kindA (false :: v) == 0 || (kindA (false :: v) == 3 && ((o == 3 && kindA (false :: p) == 3) || (o == 6 && kindA (false :: q) == 3)))
theorem gpA_all : ∀ b0 b1 b2 b3 b4 b5 b6 b7 : Bool, kindA (false :: [b0, b1, b2, b3, b4, b5, b6, b7]) = 0 ∨ [b0, b1, b2, b3, b4, b5, b6, b7] ∈ gpA := by decide +kernel
theorem gp_all (b0 b1 b2 b3 b4 b5 b6 b7 : Bool) : kind8 [b0, b1, b2, b3, b4, b5, b6, b7] = 0 ∨ [b0, b1, b2, b3, b4, b5, b6, b7] ∈ gp := by
  rw [gp_A, kind8_A]; exact gpA_all ..
/-- the end of a stretch of eight: nothing there, or three and told -/
noncomputable def okE (t : Bool) (s : Sz) (f : Fs) : Bool := @Sz.rec (fun _ => Bool) (@Fs.rec (fun _ => Bool) true true false t f) true true s
theorem okE_eq (t : Bool) : (fun s f => (fun k => k == 0 || (k == 3 && t)) (endA s f)) = okE t := by
  funext s f
  cases s <;> cases f <;> cases t <;> rfl
noncomputable def okW (t : Bool) (s : List Bool) : Bool := runF (okE t) 8 s .o .n
theorem okW_eq (t : Bool) (s : List Bool) : okW t s = (kindA (false :: s.take 8) == 0 || (kindA (false :: s.take 8) == 3 && t)) := by
  unfold okW
  rw [runF_eq, ← okE_eq]
  exact (runE_map (fun k => k == 0 || (k == 3 && t)) endA _ _ _).symm
/-- the stretches of eight behind each place, by what is told of them -/
noncomputable def sufs (T : List Bool) : List Bool → Bool :=
  @List.rec Bool (fun _ => List Bool → Bool) (fun _ => true)
    (fun t _ ih s => @List.rec Bool (fun _ => Bool) true (fun _ r _ => @Bool.rec (fun _ => Bool) false (ih r) (okW t r)) s) T
theorem sufs_spec : ∀ (T s : List Bool), sufs T s = true → ∀ (i : Nat) (t : Bool), T[i]? = some t → okW t (s.drop (i + 1)) = true
  | [], _, _, i, t, h => nomatch h
  | t0 :: T, [], _, i, t, _ => by rw [List.drop_nil]; rfl
  | t0 :: T, c :: r, h, i, t, hi => by
    have h1 : @Bool.rec (fun _ => Bool) false (sufs T r) (okW t0 r) = true := h
    cases ho : okW t0 r with
    | false => rw [ho] at h1; exact nomatch h1
    | true =>
      rw [ho] at h1
      cases i with
      | zero => obtain rfl := Option.some.inj hi; exact ho
      | succ i => exact sufs_spec T r h1 i t hi
noncomputable def is3 (p : List Bool) : Bool := kindA (false :: p) == 3
noncomputable def pairF (p q : List Bool) (b : Bool) : Bool := sufs [false, false, is3 p, false, false, is3 q, false, false] (p ++ b :: q)
theorem pairF_all : (gpA.all fun p => gpA.all fun q => [false, true].all fun b => pairF p q b) = true := by decide +kernel
theorem pairF_ok {p q : List Bool} {b : Bool} (h : pairF p q b = true) : ([1, 2, 3, 4, 5, 6, 7, 8].all fun o => pairA p q b o) = true := by
  have k : ∀ (o : Nat) (t : Bool), [false, false, is3 p, false, false, is3 q, false, false][o]? = some t → t = ((o + 1 == 3 && kindA (false :: p) == 3) || (o + 1 == 6 && kindA (false :: q) == 3)) → pairA p q b (o + 1) = true := fun o t ht e => by
    have := sufs_spec _ _ h o t ht
    rw [okW_eq, e] at this
    exact this
  rw [List.all_eq_true]
  intro o ho
  simp only [List.mem_cons, List.not_mem_nil, or_false] at ho
  rcases ho with rfl | rfl | rfl | rfl | rfl | rfl | rfl | rfl
  · exact k 0 _ rfl rfl
  · exact k 1 _ rfl rfl
  · exact k 2 _ rfl (by simp [is3])
  · exact k 3 _ rfl rfl
  · exact k 4 _ rfl rfl
  · exact k 5 _ rfl (by simp [is3])
  · exact k 6 _ rfl rfl
  · exact k 7 _ rfl rfl
theorem pairA_all : (gpA.all fun p => gpA.all fun q => [false, true].all fun b => [1, 2, 3, 4, 5, 6, 7, 8].all fun o => pairA p q b o) = true := by
  have h := pairF_all
  rw [List.all_eq_true] at h ⊢
  intro p hp
  have h1 := h p hp
  rw [List.all_eq_true] at h1 ⊢
  intro q hq
  have h2 := h1 q hq
  rw [List.all_eq_true] at h2 ⊢
  exact fun b hb => pairF_ok (h2 b hb)
theorem pair_all : (gp.all fun p => gp.all fun q => [false, true].all fun b => [1, 2, 3, 4, 5, 6, 7, 8].all fun o => pairOk p q b o) = true := by
  have e : pairOk = pairA := by unfold pairOk; rw [kind8_A]; rfl
  rw [gp_A, e]; exact pairA_all
theorem pair_ok {p q : List Bool} (hp : p ∈ gp) (hq : q ∈ gp) (b : Bool) {o : Nat} (h1 : 1 ≤ o) (h2 : o ≤ 8) : pairOk p q b o = true := by
  have h := List.all_eq_true.mp (List.all_eq_true.mp (List.all_eq_true.mp (List.all_eq_true.mp pair_all p hp) q hq) b (by cases b <;> simp)) o
  exact h (by simp; omega)
theorem seg_append : ∀ (a b : List Bool) (l : List Nat) (k : Nat), seg (a ++ b) l k = seg b (seg a l k).1 (seg a l k).2
  | [], b, l, k => rfl
  | true :: r, b, l, k + 1 => by
    show seg (r ++ b) _ _ = seg b (seg r _ _).1 (seg r _ _).2
    exact seg_append r b _ _
  | true :: r, b, l, 0 => by
    show seg (r ++ b) _ _ = seg b (seg r _ _).1 (seg r _ _).2
    exact seg_append r b _ _
  | false :: r, b, l, k => by
    show seg (r ++ b) _ _ = seg b (seg r _ _).1 (seg r _ _).2
    exact seg_append r b _ _
theorem seg_one (b : Bool) (l : List Nat) (k : Nat) : seg [b] l k = if 1 < k + 1 ∧ b = true then (l ++ [k + 1], 0) else (l, k + 1) := by
  cases b <;> cases k <;> simp [seg]
theorem kind_first (b : Bool) (r : List Bool) : kindB (b :: r) = kind8 r := by
  cases b <;> rfl
end Mine
end
theorem Mine.rest_M2 {prog : PySem.Program} {w : PySem.World} {A : PySem.Around} {E : PySem.Value → PySem.Shared → Prop} {s : PySem.Shared} {env : PySem.Env} : PySem.wpAny (PySem.model prog w) A (PySem.execs [] env) (fun _ _ => True) E s := by
  w_top off
  first | (walk1; trivial) | exact PySem.wpAny_execs_nil trivial
section
open PySem
set_option Elab.async false
set_option linter.unusedVariables false
set_option linter.unusedSimpArgs false
namespace Mine

theorem fold_append (ch : List (Nat × List Nat)) : ∀ a b : List Nat, ch.foldl (fun l p => subL p.1 p.2 l) (a ++ b) = ch.foldl (fun l p => subL p.1 p.2 l) a ++ ch.foldl (fun l p => subL p.1 p.2 l) b := by
  induction ch with
  | nil => intro a b; rfl
  | cons p r ih => intro a b; rw [List.foldl_cons, subL_append, ih]; rfl
theorem esc_append (n : Nat) (a b : List Nat) : escL n (a ++ b) = escL n a ++ escL n b := fold_append (chain n) a b
theorem esc_nil (n : Nat) : escL n [] = [] := by
  have h : ∀ ch : List (Nat × List Nat), ch.foldl (fun l p => subL p.1 p.2 l) [] = [] := by
    intro ch
    induction ch with
    | nil => rfl
    | cons p r ih => rw [List.foldl_cons]; exact ih
  exact h _
theorem esc_cons (n c : Nat) (r : List Nat) : escL n (c :: r) = escL n [c] ++ escL n r := esc_append n [c] r
theorem esc_flat (n : Nat) : ∀ w : List Nat, escL n w = w.flatMap fun c => escL n [c]
  | [] => esc_nil n
  | c :: r => by rw [esc_cons, esc_flat n r]; rfl

noncomputable def hds : List Nat := [9, 10, 13, 38, 60, 62]
noncomputable def spOk (l : List Nat) : Bool := match l with
  | [] => false
  | h :: t => hds.contains h && t.all (fun x => !hds.contains x) && decide (t.length ≤ 5) && !(h :: t).contains 46 && !(h :: t).contains 34 && (h :: t).all (fun x => decide (x < 128))
theorem sp_all : ((List.range 5).all fun n => (sgn n).all fun c => spOk (escL n [c])) = true := by decide +kernel
theorem sp_ok {n c : Nat} (hn : n < 5) (hc : c ∈ sgn n) : spOk (escL n [c]) = true :=
  List.all_eq_true.mp (List.all_eq_true.mp sp_all n (List.mem_range.mpr hn)) c hc
theorem pre_all : ((List.range 5).all fun n => (sgn n).all fun c => (sgn n).all fun d => c == d || !(escL n [c]).isPrefixOf (escL n [d])) = true := by decide +kernel
theorem pre_ok {n c d : Nat} (hn : n < 5) (hc : c ∈ sgn n) (hd : d ∈ sgn n) (h : escL n [c] <+: escL n [d]) : c = d := by
  have := List.all_eq_true.mp (List.all_eq_true.mp (List.all_eq_true.mp pre_all n (List.mem_range.mpr hn)) c hc) d hd
  simp only [Bool.or_eq_true, beq_iff_eq, Bool.not_eq_true'] at this
  rcases this with h1 | h1
  · exact h1
  · rw [List.isPrefixOf_iff_prefix.mpr h] at h1; cases h1
theorem sp_inj {n c d : Nat} (hn : n < 5) (hc : c ∈ sgn n) (hd : d ∈ sgn n) (h : escL n [c] = escL n [d]) : c = d :=
  pre_ok hn hc hd (h ▸ List.prefix_rfl)
/-- what each spelling is -/
theorem sp_form {n c : Nat} (hn : n < 5) (hc : c ∈ sgn n) : ∃ h t, escL n [c] = h :: t ∧ h ∈ hds ∧ (∀ x ∈ t, x ∉ hds) ∧ t.length ≤ 5 ∧ 46 ∉ escL n [c] ∧ 34 ∉ escL n [c] ∧ ∀ x ∈ escL n [c], x < 128 := by
  have h := sp_ok hn hc
  cases e : escL n [c] with
  | nil => rw [e] at h; cases h
  | cons a t =>
    rw [e] at h
    simp only [spOk, Bool.and_eq_true, List.contains_iff_mem, List.all_eq_true, decide_eq_true_eq, Bool.not_eq_true', List.contains_eq_mem, decide_eq_false_iff_not] at h
    exact ⟨a, t, rfl, h.1.1.1.1.1, h.1.1.1.1.2, h.1.1.1.2, h.1.1.2, h.1.2, h.2⟩

noncomputable abbrev Sg (n : Nat) (w : List Nat) : Prop := ∀ c ∈ w, c ∈ sgn n
/-- a spelled word that begins with a spelled word -/
theorem esc_prefix {n : Nat} (hn : n < 5) : ∀ {v u : List Nat}, Sg n v → Sg n u → escL n v <+: escL n u → v <+: u
  | [], _, _, _, _ => List.nil_prefix
  | c :: r, [], hv, _, h => by
    obtain ⟨a, t, e, _⟩ := sp_form hn (hv c (List.mem_cons_self ..))
    rw [esc_cons, e, esc_nil] at h
    simp at h
  | c :: r, d :: s, hv, hu, h => by
    have hc := hv c (List.mem_cons_self ..)
    have hd := hu d (List.mem_cons_self ..)
    have h1 : escL n [c] <+: escL n (d :: s) := List.IsPrefix.trans (by rw [esc_cons n c r]; exact List.prefix_append _ _) h
    have h2 : escL n [d] <+: escL n (d :: s) := by rw [esc_cons n d s]; exact List.prefix_append _ _
    have e : c = d := by
      rcases List.prefix_or_prefix_of_prefix h1 h2 with h3 | h3
      · exact pre_ok hn hc hd h3
      · exact (pre_ok hn hd hc h3).symm
    subst e
    rw [esc_cons n c r, esc_cons n c s, List.prefix_append_right_inj] at h
    have ih := esc_prefix hn (fun x hx => hv x (List.mem_cons_of_mem _ hx)) (fun x hx => hu x (List.mem_cons_of_mem _ hx)) h
    exact (List.prefix_append_right_inj [c]).mpr ih
theorem esc_inj {n : Nat} (hn : n < 5) {v u : List Nat} (hv : Sg n v) (hu : Sg n u) (h : escL n v = escL n u) : v = u := by
  have h1 := esc_prefix hn hv hu (h ▸ List.prefix_rfl)
  have h2 := esc_prefix hn hu hv (h ▸ List.prefix_rfl)
  exact List.IsPrefix.eq_of_length h1 (Nat.le_antisymm h1.length_le h2.length_le)
/-- where a head stands, a sign begins -/
theorem esc_cut {n : Nat} (hn : n < 5) : ∀ {w : List Nat} {a : List Nat} {h : Nat} {b : List Nat}, Sg n w → escL n w = a ++ h :: b → h ∈ hds → ∃ u v, w = u ++ v ∧ a = escL n u ∧ h :: b = escL n v
  | [], a, h, b, _, e, _ => by rw [esc_nil] at e; simp at e
  | c :: r, a, h, b, hw, e, hh => by
    obtain ⟨x, t, e1, hx, ht, _⟩ := sp_form hn (hw c (List.mem_cons_self ..))
    have e0 : escL n (c :: r) = x :: (t ++ escL n r) := by rw [esc_cons, e1]; rfl
    cases a with
    | nil => exact ⟨[], c :: r, rfl, (esc_nil n).symm, e.symm⟩
    | cons y a' =>
      rw [e0] at e
      have e2 : x = y := (List.cons.inj e).1
      have e3 : t ++ escL n r = a' ++ h :: b := (List.cons.inj e).2
      subst e2
      rcases List.append_eq_append_iff.mp e3 with ⟨z, hz1, hz2⟩ | ⟨z, hz1, hz2⟩
      · -- a' = t ++ z
        obtain ⟨u, v, h1, h2, h3⟩ := esc_cut hn (fun x hx => hw x (List.mem_cons_of_mem _ hx)) hz2 hh
        exact ⟨c :: u, v, by rw [h1]; rfl, by rw [esc_cons, e1, hz1, h2]; rfl, h3⟩
      · -- t = a' ++ z, h :: b = z ++ escL r
        cases z with
        | nil =>
          rw [List.nil_append] at hz2
          rw [List.append_nil] at hz1
          obtain ⟨u, v, h1, h2, h3⟩ := esc_cut hn (a := []) (fun x hx => hw x (List.mem_cons_of_mem _ hx)) hz2.symm hh
          refine ⟨c :: u, v, by rw [h1]; rfl, ?_, h3⟩
          rw [esc_cons, e1, ← h2, List.append_nil, hz1]
        | cons q z' =>
          have : h = q := (List.cons.inj hz2).1
          exact absurd hh (ht h (by rw [hz1, this]; simp))
/-- a spelled word within a spelled word stands at a sign -/
theorem esc_infix {n : Nat} (hn : n < 5) {w v : List Nat} {a b : List Nat} (hw : Sg n w) (hv : Sg n v) (hne : v ≠ []) (e : escL n w = a ++ (escL n v ++ b)) :
    ∃ u r, w = u ++ (v ++ r) ∧ a = escL n u ∧ b = escL n r := by
  cases v with
  | nil => exact absurd rfl hne
  | cons c s =>
    obtain ⟨x, t, e1, hx, _⟩ := sp_form hn (hv c (List.mem_cons_self ..))
    have e0 : escL n (c :: s) ++ b = x :: (t ++ escL n s ++ b) := by rw [esc_cons, e1]; simp
    obtain ⟨u, v', h1, h2, h3⟩ := esc_cut hn hw (e.trans (by rw [e0])) hx
    rw [← e0] at h3
    have hv' : Sg n v' := fun x hx => hw x (by rw [h1]; exact List.mem_append_right _ hx)
    obtain ⟨r, hr⟩ := esc_prefix hn hv hv' (by rw [← h3]; exact List.prefix_append _ _)
    refine ⟨u, r, by rw [hr]; exact h1, h2, ?_⟩
    rw [← hr, esc_append] at h3
    exact List.append_cancel_left h3
theorem esc_mem {n : Nat} (hn : n < 5) {w : List Nat} (hw : Sg n w) : 46 ∉ escL n w ∧ 34 ∉ escL n w := by
  rw [esc_flat]
  constructor
  · intro h
    obtain ⟨c, hc, hx⟩ := List.mem_flatMap.mp h
    obtain ⟨_, _, _, _, _, _, h1, _⟩ := sp_form hn (hw c hc)
    exact h1 hx
  · intro h
    obtain ⟨c, hc, hx⟩ := List.mem_flatMap.mp h
    obtain ⟨_, _, _, _, _, _, _, h1, _⟩ := sp_form hn (hw c hc)
    exact h1 hx
theorem esc_len {n : Nat} (hn : n < 5) : ∀ {w : List Nat}, Sg n w → w.length ≤ (escL n w).length ∧ (escL n w).length ≤ 6 * w.length
  | [], _ => by rw [esc_nil]; simp
  | c :: r, hw => by
    obtain ⟨x, t, e1, _, _, h5, _⟩ := sp_form hn (hw c (List.mem_cons_self ..))
    have ih := esc_len hn (w := r) (fun x hx => hw x (List.mem_cons_of_mem _ hx))
    rw [esc_cons, e1]
    simp only [List.length_append, List.length_cons]
    omega
end Mine
end
theorem Mine.rest_M3 {prog : PySem.Program} {w : PySem.World} {A : PySem.Around} {E : PySem.Value → PySem.Shared → Prop} {s : PySem.Shared} {env : PySem.Env} : PySem.wpAny (PySem.model prog w) A (PySem.execs [] env) (fun _ _ => True) E s := by
  w_top off
  first | (walk1; trivial) | exact PySem.wpAny_execs_nil trivial
section
open PySem PySem.W PyProof.Rows
set_option Elab.async false
set_option linter.unusedVariables false
set_option linter.unusedSimpArgs false
namespace Mine

theorem lt_asy {a b : List Nat} (h : a < b) : ¬ b < a := fun h' => absurd (List.lt_trans h h') (List.lt_irrefl a)
theorem lt_tri {a b : List Nat} (h1 : ¬ a < b) (h2 : ¬ b < a) : a = b :=
  List.le_antisymm (List.not_lt.mp h2) (List.not_lt.mp h1)
theorem coll_lt {x y : Str} : strcollF x y < 0 ↔ x.cps.toList < y.cps.toList := by
  unfold strcollF
  by_cases h : x.cps.toList < y.cps.toList
  · have h2 := lt_asy h
    simp [h, h2, b2i]
  · by_cases h2 : y.cps.toList < x.cps.toList
    · simp [h, h2, b2i]
    · simp [h, h2, b2i]
theorem coll_ge {x y : Str} : 0 ≤ strcollF x y ↔ ¬ x.cps.toList < y.cps.toList := by
  rw [← coll_lt]; omega
/-- does b's spelling rise above a's -/
noncomputable def up (n a b : Nat) : Bool := decide (escL n [a] < escL n [b])
theorem up_eq (n a b : Nat) : decide (strcollF (spS n a) (spS n b) < 0) = up n a b := by
  unfold up
  rw [Bool.eq_iff_iff, decide_eq_true_iff, decide_eq_true_iff, coll_lt]
  rfl
/-- the text of nine signs -/
theorem list9 {l : List Nat} (h : l.length = 9) : ∃ a0 a1 a2 a3 a4 a5 a6 a7 a8, l = [a0, a1, a2, a3, a4, a5, a6, a7, a8] := by
  match l, h with
  | [a0, a1, a2, a3, a4, a5, a6, a7, a8], _ => exact ⟨_, _, _, _, _, _, _, _, _, rfl⟩

noncomputable def ups (n : Nat) (l : List Nat) : List Bool := List.zipWith (up n) l l.tail
theorem szRun_seg (bs : Nat → Bool) (t : Nat) : ∀ j, szRun bs t j = seg ((List.range j).map fun i => bs ((t + i) % 9)) [] 0
  | 0 => rfl
  | j + 1 => by
    rw [List.range_succ, List.map_append, seg_append, ← szRun_seg bs t j]
    show szStep bs (szRun bs t j) (t + j) = seg [bs ((t + j) % 9)] _ _
    rw [seg_one]
    rfl
noncomputable def rises (n : Nat) (cs : List Nat) : List Bool := (List.range 9).map (riseF n cs)
theorem rot9 (bs : Nat → Bool) : ∀ t, t < 9 → ((List.range 9).map fun i => bs ((t + i) % 9)) = ((List.range 9).map bs).drop t ++ ((List.range 9).map bs).take t
  | 0, _ => rfl
  | 1, _ => rfl
  | 2, _ => rfl
  | 3, _ => rfl
  | 4, _ => rfl
  | 5, _ => rfl
  | 6, _ => rfl
  | 7, _ => rfl
  | 8, _ => rfl
  | n + 9, h => absurd h (by omega)
/-- the test of the thirds -/
noncomputable def dipT (n : Nat) (w : List Nat) : Bool := !decide (escL n (w.take 3) < escL n ((w.drop 3).take 3)) && decide (escL n ((w.drop 3).take 3) < escL n ((w.drop 6).take 3))
noncomputable def kindT (n : Nat) (cs : List Nat) (t : Nat) : Nat := kindB ((rises n cs).drop t ++ (rises n cs).take t)
theorem tk_eq (n : Nat) (cs : List Nat) {t : Nat} (ht : t < 9) : tkOne n cs t = (kindT n cs t == 1 || (kindT n cs t == 3 && dipT n (rot cs t))) := by
  have e : szRun (riseF n cs) t 9 = seg ((rises n cs).drop t ++ (rises n cs).take t) [] 0 := by rw [szRun_seg, rot9 _ t ht]; rfl
  have ed : (decide (0 ≤ strcollF (third n (rot cs t) 0) (third n (rot cs t) 1)) && decide (strcollF (third n (rot cs t) 1) (third n (rot cs t) 2) < 0)) = dipT n (rot cs t) := by
    unfold dipT
    rw [Bool.eq_iff_iff]
    simp only [Bool.and_eq_true, decide_eq_true_iff, coll_ge, coll_lt, Bool.not_eq_true', decide_eq_false_iff_not]
    rfl
  unfold tkOne kindT kindB
  rw [ed, e]
  cases hs : seg ((rises n cs).drop t ++ (rises n cs).take t) [] 0 with
  | mk l z =>
    cases z with
    | succ z => rfl
    | zero =>
      show (decide (0 = 0) && decide (l.headD 0 % 2 = 1) && (decide ((l.filter fun k => k % 2 == 1).length = 1) || _)) = (((if (l.headD 0 % 2 == 1) = true then (if ((l.filter fun k => k % 2 == 1).length == 1) = true then 1 else 3) else 0) == 1) || (((if (l.headD 0 % 2 == 1) = true then (if ((l.filter fun k => k % 2 == 1).length == 1) = true then 1 else 3) else 0) == 3) && _))
      generalize l.headD 0 % 2 = a
      generalize (l.filter fun k => k % 2 == 1).length = b
      by_cases h1 : a = 1
      · by_cases h2 : b = 1
        · simp [h1, h2]
        · simp [h1, h2]
      · simp [h1]
theorem rises9 (n a0 a1 a2 a3 a4 a5 a6 a7 a8 : Nat) : rises n [a0, a1, a2, a3, a4, a5, a6, a7, a8] = [up n a8 a0, up n a0 a1, up n a1 a2, up n a2 a3, up n a3 a4, up n a4 a5, up n a5 a6, up n a6 a7, up n a7 a8] := by
  simp only [← up_eq]; rfl
/-- a word that is taken: its own kind -/
noncomputable def kindW (n : Nat) (w : List Nat) : Nat := kind8 (ups n w)
theorem kind_rot (n : Nat) {cs : List Nat} (h : cs.length = 9) : ∀ t, t < 9 → kindT n cs t = kindW n (rot cs t) := by
  obtain ⟨a0, a1, a2, a3, a4, a5, a6, a7, a8, rfl⟩ := list9 h
  intro t ht
  unfold kindT kindW
  rw [rises9]
  match t, ht with
  | 0, _ => exact kind_first _ _
  | 1, _ => exact kind_first _ _
  | 2, _ => exact kind_first _ _
  | 3, _ => exact kind_first _ _
  | 4, _ => exact kind_first _ _
  | 5, _ => exact kind_first _ _
  | 6, _ => exact kind_first _ _
  | 7, _ => exact kind_first _ _
  | 8, _ => exact kind_first _ _
structure Good (n : Nat) (w : List Nat) : Prop where
  len : w.length = 9
  sg : Sg n w
  kd : kindW n w = 1 ∨ (kindW n w = 3 ∧ dipT n w = true)
theorem rot_mem {cs : List Nat} {t c : Nat} (h : c ∈ rot cs t) : c ∈ cs := by
  rcases List.mem_append.mp h with h | h
  · exact List.mem_of_mem_drop h
  · exact List.mem_of_mem_take h
theorem good_of {n : Nat} {cs : List Nat} {t : Nat} (h : cs.length = 9) (hs : Sg n cs) (ht : t < 9) (hk : tkOne n cs t = true) : Good n (rot cs t) := by
  refine ⟨rot_len h t, fun c hc => hs c (rot_mem hc), ?_⟩
  rw [tk_eq n cs ht, kind_rot n h t ht] at hk
  simpa using hk
theorem good_taken {n : Nat} {cs : List Nat} (h : cs.length = 9) (hs : Sg n cs) : ∀ w ∈ takenF n cs 9, Good n w := by
  intro w hw
  obtain ⟨t, ht, rfl⟩ := List.mem_map.mp hw
  obtain ⟨h1, h2⟩ := List.mem_filter.mp ht
  exact good_of h hs (List.mem_range.mp h1) h2

theorem filter_one {f : Nat → Bool} {t0 : Nat} (h0 : t0 < 9) (h : ∀ t, t < 9 → f t = (t == t0)) : (List.range 9).filter f = [t0] := by
  rw [List.filter_congr (q := fun t => t == t0) (fun t ht => h t (List.mem_range.mp ht))]
  have : ∀ t0 : Fin 9, (List.range 9).filter (fun t => t == t0.val) = [t0.val] := by decide
  exact this ⟨t0, h0⟩
theorem filter_none {f : Nat → Bool} (h : ∀ t, t < 9 → f t = false) : (List.range 9).filter f = [] := by
  rw [List.filter_eq_nil_iff]
  intro t ht
  rw [h t (List.mem_range.mp ht)]; exact Bool.false_ne_true
theorem three_one {a b c : List Nat} (hne : ¬ (a = b ∧ b = c)) :
    (((!decide (a < b) && decide (b < c)) = true ∧ (!decide (b < c) && decide (c < a)) = false ∧ (!decide (c < a) && decide (a < b)) = false) ∨
     ((!decide (a < b) && decide (b < c)) = false ∧ (!decide (b < c) && decide (c < a)) = true ∧ (!decide (c < a) && decide (a < b)) = false) ∨
     ((!decide (a < b) && decide (b < c)) = false ∧ (!decide (b < c) && decide (c < a)) = false ∧ (!decide (c < a) && decide (a < b)) = true)) := by
  by_cases h1 : a < b <;> by_cases h2 : b < c <;> by_cases h3 : c < a <;> simp only [h1, h2, h3, decide_true, decide_false, Bool.not_true, Bool.not_false, Bool.and_true, Bool.and_false, Bool.true_and, Bool.false_and]
  · exact absurd (List.lt_trans (List.lt_trans h1 h2) h3) (List.lt_irrefl _)
  · simp
  · simp
  · simp
  · simp
  · simp
  · simp
  · exfalso
    have e : ∀ {x y : List Nat}, ¬ x < y → y ≤ x := fun h => List.not_lt.mp h
    have hab := e h1
    have hbc := e h2
    have hca := e h3
    have h4 : a = b := List.le_antisymm (List.le_trans hca hbc) hab
    exact hne ⟨h4, List.le_antisymm (List.le_trans hab hca) hbc⟩
end Mine
end
theorem Mine.rest_M4 {prog : PySem.Program} {w : PySem.World} {A : PySem.Around} {E : PySem.Value → PySem.Shared → Prop} {s : PySem.Shared} {env : PySem.Env} : PySem.wpAny (PySem.model prog w) A (PySem.execs [] env) (fun _ _ => True) E s := by
  w_top off
  first | (walk1; trivial) | exact PySem.wpAny_execs_nil trivial
section
open PySem PySem.W PyProof.Rows
set_option Elab.async false
set_option linter.unusedVariables false
set_option linter.unusedSimpArgs false
namespace Mine

theorem kinds_at (B : List Bool) {t : Nat} (ht : t < 9) : (kinds B)[t]? = some (kindB (B.drop t ++ B.take t)) := by
  unfold kinds
  rw [List.getElem?_map, List.getElem?_range ht]; rfl
theorem oneAt_at (t0 : Nat) {t : Nat} (ht : t < 9) : (oneAt t0)[t]? = some (if (t == t0) = true then 1 else 0) := by
  unfold oneAt
  rw [List.getElem?_map, List.getElem?_range ht]; rfl
theorem triAt_at (t0 : Nat) {t : Nat} (ht : t < 9) : (triAt t0)[t]? = some (if (t % 3 == t0) = true then 3 else 0) := by
  unfold triAt
  rw [List.getElem?_map, List.getElem?_range ht]; rfl
theorem up_t {n a b : Nat} (h : up n a b = true) : escL n [a] < escL n [b] := of_decide_eq_true h
theorem up_f {n a b : Nat} (h : up n a b = false) : escL n [b] ≤ escL n [a] := List.not_lt.mp (of_decide_eq_false h)
theorem dip_eq (n : Nat) (A B C : List Nat) (h1 : A.length = 3) (h2 : B.length = 3) (h3 : C.length = 3) : dipT n (A ++ (B ++ C)) = (!decide (escL n A < escL n B) && decide (escL n B < escL n C)) := by
  have e1 : (A ++ (B ++ C)).take 3 = A := by rw [← h1, List.take_left]
  have e2 : (A ++ (B ++ C)).drop 3 = B ++ C := by rw [← h1, List.drop_left]
  have e3 : (B ++ C).take 3 = B := by rw [← h2, List.take_left]
  have e4 : (A ++ (B ++ C)).drop 6 = C := by
    rw [show (6 : Nat) = 3 + 3 from rfl, ← List.drop_drop, e2, ← h2, List.drop_left]
  have e5 : C.take 3 = C := List.take_of_length_le (Nat.le_of_eq h3)
  unfold dipT
  rw [e1, e2, e3, e4, e5]
/-- the 333 case -/
theorem tri_len {n : Nat} {cs : List Nat} {t0 : Nat} (h0 : t0 < 3) (A B C : List Nat) (h1 : A.length = 3) (h2 : B.length = 3) (h3 : C.length = 3)
    (r0 : rot cs t0 = A ++ (B ++ C)) (r1 : rot cs (t0 + 3) = B ++ (C ++ A)) (r2 : rot cs (t0 + 6) = C ++ (A ++ B)) (hk : ∀ t, t < 9 → kindT n cs t = if (t % 3 == t0) = true then 3 else 0) :
    (takenF n cs 9).length = if escL n A = escL n B ∧ escL n B = escL n C then 0 else 1 := by
  have hd0 : dipT n (rot cs t0) = (!decide (escL n A < escL n B) && decide (escL n B < escL n C)) := by rw [r0]; exact dip_eq n A B C h1 h2 h3
  have hd1 : dipT n (rot cs (t0 + 3)) = (!decide (escL n B < escL n C) && decide (escL n C < escL n A)) := by rw [r1]; exact dip_eq n B C A h2 h3 h1
  have hd2 : dipT n (rot cs (t0 + 6)) = (!decide (escL n C < escL n A) && decide (escL n A < escL n B)) := by rw [r2]; exact dip_eq n C A B h3 h1 h2
  have htk : ∀ t, t < 9 → tkOne n cs t = ((t % 3 == t0) && dipT n (rot cs t)) := by
    intro t ht
    rw [tk_eq n cs ht, hk t ht]
    by_cases e : (t % 3 == t0) = true
    · rw [if_pos e, e]; rfl
    · rw [if_neg e, Bool.not_eq_true] at *
      rw [e]; rfl
  have pick : ∀ t, t < 9 → t % 3 = t0 → t = t0 ∨ t = t0 + 3 ∨ t = t0 + 6 := by omega
  unfold takenF
  rw [List.length_map]
  by_cases hall : escL n A = escL n B ∧ escL n B = escL n C
  · rw [if_pos hall, filter_none]
    · rfl
    intro t ht
    rw [htk t ht]
    have irr : ∀ x : List Nat, decide (x < x) = false := fun x => decide_eq_false (List.lt_irrefl x)
    by_cases e : t % 3 = t0
    · rcases pick t ht e with q | q | q <;> subst q
      · rw [hd0, hall.2, irr, Bool.and_false, Bool.and_false]
      · rw [hd1, hall.1, hall.2, irr, Bool.and_false, Bool.and_false]
      · rw [hd2, hall.1, irr, Bool.and_false, Bool.and_false]
    · rw [beq_eq_false_iff_ne.mpr e, Bool.false_and]
  · rw [if_neg hall]
    have fin : ∀ j0, j0 < 3 → (∀ j, j < 3 → dipT n (rot cs (t0 + 3 * j)) = (j == j0)) → ((List.range 9).filter (tkOne n cs)).length = 1 := by
      intro j0 hj0 hj
      rw [filter_one (t0 := t0 + 3 * j0) (by omega)]
      · rfl
      intro t ht
      rw [htk t ht]
      by_cases e : t % 3 = t0
      · have e2 : t = t0 + 3 * (t / 3) := by omega
        have h := hj (t / 3) (by omega)
        rw [← e2] at h
        rw [h, beq_iff_eq.mpr e, Bool.true_and, Bool.eq_iff_iff, beq_iff_eq, beq_iff_eq]
        omega
      · rw [beq_eq_false_iff_ne.mpr e, Bool.false_and]
        symm
        rw [beq_eq_false_iff_ne]
        omega
    rcases three_one hall with ⟨c0, c1, c2⟩ | ⟨c0, c1, c2⟩ | ⟨c0, c1, c2⟩
    · refine fin 0 (by decide) fun j hj => ?_
      match j, hj with
      | 0, _ => exact hd0.trans c0
      | 1, _ => exact hd1.trans c1
      | 2, _ => exact hd2.trans c2
    · refine fin 1 (by decide) fun j hj => ?_
      match j, hj with
      | 0, _ => exact hd0.trans c0
      | 1, _ => exact hd1.trans c1
      | 2, _ => exact hd2.trans c2
    · refine fin 2 (by decide) fun j hj => ?_
      match j, hj with
      | 0, _ => exact hd0.trans c0
      | 1, _ => exact hd1.trans c1
      | 2, _ => exact hd2.trans c2
theorem taken_len {n : Nat} (hn : n < 5) {cs : List Nat} (h : cs.length = 9) (hs : Sg n cs) :
    (takenF n cs 9).length = if cs = cs.take 3 ++ (cs.take 3 ++ cs.take 3) then 0 else 1 := by
  obtain ⟨a0, a1, a2, a3, a4, a5, a6, a7, a8, rfl⟩ := list9 h
  show _ = if [a0, a1, a2, a3, a4, a5, a6, a7, a8] = [a0, a1, a2, a0, a1, a2, a0, a1, a2] then 0 else 1
  have hc := cls_all (up n a8 a0) (up n a0 a1) (up n a1 a2) (up n a2 a3) (up n a3 a4) (up n a4 a5) (up n a5 a6) (up n a6 a7) (up n a7 a8)
  rw [← rises9] at hc
  have hkd : ∀ t, t < 9 → (kinds (rises n [a0, a1, a2, a3, a4, a5, a6, a7, a8]))[t]? = some (kindT n [a0, a1, a2, a3, a4, a5, a6, a7, a8] t) := fun t ht => kinds_at _ ht
  simp only [clsB, Bool.or_eq_true, Bool.and_eq_true, beq_iff_eq, List.any_eq_true, List.mem_range, Bool.not_eq_true'] at hc
  rcases hc with ((hc | hc) | hc) | hc
  · rw [rises9] at hc
    simp only [List.replicate, List.cons.injEq, and_true] at hc
    obtain ⟨h80, h01, h12, h23, h34, h45, h56, h67, h78⟩ := hc
    have := List.lt_trans (List.lt_trans (List.lt_trans (List.lt_trans (List.lt_trans (List.lt_trans (List.lt_trans (List.lt_trans (up_t h01) (up_t h12)) (up_t h23)) (up_t h34)) (up_t h45)) (up_t h56)) (up_t h67)) (up_t h78)) (up_t h80)
    exact absurd this (List.lt_irrefl _)
  · obtain ⟨h1, h2⟩ := hc
    rw [rises9] at h1
    simp only [List.replicate, List.cons.injEq, and_true] at h1
    obtain ⟨h80, h01, h12, h23, h34, h45, h56, h67, h78⟩ := h1
    have q80 := up_f h80
    have q01 := up_f h01
    have q12 := up_f h12
    have q23 := up_f h23
    have q34 := up_f h34
    have q45 := up_f h45
    have q56 := up_f h56
    have q67 := up_f h67
    have q78 := up_f h78
    have tr : ∀ {a b c : List Nat}, a ≤ b → b ≤ c → a ≤ c := fun x y => List.le_trans x y
    have asym : ∀ {a b : List Nat}, a ≤ b → b ≤ a → a = b := fun x y => List.le_antisymm x y
    have mem : ∀ x ∈ [a0, a1, a2, a3, a4, a5, a6, a7, a8], x ∈ sgn n := hs
    have eq : ∀ {x y : Nat}, x ∈ sgn n → y ∈ sgn n → escL n [x] ≤ escL n [y] → escL n [y] ≤ escL n [x] → x = y := fun hx hy p q => sp_inj hn hx hy (asym p q)
    have m0 := mem a0 (by simp)
    have m1 := mem a1 (by simp)
    have m2 := mem a2 (by simp)
    have m3 := mem a3 (by simp)
    have m4 := mem a4 (by simp)
    have m5 := mem a5 (by simp)
    have m6 := mem a6 (by simp)
    have m7 := mem a7 (by simp)
    have m8 := mem a8 (by simp)
    -- q01 : e a1 ≤ e a0, …, q80 : e a0 ≤ e a8
    have d8 : escL n [a8] ≤ escL n [a7] := q78
    have d7 := tr d8 q67
    have d6 := tr d7 q56
    have d5 := tr d6 q45
    have d4 := tr d5 q34
    have d3 := tr d4 q23
    have d2 := tr d3 q12
    have d1 := tr d2 q01
    have e0 : a0 = a8 := eq m0 m8 q80 d1
    have e1 : a1 = a8 := eq m1 m8 (tr q01 q80) d2
    have e2 : a2 = a8 := eq m2 m8 (tr q12 (tr q01 q80)) d3
    have e3 : a3 = a8 := eq m3 m8 (tr q23 (tr q12 (tr q01 q80))) d4
    have e4 : a4 = a8 := eq m4 m8 (tr q34 (tr q23 (tr q12 (tr q01 q80)))) d5
    have e5 : a5 = a8 := eq m5 m8 (tr q45 (tr q34 (tr q23 (tr q12 (tr q01 q80))))) d6
    have e6 : a6 = a8 := eq m6 m8 (tr q56 (tr q45 (tr q34 (tr q23 (tr q12 (tr q01 q80)))))) d7
    have e7 : a7 = a8 := eq m7 m8 (tr q67 (tr q56 (tr q45 (tr q34 (tr q23 (tr q12 (tr q01 q80))))))) d8
    rw [if_pos (by rw [e0, e1, e2, e3, e4, e5, e6, e7])]
    unfold takenF
    rw [List.length_map, filter_none]
    · rfl
    intro t ht
    have hk := hkd t ht
    rw [h2] at hk
    have : kindT n [a0, a1, a2, a3, a4, a5, a6, a7, a8] t = 0 := by
      have h0 : (List.replicate 9 0)[t]? = some 0 := by
        rw [List.getElem?_replicate, if_pos ht]
      rw [h0] at hk
      exact (Option.some.inj hk).symm
    rw [tk_eq n _ ht, this]; rfl
  · obtain ⟨t0, h0, h1, h2⟩ := hc
    rw [if_neg]
    · unfold takenF
      rw [List.length_map, filter_one h0]
      · rfl
      intro t ht
      have hk := hkd t ht
      rw [h1, oneAt_at t0 ht] at hk
      rw [tk_eq n _ ht, ← Option.some.inj hk]
      by_cases e : (t == t0) = true
      · rw [if_pos e, e]; rfl
      · rw [if_neg e, Bool.not_eq_true] at *
        rw [e]; rfl
    · intro e
      simp only [List.cons.injEq, true_and, and_true] at e
      obtain ⟨e3, e4, e5, e6, e7, e8⟩ := e
      subst e3 e4 e5 e6 e7 e8
      rw [rises9] at h2
      have h3 : ∀ x : List Bool, (x == x) = true := fun x => beq_self_eq_true x
      exact absurd (h3 _) (by
        rw [Bool.not_eq_true]
        exact h2)
  · obtain ⟨t0, h0, h1⟩ := hc
    have hk : ∀ t, t < 9 → kindT n [a0, a1, a2, a3, a4, a5, a6, a7, a8] t = if (t % 3 == t0) = true then 3 else 0 := by
      intro t ht
      have hk := hkd t ht
      rw [h1, triAt_at t0 ht] at hk
      exact (Option.some.inj hk).symm
    have sg3 : ∀ {x y z : Nat}, x ∈ [a0, a1, a2, a3, a4, a5, a6, a7, a8] → y ∈ [a0, a1, a2, a3, a4, a5, a6, a7, a8] → z ∈ [a0, a1, a2, a3, a4, a5, a6, a7, a8] → Sg n [x, y, z] := by
      intro x y z hx hy hz c hc
      simp only [List.mem_cons, List.not_mem_nil, or_false] at hc
      rcases hc with rfl | rfl | rfl
      · exact hs _ hx
      · exact hs _ hy
      · exact hs _ hz
    match t0, h0 with
    | 0, _ =>
      rw [tri_len (t0 := 0) (by decide) [a0, a1, a2] [a3, a4, a5] [a6, a7, a8] rfl rfl rfl rfl rfl rfl hk]
      by_cases e : [a0, a1, a2, a3, a4, a5, a6, a7, a8] = [a0, a1, a2, a0, a1, a2, a0, a1, a2]
      · rw [if_pos e, if_pos]
        simp only [List.cons.injEq, true_and, and_true] at e
        obtain ⟨e3, e4, e5, e6, e7, e8⟩ := e
        subst e3 e4 e5 e6 e7 e8
        exact ⟨rfl, rfl⟩
      · rw [if_neg e, if_neg]
        rintro ⟨p, q⟩
        have p' := esc_inj hn (sg3 (by simp) (by simp) (by simp)) (sg3 (by simp) (by simp) (by simp)) p
        have q' := esc_inj hn (sg3 (by simp) (by simp) (by simp)) (sg3 (by simp) (by simp) (by simp)) q
        simp only [List.cons.injEq, and_true] at p' q'
        obtain ⟨rfl, rfl, rfl⟩ := p'
        obtain ⟨rfl, rfl, rfl⟩ := q'
        exact e rfl
    | 1, _ =>
      rw [tri_len (t0 := 1) (by decide) [a1, a2, a3] [a4, a5, a6] [a7, a8, a0] rfl rfl rfl rfl rfl rfl hk]
      by_cases e : [a0, a1, a2, a3, a4, a5, a6, a7, a8] = [a0, a1, a2, a0, a1, a2, a0, a1, a2]
      · rw [if_pos e, if_pos]
        simp only [List.cons.injEq, true_and, and_true] at e
        obtain ⟨e3, e4, e5, e6, e7, e8⟩ := e
        subst e3 e4 e5 e6 e7 e8
        exact ⟨rfl, rfl⟩
      · rw [if_neg e, if_neg]
        rintro ⟨p, q⟩
        have p' := esc_inj hn (sg3 (by simp) (by simp) (by simp)) (sg3 (by simp) (by simp) (by simp)) p
        have q' := esc_inj hn (sg3 (by simp) (by simp) (by simp)) (sg3 (by simp) (by simp) (by simp)) q
        simp only [List.cons.injEq, and_true] at p' q'
        obtain ⟨rfl, rfl, rfl⟩ := p'
        obtain ⟨rfl, rfl, rfl⟩ := q'
        exact e rfl
    | 2, _ =>
      rw [tri_len (t0 := 2) (by decide) [a2, a3, a4] [a5, a6, a7] [a8, a0, a1] rfl rfl rfl rfl rfl rfl hk]
      by_cases e : [a0, a1, a2, a3, a4, a5, a6, a7, a8] = [a0, a1, a2, a0, a1, a2, a0, a1, a2]
      · rw [if_pos e, if_pos]
        simp only [List.cons.injEq, true_and, and_true] at e
        obtain ⟨e3, e4, e5, e6, e7, e8⟩ := e
        subst e3 e4 e5 e6 e7 e8
        exact ⟨rfl, rfl⟩
      · rw [if_neg e, if_neg]
        rintro ⟨p, q⟩
        have p' := esc_inj hn (sg3 (by simp) (by simp) (by simp)) (sg3 (by simp) (by simp) (by simp)) p
        have q' := esc_inj hn (sg3 (by simp) (by simp) (by simp)) (sg3 (by simp) (by simp) (by simp)) q
        simp only [List.cons.injEq, and_true] at p' q'
        obtain ⟨rfl, rfl, rfl⟩ := p'
        obtain ⟨rfl, rfl, rfl⟩ := q'
        exact e rfl
/-- no word stands within two words but at the seam -/
theorem comma {n : Nat} (hn : n < 5) {w1 w2 w3 : List Nat} (g1 : Good n w1) (g2 : Good n w2) (g3 : Good n w3) {o : Nat} (h1 : 1 ≤ o) (h2 : o ≤ 8) : ((w1 ++ w2).drop o).take 9 ≠ w3 := by
  intro he
  obtain ⟨a0, a1, a2, a3, a4, a5, a6, a7, a8, rfl⟩ := list9 g1.len
  obtain ⟨b0, b1, b2, b3, b4, b5, b6, b7, b8, rfl⟩ := list9 g2.len
  have k1 := g1.kd
  have k2 := g2.kd
  have k3 := g3.kd
  have p1 : ups n [a0, a1, a2, a3, a4, a5, a6, a7, a8] ∈ gp := by
    rcases gp_all (up n a0 a1) (up n a1 a2) (up n a2 a3) (up n a3 a4) (up n a4 a5) (up n a5 a6) (up n a6 a7) (up n a7 a8) with h | h
    · have : kindW n [a0, a1, a2, a3, a4, a5, a6, a7, a8] = 0 := h
      rw [this] at k1
      simp at k1
    · exact h
  have p2 : ups n [b0, b1, b2, b3, b4, b5, b6, b7, b8] ∈ gp := by
    rcases gp_all (up n b0 b1) (up n b1 b2) (up n b2 b3) (up n b3 b4) (up n b4 b5) (up n b5 b6) (up n b6 b7) (up n b7 b8) with h | h
    · have : kindW n [b0, b1, b2, b3, b4, b5, b6, b7, b8] = 0 := h
      rw [this] at k2
      simp at k2
    · exact h
  have hp := pair_ok p1 p2 (up n a8 b0) h1 h2
  have hv : kindW n w3 = kind8 (((ups n [a0, a1, a2, a3, a4, a5, a6, a7, a8] ++ up n a8 b0 :: ups n [b0, b1, b2, b3, b4, b5, b6, b7, b8]).drop o).take 8) := by
    rw [← he]
    match o, h1, h2 with
    | 1, _, _ => rfl
    | 2, _, _ => rfl
    | 3, _, _ => rfl
    | 4, _, _ => rfl
    | 5, _, _ => rfl
    | 6, _, _ => rfl
    | 7, _, _ => rfl
    | 8, _, _ => rfl
  unfold pairOk at hp
  simp only [← hv, Bool.or_eq_true, Bool.and_eq_true, beq_iff_eq] at hp
  rcases hp with h0 | ⟨h3, hp⟩
  · rw [h0] at k3; simp at k3
  · rw [h3] at k3
    have hd3 : dipT n w3 = true := by simpa using k3
    rw [← he] at hd3
    rcases hp with ⟨rfl, hk⟩ | ⟨rfl, hk⟩
    · have hk' : kindW n [a0, a1, a2, a3, a4, a5, a6, a7, a8] = 3 := hk
      rw [hk'] at k1
      have hd1 : dipT n [a0, a1, a2, a3, a4, a5, a6, a7, a8] = true := by simpa using k1
      have x1 : (!decide (escL n [a0, a1, a2] < escL n [a3, a4, a5]) && decide (escL n [a3, a4, a5] < escL n [a6, a7, a8])) = true := hd1
      have x3 : (!decide (escL n [a3, a4, a5] < escL n [a6, a7, a8]) && decide (escL n [a6, a7, a8] < escL n [b0, b1, b2])) = true := hd3
      simp only [Bool.and_eq_true, Bool.not_eq_true', decide_eq_true_eq, decide_eq_false_iff_not] at x1 x3
      exact x3.1 x1.2
    · have hk' : kindW n [b0, b1, b2, b3, b4, b5, b6, b7, b8] = 3 := hk
      rw [hk'] at k2
      have hd1 : dipT n [b0, b1, b2, b3, b4, b5, b6, b7, b8] = true := by simpa using k2
      have x1 : (!decide (escL n [b0, b1, b2] < escL n [b3, b4, b5]) && decide (escL n [b3, b4, b5] < escL n [b6, b7, b8])) = true := hd1
      have x3 : (!decide (escL n [a6, a7, a8] < escL n [b0, b1, b2]) && decide (escL n [b0, b1, b2] < escL n [b3, b4, b5])) = true := hd3
      simp only [Bool.and_eq_true, Bool.not_eq_true', decide_eq_true_eq, decide_eq_false_iff_not] at x1 x3
      exact x1.1 x3.2
end Mine
end
theorem Mine.rest_M5 {prog : PySem.Program} {w : PySem.World} {A : PySem.Around} {E : PySem.Value → PySem.Shared → Prop} {s : PySem.Shared} {env : PySem.Env} : PySem.wpAny (PySem.model prog w) A (PySem.execs [] env) (fun _ _ => True) E s := by
  w_top off
  first | (walk1; trivial) | exact PySem.wpAny_execs_nil trivial
section
open PySem PySem.W PyProof.Rows
set_option Elab.async false
set_option linter.unusedVariables false
set_option linter.unusedSimpArgs false
namespace Mine
open PySem.StrLaws PySem.Builtin PySem.Builtin.Str
noncomputable abbrev S (l : List Nat) : Str := ⟨l.toArray⟩
theorem S_len (l : List Nat) : (S l).length = l.length := List.size_toArray ..
theorem S_list (l : List Nat) : (S l).cps.toList = l := rfl
theorem at_S {y p : List Nat} {j k : Nat} : At (S y) (S p) j k ↔ k + p.length ≤ j ∧ (y.drop k).take p.length = p := by
  unfold At
  rw [subAt_eq, S_len, beq_iff_eq]
theorem find4_spec (x y : Str) (i j : Nat) (hj : j ≤ x.length) :
    (find4 x y i j = -1 ∧ ∀ k, i ≤ k → ¬ At x y j k) ∨ ∃ k : Nat, find4 x y i j = k ∧ i ≤ k ∧ At x y j k ∧ ∀ k', i ≤ k' → k' < k → ¬ At x y j k' := by
  have e1 : fromIndex x.length (i : Int) = i := by unfold fromIndex; omega
  have e2 : min (fromIndex x.length (j : Int)) x.length = j := by
    have : fromIndex x.length (j : Int) = j := by unfold fromIndex; omega
    rw [this]; omega
  unfold find4
  rw [e1, e2, occ_eq]
  rcases occ_first x y j 1 (Nat.le_refl 1) (List.range' i (j + 1 - i)) i (fun k hk => by have := List.mem_range'_1.mp hk; omega) with ⟨h0, hn⟩ | ⟨pre, a, post, e, h0, ha, hn⟩
  · refine .inl ⟨by rw [h0], fun k hk hA => hn k ?_ hA⟩
    rw [List.mem_range'_1]
    have := hA.1
    omega
  · have hs := range'_split_from e
    refine .inr ⟨a, ?_, hs.1, ha, fun k hk0 hk => hn k (hs.2 k hk0 hk)⟩
    generalize (forIn (List.range' i (j + 1 - i)) ((#[] : Array Nat), i) (occBody x y j 1)).run.fst = arr at h0
    have h1 : arr.toList[0]? = some a := by simpa using h0
    cases hL : arr.toList with
    | nil => rw [hL] at h1; cases h1
    | cons b t => rw [hL] at h1; simp at h1; rw [h1]
theorem find4_no {x y : Str} {i j : Nat} (hj : j ≤ x.length) (h : ∀ k, i ≤ k → ¬ At x y j k) : find4 x y i j = -1 := by
  rcases find4_spec x y i j hj with ⟨e, _⟩ | ⟨k, _, hk, hA, _⟩
  · exact e
  · exact absurd hA (h k hk)
theorem find4_yes {x y : Str} {i j k : Nat} (hj : j ≤ x.length) (hk : i ≤ k) (hA : At x y j k) : ∃ k' : Nat, find4 x y i j = k' ∧ i ≤ k' ∧ k' ≤ k ∧ k' + y.length ≤ j := by
  rcases find4_spec x y i j hj with ⟨_, hn⟩ | ⟨k', e, hi, hA', hn⟩
  · exact absurd hA (hn k hk)
  · refine ⟨k', e, hi, ?_, hA'.1⟩
    exact Nat.le_of_not_lt fun h => hn k hk h hA
theorem at_nil (y : Str) {j k : Nat} (h : k ≤ j) : At y ⟨#[]⟩ j k := by
  refine ⟨h, ?_⟩
  rw [subAt_eq]
  show ((y.cps.toList.drop k).take 0 == []) = true
  rw [List.take_zero]; rfl
theorem find4_nil (y : Str) {i j : Nat} (hj : j ≤ y.length) (h : i ≤ j) : find4 y ⟨#[]⟩ i j = i := by
  obtain ⟨k, e, h1, h2, _⟩ := find4_yes hj (Nat.le_refl i) (at_nil y h)
  rw [e]; omega
theorem sw {y p : List Nat} : Txt.startswith (S y) (S p) = true ↔ p <+: y := by
  unfold Txt.startswith
  rw [subAt_eq, S_len, S_len, Bool.and_eq_true, decide_eq_true_iff, beq_iff_eq, List.prefix_iff_eq_take]
  show 0 + p.length ≤ y.length ∧ (y.drop 0).take p.length = p ↔ _
  rw [List.drop_zero]
  constructor
  · exact fun h => h.2.symm
  · intro h
    refine ⟨?_, h.symm⟩
    have := congrArg List.length h
    rw [List.length_take] at this
    omega
theorem ew {y p : List Nat} : Txt.endswith (S y) (S p) = true ↔ p <:+ y := by
  unfold Txt.endswith
  rw [subAt_eq, S_len, S_len, Bool.and_eq_true, decide_eq_true_iff, beq_iff_eq, List.suffix_iff_eq_drop]
  show 0 + p.length ≤ y.length ∧ (y.drop (y.length - p.length)).take p.length = p ↔ _
  constructor
  · rintro ⟨h1, h2⟩
    rw [List.take_of_length_le (by rw [List.length_drop]; omega)] at h2
    exact h2.symm
  · intro h
    have := congrArg List.length h
    rw [List.length_drop] at this
    refine ⟨by omega, ?_⟩
    rw [← h, List.take_of_length_le (Nat.le_refl _)]
theorem loop_nil (y : Str) (ep sp : Int) : ellLoop y ep [] sp = true := rfl
theorem loop_cons (y w : Str) (r : List Str) (ep sp : Int) : ellLoop y ep (w :: r) sp = if find4 y w sp ep < 0 then false else ellLoop y ep r (find4 y w sp ep + w.length) := rfl
/-- a last empty piece is always found -/
theorem loop_last (y : Str) {sp ep : Nat} (h1 : sp ≤ ep) (h2 : ep ≤ y.length) : ellLoop y ep [⟨#[]⟩] sp = true := by
  rw [loop_cons, find4_nil y h2 h1, if_neg (by omega), loop_nil]
theorem loop_first (y : Str) (r : List Str) {ep : Nat} (h2 : ep ≤ y.length) : ellLoop y ep (⟨#[]⟩ :: r) 0 = ellLoop y ep r 0 := by
  have e : find4 y ⟨#[]⟩ (0 : Int) (ep : Int) = 0 := by
    have := find4_nil y (i := 0) h2 (Nat.zero_le _)
    simpa using this
  rw [loop_cons, e, if_neg (by omega)]
  rfl
theorem end_eq (y : Str) (ws : List Str) (sp ep : Int) : ellEnd y ws sp ep = if ep < sp then false else ellLoop y ep ws sp := rfl
/-- a piece between two empty ones -/
theorem ell_mid_yes {y p : List Nat} {k : Nat} (hA : At (S y) (S p) y.length k) : ellF [⟨#[]⟩, S p, ⟨#[]⟩] (S y) = true := by
  rw [ellF_m, end_eq, if_neg (by omega), loop_first _ _ (Nat.le_refl _), loop_cons]
  obtain ⟨k', e, _, _, h4⟩ := find4_yes (x := S y) (y := S p) (i := 0) (j := (S y).length) (k := k) (Nat.le_refl _) (Nat.zero_le _) (by rw [S_len]; exact hA)
  have e' : find4 (S y) (S p) 0 ((S y).length : Nat) = k' := by simpa using e
  rw [e', if_neg (by omega)]
  have := loop_last (S y) (sp := k' + (S p).length) (ep := (S y).length) h4 (Nat.le_refl _)
  simpa using this
theorem ell_mid_no {y p : List Nat} (h : ∀ k, ¬ At (S y) (S p) y.length k) : ellF [⟨#[]⟩, S p, ⟨#[]⟩] (S y) = false := by
  rw [ellF_m, end_eq, if_neg (by omega), loop_first _ _ (Nat.le_refl _), loop_cons]
  have e := find4_no (x := S y) (y := S p) (i := 0) (j := (S y).length) (Nat.le_refl _) (fun k _ => by rw [S_len]; exact h k)
  have e' : find4 (S y) (S p) 0 ((S y).length : Nat) = -1 := by simpa using e
  rw [e', if_pos (by decide)]
theorem contains_iff (y p : List Nat) : (!(occurrences (S y) (S p) 0 (S y).length 1).isEmpty) = true ↔ ∃ k, At (S y) (S p) y.length k := by
  rw [found_iff, S_len]; rfl
theorem ell_mid_in (y p : List Nat) : ellF [⟨#[]⟩, S p, ⟨#[]⟩] (S y) = !(occurrences (S y) (S p) 0 (S y).length 1).isEmpty := by
  cases hc : (!(occurrences (S y) (S p) 0 (S y).length 1).isEmpty)
  · refine ell_mid_no fun k hk => ?_
    have := (contains_iff y p).mpr ⟨k, hk⟩
    rw [hc] at this; cases this
  · obtain ⟨k, hk⟩ := (contains_iff y p).mp hc
    exact ell_mid_yes hk
end Mine
end
theorem Mine.rest_M6 {prog : PySem.Program} {w : PySem.World} {A : PySem.Around} {E : PySem.Value → PySem.Shared → Prop} {s : PySem.Shared} {env : PySem.Env} : PySem.wpAny (PySem.model prog w) A (PySem.execs [] env) (fun _ _ => True) E s := by
  w_top off
  first | (walk1; trivial) | exact PySem.wpAny_execs_nil trivial
section
open PySem PySem.W PyProof.Rows
set_option Elab.async false
set_option linter.unusedVariables false
set_option linter.unusedSimpArgs false
namespace Mine
open PySem.StrLaws PySem.Builtin PySem.Builtin.Str
section
variable {n : Nat} {w1 w2 w3 : List Nat}
theorem good_app (g1 : Good n w1) (g2 : Good n w2) : Sg n (w1 ++ w2) := fun c hc => by
  rcases List.mem_append.mp hc with h | h
  · exact g1.sg c h
  · exact g2.sg c h
theorem good_pos (hn : n < 5) (g : Good n w1) : 9 ≤ (escL n w1).length ∧ (escL n w1).length ≤ 54 := by
  have := esc_len hn g.sg
  rw [g.len] at this
  omega
theorem pre_iff (hn : n < 5) (g1 : Good n w1) (g2 : Good n w2) : escL n w2 <+: escL n w1 ++ escL n w2 ↔ escL n w1 = escL n w2 := by
  constructor
  · intro h
    rw [← esc_append] at h
    obtain ⟨t, ht⟩ := esc_prefix hn g2.sg (good_app g1 g2) h
    have := congrArg (List.take 9) ht
    rw [List.take_left' g2.len, List.take_left' g1.len] at this
    rw [this]
  · intro h
    rw [h]; exact List.prefix_append _ _
theorem suf_iff (hn : n < 5) (g1 : Good n w1) (g2 : Good n w2) : escL n w1 <:+ escL n w1 ++ escL n w2 ↔ escL n w1 = escL n w2 := by
  constructor
  · rintro ⟨a, ha⟩
    have hne : w1 ≠ [] := fun e => by have := g1.len; rw [e] at this; cases this
    obtain ⟨u, r, h1, h2, h3⟩ := esc_infix hn (a := a) (b := []) (good_app g1 g2) g1.sg hne (by rw [esc_append, List.append_nil]; exact ha.symm)
    have hsr : Sg n r := fun c hc => good_app g1 g2 c (by rw [h1]; simp [hc])
    have hr : r = [] := by
      have := (esc_len hn hsr).1
      rw [← h3] at this
      exact List.length_eq_zero_iff.mp (Nat.le_zero.mp this)
    subst hr
    rw [List.append_nil] at h1
    have hl := congrArg List.length h1
    rw [List.length_append, List.length_append, g1.len, g2.len] at hl
    have := congrArg (List.drop 9) h1
    rw [List.drop_left' g1.len, List.drop_left' (by omega)] at this
    rw [this]
  · intro h
    rw [h]; exact List.suffix_append _ _
theorem beqS (p q : List Nat) : (S p == S q) = decide (p = q) := by
  by_cases h : p = q
  · subst h; simp
  · rw [decide_eq_false h, beq_eq_false_iff_ne]
    intro e
    injection e with e
    exact h (List.toArray_inj e)
theorem b_of {b : Bool} {P : Prop} [Decidable P] (h : b = true ↔ P) : b = decide P := by
  by_cases hp : P
  · rw [decide_eq_true hp]; exact h.mpr hp
  · rw [decide_eq_false hp]
    cases b
    · rfl
    · exact absurd (h.mp rfl) hp
theorem sw_t (p r : List Nat) : Txt.startswith (S (p ++ r)) (S p) = true := sw.mpr (List.prefix_append _ _)
theorem ew_t (p r : List Nat) : Txt.endswith (S (r ++ p)) (S p) = true := ew.mpr (List.suffix_append _ _)
theorem sw_b (hn : n < 5) (g1 : Good n w1) (g2 : Good n w2) : Txt.startswith (S (escL n w1 ++ escL n w2)) (S (escL n w2)) = decide (escL n w1 = escL n w2) := b_of (sw.trans (pre_iff hn g1 g2))
theorem ew_b (hn : n < 5) (g1 : Good n w1) (g2 : Good n w2) : Txt.endswith (S (escL n w1 ++ escL n w2)) (S (escL n w1)) = decide (escL n w1 = escL n w2) := b_of (ew.trans (suf_iff hn g1 g2))
theorem len_app (p q : List Nat) : (S (p ++ q)).length = p.length + q.length := by rw [S_len, List.length_append]
theorem ell_a (hn : n < 5) (g1 : Good n w1) (g2 : Good n w2) : ellF [S (escL n w1), S (escL n w2)] (S (escL n w1 ++ escL n w2)) = true := by
  have h1 := good_pos hn g1
  have h2 := good_pos hn g2
  rw [ellF_2 (by rw [S_len]; omega) (by rw [S_len]; omega), if_pos (sw_t _ _), if_pos (ew_t _ _), end_eq, len_app, S_len, S_len, if_neg (by omega), loop_nil]
theorem ell_c (hn : n < 5) (g1 : Good n w1) (g2 : Good n w2) : ellF [S (escL n w2), ⟨#[]⟩] (S (escL n w1 ++ escL n w2)) = decide (escL n w1 = escL n w2) := by
  have h1 := good_pos hn g1
  have h2 := good_pos hn g2
  rw [ellF_h (by rw [S_len]; omega), sw_b hn g1 g2]
  by_cases h : escL n w1 = escL n w2
  · rw [if_pos (decide_eq_true h), end_eq, if_neg (by rw [len_app, S_len]; omega), loop_last _ (by rw [len_app, S_len]; omega) (Nat.le_refl _), decide_eq_true h]
  · rw [decide_eq_false h, if_neg Bool.false_ne_true]
theorem ell_d (hn : n < 5) (g1 : Good n w1) (g2 : Good n w2) : ellF [⟨#[]⟩, S (escL n w1)] (S (escL n w1 ++ escL n w2)) = decide (escL n w1 = escL n w2) := by
  have h1 := good_pos hn g1
  have h2 := good_pos hn g2
  rw [ellF_t (by rw [S_len]; omega), ew_b hn g1 g2]
  by_cases h : escL n w1 = escL n w2
  · have e : (((S (escL n w1 ++ escL n w2)).length : Nat) : Int) - (((S (escL n w1)).length : Nat) : Int) = ((escL n w2).length : Nat) := by rw [len_app, S_len]; omega
    rw [if_pos (decide_eq_true h), e, end_eq, if_neg (by omega)]
    have := loop_last (S (escL n w1 ++ escL n w2)) (sp := 0) (ep := (escL n w2).length) (Nat.zero_le _) (by rw [len_app]; omega)
    rw [decide_eq_true h]
    simpa using this
  · rw [decide_eq_false h, if_neg Bool.false_ne_true]
theorem ell_e (hn : n < 5) (g1 : Good n w1) (g2 : Good n w2) : ellF [S (escL n w1), S (escL n w1)] (S (escL n w1 ++ escL n w2)) = decide (escL n w1 = escL n w2) := by
  have h1 := good_pos hn g1
  have h2 := good_pos hn g2
  rw [ellF_2 (by rw [S_len]; omega) (by rw [S_len]; omega), if_pos (sw_t _ _), ew_b hn g1 g2]
  by_cases h : escL n w1 = escL n w2
  · have hl := congrArg List.length h
    rw [if_pos (decide_eq_true h), end_eq, len_app, S_len, if_neg (by omega), loop_nil, decide_eq_true h]
  · rw [decide_eq_false h, if_neg Bool.false_ne_true]
theorem ell_f (hn : n < 5) (g1 : Good n w1) (g2 : Good n w2) : ellF [S (escL n w2), S (escL n w2)] (S (escL n w1 ++ escL n w2)) = decide (escL n w1 = escL n w2) := by
  have h1 := good_pos hn g1
  have h2 := good_pos hn g2
  rw [ellF_2 (by rw [S_len]; omega) (by rw [S_len]; omega), sw_b hn g1 g2]
  by_cases h : escL n w1 = escL n w2
  · have hl := congrArg List.length h
    rw [if_pos (decide_eq_true h), if_pos (ew_t _ _), end_eq, len_app, S_len, if_neg (by omega), loop_nil, decide_eq_true h]
  · rw [decide_eq_false h, if_neg Bool.false_ne_true]
theorem at_zero (p r : List Nat) : At (S (p ++ r)) (S p) (p ++ r).length 0 := by
  rw [at_S]
  exact ⟨by rw [List.length_append]; omega, by rw [List.drop_zero, List.take_left]⟩
theorem ell_g (hn : n < 5) (g1 : Good n w1) (g2 : Good n w2) : ellF [⟨#[]⟩, S (escL n w1), S (escL n w1), ⟨#[]⟩] (S (escL n w1 ++ escL n w2)) = decide (escL n w1 = escL n w2) := by
  have h1 := good_pos hn g1
  have h2 := good_pos hn g2
  have hz := at_zero (escL n w1) (escL n w2)
  have hlen := len_app (escL n w1) (escL n w2)
  rw [ellF_mm, end_eq, if_neg (by omega), loop_first _ _ (Nat.le_refl _), loop_cons]
  obtain ⟨k, e, _, hk, _⟩ := find4_yes (x := S (escL n w1 ++ escL n w2)) (y := S (escL n w1)) (i := 0) (j := (S (escL n w1 ++ escL n w2)).length) (k := 0) (Nat.le_refl _) (Nat.le_refl _) (by rw [S_len]; exact hz)
  have e' : find4 (S (escL n w1 ++ escL n w2)) (S (escL n w1)) 0 ((S (escL n w1 ++ escL n w2)).length : Nat) = 0 := by
    have : k = 0 := by omega
    rw [this] at e
    simpa using e
  rw [e', if_neg (by decide), loop_cons]
  have e0 : (0 : Int) + ((S (escL n w1)).length : Nat) = (((escL n w1).length : Nat) : Int) := by rw [S_len]; omega
  rw [e0]
  by_cases h : escL n w1 = escL n w2
  · have hA : At (S (escL n w1 ++ escL n w2)) (S (escL n w1)) (S (escL n w1 ++ escL n w2)).length (escL n w1).length := by
      rw [at_S, hlen]
      have hl := congrArg List.length h
      refine ⟨by omega, ?_⟩
      rw [List.drop_left, ← h, List.take_of_length_le (Nat.le_refl _)]
    obtain ⟨k2, f, _, _, h4⟩ := find4_yes (Nat.le_refl _) (Nat.le_refl _) hA
    rw [f, if_neg (by omega), decide_eq_true h]
    have := loop_last (S (escL n w1 ++ escL n w2)) (sp := k2 + (S (escL n w1)).length) (ep := (S (escL n w1 ++ escL n w2)).length) h4 (Nat.le_refl _)
    simpa using this
  · rw [find4_no (Nat.le_refl _), if_pos (by decide), decide_eq_false h]
    intro k hk hA
    rw [at_S, hlen] at hA
    obtain ⟨hA1, hA2⟩ := hA
    have e2 : (escL n w1 ++ escL n w2).drop k = (escL n w2).drop (k - (escL n w1).length) := by
      rw [List.drop_append, List.drop_eq_nil_of_le hk, List.nil_append]
    rw [e2] at hA2
    have hne : w1 ≠ [] := fun e => by have := g1.len; rw [e] at this; cases this
    have hcut : escL n w2 = (escL n w2).take (k - (escL n w1).length) ++ (escL n w1 ++ ((escL n w2).drop (k - (escL n w1).length)).drop (escL n w1).length) := by
      conv => lhs; rw [← List.take_append_drop (k - (escL n w1).length) (escL n w2)]
      congr 1
      conv => lhs; rw [← List.take_append_drop (escL n w1).length ((escL n w2).drop (k - (escL n w1).length))]
      rw [hA2]
    obtain ⟨u, r, q1, _, _⟩ := esc_infix hn g2.sg g1.sg hne hcut
    have hl := congrArg List.length q1
    rw [List.length_append, List.length_append, g1.len, g2.len] at hl
    have hu : u = [] := List.length_eq_zero_iff.mp (by omega)
    have hr : r = [] := List.length_eq_zero_iff.mp (by omega)
    subst hu hr
    rw [List.nil_append, List.append_nil] at q1
    exact h (by rw [q1])
theorem find4_tight {y p : List Nat} {i : Nat} (hp : 0 < p.length) (hi : i ≤ y.length) : find4 (S y) (S p) i i = -1 := by
  refine find4_no (by rw [S_len]; exact hi) fun k hk hA => ?_
  rw [at_S] at hA
  omega
theorem ell_h1 (hn : n < 5) (g1 : Good n w1) (g2 : Good n w2) : ellF [S (escL n w1), S (escL n w1), S (escL n w2)] (S (escL n w1 ++ escL n w2)) = false := by
  have h1 := good_pos hn g1
  have h2 := good_pos hn g2
  have e : (((S (escL n w1 ++ escL n w2)).length : Nat) : Int) - (((S (escL n w2)).length : Nat) : Int) = ((escL n w1).length : Nat) := by rw [len_app, S_len]; omega
  rw [ellF_3 (by rw [S_len]; omega) (by rw [S_len]; omega), if_pos (sw_t _ _), if_pos (ew_t _ _), e, end_eq, S_len, if_neg (by omega), loop_cons, find4_tight (by omega) (by rw [List.length_append]; omega), if_pos (by decide)]
theorem ell_h2 (hn : n < 5) (g1 : Good n w1) (g2 : Good n w2) : ellF [S (escL n w1), S (escL n w2), S (escL n w2)] (S (escL n w1 ++ escL n w2)) = false := by
  have h1 := good_pos hn g1
  have h2 := good_pos hn g2
  have e : (((S (escL n w1 ++ escL n w2)).length : Nat) : Int) - (((S (escL n w2)).length : Nat) : Int) = ((escL n w1).length : Nat) := by rw [len_app, S_len]; omega
  rw [ellF_3 (by rw [S_len]; omega) (by rw [S_len]; omega), if_pos (sw_t _ _), if_pos (ew_t _ _), e, end_eq, S_len, if_neg (by omega), loop_cons, find4_tight (by omega) (by rw [List.length_append]; omega), if_pos (by decide)]
/-- what lies within two words -/
noncomputable def innW (w1 w2 : List Nat) : List Nat := w1.drop 1 ++ w2.take 8
theorem inn_cut (g1 : Good n w1) (g2 : Good n w2) : escL n w1 ++ escL n w2 = escL n [w1.getD 0 0] ++ (escL n (innW w1 w2) ++ escL n [w2.getD 8 0]) := by
  obtain ⟨a0, a1, a2, a3, a4, a5, a6, a7, a8, rfl⟩ := list9 g1.len
  obtain ⟨b0, b1, b2, b3, b4, b5, b6, b7, b8, rfl⟩ := list9 g2.len
  rw [← esc_append, ← esc_append, ← esc_append]
  rfl
theorem ell_b (g1 : Good n w1) (g2 : Good n w2) : ellF [⟨#[]⟩, S (escL n (innW w1 w2)), ⟨#[]⟩] (S (escL n w1 ++ escL n w2)) = true := by
  refine ell_mid_yes (k := (escL n [w1.getD 0 0]).length) ?_
  rw [at_S, inn_cut g1 g2]
  refine ⟨by simp only [List.length_append]; omega, ?_⟩
  rw [List.drop_left, List.take_left]
theorem inn_sg (g1 : Good n w1) (g2 : Good n w2) : Sg n (innW w1 w2) := fun c hc => by
  rcases List.mem_append.mp hc with h | h
  · exact g1.sg c (List.mem_of_mem_drop h)
  · exact g2.sg c (List.mem_of_mem_take h)
theorem inn_len (g1 : Good n w1) (g2 : Good n w2) : (innW w1 w2).length = 16 := by
  unfold innW
  rw [List.length_append, List.length_drop, List.length_take, g1.len, g2.len]; rfl
theorem ell_i (hn : n < 5) (g1 : Good n w1) (g2 : Good n w2) (g3 : Good n w3) : ellF [⟨#[]⟩, S (escL n w3), ⟨#[]⟩] (S (escL n (innW w1 w2))) = false := by
  refine ell_mid_no fun k hA => ?_
  rw [at_S] at hA
  obtain ⟨hA1, hA2⟩ := hA
  have hne : w3 ≠ [] := fun e => by have := g3.len; rw [e] at this; cases this
  have hcut : escL n (innW w1 w2) = (escL n (innW w1 w2)).take k ++ (escL n w3 ++ ((escL n (innW w1 w2)).drop k).drop (escL n w3).length) := by
    conv => lhs; rw [← List.take_append_drop k (escL n (innW w1 w2))]
    congr 1
    conv => lhs; rw [← List.take_append_drop (escL n w3).length ((escL n (innW w1 w2)).drop k)]
    rw [hA2]
  obtain ⟨u, r, q1, _, _⟩ := esc_infix hn (inn_sg g1 g2) g3.sg hne hcut
  have hl := congrArg List.length q1
  rw [inn_len g1 g2, List.length_append, List.length_append, g3.len] at hl
  have hw : w1 ++ w2 = (w1.take 1 ++ u) ++ (w3 ++ (r ++ w2.drop 8)) := by
    have e1 : w1 ++ w2 = w1.take 1 ++ (innW w1 w2 ++ w2.drop 8) := by
      unfold innW
      rw [← List.append_assoc, ← List.append_assoc, List.take_append_drop, List.append_assoc, List.take_append_drop]
    rw [e1, q1]
    simp only [List.append_assoc]
  have hlu : (w1.take 1 ++ u).length = u.length + 1 := by rw [List.length_append, List.length_take, g1.len]; omega
  refine comma hn g1 g2 g3 (o := u.length + 1) (by omega) (by omega) ?_
  rw [hw, ← hlu, List.drop_left, List.take_left' g3.len]
theorem ell_j (hn : n < 5) (g : Good n w1) : ellF [S (escL n w1), S (escL n w1)] (S (escL n w1)) = false := by
  have h1 := good_pos hn g
  rw [ellF_2 (by rw [S_len]; omega) (by rw [S_len]; omega), if_pos (sw.mpr List.prefix_rfl), if_pos (ew.mpr List.suffix_rfl), end_eq, if_pos (by rw [S_len]; omega)]
end
end Mine
end
theorem Mine.rest_M7 {prog : PySem.Program} {w : PySem.World} {A : PySem.Around} {E : PySem.Value → PySem.Shared → Prop} {s : PySem.Shared} {env : PySem.Env} : PySem.wpAny (PySem.model prog w) A (PySem.execs [] env) (fun _ _ => True) E s := by
  w_top off
  first | (walk1; trivial) | exact PySem.wpAny_execs_nil trivial
section
open PySem PySem.W PyProof.Rows
set_option Elab.async false
set_option linter.unusedVariables false
set_option linter.unusedSimpArgs false
namespace Mine
open PySem.StrLaws PySem.Builtin PySem.Builtin.Str
/-- what the call _ellipsis_match(x, y) answers -/
noncomputable def EllC (x y : Str) (b : Bool) : Prop := ∀ (w : World) (mean : ExcName → Option Value) (mg mb : Str → Option Value) (news : List (Addr × Obj)) (tx ty : Tok), Callee w mean mg mb 28 news True [.str x tx, .str y ty] (BoolRet b news)
theorem hdd : ("..." : Str) = dt := by decide +kernel
theorem hee : ("" : Str) = ⟨#[]⟩ := by decide +kernel
theorem spl {p q : Str} {r : List Str} (h : ∀ y ∈ p :: q :: r, 46 ∉ y.cps.toList) :
    Txt.split (Str.join dt (p :: q :: r)) "..." = p :: q :: r ∧ (occurrences (Str.join dt (p :: q :: r)) "..." 0 (Str.join dt (p :: q :: r)).length 1).isEmpty = false := by
  rw [hdd]; exact split_dots p q r h
theorem dt_len : dt.length = 3 := rfl
theorem no46 : 46 ∉ (⟨#[]⟩ : Str).cps.toList := by simp
/-- a piece of a want -/
noncomputable def Pc (p : Str) : Prop := 46 ∉ p.cps.toList ∧ p.length ≤ 300
theorem join_len : ∀ l : List Str, (∀ p ∈ l, p.length ≤ 300) → (Str.join dt l).length ≤ 303 * l.length
  | [], _ => Nat.zero_le _
  | [p], h => Nat.le_trans (h p (List.mem_cons_self ..)) (show 300 ≤ 303 * 1 by decide)
  | p :: q :: r, h => by
    have h1 := h p (List.mem_cons_self ..)
    have h2 := join_len (q :: r) fun x hx => h x (List.mem_cons_of_mem _ hx)
    show (p ++ dt ++ Str.join dt (q :: r)).length ≤ _
    rw [Str.length_append, Str.length_append, dt_len, List.length_cons]
    clear h
    generalize (Str.join dt (q :: r)).length = a at *
    generalize (q :: r).length = b at *
    omega
theorem ec {p q y : Str} {r : List Str} (h : ∀ x ∈ p :: q :: r, Pc x) (hr : r.length ≤ 2) (hy : y.length ≤ 300) : EllC (Str.join dt (p :: q :: r)) y (ellF (p :: q :: r) y) := by
  have hs := spl (p := p) (q := q) (r := r) fun x hx => (h x hx).1
  have hl : ∀ x ∈ p :: q :: r, x.length ≤ 2000 := fun x hx => Nat.le_trans (h x hx).2 (by decide)
  have h4 : (p :: q :: r).length ≤ 4 := Nat.succ_le_succ (Nat.succ_le_succ hr)
  have hj := join_len (p :: q :: r) fun x hx => (h x hx).2
  intro w mean mg mb news tx ty
  exact ell_any news _ tx _ ty _ (Nat.le_trans hj (Nat.le_trans (Nat.mul_le_mul_left _ h4) (by decide))) (Nat.le_trans hy (by decide)) hs.1 hs.2 hl (Nat.succ_le_succ (Nat.succ_le_succ (Nat.zero_le _))) (Nat.le_trans h4 (by decide))
theorem pc2 {p q : Str} (hp : Pc p) (hq : Pc q) : ∀ x ∈ [p, q], Pc x := List.forall_mem_cons.2 ⟨hp, List.forall_mem_cons.2 ⟨hq, fun _ h => nomatch h⟩⟩
theorem pc3 {p q r : Str} (hp : Pc p) (hq : Pc q) (hr : Pc r) : ∀ x ∈ [p, q, r], Pc x := List.forall_mem_cons.2 ⟨hp, pc2 hq hr⟩
theorem pcn : Pc ⟨#[]⟩ := ⟨no46, Nat.zero_le _⟩
theorem ec2 {p q y : Str} (hp : Pc p) (hq : Pc q) (hy : y.length ≤ 300) : EllC (Str.join dt [p, q]) y (ellF [p, q] y) := ec (pc2 hp hq) (Nat.zero_le _) hy
theorem ec3 {p q r y : Str} (hp : Pc p) (hq : Pc q) (hr : Pc r) (hy : y.length ≤ 300) : EllC (Str.join dt [p, q, r]) y (ellF [p, q, r] y) := ec (pc3 hp hq hr) (by decide : 1 ≤ 2) hy
theorem ec4 {p q r t y : Str} (hp : Pc p) (hq : Pc q) (hr : Pc r) (ht : Pc t) (hy : y.length ≤ 300) : EllC (Str.join dt [p, q, r, t]) y (ellF [p, q, r, t] y) := ec (List.forall_mem_cons.2 ⟨hp, pc3 hq hr ht⟩) (Nat.le_refl _) hy
theorem x_2 (p q : Str) : (p ++ ("..." : Str)) ++ q = Str.join dt [p, q] := by rw [hdd]; rfl
theorem x_m (p : Str) : (("..." : Str) ++ p) ++ ("..." : Str) = Str.join dt [⟨#[]⟩, p, ⟨#[]⟩] := by
  rw [hdd]
  show _ = (⟨#[]⟩ : Str) ++ dt ++ (p ++ dt ++ (⟨#[]⟩ : Str))
  apply Str.ext'
  simp only [Str.cps_append]
  simp
theorem x_h (p : Str) : p ++ ("..." : Str) = Str.join dt [p, ⟨#[]⟩] := by
  rw [hdd]
  show _ = p ++ dt ++ (⟨#[]⟩ : Str)
  apply Str.ext'
  simp only [Str.cps_append]
  simp
theorem x_t (p : Str) : ("..." : Str) ++ p = Str.join dt [⟨#[]⟩, p] := by
  rw [hdd]
  show _ = (⟨#[]⟩ : Str) ++ dt ++ p
  apply Str.ext'
  simp only [Str.cps_append]
  simp
theorem x_j (l : List Str) : Txt.join "..." l = Str.join dt l := by
  rw [hdd]
  show Builtin.Str.glued dt l = _
  rw [StrLaws.glued_eq_join]
theorem ec_eq {x y : Str} {b c : Bool} (h : EllC x y b) (e : b = c) : EllC x y c := e ▸ h
section
variable {n : Nat} {w1 w2 w3 : List Nat}
theorem inn_pos (hn : n < 5) (g1 : Good n w1) (g2 : Good n w2) : 0 < (escL n (innW w1 w2)).length ∧ (escL n (innW w1 w2)).length ≤ 96 := by
  have := esc_len hn (inn_sg g1 g2)
  rw [inn_len g1 g2] at this
  omega
theorem app_len (hn : n < 5) (g1 : Good n w1) (g2 : Good n w2) : (escL n w1 ++ escL n w2).length ≤ 108 := by
  have h1 := good_pos hn g1
  have h2 := good_pos hn g2
  rw [List.length_append]; omega
theorem no46w (hn : n < 5) (g : Good n w1) : 46 ∉ escL n w1 := (esc_mem hn g.sg).1
theorem pcw (hn : n < 5) (g : Good n w1) : Pc (S (escL n w1)) := ⟨no46w hn g, by have := good_pos hn g; rw [S_len]; omega⟩
theorem pci (hn : n < 5) (g1 : Good n w1) (g2 : Good n w2) : Pc (S (escL n (innW w1 w2))) := ⟨(esc_mem hn (inn_sg g1 g2)).1, by have := inn_pos hn g1 g2; rw [S_len]; omega⟩
theorem yw (hn : n < 5) (g1 : Good n w1) (g2 : Good n w2) : (S (escL n w1 ++ escL n w2)).length ≤ 300 := by have := app_len hn g1 g2; rw [S_len]; omega
/-- the wants of the first inner loop -/
theorem want1 (hn : n < 5) (g1 : Good n w1) (g2 : Good n w2) :
    EllC (Str.join dt [S (escL n w1), S (escL n w2)]) (S (escL n w1 ++ escL n w2)) true ∧ EllC (Str.join dt [⟨#[]⟩, S (escL n (innW w1 w2)), ⟨#[]⟩]) (S (escL n w1 ++ escL n w2)) true :=
  ⟨ec_eq (ec2 (pcw hn g1) (pcw hn g2) (yw hn g1 g2)) (ell_a hn g1 g2), ec_eq (ec3 pcn (pci hn g1 g2) pcn (yw hn g1 g2)) (ell_b g1 g2)⟩
theorem want2 (hn : n < 5) (g1 : Good n w1) (g2 : Good n w2) : let b := decide (escL n w1 = escL n w2); let y := S (escL n w1 ++ escL n w2)
    EllC (Str.join dt [S (escL n w2), ⟨#[]⟩]) y b ∧ EllC (Str.join dt [⟨#[]⟩, S (escL n w1)]) y b ∧ EllC (Str.join dt [S (escL n w1), S (escL n w1)]) y b ∧
      EllC (Str.join dt [S (escL n w2), S (escL n w2)]) y b ∧ EllC (Str.join dt [⟨#[]⟩, S (escL n w1), S (escL n w1), ⟨#[]⟩]) y b := by
  intro b y
  have h1 := pcw hn g1
  have h2 := pcw hn g2
  have ha := yw hn g1 g2
  exact ⟨ec_eq (ec2 h2 pcn ha) (ell_c hn g1 g2), ec_eq (ec2 pcn h1 ha) (ell_d hn g1 g2), ec_eq (ec2 h1 h1 ha) (ell_e hn g1 g2), ec_eq (ec2 h2 h2 ha) (ell_f hn g1 g2), ec_eq (ec4 pcn h1 h1 pcn ha) (ell_g hn g1 g2)⟩
theorem want3 (hn : n < 5) (g1 : Good n w1) (g2 : Good n w2) : let y := S (escL n w1 ++ escL n w2)
    EllC (Str.join dt [S (escL n w1), S (escL n w1), S (escL n w2)]) y false ∧ EllC (Str.join dt [S (escL n w1), S (escL n w2), S (escL n w2)]) y false := by
  intro y
  have h1 := pcw hn g1
  have h2 := pcw hn g2
  have ha := yw hn g1 g2
  exact ⟨ec_eq (ec3 h1 h1 h2 ha) (ell_h1 hn g1 g2), ec_eq (ec3 h1 h2 h2 ha) (ell_h2 hn g1 g2)⟩
theorem want4 (hn : n < 5) (g1 : Good n w1) (g2 : Good n w2) (g3 : Good n w3) : EllC (Str.join dt [⟨#[]⟩, S (escL n w3), ⟨#[]⟩]) (S (escL n (innW w1 w2))) false :=
  ec_eq (ec3 pcn (pcw hn g3) pcn (pci hn g1 g2).2) (ell_i hn g1 g2 g3)
theorem want5 (hn : n < 5) (g : Good n w1) : EllC (Str.join dt [S (escL n w1), S (escL n w1)]) (S (escL n w1)) false :=
  ec_eq (ec2 (pcw hn g) (pcw hn g) (pcw hn g).2) (ell_j hn g)
noncomputable def lessL (r : List Nat) : List Nat := r.take 4 ++ r.drop 5
theorem want6 (hn : n < 5) (g : Good n w1) : EllC (Str.join dt [⟨#[]⟩, S (lessL (escL n w1)), ⟨#[]⟩]) (S (escL n w1)) (Txt.contains (S (escL n w1)) (S (lessL (escL n w1)))) := by
  have h1 := good_pos hn g
  have hl : (lessL (escL n w1)).length + 1 = (escL n w1).length := by
    unfold lessL
    rw [List.length_append, List.length_take, List.length_drop]; omega
  have h46 : 46 ∉ lessL (escL n w1) := fun h => by
    rcases List.mem_append.mp h with h | h
    · exact no46w hn g (List.mem_of_mem_take h)
    · exact no46w hn g (List.mem_of_mem_drop h)
  exact ec_eq (ec3 pcn ⟨h46, by rw [S_len]; omega⟩ pcn (pcw hn g).2) (ell_mid_in _ _)
end
end Mine
end
theorem Mine.rest_M8 {prog : PySem.Program} {w : PySem.World} {A : PySem.Around} {E : PySem.Value → PySem.Shared → Prop} {s : PySem.Shared} {env : PySem.Env} : PySem.wpAny (PySem.model prog w) A (PySem.execs [] env) (fun _ _ => True) E s := by
  w_top off
  first | (walk1; trivial) | exact PySem.wpAny_execs_nil trivial
section
open PySem PySem.W PyProof.Rows
set_option Elab.async false
set_option maxRecDepth 100000
set_option maxHeartbeats 8000000
set_option linter.unusedVariables false
namespace Mine
section
variable {prog : Program} {w : World} {A : Around} {E : Value → Shared → Prop} {s : Shared} {env : Env} {h₀ : Heap} {target : PySem.Expr} {body : List Stmt} {Q : Flow → Shared → Prop}
/-- what a turn leaves -/
noncomputable def TPost (h₀ : Heap) (L : Addr) (its : List (Addr × Obj)) (J : (Str → Option Value) → List (Addr × Obj) → Prop) (s₁ : Shared) (f : Flow) (s₂ : Shared) : Prop :=
  (f = .next ∨ f = .cont) ∧ ∃ h' tk m' news' all, s₂ = { s₁ with heap := h', toks := tk } ∧ Fr h₀ L h' m' ∧ News h₀ L h' all ∧ (∀ p ∈ its ++ news', p ∈ all) ∧ J m' news'
theorem items_mut {ws : List (Addr × String)} {keep : List (Addr × Obj)} {as : List Addr} (J : List Itm → (Str → Option Value) → List (Addr × Obj) → Prop)
    (ha : ∀ xs m news, J xs m news → news.map (·.1) = as) (hk : ∀ xs m news, J xs m news → SubL keep news) (off : ∀ a ∈ as, ∀ b ∈ ws.map (·.1), a ≠ b)
    (turn : ∀ a r v h tk m news its, J (a :: r) m news → a.Is v h → Fr h₀ env.locals h m → News h₀ env.locals h (its ++ news) → its.map (·.1) = ws.map (·.1) →
      wpAny (model prog w) A (assign target env v) (fun _ s₂ => wpAny (model prog w) A (execs body env) (TPost h₀ env.locals its (J r) { s with heap := h, toks := tk }) E s₂) E { s with heap := h, toks := tk })
    (done : ∀ m news h tk, J [] m news → Fr h₀ env.locals h m → News h₀ env.locals h news → Q .next { s with heap := h, toks := tk }) :
    ∀ (xs : List Itm) (m : Str → Option Value) (news : List (Addr × Obj)), J xs m news → ItemsRest prog w A E h₀ env target body Q s ws keep xs m news
  | [], m, news, hj => fun h tk F N => done m news h tk hj F N
  | a :: r, m, news, hj => by
    intro v h tk hv F
    have key : ∀ its : List (Addr × Obj), its.map (·.1) = ws.map (·.1) → News h₀ env.locals h (its ++ news) →
        wpAny (model prog w) A (assign target env v) (fun _ s₂ => wpAny (model prog w) A (execs body env) (UnrPostW h₀ env.locals { s with heap := h, toks := tk } its (fun m' n' => SubL keep n' ∧ ItemsRest prog w A E h₀ env target body Q s ws keep r m' n') Q) E s₂) E { s with heap := h, toks := tk } := by
      intro its hi N
      refine wpAny_mono (turn a r v h tk m news its hj hv F N hi) (fun _ s₂ h₂ => wpAny_mono h₂ (fun f s₃ p => ?_) fun _ _ e => e) fun _ _ e => e
      obtain ⟨hf, h', tk', m', news', all, rfl, F', N', hall, hJ⟩ := p
      have fin : UnrEndW h₀ env.locals { s with heap := h, toks := tk } its (fun m' n' => SubL keep n' ∧ ItemsRest prog w A E h₀ env target body Q s ws keep r m' n') { s with heap := h', toks := tk' } := by
        refine ⟨h', tk', m', news', rfl, F', fun p hp => N' p (hall p hp), fun p hp q hq => ?_, hk _ _ _ hJ, items_mut J ha hk off turn done r m' news' hJ⟩
        refine off p.1 ?_ q.1 ?_
        · rw [← ha _ _ _ hJ]; exact List.mem_map.mpr ⟨p, hp, rfl⟩
        · rw [← hi]; exact List.mem_map.mpr ⟨q, hq, rfl⟩
      rcases hf with rfl | rfl
      · exact fin
      · exact fin
    have all : ∀ (ws' : List (Addr × String)) (k : List (Addr × Obj) → Prop), (∀ its : List (Addr × Obj), its.map (·.1) = ws'.map (·.1) → k its) → AllObj ws' k := by
      intro ws'
      induction ws' with
      | nil => intro k hk'; exact hk' [] rfl
      | cons p r ih => intro k hk' o _; exact ih _ fun its e => hk' ((p.1, o) :: its) (by rw [List.map_cons, e]; rfl)
    exact all ws _ key

/-- as TPost; no object of the ledger changes -/
noncomputable def FPost (h₀ : Heap) (L : Addr) (all : List (Addr × Obj)) (J : (Str → Option Value) → Prop) (s₁ : Shared) (f : Flow) (s₂ : Shared) : Prop :=
  (f = .next ∨ f = .cont) ∧ ∃ h' tk m' big, s₂ = { s₁ with heap := h', toks := tk } ∧ Fr h₀ L h' m' ∧ News h₀ L h' big ∧ (∀ p ∈ all, p ∈ big) ∧ J m'
theorem fpost {h₀ h' : Heap} {L : Addr} {all big : List (Addr × Obj)} {J : (Str → Option Value) → Prop} {s₁ : Shared} {tk : Nat} {m' : Str → Option Value} (F : Fr h₀ L h' m') (N : News h₀ L h' big) (hs : ∀ p ∈ all, p ∈ big) (hJ : J m') :
    FPost h₀ L all J s₁ .next { s₁ with heap := h', toks := tk } := ⟨.inl rfl, h', tk, m', big, rfl, F, N, hs, hJ⟩
theorem items_fix {ws : List (Addr × String)} {keep news : List (Addr × Obj)} {xs : List Itm} {m₀ : Str → Option Value} (J : (Str → Option Value) → Prop)
    (hk : SubL keep news) (off : ∀ p ∈ news, ∀ b ∈ ws.map (·.1), p.1 ≠ b) (hj : J m₀)
    (turn : ∀ a v h tk m own, a ∈ xs → J m → a.Is v h → Fr h₀ env.locals h m → News h₀ env.locals h (news ++ own) →
      wpAny (model prog w) A (assign target env v) (fun _ s₂ => wpAny (model prog w) A (execs body env) (FPost h₀ env.locals (news ++ own) J { s with heap := h, toks := tk }) E s₂) E { s with heap := h, toks := tk })
    (done : ∀ m h tk, J m → Fr h₀ env.locals h m → News h₀ env.locals h news → Q .next { s with heap := h, toks := tk }) :
    ItemsRest prog w A E h₀ env target body Q s ws keep xs m₀ news := by
  refine items_mut (as := news.map (·.1)) (fun r m n => n = news ∧ J m ∧ ∀ a ∈ r, a ∈ xs) (fun _ _ _ h => by rw [h.1]) (fun _ _ _ h => by rw [h.1]; exact hk) (fun a ha b hb => ?_) ?_ ?_ xs m₀ news ⟨rfl, hj, fun _ h => h⟩
  · obtain ⟨p, hp, rfl⟩ := List.mem_map.mp ha
    exact off p hp b hb
  · rintro a r v h tk m n its ⟨rfl, hJ, hx⟩ hv F N hi
    have N' : News h₀ env.locals h (n ++ its) := fun p hp => N p (by
      rcases List.mem_append.mp hp with h | h
      · exact List.mem_append_right _ h
      · exact List.mem_append_left _ h)
    refine wpAny_mono (turn a v h tk m its (hx a (List.mem_cons_self ..)) hJ hv F N') (fun _ s₂ h₂ => wpAny_mono h₂ (fun f s₃ p => ?_) fun _ _ e => e) fun _ _ e => e
    obtain ⟨hf, h', tk', m', big, rfl, F', N'', hs, hJ'⟩ := p
    refine ⟨hf, h', tk', m', n, big, rfl, F', N'', fun p hp => hs p ?_, rfl, hJ', fun a ha => hx a (List.mem_cons_of_mem _ ha)⟩
    rcases List.mem_append.mp hp with h | h
    · exact List.mem_append_right _ h
    · exact List.mem_append_left _ h
  · rintro m n h tk ⟨rfl, hJ, _⟩ F N
    exact done m h tk hJ F N
end
noncomputable def strsOf (ws : List (List Nat × Tok)) (c : Nat) : Obj := listOf (ws.map fun p => Value.str ⟨p.1.toArray⟩ p.2).toArray c
section
variable {prog : Program} {w : World} {A : Around} {E : Value → Shared → Prop} {s : Shared} {h₀ : Heap} {L : Addr} {m : Str → Option Value}
theorem ext_W {Q : Value → Shared → Prop} {wl b : Addr} {ws us : List (List Nat × Tok)} {c c2 : Nat} {keep : List (Addr × Obj)} (F : Fr h₀ L s.heap m) (N : News h₀ L s.heap ((wl, strsOf ws c) :: keep)) (hk : ∀ p ∈ keep, p.1 ≠ wl)
    (hb : (b, strsOf us c2) ∈ (wl, strsOf ws c) :: keep) (h1 : ws.length ≤ 1000) (h2 : us.length ≤ 1000)
    (h : ∀ h' c', Fr h₀ L h' m → News h₀ L h' ((wl, strsOf (ws ++ us) c') :: keep) → Q .none { s with heap := h' }) : wpAny (model prog w) A (call (.builtin "list.extend") [.ref wl, .ref b]) Q E s := by
  by_cases h0 : us = []
  · subst h0
    refine kxn_extend F N hb rfl (.head hk) ?_ ?_ ?_ fun h' F' N' => h h' c F' (by rw [List.append_nil]; exact N')
    · simp [Builtin.List.listTooLong, sizeLine_eq]; omega
    · simp [sizeLine_eq]; omega
    · simp [sizeLine_eq]; omega
  · have e : strsOf (ws ++ us) (c + 1) = listOf ((ws.map fun p => Value.str ⟨p.1.toArray⟩ p.2) ++ (us.map fun p => Value.str ⟨p.1.toArray⟩ p.2)).toArray (c + 1) := by
      unfold strsOf; rw [List.map_append]
    refine kl_extend F N hb rfl ?_ (.head hk) ?_ ?_ ?_ fun h' F' N' => h h' (c + 1) F' (by rw [e]; exact N')
    · simp [h0]
    · simp [Builtin.List.listTooLong, sizeLine_eq]; omega
    · simp [sizeLine_eq]; omega
    · simp [sizeLine_eq]; omega
end
theorem strs_told {α : Type} (f : α → Str) : ∀ (cs : List α) (ys : List Value), ys.length = cs.length → (∀ (i : Nat) y, ys[i]? = some y → ∀ c, cs[i]? = some c → ∃ t, y = Value.str (f c) t) →
    ∃ ps : List (α × Tok), ps.map (·.1) = cs ∧ ys = ps.map fun p => Value.str (f p.1) p.2
  | [], [], _, _ => ⟨[], rfl, rfl⟩
  | [], _ :: _, h, _ => by simp at h
  | _ :: _, [], h, _ => by simp at h
  | c :: r, y :: q, h, hy => by
    obtain ⟨t, rfl⟩ := hy 0 y rfl c rfl
    obtain ⟨ps, e1, e2⟩ := strs_told f r q (by simpa using h) fun i z hz d hd => hy (i + 1) z (by simpa using hz) d (by simpa using hd)
    exact ⟨(c, t) :: ps, by rw [List.map_cons, e1], by rw [List.map_cons, ← e2]⟩
theorem join_flat (sep : Str) (h : sep.cps.toList = []) : ∀ l : List Str, (Str.join sep l).cps.toList = l.flatMap fun x => x.cps.toList
  | [] => rfl
  | [x] => by rw [List.flatMap_cons, List.flatMap_nil, List.append_nil]; rfl
  | x :: y :: r => by
    show (x ++ sep ++ Str.join sep (y :: r)).cps.toList = _
    simp only [Str.cps_append, Array.toList_append]
    rw [h, join_flat sep h (y :: r), List.append_nil]
    rfl
theorem join_empty (l : List Str) : Txt.join "" l = ⟨(l.flatMap fun x => x.cps.toList).toArray⟩ := by
  have h : (Txt.join "" l).cps.toList = l.flatMap fun x => x.cps.toList := by
    show (Builtin.Str.glued "" l).cps.toList = _
    rw [StrLaws.glued_eq_join]
    exact join_flat _ rfl l
  exact str_ext h
theorem join_chars (cs : List Nat) : Txt.join "" (cs.map fun c => (⟨#[c]⟩ : Str)) = ⟨cs.toArray⟩ := by
  rw [join_empty]
  congr 1
  simp [List.flatMap_map]
theorem join_in {prog : Program} {w : World} {A : Around} {E : Value → Shared → Prop} {s : Shared} {Q : Value → Shared → Prop} {h₀ : Heap} {L res : Addr} {vs : List (Str × Tok)} {n : Nat} {news : List (Addr × Obj)} {t : Tok} (N : News h₀ L s.heap news) (hm : (res, listOf (vs.map fun p => Value.str p.1 p.2).toArray n) ∈ news)
    (hb : ∀ p ∈ vs.map (·.1), p.length ≤ 500) (hl : vs.length ≤ 502) (hq : ∀ t' k, Q (.str (Txt.join "" (vs.map (·.1))) t') { s with toks := k }) :
    wpAny (model prog w) A (call (.builtin "str.join") [.str "" t, .ref res]) Q E s :=
  join_J (news := []) (cb_drop N fun p hp => by rw [List.mem_singleton.mp hp]; exact hm) hb hl hq
theorem pairs_map {α : Type} (f : α → Str) (ps : List (α × Tok)) : (ps.map fun p => Value.str (f p.1) p.2) = (ps.map fun p => (f p.1, p.2)).map fun p => Value.str p.1 p.2 := by
  rw [List.map_map]; rfl
theorem ext_V {prog : Program} {w : World} {A : Around} {E : Value → Shared → Prop} {s : Shared} {h₀ : Heap} {L : Addr} {m : Str → Option Value} {Q : Value → Shared → Prop} {wl b : Addr} {ws us : List (List Nat × Tok)} {c c2 : Nat} {all keep : List (Addr × Obj)} (F : Fr h₀ L s.heap m) (N : News h₀ L s.heap all) (hw : (wl, strsOf ws c) ∈ all) (hb : (b, strsOf us c2) ∈ all) (hk : ∀ p ∈ keep, p.1 ≠ wl)
    (hs : ∀ p ∈ keep, p ∈ all) (h1 : ws.length ≤ 1000) (h2 : us.length ≤ 1000)
    (h : ∀ h' c', Fr h₀ L h' m → News h₀ L h' ((wl, strsOf (ws ++ us) c') :: keep) → Q .none { s with heap := h' }) : wpAny (model prog w) A (call (.builtin "list.extend") [.ref wl, .ref b]) Q E s := by
  by_cases e : b = wl
  · subst e
    have e1 := (N _ hw).1
    have e2 := (N _ hb).1
    simp only at e1 e2
    rw [e1] at e2
    have e3 : strsOf ws c = strsOf us c2 := Option.some.inj e2
    refine ext_W (keep := keep) (ws := ws) (c := c) (us := us) (c2 := c2) F (fun p hp => ?_) hk (by rw [e3]; exact List.mem_cons_self ..) h1 h2 h
    rcases List.mem_cons.mp hp with rfl | hp
    · exact N _ hw
    · exact N _ (hs p hp)
  · refine ext_W (keep := (b, strsOf us c2) :: keep) (ws := ws) (c := c) (us := us) (c2 := c2) F (fun p hp => ?_) (fun p hp => ?_) (List.mem_cons_of_mem _ (List.mem_cons_self ..)) h1 h2 (fun h' c' F' N' => h h' c' F' fun p hp => N' p ?_)
    · rcases List.mem_cons.mp hp with rfl | hp
      · exact N _ hw
      rcases List.mem_cons.mp hp with rfl | hp
      · exact N _ hb
      · exact N _ (hs p hp)
    · rcases List.mem_cons.mp hp with rfl | hp
      · exact e
      · exact hk p hp
    · rcases List.mem_cons.mp hp with rfl | hp
      · exact List.mem_cons_self ..
      · exact List.mem_cons_of_mem _ (List.mem_cons_of_mem _ hp)
noncomputable def catW (ws : List (List Nat × Tok)) : List Nat := ws.flatMap (·.1)
noncomputable def txtW (ws : List (List Nat × Tok)) : List Str := ws.map fun p => (⟨p.1.toArray⟩ : Str)
theorem join_o {prog : Program} {w : World} {A : Around} {E : Value → Shared → Prop} {s : Shared} {Q : Value → Shared → Prop} {h₀ : Heap} {L res : Addr} {ws : List (List Nat × Tok)} {sep : Str} {n : Nat} {news : List (Addr × Obj)} {t : Tok} (N : News h₀ L s.heap news) {o : Obj} {its : List Value} (hm : (res, o) ∈ news) (ho : o.cls = .type "list") (hd : o.data = .seq its.toArray n) (he : its = ws.map fun p => Value.str ⟨p.1.toArray⟩ p.2)
    (hb : ∀ p ∈ ws, p.1.length ≤ 500) (hl : ws.length ≤ 500) (hsep : sep.length ≤ 16) (hq : ∀ t' k, Q (.str (Txt.join sep (txtW ws)) t') { s with toks := k }) :
    wpAny (model prog w) A (call (.builtin "str.join") [.str sep t, .ref res]) Q E s := by
  refine SC.join (l := ws.map fun p => ((⟨p.1.toArray⟩ : Str), p.2)) ⟨_, (N _ hm).1, ho, n, hd.trans ?_⟩ rfl (joinOk_of_weight ?_ hsep) ?_
  · show Data.seq _ _ = Data.seq _ _
    congr 1
    show its.toArray = ((ws.map fun p => ((⟨p.1.toArray⟩ : Str), p.2)).map fun p => Value.str p.1 p.2).toArray
    rw [he, List.map_map]; rfl
  · have := sum_le (((ws.map fun p => ((⟨p.1.toArray⟩ : Str), p.2)).map (·.1)).map (·.length)) 500 (by
      intro p hp
      obtain ⟨q, hq, rfl⟩ := List.mem_map.mp hp
      obtain ⟨q1, hq1, rfl⟩ := List.mem_map.mp hq
      obtain ⟨q2, hq2, rfl⟩ := List.mem_map.mp hq1
      have := hb q2 hq2
      show (⟨q2.1.toArray⟩ : Str).length ≤ 500
      show q2.1.toArray.size ≤ 500
      rw [List.size_toArray]; exact this)
    simp only [List.length_map] at this ⊢
    omega
  · have e : (ws.map fun p => ((⟨p.1.toArray⟩ : Str), p.2)).map (·.1) = txtW ws := by rw [List.map_map]; rfl
    rw [e]; exact hq
theorem join_sep {prog : Program} {w : World} {A : Around} {E : Value → Shared → Prop} {s : Shared} {Q : Value → Shared → Prop} {h₀ : Heap} {L res : Addr} {ws : List (List Nat × Tok)} {sep : Str} {n : Nat} {news : List (Addr × Obj)} {t : Tok} (N : News h₀ L s.heap news) (hm : (res, strsOf ws n) ∈ news)
    (hb : ∀ p ∈ ws, p.1.length ≤ 500) (hl : ws.length ≤ 500) (hsep : sep.length ≤ 16) (hq : ∀ t' k, Q (.str (Txt.join sep (txtW ws)) t') { s with toks := k }) :
    wpAny (model prog w) A (call (.builtin "str.join") [.str sep t, .ref res]) Q E s := join_o N hm rfl rfl rfl hb hl hsep hq
theorem join_cat (ws : List (List Nat × Tok)) : Txt.join "" (txtW ws) = ⟨(catW ws).toArray⟩ := by
  rw [join_empty]
  congr 1
  simp [List.flatMap_map, catW, txtW]
theorem join_ends {prog : Program} {w : World} {A : Around} {E : Value → Shared → Prop} {s : Shared} {Q : Value → Shared → Prop} {h₀ : Heap} {L res : Addr} {ws : List (List Nat × Tok)} {sep : Str} {n : Nat} {news : List (Addr × Obj)} {t t1 t2 : Tok} (N : News h₀ L s.heap news) {o : Obj} (hm : (res, o) ∈ news) (ho : o.cls = .type "list")
    (hd : o.data = .seq ([Value.str "" t1] ++ (ws.map fun p => Value.str ⟨p.1.toArray⟩ p.2) ++ [Value.str "" t2]).toArray n)
    (hb : ∀ p ∈ ws, p.1.length ≤ 500) (hl : ws.length ≤ 400) (hsep : sep.length ≤ 16) (hq : ∀ t' k, Q (.str (Txt.join sep (⟨#[]⟩ :: (txtW ws ++ [⟨#[]⟩]))) t') { s with toks := k }) :
    wpAny (model prog w) A (call (.builtin "str.join") [.str sep t, .ref res]) Q E s := by
  refine join_o (ws := ([], t1) :: (ws ++ [([], t2)])) N hm ho hd ?_ ?_ ?_ hsep ?_
  · rw [List.map_cons, List.map_append]; rfl
  · intro p hp
    rcases List.mem_cons.mp hp with rfl | hp
    · exact Nat.zero_le _
    rcases List.mem_append.mp hp with hp | hp
    · exact hb p hp
    · rw [List.mem_singleton.mp hp]; exact Nat.zero_le _
  · rw [List.length_cons, List.length_append, List.length_singleton]; omega
  · have e : txtW (([], t1) :: (ws ++ [([], t2)])) = (⟨#[]⟩ :: (txtW ws ++ [⟨#[]⟩])) := by
      unfold txtW; rw [List.map_cons, List.map_append]; rfl
    rw [e]; exact hq
end Mine
end
theorem Mine.rest_V0 {prog : PySem.Program} {w : PySem.World} {A : PySem.Around} {E : PySem.Value → PySem.Shared → Prop} {s : PySem.Shared} {env : PySem.Env} : PySem.wpAny (PySem.model prog w) A (PySem.execs [] env) (fun _ _ => True) E s := by
  w_top off
  first | (walk1; trivial) | exact PySem.wpAny_execs_nil trivial
section
open PySem PySem.W PyProof.Rows
set_option Elab.async false
set_option maxRecDepth 100000
set_option maxHeartbeats 8000000
set_option linter.unusedVariables false
namespace Mine
section
variable {prog : Program} {w : World} {A : Around} {E : Value → Shared → Prop} {s : Shared} {h₀ : Heap} {L : Addr} {m : Str → Option Value} {env : Env}
/-- the source of a comprehension is a text -/
noncomputable def SrcS (prog : Program) (w : World) (A : Around) (h₀ : Heap) (L : Addr) (m : Str → Option Value) (env : Env) (elt : PySem.Expr) (x : Str) (scope : Scope) (cl : List (Str × Addr)) (Fin : Shared → List Value → List (Addr × Obj) → Prop) (xv : Value) (s₁ : Shared) : Prop :=
  ∃ (y : Str) (t : Tok) (news : List (Addr × Obj)), xv = .str y t ∧ A.handled = none ∧ Fr h₀ L s₁.heap m ∧ News h₀ L s₁.heap news ∧ y.cps.all (· < 128) = true ∧ y.cps.size ≤ sizeLine ∧
    ∀ s₂ : Shared, (∃ h, s₂ = { s₁ with heap := h }) → LCg.CompRest prog w A h₀ L m env elt x scope cl s₂ (fun _ => True) (SignAt y) (Fin s₂) y.cps.size 0 [] news
theorem SrcS.intro {elt : PySem.Expr} {x : Str} {scope : Scope} {cl : List (Str × Addr)} {Fin : Shared → List Value → List (Addr × Obj) → Prop} {y : Str} {t : Tok} {news : List (Addr × Obj)} {s₁ : Shared}
    (hh : A.handled = none) (F : Fr h₀ L s₁.heap m) (N : News h₀ L s₁.heap news) (ha : y.cps.all (· < 128) = true) (hsz : y.cps.size ≤ sizeLine)
    (h : ∀ g, LCg.CompRest prog w A h₀ L m env elt x scope cl { s₁ with heap := g } (fun _ => True) (SignAt y) (Fin { s₁ with heap := g }) y.cps.size 0 [] news) :
    SrcS prog w A h₀ L m env elt x scope cl Fin (.str y t) s₁ := ⟨y, t, news, rfl, hh, F, N, ha, hsz, fun _ ⟨g, e⟩ => e ▸ h g⟩
theorem ListComp_S {elt iter : PySem.Expr} {x : Str} {px : Pos} {scope : Scope} {cl : List (Str × Addr)} {pos : Pos} {Q : Value → Shared → Prop} (F₀ : Fr h₀ L s.heap m)
    (hclos : closureFor scope env = pure cl) (hcell : ∀ y ∈ scope.names, y.2 ≠ .cell) (hkind : scope.kind = .function)
    (hnames : ∀ y ∈ scope.names, y.2 = .local → scope.names.lookup y.1 = some .local) (hx : scope.names.lookup x = some .local)
    (h : wpAny (model prog w) A (eval iter env) (SrcS prog w A h₀ L m env elt x scope cl (fun s₂ => LCg.FinE h₀ L m s₂ Q)) E s)
    (hs : ∀ x, foldedSetIterable iter env x = pure x := by intro _; rfl) :
    wpAny (model prog w) A (eval (.ListComp elt [⟨.Name x px, iter, [], 0⟩] scope pos) env) Q E s := by
  rw [eval_ListComp]
  refine wpAny_comprehension_free (use := none) rfl hs hclos hkind hnames (wpAny_mono h (fun xv s₁ h₁ => ?_) fun _ _ e => e)
  obtain ⟨y, t, news, rfl, hh, F, N, ha, hsz, R⟩ := h₁
  refine wpAny_pyIter_ascii ha ?_
  refine LCg.block_U (Walks.strAscii hh s₁.heap.objs.size y t) hsz (fun i h st => by obtain ⟨o, e, _⟩ := st; exact ⟨o, e⟩) ?_ hcell hkind hx ⟨_, Heap.get?_push_size _ rfl, rfl, rfl⟩ (fun b hb => ?_)
    (F.keeps fun _ _ e => Heap.get?_push_of_some _ e) (N.grown fun _ _ e => Heap.get?_push_of_some _ e) (Nat.ne_of_lt F.ns.lt) (next_is_new F) (fun p hp => Nat.ne_of_lt (Heap.lt_size (N p hp).1)) trivial (R _ ⟨_, rfl⟩) ?_
  · intro i h h' o nw st e e' _ _ _
    obtain ⟨o', q, r⟩ := st
    rw [e] at q
    cases q
    exact ⟨o, e', r⟩
  · rw [List.mem_singleton.mp hb]
    show s₁.heap.objs.size < (s₁.heap.push _).objs.size
    rw [Heap.size_push]; exact Nat.lt_succ_self _
  · intro D C h tk m' ys news' F' N' o1 hn hC₀ hD₀ hCL hDL hCD offC fin
    refine ⟨m', hn, fun h'' hs'' => fin D h'' tk (F'.change hs'' hCL hC₀) (fun p hp => ?_) o1⟩
    refine ⟨hs''.extBut _ _ ?_ (N' p hp).1, (N' p hp).2⟩
    rcases List.mem_cons.mp hp with rfl | hp
    · exact Ne.symm hCD
    · exact offC p hp
end
end Mine
end
theorem Mine.rest_V1 {prog : PySem.Program} {w : PySem.World} {A : PySem.Around} {E : PySem.Value → PySem.Shared → Prop} {s : PySem.Shared} {env : PySem.Env} : PySem.wpAny (PySem.model prog w) A (PySem.execs [] env) (fun _ _ => True) E s := by
  w_top off
  first | (walk1; trivial) | exact PySem.wpAny_execs_nil trivial
section
open PySem PySem.W PyProof.Rows
set_option Elab.async false
set_option maxRecDepth 100000
set_option maxHeartbeats 8000000
set_option linter.unusedVariables false
namespace Mine
open Lean Elab Tactic Meta PySem PySem.Calls PyProof.Rows PyProof.V PySem.Spec
noncomputable def dataOf (cs : List (List Nat)) : List PyData := cs.map fun l => PyData.str ⟨l.toArray⟩
theorem ds_canLayAll0 : ∀ cs : List (List Nat), (∀ l ∈ cs, PyData.strOk ⟨l.toArray⟩ = true) → PyData.canLayAll0 (dataOf cs) = true
  | [], _ => rfl
  | x :: r, h => by
    have := ds_canLayAll0 r fun l hl => h l (List.mem_cons_of_mem _ hl)
    have h1 := h x (List.mem_cons_self ..)
    unfold dataOf at this ⊢
    simp [PyData.canLayAll0, PyData.canLay0, this, h1]
theorem ds_depthAll : ∀ cs : List (List Nat), PyData.depthAll (dataOf cs) = 0
  | [] => rfl
  | _ :: r => by
    have := ds_depthAll r
    unfold dataOf at this ⊢
    simp [PyData.depthAll, PyData.depth, this]
theorem ds_shaped (cs : List (List Nat)) (h : ∀ l ∈ cs, PyData.strOk ⟨l.toArray⟩ = true) : SeqAt.shaped (.list (dataOf cs)) = true := by
  simp [SeqAt.shaped, PyData.canLay0, PyData.depth, ds_canLayAll0 cs h, ds_depthAll]
theorem ds_same : ∀ cs : List (List Nat), PySem.Spec.sameAll (dataOf cs) (dataOf cs) = true
  | [] => by simp [dataOf, PySem.Spec.sameAll]
  | a :: r => by
    have := ds_same r
    unfold dataOf at this ⊢
    simp [PySem.Spec.sameAll, PySem.Spec.same, this]
theorem ds_carried : ∀ (ps : List (List Nat × Tok)), CarriedAll (ps.map fun p => Value.str ⟨p.1.toArray⟩ p.2) (dataOf (ps.map (·.1)))
  | [] => .nil
  | p :: r => .cons (.str _ p.2) (ds_carried r)
theorem ne_strs {prog : Program} {w : World} {A : Around} {E : Value → Shared → Prop} {s : Shared} {a b : Addr} {ps qs : List (List Nat × Tok)} {Q : Value → Shared → Prop} (ha : s.heap.IsList a (ps.map fun p => Value.str ⟨p.1.toArray⟩ p.2).toArray)
    (hb : s.heap.IsList b (qs.map fun p => Value.str ⟨p.1.toArray⟩ p.2).toArray) (e : ps.map (·.1) = qs.map (·.1)) (hok : ∀ l ∈ ps.map (·.1), PyData.strOk ⟨l.toArray⟩ = true) (hu : A.units + 64 < cLine) (h : Q (.bool false) s) :
    wpAny (model prog w) A (compareOp .NotEq (.ref a) (.ref b)) Q E s := by
  refine ne_dataH_same (reads_newData ha (ds_carried ps)) (reads_newData hb (ds_carried qs)) (ds_shaped _ hok) (ds_shaped _ (e ▸ hok)) hu (SeqAt.noMix_of_shape (.list .str) rfl _ _ (list_map_has fun _ => rfl) (list_map_has fun _ => rfl)) ?_
  rw [← e]
  simp only [PySem.Spec.same, ds_same]
  exact h
end Mine
end
theorem Mine.rest_V2 {prog : PySem.Program} {w : PySem.World} {A : PySem.Around} {E : PySem.Value → PySem.Shared → Prop} {s : PySem.Shared} {env : PySem.Env} : PySem.wpAny (PySem.model prog w) A (PySem.execs [] env) (fun _ _ => True) E s := by
  w_top off
  first | (walk1; trivial) | exact PySem.wpAny_execs_nil trivial
section
open PySem PySem.W PyProof.Rows
set_option Elab.async false
set_option maxRecDepth 100000
set_option maxHeartbeats 8000000
set_option linter.unusedVariables false
namespace Mine
noncomputable def sepL : List Nat := [34, 122, 92, 34, 122, 92, 92, 34]
noncomputable abbrev sepS : Str := "\"z\\\"z\\\\\""
theorem sep_list : sepS.cps.toList = sepL := by decide +kernel
theorem sep_len : sepS.length ≤ 16 := by decide +kernel
noncomputable def midL (ws : List (List Nat × Tok)) : List Nat := ws.flatMap fun p => p.1 ++ sepL
theorem join_mid : ∀ (ws : List (List Nat × Tok)) (x : Str), (Str.join sepS (x :: (txtW ws ++ [⟨#[]⟩]))).cps.toList = x.cps.toList ++ (sepL ++ midL ws)
  | [], x => by
    show (x ++ sepS ++ (⟨#[]⟩ : Str)).cps.toList = _
    simp only [Str.cps_append, Array.toList_append]
    rw [sep_list]
    simp [midL]
  | p :: r, x => by
    show (x ++ sepS ++ Str.join sepS ((⟨p.1.toArray⟩ : Str) :: (txtW r ++ [⟨#[]⟩]))).cps.toList = _
    simp only [Str.cps_append, Array.toList_append]
    rw [sep_list, join_mid r]
    simp [midL]
theorem join_msg (ws : List (List Nat × Tok)) : Txt.join sepS (⟨#[]⟩ :: (txtW ws ++ [⟨#[]⟩])) = ⟨(sepL ++ midL ws).toArray⟩ := by
  have h : (Txt.join sepS (⟨#[]⟩ :: (txtW ws ++ [⟨#[]⟩]))).cps.toList = sepL ++ midL ws := by
    show (Builtin.Str.glued sepS _).cps.toList = _
    rw [StrLaws.glued_eq_join, join_mid]
    rfl
  exact str_ext h
noncomputable def msgL (ws : List (List Nat × Tok)) : List Nat := [92, 34] ++ ((sepL ++ midL ws) ++ [34])
/-- signs that the strip passes -/
noncomputable def Pass (l : List Nat) : Prop := ∀ c ∈ l, c ≠ 92 ∧ c ≠ 34
theorem fold_word (x : Str) (st : SSt) : ∀ (l r : List Nat) (i : Nat), Pass l → (gl (l ++ r) i false).foldl (sStep x) st = (gl r (i + l.length) false).foldl (sStep x) st
  | [], r, i, _ => rfl
  | c :: l, r, i, h => by
    have hc := h c (List.mem_cons_self ..)
    have ih := fold_word x st l r (i + 1) fun d hd => h d (List.mem_cons_of_mem _ hd)
    have e : gl (c :: l ++ r) i false = (i, [c]) :: gl (l ++ r) (i + 1) false := by
      show gl (c :: (l ++ r)) i false = _
      rw [gl, if_neg hc.1]
    rw [e, List.foldl_cons]
    have e2 : sStep x st (i, [c]) = st := by
      unfold sStep
      rw [if_neg]
      intro q
      exact hc.2 (List.cons.inj q).1
    rw [e2, ih, List.length_cons]
    congr 2
    omega
theorem fold_sep (x : Str) (a i : Nat) (res : List Str) (r : List Nat) : (gl (sepL ++ r) i false).foldl (sStep x) (a, none, res) =
    (gl r (i + 8) false).foldl (sStep x) (i + 8, none, if a = i then res else res ++ [Txt.slice x (some (a : Int)) (some (i : Int))]) := by
  have e : gl (sepL ++ r) i false = (i, [34]) :: (i + 1, [122]) :: (i + 3, [92, 34]) :: (i + 4, [122]) :: (i + 6, [92, 92]) :: (i + 7, [34]) :: gl r (i + 8) false := by
    simp [sepL, gl]
  rw [e]
  rfl
theorem fold_esc (x : Str) (st : SSt) (i : Nat) (r : List Nat) : (gl ([92, 34] ++ r) i false).foldl (sStep x) st = (gl r (i + 2) false).foldl (sStep x) st := by
  have e : gl ([92, 34] ++ r) i false = (i + 1, [92, 34]) :: gl r (i + 2) false := by simp [gl]
  rw [e]
  rfl
theorem fold_ws (l : List Nat) : ∀ (ws : List (List Nat × Tok)) (pre : List Nat) (res : List Str), l = pre ++ (midL ws ++ [34]) → (∀ p ∈ ws, Pass p.1 ∧ p.1 ≠ []) →
    ∃ k, k + 1 = l.length ∧ (gl (midL ws ++ [34]) pre.length false).foldl (sStep ⟨l.toArray⟩) (pre.length, none, res) = (k, some k, res ++ txtW ws)
  | [], pre, res, he, _ => by
    refine ⟨pre.length, ?_, ?_⟩
    · rw [he]; simp [midL]
    · show (gl [34] pre.length false).foldl _ _ = _
      simp [gl, sStep, txtW]
  | p :: ws, pre, res, he, hp => by
    have h1 := hp p (List.mem_cons_self ..)
    have hm : midL (p :: ws) ++ [34] = p.1 ++ (sepL ++ (midL ws ++ [34])) := by simp [midL]
    rw [hm] at he ⊢
    rw [fold_word _ _ _ _ _ h1.1, fold_sep]
    have hne : ¬ pre.length = pre.length + p.1.length := by
      have : p.1.length ≠ 0 := fun h => h1.2 (List.length_eq_zero_iff.mp h)
      omega
    rw [if_neg hne]
    have hsl : Txt.slice ⟨l.toArray⟩ (some ((pre.length : Nat) : Int)) (some ((pre.length + p.1.length : Nat) : Int)) = ⟨p.1.toArray⟩ := by
      rw [sl_mid l rfl rfl (by omega) (by rw [he]; simp only [List.length_append]; omega), he]
      congr 2
      rw [List.drop_left, Nat.add_sub_cancel_left, List.take_left]
    rw [hsl]
    have e8 : pre.length + p.1.length + 8 = (pre ++ (p.1 ++ sepL)).length := by simp [sepL]; omega
    rw [e8]
    obtain ⟨k, hk, e⟩ := fold_ws l ws (pre ++ (p.1 ++ sepL)) (res ++ [⟨p.1.toArray⟩]) (by rw [he]; simp) fun q hq => hp q (List.mem_cons_of_mem _ hq)
    refine ⟨k, hk, ?_⟩
    rw [e]
    simp [txtW]
theorem strip_msg {ws : List (List Nat × Tok)} (hp : ∀ p ∈ ws, Pass p.1 ∧ p.1 ≠ []) : stripF ⟨(msgL ws).toArray⟩ = ⟨([92, 34] ++ (catW ws ++ [34])).toArray⟩ := by
  have hrun : sRun ⟨(msgL ws).toArray⟩ (gl (msgL ws) 0 false) = ((msgL ws).length - 1, some ((msgL ws).length - 1), ⟨#[92, 34]⟩ :: txtW ws) := by
    unfold sRun
    have e : msgL ws = [92, 34] ++ (sepL ++ (midL ws ++ [34])) := by simp [msgL]
    rw [show gl (msgL ws) 0 false = gl ([92, 34] ++ (sepL ++ (midL ws ++ [34]))) 0 false by rw [e], fold_esc, fold_sep]
    rw [if_neg (by decide)]
    have hsl : Txt.slice ⟨(msgL ws).toArray⟩ (some ((0 : Nat) : Int)) (some ((0 + 2 : Nat) : Int)) = ⟨#[92, 34]⟩ := by
      rw [sl_mid (msgL ws) (i := 0) (j := 2) rfl rfl (by decide) (by rw [e]; simp)]
      rw [e]; rfl
    rw [hsl]
    obtain ⟨k, hk, e2⟩ := fold_ws (msgL ws) ws ([92, 34] ++ sepL) [⟨#[92, 34]⟩] (by rw [e]; simp) hp
    have e3 : (0 + 2 + 8 : Nat) = ([92, 34] ++ sepL).length := by simp [sepL]
    rw [e3]
    rw [List.nil_append, e2]
    have : k = (msgL ws).length - 1 := by omega
    rw [this]
    rfl
  have hpos : 0 < (msgL ws).length := by simp [msgL]
  unfold stripF
  show Txt.join "" (if ((sRun ⟨(msgL ws).toArray⟩ (gl (msgL ws) 0 false)).1 : Int) < (((⟨(msgL ws).toArray⟩ : Str).length : Nat) : Int) then _ else _) = _
  rw [hrun, len_of, if_pos (by simp only; omega)]
  simp only
  have hlast : Txt.slice ⟨(msgL ws).toArray⟩ (some (((msgL ws).length - 1 : Nat) : Int)) none = ⟨#[34]⟩ := by
    rw [sl_from (msgL ws) rfl (by omega)]
    have e : msgL ws = ([92, 34] ++ (sepL ++ midL ws)) ++ [34] := by simp [msgL]
    have e4 : (msgL ws).length - 1 = ([92, 34] ++ (sepL ++ midL ws)).length := by rw [e]; simp; omega
    rw [e4, e, List.drop_left]
  have hlast' : Txt.slice ⟨(msgL ws).toArray⟩ (some ((((msgL ws).length : Nat) - 1 : Nat) : Int)) none = ⟨#[34]⟩ := hlast
  rw [hlast', join_empty]
  congr 1
  simp [List.flatMap_map, List.flatMap_append, catW, txtW]
theorem esc_pass : ∀ (l r : List Nat), Pass l → escEnd (l ++ r) false = escEnd r false
  | [], r, _ => rfl
  | c :: l, r, h => by
    have hc := (h c (List.mem_cons_self ..)).1
    show escEnd (c :: (l ++ r)) false = _
    rw [escEnd, beq_eq_false_iff_ne.mpr hc]
    exact esc_pass l r fun d hd => h d (List.mem_cons_of_mem _ hd)
theorem esc_mid : ∀ {ws : List (List Nat × Tok)}, (∀ p ∈ ws, Pass p.1) → escEnd (midL ws ++ [34]) false = false
  | [], _ => rfl
  | p :: r, h => by
    have e : midL (p :: r) ++ [34] = p.1 ++ (sepL ++ (midL r ++ [34])) := by simp [midL]
    rw [e, esc_pass _ _ (h p (List.mem_cons_self ..))]
    show escEnd (midL r ++ [34]) false = false
    exact esc_mid fun q hq => h q (List.mem_cons_of_mem _ hq)
theorem esc_msg {ws : List (List Nat × Tok)} (h : ∀ p ∈ ws, Pass p.1) : escEnd (msgL ws) false = false := by
  have e : msgL ws = [92, 34] ++ (sepL ++ (midL ws ++ [34])) := by simp [msgL]
  rw [e]
  show escEnd (midL ws ++ [34]) false = false
  exact esc_mid h
theorem msg_ascii {ws : List (List Nat × Tok)} (h : ∀ p ∈ ws, ∀ c ∈ p.1, c < 128) : ∀ c ∈ msgL ws, c < 128 := by
  have hs : ∀ c ∈ sepL, c < 128 := by decide
  intro c hc
  have e : msgL ws = [92, 34] ++ (sepL ++ (midL ws ++ [34])) := by simp [msgL]
  rw [e] at hc
  simp only [List.mem_append] at hc
  rcases hc with hc | hc | hc | hc
  · simp at hc; omega
  · exact hs c hc
  · obtain ⟨p, hp, hc⟩ := List.mem_flatMap.mp hc
    rcases List.mem_append.mp hc with hc | hc
    · exact h p hp c hc
    · exact hs c hc
  · simp at hc; omega
theorem mid_len : ∀ {ws : List (List Nat × Tok)}, (∀ p ∈ ws, p.1.length = 9) → (midL ws).length = 17 * ws.length
  | [], _ => rfl
  | p :: r, h => by
    have ih := mid_len (ws := r) fun q hq => h q (List.mem_cons_of_mem _ hq)
    have h1 := h p (List.mem_cons_self ..)
    unfold midL at ih ⊢
    rw [List.flatMap_cons, List.length_append, ih, List.length_append, h1, List.length_cons]; simp [sepL]; omega
end Mine
end
theorem Mine.rest_V3 {prog : PySem.Program} {w : PySem.World} {A : PySem.Around} {E : PySem.Value → PySem.Shared → Prop} {s : PySem.Shared} {env : PySem.Env} : PySem.wpAny (PySem.model prog w) A (PySem.execs [] env) (fun _ _ => True) E s := by
  w_top off
  first | (walk1; trivial) | exact PySem.wpAny_execs_nil trivial
section
open PySem PySem.W PyProof.Rows
set_option Elab.async false
set_option maxRecDepth 100000
set_option maxHeartbeats 8000000
set_option linter.unusedVariables false
namespace Mine
section
variable {prog : Program} {w : World} {A : Around} {E : Value → Shared → Prop} {s : Shared} {env : Env} {h₀ : Heap} {target : PySem.Expr} {body : List Stmt} {Q : Flow → Shared → Prop}
/-- a loop over a written tuple; no object of the ledger changes -/
theorem tuple_loop {vs : List Value} {m₀ : Str → Option Value} {news : List (Addr × Obj)} (K : (Str → Option Value) → (Str → Option Value) → Prop) (hh : A.handled = none) (F : Fr h₀ env.locals s.heap m₀) (N : News h₀ env.locals s.heap news) (hz : vs.length ≤ sizeLine) (hj : K m₀ m₀)
    (turn : ∀ v h tk m own, v ∈ vs → K m₀ m → Fr h₀ env.locals h m → News h₀ env.locals h (news ++ own) →
      wpAny (model prog w) A (assign target env v) (fun _ s₂ => wpAny (model prog w) A (execs body env) (FPost h₀ env.locals (news ++ own) (K m₀) { s with heap := h, toks := tk }) E s₂) E { s with heap := h, toks := tk })
    (done : ∀ m h tk, K m₀ m → Fr h₀ env.locals h m → News h₀ env.locals h news → Q .next { s with heap := h, toks := tk }) :
    wpAny (model prog w) A (newTuple vs) (fun xv s₁ => wpAny (model prog w) A (pyIter xv) (fun it s₂ => TurnsAt prog w A h₀ env target body Q E it s₂) E s₁) E s := by
  refine kup_newTuple F N ?_ hz
  intro tp h1 F1 N1 lt
  refine iter_tupTurns (s := { s with heap := h1 }) hh F1 N1 (List.mem_cons_self ..) rfl rfl ?_
  intro I hI
  refine items_fix (K m₀) ⟨List.mem_cons_self .., trivial⟩ (fun p hp b hb => ?_) hj ?_ ?_
  · rw [List.mem_singleton.mp hb]
    exact Nat.ne_of_lt (hI p hp)
  · intro a v h tk m own ha hJ hv F2 N2
    obtain ⟨u, hu, rfl⟩ := List.mem_map.mp ha
    replace hv : v = u := hv
    subst hv
    have N3 : News h₀ env.locals h (news ++ ((tp, { cls := .type "tuple", data := .seq vs.toArray }) :: own)) := fun p hp => N2 p (by
      simp only [List.mem_append, List.mem_cons] at hp ⊢
      rcases hp with hp | hp | hp <;> simp [hp])
    refine wpAny_mono (turn v h tk m _ hu hJ F2 N3) (fun _ s₂ h₂ => wpAny_mono h₂ (fun f s₃ p => ?_) fun _ _ e => e) fun _ _ e => e
    obtain ⟨hf, h', tk', m', big, rfl, F', N', hs, hJ'⟩ := p
    refine ⟨hf, h', tk', m', big, rfl, F', N', fun p hp => hs p ?_, hJ'⟩
    simp only [List.mem_append, List.mem_cons, List.cons_append] at hp ⊢
    rcases hp with hp | hp | hp <;> simp [hp]
  · intro m h tk hJ F2 N2
    exact done m h tk hJ F2 fun p hp => N2 p (List.mem_cons_of_mem _ hp)
/-- a loop over a list of the ledger; no object of the ledger changes -/
theorem list_loop {vs : List Value} {n : Nat} {l : Addr} {o : Obj} {m₀ : Str → Option Value} {news : List (Addr × Obj)} (K : (Str → Option Value) → (Str → Option Value) → Prop) (hh : A.handled = none) (F : Fr h₀ env.locals s.heap m₀) (N : News h₀ env.locals s.heap news) (hm : (l, o) ∈ news) (hc : o.cls = .type "list") (hd : o.data = .seq vs.toArray n) (hj : K m₀ m₀)
    (turn : ∀ v h tk m own, v ∈ vs → K m₀ m → Fr h₀ env.locals h m → News h₀ env.locals h (news ++ own) →
      wpAny (model prog w) A (assign target env v) (fun _ s₂ => wpAny (model prog w) A (execs body env) (FPost h₀ env.locals (news ++ own) (K m₀) { s with heap := h, toks := tk }) E s₂) E { s with heap := h, toks := tk })
    (done : ∀ m h tk, K m₀ m → Fr h₀ env.locals h m → News h₀ env.locals h news → Q .next { s with heap := h, toks := tk }) :
    wpAny (model prog w) A (pyIter (.ref l)) (fun it s₂ => TurnsAt prog w A h₀ env target body Q E it s₂) E s := by
  refine iter_listTurns hh F N hm hc hd ?_
  intro I hI
  refine items_fix (K m₀) ⟨hm, trivial⟩ (fun p hp b hb => ?_) hj ?_ done
  · rw [List.mem_singleton.mp hb]
    exact Nat.ne_of_lt (hI p hp)
  · intro a v h tk m own ha hJ hv F2 N2
    obtain ⟨u, hu, rfl⟩ := List.mem_map.mp ha
    replace hv : v = u := hv
    subst hv
    exact turn v h tk m own hu hJ F2 N2
theorem zip_mem : ∀ (xs ys : List Value) (a : Itm), a ∈ zipItems xs ys → ∃ (i : Nat) (x y : Value), xs[i]? = some x ∧ ys[i]? = some y ∧ a = .pair (fun _ => x) y
  | [], _, _, h => by simp [zipItems] at h
  | _ :: _, [], _, h => by simp [zipItems] at h
  | x :: r, y :: q, a, h => by
    rcases List.mem_cons.mp h with rfl | h
    · exact ⟨0, x, y, rfl, rfl, rfl⟩
    · obtain ⟨i, x', y', h1, h2, h3⟩ := zip_mem r q a h
      exact ⟨i + 1, x', y', by simpa using h1, by simpa using h2, h3⟩
/-- a loop over zip of two lists of the ledger; no object of the ledger changes -/
theorem zip_loop {elts : List PySem.Expr} {k : Nat} {pos : Pos} {xs ys : List Value} {n1 n2 : Nat} {l1 l2 : Addr} {o1 o2 : Obj} {m₀ : Str → Option Value} {news : List (Addr × Obj)} (K : (Str → Option Value) → (Str → Option Value) → Prop) (hh : A.handled = none) (F : Fr h₀ env.locals s.heap m₀) (N : News h₀ env.locals s.heap news)
    (hm1 : (l1, o1) ∈ news) (hc1 : o1.cls = .type "list") (hd1 : o1.data = .seq xs.toArray n1) (hm2 : (l2, o2) ∈ news) (hc2 : o2.cls = .type "list") (hd2 : o2.data = .seq ys.toArray n2) (hj : K m₀ m₀)
    (turn : ∀ (i : Nat) (x y : Value) T h tk m own, xs[i]? = some x → ys[i]? = some y → K m₀ m → IsTup h T #[x, y] → Fr h₀ env.locals h m → News h₀ env.locals h (news ++ own) →
      wpAny (model prog w) A (assign (.Tuple elts k pos) env (.ref T)) (fun _ s₂ => wpAny (model prog w) A (execs body env) (FPost h₀ env.locals (news ++ own) (K m₀) { s with heap := h, toks := tk }) E s₂) E { s with heap := h, toks := tk })
    (done : ∀ m h tk, K m₀ m → Fr h₀ env.locals h m → News h₀ env.locals h news → Q .next { s with heap := h, toks := tk }) :
    wpAny (model prog w) A (call (.type "zip") [.ref l1, .ref l2]) (fun xv s₁ => wpAny (model prog w) A (pyIter xv) (fun it s₂ => TurnsAt prog w A h₀ env (.Tuple elts k pos) body Q E it s₂) E s₁) E s := by
  refine ktu_zip hh F N hm1 hc1 hd1 hm2 hc2 hd2 ?_
  intro I hI
  refine items_fix (K m₀) ⟨hm1, hm2, trivial⟩ (fun p hp b hb => ?_) hj ?_ done
  · have := hI p hp
    simp only [List.map_cons, List.map_nil, List.mem_cons, List.not_mem_nil, or_false] at hb
    have h1 : @LT.lt Nat _ p.1 I := hI p hp
    rcases hb with rfl | rfl | rfl | rfl | rfl
    · exact ktu_ne 4 h1
    · exact ktu_ne 2 h1
    · exact ktu_ne 3 h1
    · exact Nat.ne_of_lt h1
    · exact ktu_ne 1 h1
  · intro a v h tk m own ha hJ hv F2 N2
    obtain ⟨i, x, y, hx, hy, rfl⟩ := zip_mem xs ys a ha
    obtain ⟨T, t, rfl, hT⟩ := hv
    exact turn i x y T h tk m own hx hy hJ hT F2 N2
noncomputable def JW (x : Str) (m₀ m : Str → Option Value) : Prop := ∃ u, m = fun y => if y = x then u else m₀ y
theorem JW.start (x : Str) (m : Str → Option Value) : JW x m m := ⟨m x, funext fun y => by
  by_cases h : y = x
  · rw [if_pos h, h]
  · rw [if_neg h]⟩
theorem JW.again (x : Str) (m : Str → Option Value) (u v : Option Value) : JW x m (fun y => if y = x then v else (fun y => if y = x then u else m y) y) := ⟨v, funext fun y => by
  by_cases h : y = x
  · rw [if_pos h, if_pos h]
  · rw [if_neg h, if_neg h]
    simp only [if_neg h]⟩
end
theorem join_v {prog : Program} {w : World} {A : Around} {E : Value → Shared → Prop} {s : Shared} {Q : Value → Shared → Prop} {h₀ : Heap} {L res : Addr} (vs : List (Str × Tok)) {sep : Str} {n : Nat} {o : Obj} {news : List (Addr × Obj)} {t : Tok} (N : News h₀ L s.heap news) (hm : (res, o) ∈ news)
    (ho : o.cls = .type "list") (hd : o.data = .seq (vs.map fun p => Value.str p.1 p.2).toArray n) (hb : ∀ p ∈ vs, p.1.length ≤ 500) (hl : vs.length ≤ 100) (hsep : sep.length ≤ 16) (hq : ∀ t' k, Q (.str (Txt.join sep (vs.map (·.1))) t') { s with toks := k }) :
    wpAny (model prog w) A (call (.builtin "str.join") [.str sep t, .ref res]) Q E s := by
  refine SC.join (l := vs) ⟨_, (N _ hm).1, ho, n, hd⟩ rfl (joinOk_of_weight ?_ hsep) hq
  have := sum_le ((vs.map (·.1)).map (·.length)) 500 (by
    intro p hp
    obtain ⟨q, hq, rfl⟩ := List.mem_map.mp hp
    obtain ⟨q1, hq1, rfl⟩ := List.mem_map.mp hq
    exact hb q1 hq1)
  simp only [List.length_map] at this ⊢
  omega
theorem dots_len : ("..." : Str).length ≤ 16 := by decide +kernel
theorem nil_len0 : ("" : Str).length ≤ 500 := by decide +kernel
end Mine
end
theorem Mine.rest_V4 {prog : PySem.Program} {w : PySem.World} {A : PySem.Around} {E : PySem.Value → PySem.Shared → Prop} {s : PySem.Shared} {env : PySem.Env} : PySem.wpAny (PySem.model prog w) A (PySem.execs [] env) (fun _ _ => True) E s := by
  w_top off
  first | (walk1; trivial) | exact PySem.wpAny_execs_nil trivial
section
open PySem PySem.W PyProof.Rows
set_option Elab.async false
set_option maxRecDepth 100000
set_option linter.unusedVariables false
namespace Mine
theorem idx_up_neg (l : Option Int) {b : Int} {n : Nat} (h0 : b < 0) (h1 : -(n : Int) ≤ b) : Builtin.Str.strSliceIndices l (some b) 1 n = Builtin.Str.strSliceIndices l (some (b + n)) 1 n := by
  have e1 : ¬ (b + (n : Int) < 0) := by omega
  have e2 : max (0 : Int) (min (b + (n : Int) + (n : Int)) (n : Int)) = max (0 : Int) (min (b + (n : Int) + (n : Int)) (n : Int)) := rfl
  unfold Builtin.Str.strSliceIndices
  simp only [h0, e1, if_true, if_false]
theorem sl_neg (l : List Nat) (m : Option Int) {b : Int} {j : Nat} (h0 : b < 0) (hj : b + l.length = j) : Txt.slice ⟨l.toArray⟩ m (some b) = Txt.slice ⟨l.toArray⟩ m (some (j : Int)) := by
  have e := idx_up_neg m (b := b) (n := l.length) h0 (by omega)
  unfold Txt.slice
  rw [len_of, e, hj]
theorem sl_last (l : List Nat) (c : Nat) : Txt.slice ⟨(l ++ [c]).toArray⟩ none (some (-1)) = ⟨l.toArray⟩ := by
  rw [sl_neg (l ++ [c]) none (j := l.length) (by decide) (by simp; omega), sl_to (l ++ [c]) rfl (by simp), List.take_left]
/-- what stays when a head and a tail are cut off -/
theorem sl_within (a b c : List Nat) (hc : c ≠ []) : Txt.slice ⟨(a ++ (b ++ c)).toArray⟩ (some (a.length : Int)) (some (-(c.length : Int))) = ⟨b.toArray⟩ := by
  have hc0 : 0 < c.length := List.length_pos_iff.mpr hc
  rw [sl_neg (a ++ (b ++ c)) _ (j := a.length + b.length) (by omega) (by simp; omega), sl_mid (a ++ (b ++ c)) rfl rfl (by omega) (by simp only [List.length_append]; omega), List.drop_left, Nat.add_sub_cancel_left, List.take_left]
end Mine
end
theorem Mine.rest_S1 {prog : PySem.Program} {w : PySem.World} {A : PySem.Around} {E : PySem.Value → PySem.Shared → Prop} {s : PySem.Shared} {env : PySem.Env} : PySem.wpAny (PySem.model prog w) A (PySem.execs [] env) (fun _ _ => True) E s := by
  w_top off
  first | (walk1; trivial) | exact PySem.wpAny_execs_nil trivial
section
open PySem PySem.W PyProof.Rows
set_option Elab.async false
set_option maxRecDepth 100000
set_option maxHeartbeats 8000000
set_option linter.unusedVariables false
namespace Mine
noncomputable abbrev lawEnv (L a : Addr) (ccd : Value) : Env := envOfC "law" (scopeAt 19) L a ccd
noncomputable abbrev lawA (L a : Addr) (ccd : Value) : Around := callerA.deeper (lawEnv L a ccd)
/-- the number at place k -/
noncomputable def baseAt (k : Nat) : Int := ([337, 152, 29, 122, 58, 5, 102, 21, 52] : List Int).getD k 0
local macro_rules | `(tactic| walk_at $k:str) => if ["exec Assign cons ListComp", "call type:enumerate", "call builtin:sum", "CompEnd"].contains k.getString then `(tactic| (k_here; k_dflt (refine stop_it ?_))) else Lean.Macro.throwUnsupported
theorem ints_of_G : ∀ (ys : List Value), (∀ (i : Nat) (y : Value), ys[i]? = some y → ∃ k t, y = Value.int k t ∧ 0 ≤ k ∧ k < 1000000) → ∃ ks : List Int, ks.length = ys.length ∧ (∀ k ∈ ks, 0 ≤ k ∧ k < 1000000) ∧ IntsAre ys ks
  | [], _ => ⟨[], rfl, fun _ h => (nomatch h), .nil⟩
  | y :: r, (h : ∀ (i : Nat) z, (y :: r)[i]? = some z → _) => by
    obtain ⟨k, t, rfl, h1, h2⟩ := h 0 y rfl
    obtain ⟨ks, e, hk, hi⟩ := ints_of_G r fun i z hz => h (i + 1) z hz
    exact ⟨k :: ks, by rw [List.length_cons, List.length_cons, e], fun x hx => by
      rcases List.mem_cons.mp hx with rfl | hx
      · exact ⟨h1, h2⟩
      · exact hk x hx, .cons _ _ hi⟩
theorem law_1 {w : World} {mean : ExcName → Option Value} {mg mb : Str → Option Value} {h₀ : Heap} {s : Shared} {L a : Addr} {ccd : Value} {l : Addr} {vs : List Value} {ns : List Int} {o1 o2 o3 o4 o5 : Obj} {Q : Flow → Shared → Prop} {E : Value → Shared → Prop}
    (B : Below callerA h₀ [] h₀) (F : Fr h₀ L s.heap fun _ => none) (T : Top hd.view_39 (looseW hd.view_39 []) mean mg mb h₀)
    (N : News h₀ L s.heap [(L + 5, o5), (L + 4, o4), (L + 3, o3), (L + 2, o2), (L + 1, o1)]) (d1 : o1.data = .cell (some (.ref l))) (hl : h₀.IsList l vs.toArray) (hi : IntsAre vs ns) (hn : ns.length ≤ 63)
    (next : ∀ D h tk ys ks, ks.length = 9 → (∀ k ∈ ks, 0 ≤ k ∧ k < 1000000) → IntsAre ys ks → ((@Ne Nat (L + 5) D) ∧ (@Ne Nat (L + 4) D) ∧ (@Ne Nat (L + 3) D) ∧ (@Ne Nat (L + 2) D)) → Fr h₀ L h (fun z => if z = "numbers" then some (.ref D) else none) →
      News h₀ L h [(D, LCg.lst ys), (L + 5, o5), (L + 4, o4), (L + 3, o3), (L + 2, o2)] →
      wpAny (model Challenge.rw_wr0030_01.row.prog w) (lawA L a ccd) (execs ((bodyAt 19).drop 1) (lawEnv L a ccd)) Q E { s with heap := h, toks := tk }) :
    (hd.heap_39 w.params).In h₀ → wpAny (model Challenge.rw_wr0030_01.row.prog w) (lawA L a ccd) (execs (bodyAt 19) (lawEnv L a ccd)) Q E s := by
  k_fill
  intro X
  unfold lawA lawEnv
  conv in (occs := *) (scopeAt 19) => all_goals whnf
  show wpAny _ _ (execs (_ :: _) _) _ _ _
  k_steps
  unfold Stop
  refine assign_comp_E (F₀ := by k_asm) (by rfl) (by with_unfolding_all rfl) (by with_unfolding_all rfl) (by decide) (by rfl) (by decide) (by rfl) (by rfl) (by decide) (by rfl) (by rfl) ?_
  k_steps
  unfold Stop
  rename Fr _ _ _ _ => Fz
  rename News _ _ _ _ => Nz
  refine call_enumerate_tuple ⟨_, (Nz _ (List.mem_cons_self ..)).1, rfl, _, rfl⟩ fun h₁ he hit hz hk => ?_
  dsimp only at he hit hz hk
  have Fw := Fr.after Fz hk
  have Nw : News h₀ L h₁ _ := fun p hp => ⟨hk _ _ (Nz p hp).1, (Nz p hp).2⟩
  have lt : ∀ p ∈ _, _ := fun p hp => Heap.lt_size (Nz p hp).1
  refine ⟨_, _, _, _, _, _, _, fun i y => ∃ k t, y = .int k t ∧ 0 ≤ k ∧ k < 1000000, rfl, rfl, Fw, Nw, List.mem_cons_self .., rfl, rfl, Nat.le_of_ble_eq_true rfl, he, hit, Nat.succ_ne_self _, ⟨Nat.ne_of_lt (Nat.lt_succ_of_lt Fz.ns.lt), Nat.ne_of_lt Fz.ns.lt⟩, ⟨?_, next_is_new Fz⟩, fun p hp => ⟨Nat.ne_of_lt (Nat.lt_succ_of_lt (Heap.lt_size (Nz p hp).1)), Nat.ne_of_lt (Heap.lt_size (Nz p hp).1)⟩, ?_, ?_⟩
  · cases hq : h₀.get? _ with
    | none => rfl
    | some o => exact absurd (Nat.lt_of_lt_of_le (Heap.lt_size hq) Fz.above) (Nat.not_lt.mpr (Nat.le_succ_of_le (Nat.le_of_lt Fz.ns.lt)))
  · intro i t' v oE C oC D oIt m₂ ys h tk' E' hv hC h1 h2 F N off ne
    obtain ⟨k, tv, rfl⟩ : ∃ k tv, v = .int k tv := by
      have hm := Array.mem_of_getElem? hv
      simp only [List.mem_toArray, List.mem_cons, List.not_mem_nil, or_false] at hm
      rcases hm with r | r | r | r | r | r | r | r | r <;> exact ⟨_, _, r⟩
    k_steps
    unfold Stop
    rename Fr _ _ _ _ => Fu
    rename News _ _ _ _ => Nu
    obtain ⟨ms, hms⟩ := ints_pick hi (some (i : Int)) none (some 9)
    refine sum_lst (by rfl) Fu Nu (by k_mem) hms ?_
    intro h₅ tk₅ t₅ F₅ N₅
    k_steps
    unfold Stop
    rename Fr _ _ _ _ => Fu
    rename News _ _ _ _ => Nu
    refine LCg.CompEnd.intro Fu Nu _ ?_ off trivial ⟨rfl, _, _, rfl, ?_, ?_⟩
    · exact fun p hp => List.mem_cons_of_mem _ hp
    · rw [Int.fmod_eq_emod_of_nonneg _ (by decide)]; omega
    · rw [Int.fmod_eq_emod_of_nonneg _ (by decide)]; omega
  · intro D h tk ys hlen hG F N off
    obtain ⟨ks, e1, hk, hi⟩ := ints_of_G ys hG
    exact next D h tk ys ks (e1.trans hlen) hk hi ⟨off.2.1, off.2.2.1, off.2.2.2.1, off.2.2.2.2.1⟩ F (cb_drop N (by kcj_all))
end Mine
end
theorem Mine.rest_U1 {prog : PySem.Program} {w : PySem.World} {A : PySem.Around} {E : PySem.Value → PySem.Shared → Prop} {s : PySem.Shared} {env : PySem.Env} : PySem.wpAny (PySem.model prog w) A (PySem.execs [] env) (fun _ _ => True) E s := by
  w_top off
  first | (walk1; trivial) | exact PySem.wpAny_execs_nil trivial
section
open PySem PySem.W PyProof.Rows
set_option Elab.async false
set_option maxRecDepth 100000
set_option maxHeartbeats 8000000
set_option linter.unusedVariables false
namespace Mine
local macro_rules | `(tactic| walk_at $k:str) => if ["subscriptTail Name Constant ref int", "call ref"].contains k.getString then `(tactic| (k_here; k_dflt (refine stop_it ?_))) else Lean.Macro.throwUnsupported
local macro_rules | `(tactic| walk_at "execs cons") => `(tactic| (k_here; (with_reducible show wpAny _ _ (execs (Stmt.For _ _ _ _ _ :: _) _) _ _ _); k_dflt (refine stop_it ?_)))
/-- the world's names ahead of the which -/
noncomputable def nm1 (D : Addr) : Str → Option Value := fun z => if z = "numbers" then some (.ref D) else none
theorem ints_at : ∀ {ys : List Value} {ks : List Int}, IntsAre ys ks → ∀ (i : Nat) k, ks[i]? = some k → ∃ t, ys[i]? = some (.int k t)
  | _, _, .nil, i, k, h => by simp at h
  | _, _, .cons n t r, 0, k, h => ⟨t, by simp at h; subst h; rfl⟩
  | _, _, .cons n t r, i + 1, k, h => ints_at r i k (by simpa using h)
theorem keysS_mk (f : Nat → Value) : ∀ (l : List Nat) (C : List Value → Prop), (∀ ps : List (Nat × Tok), ps.map (·.1) = l → C (ps.map fun p => Value.str ⟨#[p.1]⟩ p.2)) → KdlKeysS (l.map fun c => ((⟨#[c]⟩ : Str), f c)) C
  | [], C, h => h [] rfl
  | c :: r, C, h => fun t => keysS_mk f r _ fun ps e => h ((c, t) :: ps) (by rw [List.map_cons, e])
/-- what is so from the signs on -/
structure LF (w : World) (n : Nat) (L D d S : Addr) (od o2 o3 o4 : Obj) (ts : Nat → Tok) (sg : List (Nat × Tok)) (ys : List Value) (ks : List Int) : Prop where
  hn : n < 5
  hk9 : ks.length = 9
  hkb : ∀ k ∈ ks, 0 ≤ k ∧ k < 1000000
  hi : IntsAre ys ks
  hd : od.IsDictOf (PySem.strKind Challenge.rw_wr0030_01.row.prog w) (spKV n ts)
  hsg : sg.map (·.1) = sgn n
  c2 : o2.data = .cell (some (.ref (handA n)))
  c3 : o3.data = .cell (some (.ref d))
  c4 : o4.data = .cell (some (.ref S))
  n5 : (@Ne Nat S (L + 5)) ∧ (@Ne Nat d (L + 5)) ∧ (@Ne Nat D (L + 5))
/-- the ledger from the signs on, but for the cell of unit -/
noncomputable abbrev led (L D d S : Addr) (od o2 o3 o4 : Obj) (sg : List (Nat × Tok)) (cS : Nat) (ys : List Value) : List (Addr × Obj) :=
  [(S, listOf (sg.map fun p => Value.str ⟨#[p.1]⟩ p.2).toArray cS), (d, od), (D, LCg.lst ys), (L + 4, o4), (L + 3, o3), (L + 2, o2)]
noncomputable def nm2 (D : Addr) (n : Nat) (t : Tok) : Str → Option Value := fun z => if z = "which" then some (.int n t) else if z = "numbers" then some (.ref D) else none
theorem dict_ne_cell {w : World} {h₀ h : Heap} {L : Addr} {news : List (Addr × Obj)} {d c : Addr} {od oc : Obj} {kvs : List (Str × Value)} {v : Option Value} (N : News h₀ L h news) (h1 : (d, od) ∈ news) (h2 : (c, oc) ∈ news)
    (hd : od.IsDictOf (PySem.strKind Challenge.rw_wr0030_01.row.prog w) kvs) (hc : oc.data = .cell v) : @Ne Nat d c := by
  intro e
  have e' : d = c := e
  subst e'
  have e1 := (N _ h1).1
  have e2 := (N _ h2).1
  simp only at e1 e2
  rw [e1] at e2
  have e3 : od = oc := Option.some.inj e2
  obtain ⟨es, ep, _, hx, _⟩ := hd
  rw [e3, hc] at hx
  cases hx
theorem dict_ne_list {w : World} {h₀ h : Heap} {L : Addr} {news : List (Addr × Obj)} {d c : Addr} {od oc : Obj} {kvs : List (Str × Value)} {its : Array Value} {n : Nat} (N : News h₀ L h news) (h1 : (d, od) ∈ news) (h2 : (c, oc) ∈ news)
    (hd : od.IsDictOf (PySem.strKind Challenge.rw_wr0030_01.row.prog w) kvs) (hc : oc.data = .seq its n) : @Ne Nat d c := by
  intro e
  have e' : d = c := e
  subst e'
  have e1 := (N _ h1).1
  have e2 := (N _ h2).1
  simp only at e1 e2
  rw [e1] at e2
  have e3 : od = oc := Option.some.inj e2
  obtain ⟨es, ep, _, hx, _⟩ := hd
  rw [e3, hc] at hx
  cases hx
theorem law_2 {w : World} {mean : ExcName → Option Value} {mg mb : Str → Option Value} {h₀ : Heap} {s : Shared} {L a : Addr} {ccd : Value} {D : Addr} {ys : List Value} {ks : List Int} {o2 o3 o4 o5 : Obj} {Q : Flow → Shared → Prop} {E : Value → Shared → Prop}
    (B : Below callerA h₀ [] h₀) (F : Fr h₀ L s.heap (nm1 D)) (T : Top hd.view_39 (looseW hd.view_39 []) mean mg mb h₀)
    (N : News h₀ L s.heap [(D, LCg.lst ys), (L + 5, o5), (L + 4, o4), (L + 3, o3), (L + 2, o2)]) (hk9 : ks.length = 9) (hkb : ∀ k ∈ ks, 0 ≤ k ∧ k < 1000000) (hi : IntsAre ys ks) (d5 : @Ne Nat (L + 5) D) (d4 : @Ne Nat (L + 4) D) (d3 : @Ne Nat (L + 3) D) (d2 : @Ne Nat (L + 2) D)
    {v2 v3 v4 v5 : Option Value} (c5 : o5.data = .cell v5) (c4 : o4.data = .cell v4) (c3 : o3.data = .cell v3) (c2 : o2.data = .cell v2)
    (next : ∀ n d od S cS sg o2' o3' o4' ts t h tk, LF w n L D d S od o2' o3' o4' ts sg ys ks → Fr h₀ L h (nm2 D n t) → News h₀ L h ((L + 5, o5) :: led L D d S od o2' o3' o4' sg cS ys) →
      wpAny (model Challenge.rw_wr0030_01.row.prog w) (lawA L a ccd) (execs ((bodyAt 19).drop 4) (lawEnv L a ccd)) Q E { s with heap := h, toks := tk }) :
    (hd.heap_39 w.params).In h₀ → wpAny (model Challenge.rw_wr0030_01.row.prog w) (lawA L a ccd) (execs ((bodyAt 19).drop 1) (lawEnv L a ccd)) Q E s := by
  k_fill
  intro X
  unfold lawA lawEnv
  conv in (occs := *) (scopeAt 19) => all_goals whnf
  show wpAny _ _ (execs (_ :: _) _) _ _ _
  k_steps
  unfold Stop
  obtain ⟨k0, e0, hk0, hk1⟩ : ∃ k0, ks[0]? = some k0 ∧ 0 ≤ k0 ∧ k0 < 1000000 := by
    cases ks with
    | nil => cases hk9
    | cons k r => exact ⟨k, rfl, hkb k (List.mem_cons_self ..)⟩
  obtain ⟨t0, et0⟩ := ints_at hi 0 k0 e0
  obtain ⟨n, hn, hn'⟩ : ∃ n : Nat, n < 5 ∧ Int.fmod (Int.fdiv k0 216) 5 = (n : Int) := by
    refine ⟨(k0 / 216 % 5).toNat, by omega, ?_⟩
    rw [Int.fmod_eq_emod_of_nonneg _ (by decide), Int.fdiv_eq_ediv_of_nonneg _ (by decide)]; omega
  refine lst_itemN 0 (by k_asm) (List.mem_cons_self ..) rfl (by decide) et0 ?_
  k_steps
  unfold Stop
  rw [hn'] at *
  rename Fr _ _ _ _ => Fz
  rename News _ _ _ _ => Nz
  refine' hand_k hn _ _ _ _ _ _ _ _ _ _ _ _ _ _ _ _ _ _ _ B Fz X Nz T ?k True.intro ?d ?u ?_
  case k => exact rfl
  case d => ktr_room
  case u => ktr_units
  intro h2 tk2 F2 N2
  k_steps
  unfold Stop
  rename Fr _ _ _ _ => Fz
  rename News _ _ _ _ => Nz
  refine' spelled_k hn _ _ _ _ _ _ _ _ _ _ _ _ _ _ _ _ _ _ _ B Fz X Nz T ?k True.intro ?d ?u ?_
  case k => exact rfl
  case d => ktr_room
  case u => ktr_units
  intro d od h3 tk3 ts F3 N3 hdict hone
  have n5 := dict_ne_cell N3 (List.mem_cons_self ..) (by k_mem) hdict c5
  have n4 := dict_ne_cell N3 (List.mem_cons_self ..) (by k_mem) hdict c4
  have n3 := dict_ne_cell N3 (List.mem_cons_self ..) (by k_mem) hdict c3
  have n2 := dict_ne_cell N3 (List.mem_cons_self ..) (by k_mem) hdict c2
  have nD := dict_ne_list N3 (List.mem_cons_self ..) (by k_mem) hdict (c := D) rfl
  k_steps
  rename Fr _ _ _ _ => Fz
  rename News _ _ _ _ => Nz
  refine kdl_list_keysS (by rfl) Fz Nz (by k_mem) hdict (by show (d == 1) = false; exact beq_eq_false_iff_ne.mpr (Nat.ne_of_gt hone)) (by rw [sp_len]; decide) ?_
  intro S cS h5 tk5
  refine keysS_mk (fun c => Value.str (spS n c) (ts c)) (sgn n) _ fun sg hsg F6 N6 l6 => ?_
  k_lt l6
  k_steps
  unfold Stop
  rename Fr _ _ _ _ => Fz
  rename News _ _ _ _ => Nz
  refine next n d od S cS sg _ _ _ ts _ _ _ ⟨hn, hk9, hkb, hi, hdict, hsg, ?_, ?_, ?_, ?_⟩ Fz (cb_drop Nz (by kcj_all))
  · k_asm
  · k_asm
  · k_asm
  · exact ⟨by k_ne, n5, d5.symm⟩
end Mine
end
theorem Mine.rest_U2 {prog : PySem.Program} {w : PySem.World} {A : PySem.Around} {E : PySem.Value → PySem.Shared → Prop} {s : PySem.Shared} {env : PySem.Env} : PySem.wpAny (PySem.model prog w) A (PySem.execs [] env) (fun _ _ => True) E s := by
  w_top off
  first | (walk1; trivial) | exact PySem.wpAny_execs_nil trivial
section
open PySem PySem.W PyProof.Rows
set_option Elab.async false
set_option maxRecDepth 100000
set_option maxHeartbeats 8000000
set_option linter.unusedVariables false
namespace Mine
local macro_rules | `(tactic| walk_at $k:str) => if ["exec For", "exec For Name Call cons nil", "pyIter ref", "last pyIter ref", "GenPost", "subscriptTail Name Name ref int", "call ref", "subscriptTail Name Subscript ref str"].contains k.getString then `(tactic| (k_here; k_dflt (refine stop_it ?_))) else Lean.Macro.throwUnsupported
local macro_rules | `(tactic| walk_at "call type:range") => `(tactic| (k_here; (with_reducible show wpAny _ _ (call (Value.type _) [Value.int _ _]) _ _ _); k_dflt (refine stop_it ?_)))
local macro_rules | `(tactic| walk_at "callWith ref") => `(tactic| (k_here; (with_reducible show wpAny _ _ (callWith _ (Value.ref (handA _)) _ _ _) _ _ _); k_dflt (refine callWith_K ‹Frag.In _ _› (keep_hand (by assumption)) ?_)))
theorem coll_at : ((List.range 5).all fun n => (List.range 6).all fun i => (List.range 6).all fun j => decide (strcollF (spS n ((sgn n).getD i 0)) (spS n ((sgn n).getD j 0)) = if i < j then -1 else if j < i then 1 else 0)) = true := by decide +kernel
theorem coll_ij {n i j : Nat} (hn : n < 5) (hi : i < 6) (hj : j < 6) : strcollF (spS n ((sgn n).getD i 0)) (spS n ((sgn n).getD j 0)) = if i < j then -1 else if j < i then 1 else 0 :=
  of_decide_eq_true (List.all_eq_true.mp (List.all_eq_true.mp (List.all_eq_true.mp coll_at n (List.mem_range.mpr hn)) i (List.mem_range.mpr hi)) j (List.mem_range.mpr hj))
theorem sgn_len (n : Nat) : (sgn n).length = 6 := by unfold sgn; split <;> rfl
theorem sgn_at (n : Nat) {i : Nat} (hi : i < 6) : (sgn n).getD i 0 ∈ sgn n := by
  rw [List.getD_eq_getElem?_getD, List.getElem?_eq_getElem (by rw [sgn_len]; exact hi)]
  exact List.getElem_mem _
/-- the sign at place i -/
theorem sg_at {n : Nat} {sg : List (Nat × Tok)} (h : sg.map (·.1) = sgn n) {i : Nat} (hi : i < 6) : ∃ t, (sg.map fun p => Value.str ⟨#[p.1]⟩ p.2)[i]? = some (.str ⟨#[(sgn n).getD i 0]⟩ t) := by
  have e : (sgn n)[i]? = some ((sgn n).getD i 0) := by
    rw [List.getD_eq_getElem?_getD, List.getElem?_eq_getElem (by rw [sgn_len]; exact hi)]; rfl
  rw [← h, List.getElem?_map] at e
  obtain ⟨p, hp, hc⟩ := Option.map_eq_some_iff.mp e
  refine ⟨p.2, ?_⟩
  rw [List.getElem?_map, hp, Option.map_some, ← h, ← hc]
theorem canon3 {a b c : Str} {base m : Str → Option Value} (h : ∀ y, y ≠ a → y ≠ b → y ≠ c → m y = base y) :
    ∃ u0 u1 u2, m = fun y => if y = a then u0 else if y = b then u1 else if y = c then u2 else base y := by
  refine ⟨m a, m b, m c, funext fun y => ?_⟩
  by_cases h1 : y = a
  · rw [if_pos h1, h1]
  by_cases h2 : y = b
  · rw [if_neg h1, if_pos h2, h2]
  by_cases h3 : y = c
  · rw [if_neg h1, if_neg h2, if_pos h3, h3]
  rw [if_neg h1, if_neg h2, if_neg h3]
  exact h y h1 h2 h3
theorem canonB {a b : Str} {base m : Str → Option Value} (h : ∀ y, y ≠ a → y ≠ b → m y = base y) :
    ∃ u0 u1, m = fun y => if y = a then u0 else if y = b then u1 else base y := by
  refine ⟨m a, m b, funext fun y => ?_⟩
  by_cases h1 : y = a
  · rw [if_pos h1, h1]
  by_cases h2 : y = b
  · rw [if_neg h1, if_pos h2, h2]
  rw [if_neg h1, if_neg h2]
  exact h y h1 h2
theorem c_lt {i j : Nat} {P : Prop} (h : (0 : Int) + (i : Int) < 0 + (j : Int)) (hx : (if i < j then (-1 : Int) else if j < i then 1 else 0) ≠ -1) : P := by
  rw [if_pos (by omega)] at hx; exact absurd rfl hx
theorem c_gt {i j : Nat} {P : Prop} (h : (0 : Int) + (j : Int) < 0 + (i : Int)) (hx : (if i < j then (-1 : Int) else if j < i then 1 else 0) ≠ 1) : P := by
  rw [if_neg (by omega), if_pos (by omega)] at hx; exact absurd rfl hx
theorem c_eq {i j : Nat} {P : Prop} (h1 : ¬ (0 : Int) + (i : Int) < 0 + (j : Int)) (h : ¬ (0 : Int) + (j : Int) < 0 + (i : Int)) (hx : (if i < j then (-1 : Int) else if j < i then 1 else 0) ≠ 0) : P := by
  rw [if_neg (by omega), if_neg (by omega)] at hx; exact absurd rfl hx
noncomputable def LJ (o5 : Obj) (m₀ : Str → Option Value) (i : Nat) (m : Str → Option Value) (o : Obj) : Prop := (∀ y : Str, y ≠ "high" → y ≠ "said" → y ≠ "low" → m y = m₀ y) ∧ o = o5
noncomputable def LK (o5 : Obj) (m₀ : Str → Option Value) (i : Nat) (m : Str → Option Value) (o : Obj) : Prop := (∀ y : Str, y ≠ "high" → y ≠ "said" → m y = m₀ y) ∧ o = o5
theorem bne_no {x y : Str} {P : Prop} (e : x = y) (h : (x != y) = true) : P := by subst e; simp at h
theorem five_ne {w : World} {n : Nat} {L D d S : Addr} {od o2 o3 o4 : Obj} {ts : Nat → Tok} {sg : List (Nat × Tok)} {cS : Nat} {ys : List Value} {ks : List Int}
    (Z : LF w n L D d S od o2 o3 o4 ts sg ys ks) : ∀ p ∈ led L D d S od o2 o3 o4 sg cS ys, p.1 ≠ L + 5 := by
  have h4 : @Ne Nat (L + 4) (L + 5) := by omega
  have h3 : @Ne Nat (L + 3) (L + 5) := by omega
  have h2 : @Ne Nat (L + 2) (L + 5) := by omega
  intro p hp
  simp only [List.mem_cons, List.not_mem_nil, or_false] at hp
  rcases hp with rfl | rfl | rfl | rfl | rfl | rfl
  · exact Z.n5.1
  · exact Z.n5.2.1
  · exact Z.n5.2.2
  · exact h4
  · exact h3
  · exact h2
noncomputable def nm3 (u0 u1 u2 : Option Value) (D : Addr) (n : Nat) (t : Tok) : Str → Option Value := fun y => if y = "high" then u0 else if y = "said" then u1 else if y = "low" then u2 else nm2 D n t y
theorem law_3 {w : World} {mean : ExcName → Option Value} {mg mb : Str → Option Value} {h₀ : Heap} {s : Shared} {L a : Addr} {ccd : Value} {n : Nat} {D d S : Addr} {od o2 o3 o4 o5 : Obj} {ts : Nat → Tok} {sg : List (Nat × Tok)} {cS : Nat} {ys : List Value} {ks : List Int} {tn : Tok} {Q : Flow → Shared → Prop}
    (Z : LF w n L D d S od o2 o3 o4 ts sg ys ks)
    (B : Below callerA h₀ [] h₀) (F : Fr h₀ L s.heap (nm2 D n tn)) (T : Top hd.view_39 (looseW hd.view_39 []) mean mg mb h₀)
    (N : News h₀ L s.heap ((L + 5, o5) :: led L D d S od o2 o3 o4 sg cS ys))
    (next : ∀ u0 u1 u2 h tk, Fr h₀ L h (nm3 u0 u1 u2 D n tn) → News h₀ L h ((L + 5, o5) :: led L D d S od o2 o3 o4 sg cS ys) →
      wpAny (model Challenge.rw_wr0030_01.row.prog w) (lawA L a ccd) (execs ((bodyAt 19).drop 5) (lawEnv L a ccd)) Q (fun _ _ => False) { s with heap := h, toks := tk }) :
    (hd.heap_39 w.params).In h₀ → wpAny (model Challenge.rw_wr0030_01.row.prog w) (lawA L a ccd) (execs ((bodyAt 19).drop 4) (lawEnv L a ccd)) Q (fun _ _ => False) s := by
  k_fill
  intro X
  unfold lawA lawEnv
  conv in (occs := *) (scopeAt 19) => all_goals whnf
  show wpAny _ _ (execs (_ :: _) _) _ _ _
  dsimp only [led] at N
  k_steps
  unfold Stop
  refine For_invVF F (by rfl) (by rfl) ?_
  k_steps
  unfold Stop
  rename Fr _ _ _ _ => Fz
  rename News _ _ _ _ => Nz
  refine range1_rows Fz Nz ?_
  intro h' tk' t1 t2 t3 hr' F' N' hk'
  k_steps
  unfold Stop
  refine for_range_mutB (n := 6) (LJ o5) (by rfl) hr' (by decide) (by decide) F' N' (five_ne Z (cS := cS)) ⟨fun _ _ _ _ => rfl, rfl⟩ ?turn ?done
  case turn =>
    rintro i t m₁ o₁ h tk own hi ⟨hm, rfl⟩ F N hd'
    simp only [List.cons_append, List.nil_append] at N hd'
    obtain ⟨u0, u1, u2, rfl⟩ := canon3 hm
    obtain ⟨t1, e1⟩ := sg_at Z.hsg hi
    have z2 := Z.c2
    have z3 := Z.c3
    have z4 := Z.c4
    have zd := Z.hd
    have zn := Z.hn
    clear Fz Nz F' N' hr' hk'
    k_steps
    unfold Stop
    rename Fr _ _ _ _ => Fz
    rename News _ _ _ _ => Nz
    refine lst_itemN i Nz (by k_mem) (by omega) (by omega) e1 ?_
    k_steps
    unfold Stop
    rename Fr _ _ _ _ => Fz
    rename News _ _ _ _ => Nz
    refine' esc_k zn _ _ _ _ _ _ _ _ _ _ _ _ _ _ _ _ _ _ _ _ B Fz X Nz T ?k (by show 1 ≤ 30; decide) ?d ?u ?_
    case k => exact rfl
    case d => ktr_room
    case u => ktr_units
    intro t2 h2 tk2 F2 N2
    k_steps
    unfold Stop
    rename Fr _ _ _ _ => Fz
    rename News _ _ _ _ => Nz
    refine lst_itemN i Nz (by k_mem) (by omega) (by omega) e1 ?_
    k_steps
    unfold Stop
    rename Fr _ _ _ _ => Fz
    rename News _ _ _ _ => Nz
    refine sp_item Nz (by k_mem) zd (sgn_at n hi) ?_
    k_steps
    · exact bne_no rfl ‹(_ != _) = true›
    unfold Stop
    rename Fr _ _ _ _ => Fz
    rename News _ _ _ _ => Nz
    refine For_invVF Fz (by rfl) (by rfl) ?_
    k_steps
    unfold Stop
    rename Fr _ _ _ _ => Fz
    rename News _ _ _ _ => Nz
    refine range1_rows Fz Nz ?_
    intro h' tk' t1 t2 t3 hr' F' N' hk'
    k_steps
    unfold Stop
    refine for_range_mutB (n := 6) (LK o₁) (by rfl) hr' (by decide) (by decide) F' N' hd' ⟨fun _ _ _ => rfl, rfl⟩ ?turn2 ?done2
    case turn2 =>
      clear Fz Nz F' N' hr' hk'
      rintro j tj m₂ o₂ h tk own₂ hj ⟨hm₂, rfl⟩ F N hd₂
      simp only [List.cons_append, List.nil_append] at N hd₂
      obtain ⟨v0, v1, rfl⟩ := canonB hm₂
      obtain ⟨tj1, ej1⟩ := sg_at Z.hsg hj
      k_steps
      unfold Stop
      rename Fr _ _ _ _ => Fz
      rename News _ _ _ _ => Nz
      refine lst_itemN i Nz (by k_mem) (by omega) (by omega) e1 ?_
      k_steps
      unfold Stop
      rename Fr _ _ _ _ => Fz
      rename News _ _ _ _ => Nz
      refine sp_item Nz (by k_mem) zd (sgn_at n hi) ?_
      k_steps
      unfold Stop
      rename Fr _ _ _ _ => Fz
      rename News _ _ _ _ => Nz
      refine lst_itemN j Nz (by k_mem) (by omega) (by omega) ej1 ?_
      k_steps
      unfold Stop
      rename Fr _ _ _ _ => Fz
      rename News _ _ _ _ => Nz
      refine sp_item Nz (by k_mem) zd (sgn_at n hj) ?_
      k_steps
      unfold Stop
      rename Fr _ _ _ _ => Fz
      rename News _ _ _ _ => Nz
      refine' strcoll_c _ _ _ _ _ _ _ _ _ _ _ _ _ _ _ _ _ _ _ _ _ _ B Fz X Nz T ?k True.intro ?d ?u ?_
      case k => exact rfl
      case d => ktr_room
      case u => ktr_units
      intro t9 h9 tk9 F9 N9
      rw [coll_ij zn hi hj]
      k_steps
      all_goals first
        | exact c_lt (i := i) (j := j) (by assumption) (by assumption)
        | exact c_gt (i := i) (j := j) (by assumption) (by assumption)
        | exact c_eq (i := i) (j := j) (by assumption) (by assumption) (by assumption)
        | (unfold Stop
           rename Fr _ _ _ _ => Fz
           rename News _ _ _ _ => Nz
           show GenPost _ _ _ _ _ _ _ _
           refine gp_res Fz Nz (fun p hp => hp) ?_
           refine ⟨fun y a b => ?_, rfl⟩
           simp only [if_neg a, if_neg b])
    case done2 =>
      clear Fz Nz F' N' hr' hk'
      rintro m₂ o₂ h tk ⟨hm₂, rfl⟩ F N
      obtain ⟨v0, v1, rfl⟩ := canonB hm₂
      k_steps
      unfold Stop
      rename Fr _ _ _ _ => Fz
      rename News _ _ _ _ => Nz
      show GenPost _ _ _ _ _ _ _ _
      refine gp_res Fz Nz (fun p hp => hp) ?_
      refine ⟨fun y a b c => ?_, rfl⟩
      simp only [if_neg a, if_neg b, if_neg c]
  case done =>
    clear Fz Nz F' N' hr' hk'
    rintro m₁ o₁ h tk ⟨hm, rfl⟩ F N
    obtain ⟨u0, u1, u2, rfl⟩ := canon3 hm
    exact next u0 u1 u2 h tk F N
end Mine
end
theorem Mine.rest_U3 {prog : PySem.Program} {w : PySem.World} {A : PySem.Around} {E : PySem.Value → PySem.Shared → Prop} {s : PySem.Shared} {env : PySem.Env} : PySem.wpAny (PySem.model prog w) A (PySem.execs [] env) (fun _ _ => True) E s := by
  w_top off
  first | (walk1; trivial) | exact PySem.wpAny_execs_nil trivial
section
open PySem PySem.W PyProof.Rows
set_option Elab.async false
set_option maxRecDepth 100000
set_option maxHeartbeats 8000000
set_option linter.unusedVariables false
namespace Mine
local macro_rules | `(tactic| walk_at $k:str) => if ["exec For", "exec For Name Tuple", "pyIter ref", "last pyIter ref", "CompSrc", "CompEnd", "subscriptTail Name BinOp ref int", "call ref", "call builtin:len", "call builtin:str.join", "call builtin:list.extend", "newList", "newTuple"].contains k.getString then `(tactic| (k_here; k_dflt (refine stop_it ?_))) else Lean.Macro.throwUnsupported
local macro_rules | `(tactic| walk_at "storeName") => `(tactic| (k_here; (with_reducible show wpAny _ _ (storeName _ (PySem.Str.ofString "unit") _) _ _ _); k_dflt (refine stop_it ?_)))
noncomputable def ringOf (n : Nat) (ks : List Int) (u : Nat) : List Nat := ks.map fun k => (sgn n).getD ((k / (u : Int) % 6).toNat) 0
noncomputable def wordsOf (n : Nat) (ks : List Int) (us : List Nat) : List (List Nat) := us.flatMap fun u => takenF n (ringOf n ks u) 9
/-- the world's names in the loop over the units -/
theorem ints_inv : ∀ {ys : List Value} {ks : List Int}, IntsAre ys ks → ∀ (i : Nat) v, ys[i]? = some v → ∃ k t, ks[i]? = some k ∧ v = .int k t
  | _, _, .nil, i, k, h => by simp at h
  | _, _, .cons n t r, 0, k, h => ⟨n, t, rfl, by simpa using h.symm⟩
  | _, _, .cons n t r, i + 1, k, h => by simpa using ints_inv r i k (by simpa using h)
theorem ints_len : ∀ {ys : List Value} {ks : List Int}, IntsAre ys ks → ys.length = ks.length
  | _, _, .nil => rfl
  | _, _, .cons n t r => congrArg (· + 1) (ints_len r)
theorem mul3 {l : List Nat} (h : l.length = 3) : MulOk ⟨l.toArray⟩ 3 ∧ Txt.mul ⟨l.toArray⟩ 3 = ⟨(l ++ (l ++ l)).toArray⟩ := by
  have hl : (⟨l.toArray⟩ : Str).length = 3 := by rw [len_of, h]
  refine ⟨⟨by decide, fun _ _ => by rw [hl]; decide, fun _ _ => by rw [hl]; decide +kernel⟩, ?_⟩
  unfold Txt.mul
  rw [hl, if_neg (by decide), if_neg (by decide)]
  apply str_ext
  show (((#[] ++ l.toArray) ++ l.toArray) ++ l.toArray).toList = _
  simp
theorem bt {l r : List Nat} (h : (({ cps := l.toArray } : Str) == { cps := r.toArray }) = true) : l = r := by
  have e := eq_of_beq h
  injection e with e
  exact List.toArray_inj e
theorem bf {l r : List Nat} (h : (({ cps := l.toArray } : Str) == { cps := r.toArray }) = false) : l ≠ r := by
  intro e
  subst e
  rw [beq_self_eq_true] at h
  cases h
theorem no_t {l r : List Nat} {P : Prop} (h : (({ cps := l.toArray } : Str) == { cps := r.toArray }) = true) (hx : (((if l = r then 0 else 1 : Nat) : Nat) : Int) ≠ 0) : P := by
  rw [if_pos (bt h)] at hx; exact absurd rfl hx
theorem no_f {l r : List Nat} {P : Prop} (h : (({ cps := l.toArray } : Str) == { cps := r.toArray }) = false) (hx : (((if l = r then 0 else 1 : Nat) : Nat) : Int) ≠ 1) : P := by
  rw [if_neg (bf h)] at hx; exact absurd rfl hx
noncomputable def nm4 (wl : Addr) (u0 u1 u2 : Option Value) (D : Addr) (n : Nat) (t : Tok) : Str → Option Value := fun y => if y = "words" then some (.ref wl) else nm3 u0 u1 u2 D n t y
noncomputable def nm5 (x0 x1 : Option Value) (wl : Addr) (u0 u1 u2 : Option Value) (D : Addr) (n : Nat) (t : Tok) : Str → Option Value := fun y => if y = "ring" then x0 else if y = "taken" then x1 else nm4 wl u0 u1 u2 D n t y
noncomputable def WJ (n : Nat) (ks : List Int) (wl L : Addr) (keep : List (Addr × Obj)) (base : Str → Option Value) (r : List Itm) (m : Str → Option Value) (news : List (Addr × Obj)) : Prop :=
  ∃ (dn : List Nat) (us : List (Nat × Tok)) (ws : List (List Nat × Tok)) (c : Nat) (o5 : Obj) (v5 : Option Value), r = us.map (fun p => Itm.val (.int (p.1 : Int) p.2)) ∧ dn ++ us.map (·.1) = [1, 6, 36] ∧
    ws.map (·.1) = wordsOf n ks dn ∧ news = (wl, strsOf ws c) :: (L + 5, o5) :: keep ∧ o5.data = .cell v5 ∧ (∀ y : Str, y ≠ "ring" → y ≠ "taken" → m y = base y) ∧ ws.length ≤ dn.length
noncomputable def tup3 (t : Tok) : Obj := { cls := .type "tuple", data := .seq #[.int 1 t, .int 6 (t + 1), .int 36 (t + 1 + 1)] }
theorem law_4 {w : World} {mean : ExcName → Option Value} {mg mb : Str → Option Value} {h₀ : Heap} {s : Shared} {L a : Addr} {ccd : Value} {n : Nat} {D d S : Addr} {od o2 o3 o4 o5 : Obj} {ts : Nat → Tok} {sg : List (Nat × Tok)} {cS : Nat} {ys : List Value} {ks : List Int} {tn : Tok} {v5 : Option Value} {u0 u1 u2 : Option Value} {Q : Flow → Shared → Prop}
    (Z : LF w n L D d S od o2 o3 o4 ts sg ys ks)
    (hlen : ∀ u ∈ [1, 6, 36], (takenF n (ringOf n ks u) 9).length = if ringOf n ks u = (ringOf n ks u).take 3 ++ ((ringOf n ks u).take 3 ++ (ringOf n ks u).take 3) then 0 else 1)
    (B : Below callerA h₀ [] h₀) (F : Fr h₀ L s.heap (nm3 u0 u1 u2 D n tn)) (T : Top hd.view_39 (looseW hd.view_39 []) mean mg mb h₀)
    (N : News h₀ L s.heap ((L + 5, o5) :: led L D d S od o2 o3 o4 sg cS ys)) (c5 : o5.data = .cell v5)
    (next : ∀ wl ws c x0 x1 h tk, ws.map (·.1) = wordsOf n ks [1, 6, 36] → Fr h₀ L h (nm5 x0 x1 wl u0 u1 u2 D n tn) → News h₀ L h ((wl, strsOf ws c) :: led L D d S od o2 o3 o4 sg cS ys) →
      wpAny (model Challenge.rw_wr0030_01.row.prog w) (lawA L a ccd) (execs ((bodyAt 19).drop 7) (lawEnv L a ccd)) Q (fun _ _ => False) { s with heap := h, toks := tk }) :
    (hd.heap_39 w.params).In h₀ → wpAny (model Challenge.rw_wr0030_01.row.prog w) (lawA L a ccd) (execs ((bodyAt 19).drop 5) (lawEnv L a ccd)) Q (fun _ _ => False) s := by
  k_fill
  intro X
  unfold lawA lawEnv
  conv in (occs := *) (scopeAt 19) => all_goals whnf
  show wpAny _ _ (execs (_ :: _) _) _ _ _
  dsimp only [led] at N
  k_steps
  unfold Stop
  refine newList_K F N ?_ (Nat.le_of_ble_eq_true rfl)
  intro wl h1 F1 N1 lw
  clear F N
  have lw5 : @LT.lt Nat _ (L + 5) wl := lw (L + 5, o5) (List.mem_cons_self ..)
  have lwl : ∀ p ∈ led L D d S od o2 o3 o4 sg cS ys, p.1 ≠ wl := fun p hp => Nat.ne_of_lt (lw p (List.mem_cons_of_mem _ hp))
  k_lt lw
  k_steps
  unfold Stop
  rename Fr _ _ _ _ => Fz
  rename News _ _ _ _ => Nz
  refine kup_newTuple Fz Nz ?_ (Nat.le_of_ble_eq_true rfl)
  intro tp h2 F2 N2 lt
  have ltw : @LT.lt Nat _ wl tp := lt (wl, listOf #[] 0) (by k_mem)
  have lt5 : @LT.lt Nat _ (L + 5) tp := lt (L + 5, o5) (by k_mem)
  k_lt lt
  clear Fz Nz
  k_steps
  unfold Stop
  rename Fr _ _ _ _ => Fz
  rename News _ _ _ _ => Nz
  have Nz' : News h₀ L h2 ((wl, strsOf [] 0) :: (L + 5, o5) :: (tp, tup3 tk) :: led L D d S od o2 o3 o4 sg cS ys) := cb_drop Nz (by kcj_all)
  obtain ⟨ot, hot⟩ : ∃ ot, ot = tup3 tk := ⟨_, rfl⟩
  rw [← hot] at Nz'
  refine iter_tupTurns (by rfl) Fz Nz' (List.mem_cons_of_mem _ (List.mem_cons_of_mem _ (List.mem_cons_self ..))) (vs := [.int 1 tk, .int 6 (tk + 1), .int 36 (tk + 1 + 1)]) (by rw [hot]; rfl) (by rw [hot]; rfl) ?_
  intro I hI
  have hI5 : @LT.lt Nat _ (L + 5) I := hI (L + 5, o5) (List.mem_cons_of_mem _ (List.mem_cons_self ..))
  have hIw : @LT.lt Nat _ wl I := hI (wl, strsOf [] 0) (List.mem_cons_self ..)
  refine items_mut (as := ((wl, strsOf [] 0) :: (L + 5, o5) :: (tp, ot) :: led L D d S od o2 o3 o4 sg cS ys).map (·.1)) (WJ n ks wl L ((tp, ot) :: led L D d S od o2 o3 o4 sg cS ys) (nm4 wl u0 u1 u2 D n tn)) ?ha ?hk ?off ?turn ?done _ _ _ ⟨[], [(1, tk), (6, tk + 1), (36, tk + 1 + 1)], [], 0, o5, v5, rfl, rfl, rfl, rfl, c5, fun _ _ _ => rfl, Nat.le_refl _⟩
  case ha =>
    rintro xs m news ⟨dn, us, ws, c, o, v, _, _, _, rfl, _⟩
    rfl
  case hk =>
    rintro xs m news ⟨dn, us, ws, c, o, v, _, _, _, rfl, _⟩
    exact ⟨List.mem_cons_of_mem _ (List.mem_cons_of_mem _ (List.mem_cons_self ..)), trivial⟩
  case off =>
    intro x hx b hb
    obtain ⟨p, hp, rfl⟩ := List.mem_map.mp hx
    rw [List.mem_singleton.mp hb]
    exact Nat.ne_of_lt (hI p hp)
  case turn =>
    clear Fz Nz Nz'
    rintro x r v h tk₁ m news its ⟨dn, us, ws, c, o, v5', hr, hdn, hws, rfl, ho, hm, hwl⟩ hv F N hits
    cases us with
    | nil => cases hr
    | cons ut us =>
    obtain ⟨u, t⟩ := ut
    obtain ⟨rfl, rfl⟩ := List.cons.inj hr
    replace hv : v = .int (u : Int) t := hv
    subst hv
    clear hr
    obtain ⟨x0, x1, rfl⟩ := canonB hm
    have hu : u ∈ [1, 6, 36] := by rw [← hdn]; simp
    have N1 : News h₀ L h ((L + 5, o) :: (wl, strsOf ws c) :: (tp, ot) :: (led L D d S od o2 o3 o4 sg cS ys ++ its)) := fun p hp => N p (by
      simp only [List.mem_cons, List.mem_append, List.cons_append] at hp ⊢
      simp only [or_assoc, List.not_mem_nil, or_false, false_or] at hp ⊢
      rcases hp with h | h | h | h | h | h | h | h | h | h <;> simp [h])
    clear N
    have hne5 : ∀ p ∈ (wl, strsOf ws c) :: (tp, ot) :: (led L D d S od o2 o3 o4 sg cS ys ++ its), p.1 ≠ L + 5 := by
      intro p hp
      rcases List.mem_cons.mp hp with rfl | hp
      · exact Nat.ne_of_gt lw5
      rcases List.mem_cons.mp hp with rfl | hp
      · exact Nat.ne_of_gt lt5
      rcases List.mem_append.mp hp with hp | hp
      · exact five_ne Z p hp
      · have h1 : p.1 ∈ its.map (·.1) := List.mem_map.mpr ⟨p, hp, rfl⟩
        rw [hits] at h1
        rw [List.mem_singleton.mp h1]
        exact Nat.ne_of_gt hI5
    have hnew : ∀ p ∈ (tp, ot) :: (led L D d S od o2 o3 o4 sg cS ys ++ its), p.1 ≠ wl := by
      intro p hp
      rcases List.mem_cons.mp hp with rfl | hp
      · exact Nat.ne_of_gt ltw
      rcases List.mem_append.mp hp with hp | hp
      · exact lwl p hp
      · have h1 : p.1 ∈ its.map (·.1) := List.mem_map.mpr ⟨p, hp, rfl⟩
        rw [hits] at h1
        rw [List.mem_singleton.mp h1]
        exact Nat.ne_of_gt hIw
    dsimp only [led, List.cons_append, List.nil_append] at N1
    k_steps
    unfold Stop
    refine storeX_C F N1 (by rfl) (.head hne5) ho ?_ (by rfl) (by rfl)
    intro h3 o3' F3 N3 c3
    have z2 := Z.c2
    have z3 := Z.c3
    have z4 := Z.c4
    have zd := Z.hd
    have zn := Z.hn
    clear F N1
    have hyl : ys.length = 9 := (ints_len Z.hi).trans Z.hk9
    have hu36 : 1 ≤ u := by simp at hu; omega
    k_steps
    unfold Stop
    rename Fr _ _ _ _ => F4
    rename News _ _ _ _ => N4
    refine LCg.CompSrc.ledger (by rfl) F4 N4 (by k_mem) ?_ ?_
    · rw [List.size_toArray, hyl, sizeLine_eq]; decide
    intro g'
    refine my_rest (fun i y => ∀ c, (ringOf n ks u)[i]? = some c → ∃ t, y = .str ⟨#[c]⟩ t) ?_ ?_
    · intro i v I' oI C oC D' m₂ ys' h tk E' hi hP hC hx F N off ne
      obtain ⟨k, tq, hkq, rfl⟩ := ints_inv Z.hi i v (by simpa using hP)
      have hkb := Z.hkb k (List.mem_of_getElem? hkq)
      k_steps
      · exact absurd ‹(u : Int) = 0› (by omega)
      unfold Stop
      rename Fr _ _ _ _ => F5
      rename News _ _ _ _ => N5
      have hq0 : 0 ≤ k / (u : Int) := Int.ediv_nonneg hkb.1 (by omega)
      have hq : Int.fmod (Int.fdiv k (u : Int)) 6 = (((k / (u : Int) % 6).toNat : Nat) : Int) := by
        rw [Int.fmod_eq_emod_of_nonneg _ (by decide), Int.fdiv_eq_ediv_of_nonneg _ (by omega)]; omega
      have hq6 : (k / (u : Int) % 6).toNat < 6 := by omega
      obtain ⟨tc, etc⟩ := sg_at Z.hsg hq6
      refine lst_itemN _ N5 (by k_mem) hq (by omega) etc ?_
      k_steps
      unfold Stop
      rename Fr _ _ _ _ => F5
      rename News _ _ _ _ => N5
      refine LCg.CompEnd.intro F5 N5 _ (fun p hp => hp) off (.inr ⟨_, by k_mem, rfl, _, rfl⟩) ⟨rfl, fun c hc => ⟨tc, ?_⟩⟩
      have e : (ringOf n ks u)[i]? = some ((sgn n).getD (k / (u : Int) % 6).toNat 0) := by
        unfold ringOf; rw [List.getElem?_map, hkq]; rfl
      rw [e] at hc
      rw [Option.some.inj hc]
    · intro ys' hlen' hys'
      have hrl : (ringOf n ks u).length = 9 := by unfold ringOf; rw [List.length_map, Z.hk9]
      obtain ⟨ps, hps, hpe⟩ := strs_told (fun c => (⟨#[c]⟩ : Str)) (ringOf n ks u) ys' (hlen'.trans (by rw [List.size_toArray, hyl, hrl])) (fun i y hy c hc => hys' i y hy c hc)
      replace hpe := hpe.trans (pairs_map (fun c => (⟨#[c]⟩ : Str)) ps)
      subst hpe
      k_steps
      unfold Stop
      rename Fr _ _ _ _ => F5
      rename News _ _ _ _ => N5
      refine join_in N5 (List.mem_cons_self ..) ?_ ?_ ?_
      · intro p hp
        obtain ⟨q, hq, rfl⟩ := List.mem_map.mp hp
        obtain ⟨q', hq', rfl⟩ := List.mem_map.mp hq
        show 1 ≤ 500; decide
      · rw [List.length_map, ← List.length_map (·.1), hps, hrl]; decide
      intro tj kj
      have ej : Txt.join "" ((ps.map fun p => ((⟨#[p.1]⟩ : Str), p.2)).map (·.1)) = ⟨(ringOf n ks u).toArray⟩ := by
        rw [← hps, ← join_chars]; simp [List.map_map, Function.comp_def]
      rw [ej]
      k_steps
      unfold Stop
      rename Fr _ _ _ _ => F5
      rename News _ _ _ _ => N5
      have hrs : ∀ c ∈ ringOf n ks u, c ∈ sgn n := by
        intro c hc
        obtain ⟨k, hk, rfl⟩ := List.mem_map.mp hc
        exact sgn_at n (by omega)
      refine' taken_c n zn _ (ringOf n ks u) tj d od ts hrl hrs ?m zd _ _ _ _ _ _ _ _ _ _ _ _ _ _ _ _ _ B F5 X N5 T ?k True.intro ?d ?u ?_
      case m => k_mem
      case k => exact rfl
      case d => ktr_room
      case u => ktr_units
      intro tl h6 tk6 tw tc F6 N6 htw
      k_steps
      unfold Stop
      rename Fr _ _ _ _ => F5
      rename News _ _ _ _ => N5
      have htwl : tw.length = (takenF n (ringOf n ks u) 9).length := by rw [← htw, List.length_map]
      have htw1 : tw.length ≤ 1 := by rw [htwl, hlen u hu]; split <;> omega
      refine len_lst N5 (List.mem_cons_self ..) (by rw [List.length_map]; omega) ?_
      intro tq kq
      rw [List.length_map, htwl, hlen u hu]
      k_steps
      have h3l : ((ringOf n ks u).take 3).length = 3 := by rw [List.length_take, hrl]; rfl
      rw [sl_to (ringOf n ks u) (a := 3) (j := 3) rfl (by omega)]
      refine SB.mul (mul3 h3l).1 ?_
      rw [(mul3 h3l).2]
      intro tm km
      have hkeep : ∀ p ∈ (L + 5, o3') :: (tp, ot) :: (led L D d S od o2 o3 o4 sg cS ys ++ its), p.1 ≠ wl := by
        intro p hp
        rcases List.mem_cons.mp hp with rfl | hp
        · exact Nat.ne_of_lt lw5
        · exact hnew p hp
      have hdl : dn.length ≤ 3 := by
        have := congrArg List.length hdn
        simp at this; omega
      k_steps
      · exact no_t (by assumption) (by assumption)
      rotate_left
      · exact no_f (by assumption) (by assumption)
      all_goals
        unfold Stop
        rename Fr _ _ _ _ => F5
        rename News _ _ _ _ => N5
        refine ext_V (ws := ws) (us := tw) (keep := (L + 5, o3') :: (tp, ot) :: (led L D d S od o2 o3 o4 sg cS ys ++ its)) F5 N5 (by k_mem) (List.mem_cons_self ..) hkeep ?_ (by omega) (by omega) ?_
        · intro p hp
          rcases List.mem_cons.mp hp with rfl | hp
          · exact List.mem_cons_of_mem _ (List.mem_cons_of_mem _ (List.mem_cons_self ..))
          rcases List.mem_cons.mp hp with rfl | hp
          · exact List.mem_cons_of_mem _ (List.mem_cons_of_mem _ (List.mem_cons_of_mem _ (List.mem_cons_of_mem _ (List.mem_cons_self ..))))
          · exact List.mem_cons_of_mem _ (List.mem_cons_of_mem _ (List.mem_cons_of_mem _ (List.mem_cons_of_mem _ (List.mem_cons_of_mem _ hp))))
        intro h8 c8 F8 N8
        k_steps
        rename Fr _ _ _ _ => F5
        rename News _ _ _ _ => N5
        refine ⟨.inl rfl, _, _, _, _, _, rfl, F5, N5, ?_, dn ++ [u], us, ws ++ tw, c8, o3', _, rfl, ?_, ?_, rfl, c3, ?_, ?_⟩
        · intro p hp
          simp only [List.mem_cons, List.mem_append] at hp ⊢
          rcases hp with hp | hp | hp | hp | hp <;> simp only [hp, true_or, or_true]
        · rw [List.append_assoc]; exact hdn
        · rw [List.map_append, hws, htw]
          unfold wordsOf
          rw [List.flatMap_append, List.flatMap_cons, List.flatMap_nil, List.append_nil]
        · intro y hy1 hy2
          simp only [if_neg hy1, if_neg hy2]
        · rw [List.length_append, List.length_append]
          exact Nat.add_le_add hwl htw1
  case done =>
    clear Fz Nz Nz'
    rintro m news h tk₁ ⟨dn, us, ws, c, o, v5', hr, hdn, hws, rfl, ho, hm, hwl⟩ F N
    have hus : us = [] := by
      cases us with
      | nil => rfl
      | cons p r => cases hr
    subst hus
    rw [List.map_nil, List.append_nil] at hdn
    subst hdn
    obtain ⟨x0, x1, rfl⟩ := canonB hm
    exact next wl ws c x0 x1 h tk₁ hws F (fun p hp => N p (by
      rcases List.mem_cons.mp hp with rfl | hp
      · exact List.mem_cons_self ..
      · exact List.mem_cons_of_mem _ (List.mem_cons_of_mem _ (List.mem_cons_of_mem _ hp))))
end Mine
end
theorem Mine.rest_U4 {prog : PySem.Program} {w : PySem.World} {A : PySem.Around} {E : PySem.Value → PySem.Shared → Prop} {s : PySem.Shared} {env : PySem.Env} : PySem.wpAny (PySem.model prog w) A (PySem.execs [] env) (fun _ _ => True) E s := by
  w_top off
  first | (walk1; trivial) | exact PySem.wpAny_execs_nil trivial
section
open PySem PySem.W PyProof.Rows
set_option Elab.async false
set_option maxRecDepth 100000
set_option maxHeartbeats 8000000
set_option linter.unusedVariables false
namespace Mine
local macro_rules | `(tactic| walk_at $k:str) => if ["CompSrc", "CompEnd", "call ref", "eval ListComp", "compareOp NotEq ref ref", "subscriptTail Name Name ref str", "call builtin:str.join"].contains k.getString then `(tactic| (k_here; k_dflt (refine stop_it ?_))) else Lean.Macro.throwUnsupported
local macro_rules | `(tactic| walk_at "callWith ref") => `(tactic| (k_here; (with_reducible show wpAny _ _ (callWith _ (Value.ref (handA _)) _ _ _) _ _ _); k_dflt (refine callWith_K ‹Frag.In _ _› (keep_hand (by assumption)) ?_)))
local macro_rules | `(tactic| walk_at "execs cons") => `(tactic| (k_here; (with_reducible show wpAny _ _ (execs (Stmt.Assign [_] (Expr.BinOp _ _ _ _) _ :: _) _) _ _ _); k_dflt (refine stop_it ?_)))
noncomputable def nm6 (wr : Addr) (x0 x1 : Option Value) (wl : Addr) (u0 u1 u2 : Option Value) (D : Addr) (n : Nat) (t : Tok) : Str → Option Value := fun y => if y = "written" then some (.ref wr) else nm5 x0 x1 wl u0 u1 u2 D n t y
theorem sgn_128 {n c : Nat} (h : c ∈ sgn n) : c < 128 := by
  unfold sgn at h
  split at h <;> simp at h <;> omega
theorem law_5 {w : World} {mean : ExcName → Option Value} {mg mb : Str → Option Value} {h₀ : Heap} {s : Shared} {L a : Addr} {ccd : Value} {n : Nat} {D d S wl : Addr} {od o2 o3 o4 : Obj} {ts : Nat → Tok} {sg : List (Nat × Tok)} {cS c : Nat} {ys : List Value} {ks : List Int} {tn : Tok} {ws : List (List Nat × Tok)} {u0 u1 u2 x0 x1 : Option Value} {Q : Flow → Shared → Prop}
    (Z : LF w n L D d S od o2 o3 o4 ts sg ys ks) (hw9 : ∀ p ∈ ws, p.1.length = 9) (hwl : ws.length ≤ 3) (hsg : ∀ p ∈ ws, ∀ x ∈ p.1, x ∈ sgn n) (hasc : ∀ p ∈ ws, ∀ x ∈ escL n p.1, x < 128) (hflat : ∀ w : List Nat, escL n w = w.flatMap fun c => escL n [c])
    (hlen : ∀ p ∈ ws, ∀ x ∈ p.1, (escL n [x]).length ≤ 6)
    (B : Below callerA h₀ [] h₀) (F : Fr h₀ L s.heap (nm5 x0 x1 wl u0 u1 u2 D n tn)) (T : Top hd.view_39 (looseW hd.view_39 []) mean mg mb h₀)
    (N : News h₀ L s.heap ((wl, strsOf ws c) :: led L D d S od o2 o3 o4 sg cS ys))
    (next : ∀ wr qs cq h tk, qs.map (·.1) = (ws.map fun p => escL n p.1) → Fr h₀ L h (nm6 wr x0 x1 wl u0 u1 u2 D n tn) → News h₀ L h ((wr, strsOf qs cq) :: (wl, strsOf ws c) :: led L D d S od o2 o3 o4 sg cS ys) →
      wpAny (model Challenge.rw_wr0030_01.row.prog w) (lawA L a ccd) (execs ((bodyAt 19).drop 9) (lawEnv L a ccd)) Q (fun _ _ => False) { s with heap := h, toks := tk }) :
    (hd.heap_39 w.params).In h₀ → wpAny (model Challenge.rw_wr0030_01.row.prog w) (lawA L a ccd) (execs ((bodyAt 19).drop 7) (lawEnv L a ccd)) Q (fun _ _ => False) s := by
  k_fill
  intro X
  unfold lawA lawEnv
  conv in (occs := *) (scopeAt 19) => all_goals whnf
  show wpAny _ _ (execs (_ :: _) _) _ _ _
  dsimp only [led] at N
  have z2 := Z.c2
  have z3 := Z.c3
  have z4 := Z.c4
  have zd := Z.hd
  have zn := Z.hn
  k_steps
  unfold Stop
  rename Fr _ _ _ _ => F4
  rename News _ _ _ _ => N4
  refine LCg.CompSrc.ledger (by rfl) F4 N4 (by k_mem) ?_ ?_
  · rw [List.size_toArray, List.length_map, sizeLine_eq]; omega
  intro g'
  refine my_rest (fun i y => ∀ l, (ws.map fun p => escL n p.1)[i]? = some l → ∃ t, y = .str ⟨l.toArray⟩ t) ?_ ?_
  · intro i v I' oI C oC D' m₂ ys' h tk E' hi hP hC hx F N off ne
    obtain ⟨p, hp, rfl⟩ : ∃ p, ws[i]? = some p ∧ v = .str ⟨p.1.toArray⟩ p.2 := by
      rw [List.getElem?_toArray, List.getElem?_map] at hP
      obtain ⟨p, hp, rfl⟩ := Option.map_eq_some_iff.mp hP
      exact ⟨p, hp, rfl⟩
    have hp9 := hw9 p (List.mem_of_getElem? hp)
    k_steps
    unfold Stop
    rename Fr _ _ _ _ => F5
    rename News _ _ _ _ => N5
    refine' esc_k zn _ _ _ _ _ _ _ _ _ _ _ _ _ _ _ _ _ _ _ _ B F5 X N5 T ?k ?l ?d ?u ?_
    case k => exact rfl
    case l => rw [len_of, hp9]; decide
    case d => ktr_room
    case u => ktr_units
    intro t6 h6 tk6 F6 N6
    k_steps
    unfold Stop
    rename Fr _ _ _ _ => F5
    rename News _ _ _ _ => N5
    refine LCg.CompEnd.intro F5 N5 _ (fun p hp => hp) off (.inr ⟨_, by k_mem, rfl, _, rfl⟩) ⟨rfl, fun l hl => ⟨t6, ?_⟩⟩
    rw [List.getElem?_map, hp] at hl
    rw [← Option.some.inj hl]; rfl
  · intro ys' hlen' hys'
    obtain ⟨qs, hqs, rfl⟩ := strs_told (fun l : List Nat => (⟨l.toArray⟩ : Str)) (ws.map fun p => escL n p.1) ys' (hlen'.trans (by rw [List.size_toArray, List.length_map, List.length_map])) (fun i y hy c hc => hys' i y hy c hc)
    k_steps
    unfold Stop
    rename Fr _ _ _ _ => F5
    rename News _ _ _ _ => N5
    refine LCg.ListComp_U (F₀ := F5) (by with_unfolding_all rfl) (by decide) (by rfl) (by decide) (by rfl) ?_
    k_steps
    unfold Stop
    refine LCg.CompSrc.ledger (by rfl) F5 N5 (by k_mem) ?_ ?_
    · rw [List.size_toArray, List.length_map, sizeLine_eq]; omega
    intro g8
    refine my_rest (fun i y => ∀ l, (ws.map fun p => escL n p.1)[i]? = some l → ∃ t, y = .str ⟨l.toArray⟩ t) ?_ ?_
    · intro i v I' oI C oC D' m₂ ys' h tk E' hi hP hC hx F N off ne
      obtain ⟨p, hp, rfl⟩ : ∃ p, ws[i]? = some p ∧ v = .str ⟨p.1.toArray⟩ p.2 := by
        rw [List.getElem?_toArray, List.getElem?_map] at hP
        obtain ⟨p, hp, rfl⟩ := Option.map_eq_some_iff.mp hP
        exact ⟨p, hp, rfl⟩
      have hp9 := hw9 p (List.mem_of_getElem? hp)
      k_steps
      unfold Stop
      rename Fr _ _ _ _ => F6
      rename News _ _ _ _ => N6
      refine ListComp_S (F₀ := F6) (by with_unfolding_all rfl) (by decide) (by rfl) (by decide) (by rfl) ?_
      have hasc' : (⟨p.1.toArray⟩ : Str).cps.all (· < 128) = true := by
        show p.1.toArray.all (· < 128) = true
        rw [List.all_toArray, List.all_eq_true]
        intro x hx
        exact decide_eq_true (sgn_128 (hsg p (List.mem_of_getElem? hp) x hx))
      k_steps
      refine SrcS.intro (by rfl) F6 N6 hasc' (by show p.1.toArray.size ≤ sizeLine; rw [List.size_toArray, hp9, sizeLine_eq]; decide) ?_
      intro g9
      refine my_rest (fun j z => ∀ c, p.1[j]? = some c → ∃ t, z = .str (spS n c) t) ?_ ?_
      · intro j v I₂ oI₂ C₂ oC₂ D₂ m₃ ys₂ h₂ tk₂ E₂ hj hP₂ hC₂ hx₂ F N off₂ ne₂
        obtain ⟨c, tc, hc, rfl⟩ := hP₂
        have hc' : p.1[j]? = some c := by simpa using hc
        have hcs := hsg p (List.mem_of_getElem? hp) c (List.mem_of_getElem? hc')
        k_steps
        unfold Stop
        rename Fr _ _ _ _ => F7
        rename News _ _ _ _ => N7
        refine sp_item N7 (by k_mem) zd hcs ?_
        k_steps
        unfold Stop
        rename Fr _ _ _ _ => F7
        rename News _ _ _ _ => N7
        refine LCg.CompEnd.intro F7 N7 _ (fun p hp => hp) off₂ trivial ⟨rfl, fun e he => ⟨ts c, ?_⟩⟩
        rw [hc'] at he
        rw [Option.some.inj he]
      · intro ys₂ hlen₂ hys₂
        obtain ⟨es, hes, hee⟩ := strs_told (fun c => spS n c) p.1 ys₂ (by rw [hlen₂]; exact List.size_toArray ..) (fun i y hy c hc => hys₂ i y hy c hc)
        replace hee := hee.trans (pairs_map (fun c => spS n c) es)
        subst hee
        k_steps
        unfold Stop
        rename Fr _ _ _ _ => F7
        rename News _ _ _ _ => N7
        refine join_in N7 (List.mem_cons_self ..) ?_ ?_ ?_
        · intro q hq
          obtain ⟨q1, hq1, rfl⟩ := List.mem_map.mp hq
          obtain ⟨q2, hq2, rfl⟩ := List.mem_map.mp hq1
          have hm : q2.1 ∈ p.1 := by rw [← hes]; exact List.mem_map.mpr ⟨q2, hq2, rfl⟩
          have h6 := hlen p (List.mem_of_getElem? hp) q2.1 hm
          show (spS n q2.1).length ≤ 500
          unfold spS
          rw [len_of]
          omega
        · rw [List.length_map, ← List.length_map (·.1), hes, hp9]; decide
        intro tj kj
        have ej : Txt.join "" ((es.map fun q => (spS n q.1, q.2)).map (·.1)) = ⟨(escL n p.1).toArray⟩ := by
          rw [join_empty, hflat p.1, ← hes]
          congr 1
          simp [List.flatMap_map, spS]
        rw [ej]
        k_steps
        unfold Stop
        rename Fr _ _ _ _ => F7
        rename News _ _ _ _ => N7
        refine LCg.CompEnd.intro F7 N7 _ ?_ off (.inr ⟨_, by k_mem, rfl, _, rfl⟩) ⟨rfl, fun l hl => ⟨tj, ?_⟩⟩
        · exact fun p hp => List.mem_cons_of_mem _ hp
        rw [List.getElem?_map, hp] at hl
        rw [← Option.some.inj hl]
    · intro ys' hlen' hys'
      obtain ⟨rs, hrs, rfl⟩ := strs_told (fun l : List Nat => (⟨l.toArray⟩ : Str)) (ws.map fun p => escL n p.1) ys' (hlen'.trans (by rw [List.size_toArray, List.length_map, List.length_map])) (fun i y hy c hc => hys' i y hy c hc)
      k_steps
      unfold Stop
      rename Fr _ _ _ _ => F7
      rename News _ _ _ _ => N7
      refine ne_strs (ps := qs) (qs := rs) ⟨_, (N7 _ (List.mem_cons_of_mem _ (List.mem_cons_self ..))).1, rfl, _, rfl⟩ ⟨_, (N7 _ (List.mem_cons_self ..)).1, rfl, _, rfl⟩ (hqs.trans hrs.symm) ?_ (by ktr_units) ?_
      · intro l hl
        rw [hqs] at hl
        obtain ⟨p, hp, rfl⟩ := List.mem_map.mp hl
        show (escL n p.1).toArray.all (· < 0x110000) = true
        rw [List.all_toArray, List.all_eq_true]
        intro x hx
        have := hasc p hp x hx
        exact decide_eq_true (by omega)
      k_steps
      unfold Stop
      rename Fr _ _ _ _ => F7
      rename News _ _ _ _ => N7
      exact next _ qs _ _ _ hqs F7 (cb_drop N7 (by kcj_all))
end Mine
end
theorem Mine.rest_U5 {prog : PySem.Program} {w : PySem.World} {A : PySem.Around} {E : PySem.Value → PySem.Shared → Prop} {s : PySem.Shared} {env : PySem.Env} : PySem.wpAny (PySem.model prog w) A (PySem.execs [] env) (fun _ _ => True) E s := by
  w_top off
  first | (walk1; trivial) | exact PySem.wpAny_execs_nil trivial
section
open PySem PySem.W PyProof.Rows
set_option Elab.async false
set_option maxRecDepth 100000
set_option maxHeartbeats 8000000
set_option linter.unusedVariables false
namespace Mine
local macro_rules | `(tactic| walk_at $k:str) => if ["call ref", "call builtin:str.join"].contains k.getString then `(tactic| (k_here; k_dflt (refine stop_it ?_))) else Lean.Macro.throwUnsupported
local macro_rules | `(tactic| walk_at "callWith ref") => `(tactic| (k_here; (with_reducible show wpAny _ _ (callWith _ (Value.ref (handA _)) _ _ _) _ _ _); k_dflt (refine callWith_K ‹Frag.In _ _› (keep_hand (by assumption)) ?_)))
local macro_rules | `(tactic| walk_at "storeName") => `(tactic| (k_here; (with_reducible show wpAny _ _ (storeName _ (PySem.Str.ofString "bare") _) _ _ _); k_dflt (refine stop_it ?_)))
local macro_rules | `(tactic| walk_at "storeName") => `(tactic| (k_here; (with_reducible show wpAny _ _ (storeName _ (PySem.Str.ofString "message") _) _ _ _); k_dflt (refine stop_it ?_)))
theorem bare_eq (l : List Nat) : ((⟨l.toArray⟩ : Str) ++ ("\"" : Str)) = ⟨(l ++ [34]).toArray⟩ := by
  have e : ("\"" : Str) = ⟨[34].toArray⟩ := by decide +kernel
  rw [e, app_of]
theorem msg_eq (l : List Nat) : ((("\\\"" : Str) ++ (⟨l.toArray⟩ : Str)) ++ ("\"" : Str)) = ⟨([92, 34] ++ (l ++ [34])).toArray⟩ := by
  have e : ("\"" : Str) = ⟨[34].toArray⟩ := by decide +kernel
  have e2 : ("\\\"" : Str) = ⟨[92, 34].toArray⟩ := by decide +kernel
  rw [e, e2, app_of, app_of, List.append_assoc]
local macro_rules | `(tactic| walk_at "execs cons") => `(tactic| (k_here; (with_reducible show wpAny _ _ (execs (Stmt.For _ _ _ _ _ :: _) _) _ _ _); k_dflt (refine stop_it ?_)))
noncomputable def nm7 (v1 v2 : Option Value) (wr : Addr) (x0 x1 : Option Value) (wl : Addr) (u0 u1 u2 : Option Value) (D : Addr) (n : Nat) (t : Tok) : Str → Option Value := fun y => if y = "message" then v1 else if y = "bare" then v2 else nm6 wr x0 x1 wl u0 u1 u2 D n t y
theorem e34_all : ((List.range 5).all fun n => decide (escL n [34] = if n % 3 = 0 then [34] else [38, 113, 117, 111, 116, 59])) = true := by decide +kernel
theorem e34 {n : Nat} (hn : n < 5) : escL n [34] = if n % 3 = 0 then [34] else [38, 113, 117, 111, 116, 59] :=
  of_decide_eq_true (List.all_eq_true.mp e34_all n (List.mem_range.mpr hn))
theorem pass_of {n : Nat} {l : List Nat} (h : ∀ x ∈ l, x ∈ sgn n) : Pass l := by
  intro c hc
  have := h c hc
  unfold sgn at this
  split at this <;> simp at this <;> omega
theorem cat_mem {ws : List (List Nat × Tok)} {x : Nat} (h : x ∈ catW ws) : ∃ p ∈ ws, x ∈ p.1 := by
  obtain ⟨p, hp, hx⟩ := List.mem_flatMap.mp h
  exact ⟨p, hp, hx⟩
theorem cat_esc {n : Nat} : ∀ {ws qs : List (List Nat × Tok)}, qs.map (·.1) = (ws.map fun p => escL n p.1) → catW qs = escL n (catW ws)
  | [], qs, h => by
    have : qs = [] := List.map_eq_nil_iff.mp h
    subst this
    exact (esc_nil n).symm
  | p :: r, [], h => by cases h
  | p :: r, q :: t, h => by
    obtain ⟨h1, h2⟩ := List.cons.inj h
    have ih := cat_esc h2
    unfold catW at ih ⊢
    replace h1 : q.1 = escL n p.1 := h1
    rw [List.flatMap_cons, List.flatMap_cons, ih, esc_append, h1]
theorem occ34 (l : List Nat) : (Builtin.Str.occurrences ⟨l.toArray⟩ "\"" 0 (⟨l.toArray⟩ : Str).length 1).isEmpty = !decide (34 ∈ l) := by
  have e : ("\"" : Str) = ⟨#[34]⟩ := by decide +kernel
  rw [e]
  have := PySem.StrLaws.found_one ⟨l.toArray⟩ 34
  rw [← this, Bool.not_not]
theorem add_eq (l : List Nat) : (("\\\"" : Str) ++ (⟨l.toArray⟩ : Str)) = ⟨([92, 34] ++ l).toArray⟩ := by
  have e2 : ("\\\"" : Str) = ⟨[92, 34].toArray⟩ := by decide +kernel
  rw [e2, app_of]
theorem esc_bare1 {n : Nat} (hn : n < 5) {ws qs : List (List Nat × Tok)} (h : qs.map (·.1) = (ws.map fun p => escL n p.1)) (h3 : Int.fmod (n : Int) 3 = 0) : escS n ⟨(catW ws ++ [34]).toArray⟩ = (⟨(catW qs).toArray⟩ : Str) ++ ("\"" : Str) := by
  rw [bare_eq, cat_esc h]
  have h3' : n % 3 = 0 := by rw [Int.fmod_eq_emod_of_nonneg _ (by decide)] at h3; omega
  show (⟨(escL n (catW ws ++ [34])).toArray⟩ : Str) = _
  rw [esc_append, e34 hn, if_pos h3']
theorem esc_bare2 {n : Nat} (hn : n < 5) {ws qs : List (List Nat × Tok)} (h : qs.map (·.1) = (ws.map fun p => escL n p.1)) (h3 : Int.fmod (n : Int) 3 ≠ 0) : escS n ⟨(catW ws ++ [34]).toArray⟩ = (⟨(catW qs).toArray⟩ : Str) ++ ("&quot;" : Str) := by
  have e : ("&quot;" : Str) = ⟨[38, 113, 117, 111, 116, 59].toArray⟩ := by decide +kernel
  rw [e, app_of, cat_esc h]
  have h3' : ¬ n % 3 = 0 := by rw [Int.fmod_eq_emod_of_nonneg _ (by decide)] at h3; omega
  show (⟨(escL n (catW ws ++ [34])).toArray⟩ : Str) = _
  rw [esc_append, e34 hn, if_neg h3']
theorem cat_len : ∀ {ws : List (List Nat × Tok)}, (∀ p ∈ ws, p.1.length = 9) → (catW ws).length = 9 * ws.length
  | [], _ => rfl
  | p :: r, h => by
    have ih := cat_len (ws := r) fun q hq => h q (List.mem_cons_of_mem _ hq)
    have h1 := h p (List.mem_cons_self ..)
    unfold catW at ih ⊢
    rw [List.flatMap_cons, List.length_append, ih, h1, List.length_cons]; omega
theorem law_6 {w : World} {mean : ExcName → Option Value} {mg mb : Str → Option Value} {h₀ : Heap} {s : Shared} {L a : Addr} {ccd : Value} {n : Nat} {D d S wl wr : Addr} {od o2 o3 o4 : Obj} {ts : Nat → Tok} {sg : List (Nat × Tok)} {cS c cq : Nat} {ys : List Value} {ks : List Int} {tn : Tok} {ws qs : List (List Nat × Tok)} {u0 u1 u2 x0 x1 : Option Value} {Q : Flow → Shared → Prop}
    (Z : LF w n L D d S od o2 o3 o4 ts sg ys ks) (hw9 : ∀ p ∈ ws, p.1.length = 9) (hwl : ws.length ≤ 3) (hsg : ∀ p ∈ ws, ∀ x ∈ p.1, x ∈ sgn n) (hqs : qs.map (·.1) = (ws.map fun p => escL n p.1))
    (B : Below callerA h₀ [] h₀) (F : Fr h₀ L s.heap (nm6 wr x0 x1 wl u0 u1 u2 D n tn)) (T : Top hd.view_39 (looseW hd.view_39 []) mean mg mb h₀)
    (N : News h₀ L s.heap ((wr, strsOf qs cq) :: (wl, strsOf ws c) :: led L D d S od o2 o3 o4 sg cS ys))
    (next : ∀ v1 v2 h tk, Fr h₀ L h (nm7 v1 v2 wr x0 x1 wl u0 u1 u2 D n tn) → News h₀ L h ((wr, strsOf qs cq) :: (wl, strsOf ws c) :: led L D d S od o2 o3 o4 sg cS ys) →
      wpAny (model Challenge.rw_wr0030_01.row.prog w) (lawA L a ccd) (execs ((bodyAt 19).drop 13) (lawEnv L a ccd)) Q (fun _ _ => False) { s with heap := h, gens := s.gens.push .finished, toks := tk }) :
    (hd.heap_39 w.params).In h₀ → wpAny (model Challenge.rw_wr0030_01.row.prog w) (lawA L a ccd) (execs ((bodyAt 19).drop 9) (lawEnv L a ccd)) Q (fun _ _ => False) s := by
  k_fill
  intro X
  unfold lawA lawEnv
  conv in (occs := *) (scopeAt 19) => all_goals whnf
  show wpAny _ _ (execs (_ :: _) _) _ _ _
  dsimp only [led] at N
  have z2 := Z.c2
  have zn := Z.hn
  k_steps
  unfold Stop
  rename Fr _ _ _ _ => F4
  rename News _ _ _ _ => N4
  refine join_sep N4 (by k_mem) (fun p hp => by rw [hw9 p hp]; decide) (by omega) (by decide) ?_
  intro tj kj
  rw [join_cat]
  have hcl : (catW ws).length ≤ 27 := by
    have h := cat_len hw9
    omega
  have hcs : (⟨(catW ws).toArray⟩ : Str).length ≤ 27 := by rw [len_of]; exact hcl
  k_steps
  unfold Stop
  rename Fr _ _ _ _ => F5
  rename News _ _ _ _ => N5
  rw [bare_eq]
  refine storeX_L F5 N5 ?_ (by rfl) (by rfl)
  intro h6 F6 N6
  k_steps
  unfold Stop
  rename News _ _ _ _ => N9
  refine join_ends N9 (List.mem_cons_self ..) rfl rfl (fun p hp => by rw [hw9 p hp]; decide) (by omega) (by decide) ?_
  intro tj2 kj2
  rw [join_msg]
  have hml : (⟨(sepL ++ midL ws).toArray⟩ : Str).length ≤ 59 := by
    rw [len_of, List.length_append, mid_len hw9]
    show 8 + 17 * ws.length ≤ 59
    omega
  k_steps
  unfold Stop
  rename Fr _ _ _ _ => F5
  rename News _ _ _ _ => N5
  rw [msg_eq, show [92, 34] ++ ((sepL ++ midL ws) ++ [34]) = msgL ws from rfl]
  refine storeX_L F5 N5 ?_ (by rfl) (by rfl)
  intro h7 F7 N7
  have hml2 : (⟨(msgL ws).toArray⟩ : Str).length ≤ 62 := by
    rw [len_of]
    unfold msgL
    rw [List.length_append, List.length_append, List.length_append, mid_len hw9]
    show 2 + (8 + 17 * ws.length + 1) ≤ 62
    omega
  have hpass : ∀ p ∈ ws, Pass p.1 ∧ p.1 ≠ [] := fun p hp => ⟨pass_of (hsg p hp), fun e => by have := hw9 p hp; rw [e] at this; cases this⟩
  k_steps
  unfold Stop
  rename Fr _ _ _ _ => F8
  rename News _ _ _ _ => N8
  refine' strip_q _ ⟨(msgL ws).toArray⟩ _ (by omega) ?asc (esc_msg fun p hp => (hpass p hp).1) ?occ _ _ _ _ _ _ _ _ _ _ _ _ _ _ _ _ _ B F8 X N8 T ?k True.intro ?d ?u ?_
  case asc =>
    show (msgL ws).toArray.all (· < 128) = true
    rw [List.all_toArray, List.all_eq_true]
    intro x hx
    exact decide_eq_true (msg_ascii (fun p hp c hc => sgn_128 (hsg p hp c hc)) x hx)
  case occ =>
    rw [occ34]
    simp [msgL]
  case k => exact rfl
  case d => ktr_room
  case u => ktr_units
  intro t9 h9 tk9 F9 N9
  rw [strip_msg hpass]
  have hbl : (⟨(catW ws ++ [34]).toArray⟩ : Str).length ≤ 28 := by rw [len_of, List.length_append, List.length_singleton]; omega
  k_steps
  · exact bne_no (add_eq _).symm ‹(_ != _) = true›
  unfold Stop
  rename Fr _ _ _ _ => F8
  rename News _ _ _ _ => N8
  rw [sl_last]
  refine' strip_no _ ⟨(catW ws).toArray⟩ _ (by omega) ?occ2 _ _ _ _ _ _ _ _ _ _ _ _ _ _ _ _ _ B F8 X N8 T ?k True.intro ?d ?u ?_
  case occ2 =>
    rw [occ34]
    have : ¬ 34 ∈ catW ws := fun hm => by
      obtain ⟨p, hp, hx⟩ := cat_mem hm
      exact ((hpass p hp).1 34 hx).2 rfl
    simp [this]
  case k => exact rfl
  case d => ktr_room
  case u => ktr_units
  intro t10 h10 tk10 F10 N10
  k_steps
  · exact bne_no (sl_last _ _).symm ‹(_ != _) = true›
  unfold Stop
  rename Fr _ _ _ _ => F8
  rename News _ _ _ _ => N8
  refine' esc_k zn _ _ _ _ _ _ _ _ _ _ _ _ _ _ _ _ _ _ _ _ B F8 X N8 T ?k ?l ?d ?u ?_
  case k => exact rfl
  case l => omega
  case d => ktr_room
  case u => ktr_units
  intro t11 h11 tk11 F11 N11
  k_steps
  unfold Stop
  rename Fr _ _ _ _ => F8
  rename News _ _ _ _ => N8
  refine join_sep N8 (by k_mem) ?_ ?_ (by decide) ?_
  · intro q hq
    have hm : q.1 ∈ qs.map (·.1) := List.mem_map.mpr ⟨q, hq, rfl⟩
    rw [hqs] at hm
    obtain ⟨p, hp, he⟩ := List.mem_map.mp hm
    have := (esc_len zn (hsg p hp)).2
    rw [hw9 p hp, he] at this
    omega
  · rw [← List.length_map (·.1), hqs, List.length_map]; omega
  intro tj3 kj3
  rw [join_cat]
  have hql : (⟨(catW qs).toArray⟩ : Str).length ≤ 200 := by
    rw [len_of, cat_esc hqs]
    have := (esc_len zn (w := catW ws) fun x hx => by
      obtain ⟨p, hp, hx⟩ := cat_mem hx
      exact hsg p hp x hx).2
    omega
  k_steps
  · exact bne_no (esc_bare1 zn hqs (by assumption)) ‹(_ != _) = true›
  rotate_left
  · exact bne_no (esc_bare2 zn hqs (by assumption)) ‹(_ != _) = true›
  all_goals
    unfold Stop
    rename Fr _ _ _ _ => F8
    rename News _ _ _ _ => N8
    exact next _ _ _ _ F8 (cb_drop N8 (by kcj_all))
end Mine
end
theorem Mine.rest_U6 {prog : PySem.Program} {w : PySem.World} {A : PySem.Around} {E : PySem.Value → PySem.Shared → Prop} {s : PySem.Shared} {env : PySem.Env} : PySem.wpAny (PySem.model prog w) A (PySem.execs [] env) (fun _ _ => True) E s := by
  w_top off
  first | (walk1; trivial) | exact PySem.wpAny_execs_nil trivial
section
open PySem PySem.W PyProof.Rows
set_option Elab.async false
set_option maxRecDepth 100000
set_option maxHeartbeats 8000000
set_option linter.unusedVariables false
namespace Mine
local macro_rules | `(tactic| walk_at $k:str) => if ["call ref", "pyIter ref", "last pyIter ref", "call builtin:str.join", "subscriptTail Name Constant str int", "subscriptTail Name Subscript ref str", "exec For Name Name cons nil", "exec For Name Name", "newTuple"].contains k.getString then `(tactic| (k_here; k_dflt (refine stop_it ?_))) else Lean.Macro.throwUnsupported
local macro_rules | `(tactic| walk_at "storeName") => `(tactic| (k_here; (with_reducible show wpAny _ _ (storeName _ (PySem.Str.ofString "whole") _) _ _ _); k_dflt (refine stop_it ?_)))
local macro_rules | `(tactic| walk_at "storeName") => `(tactic| (k_here; (with_reducible show wpAny _ _ (storeName _ (PySem.Str.ofString "within") _) _ _ _); k_dflt (refine stop_it ?_)))
noncomputable def zipBody : List Stmt := match (bodyAt 19)[13]? with | some (PySem.Stmt.For _ _ b _ _) => b | _ => []
noncomputable def pairBody : List Stmt := match zipBody[0]? with | some (PySem.Stmt.For _ _ b _ _) => b | _ => []
/-- the ledger in the loops over the pairs -/
noncomputable abbrev led2 (wl wr : Addr) (ws qs : List (List Nat × Tok)) (c cq : Nat) (L D d Sg' : Addr) (od o2 o3 o4 : Obj) (sg : List (Nat × Tok)) (cS : Nat) (ys : List Value) : List (Addr × Obj) :=
  (wr, strsOf qs cq) :: (wl, strsOf ws c) :: led L D d Sg' od o2 o3 o4 sg cS ys
/-- the world's names in the inner body -/
noncomputable def nmP (vq v2 : Value) (c0 c1 c2 c3 : Option Value) (vp v1 : Value) (base : Str → Option Value) : Str → Option Value := fun y => if y = "q" then some vq else if y = "two" then some v2 else if y = "whole" then c0 else if y = "within" then c1 else if y = "want" then c2 else if y = "r" then c3 else if y = "p" then some vp else if y = "one" then some v1 else base y
theorem nmP_canon {vq v2 vp v1 : Value} {c0 c1 c2 c3 : Option Value} {base m : Str → Option Value} (h : ∀ y : Str, y ≠ "whole" → y ≠ "within" → y ≠ "want" → y ≠ "r" → m y = nmP vq v2 c0 c1 c2 c3 vp v1 base y) :
    ∃ c0' c1' c2' c3', m = nmP vq v2 c0' c1' c2' c3' vp v1 base := by
  refine ⟨m "whole", m "within", m "want", m "r", funext fun y => ?_⟩
  by_cases h1 : y = "whole"
  · subst h1; rfl
  by_cases h2 : y = "within"
  · subst h2; rfl
  by_cases h3 : y = "want"
  · subst h3; rfl
  by_cases h4 : y = "r"
  · subst h4; rfl
  rw [h y h1 h2 h3 h4]
  unfold nmP
  simp only [if_neg h1, if_neg h2, if_neg h3, if_neg h4]
theorem bneB {x y : Bool} {P : Prop} (e : x = y) (h : (x != y) = true) : P := by subst e; simp at h
theorem inn_slice {n : Nat} (hn : n < 5) {w1 w2 : List Nat} (g1 : Good n w1) (g2 : Good n w2) :
    Txt.slice (S (escL n w1 ++ escL n w2)) (some (((spS n (at9 w1 0)).length : Nat) : Int)) (some (-(((spS n (at9 w2 8)).length : Nat) : Int))) = S (escL n (innW w1 w2)) := by
  have m2 : at9 w2 8 ∈ sgn n := g2.sg _ (List.mem_of_getElem? (at9_get g2.len (i := 8) (by decide)))
  obtain ⟨h, t, e, _⟩ := sp_form hn m2
  have hne : escL n [w2.getD 8 0] ≠ [] := by
    show escL n [at9 w2 8] ≠ []
    rw [e]; exact List.cons_ne_nil _ _
  have := sl_within (escL n [w1.getD 0 0]) (escL n (innW w1 w2)) (escL n [w2.getD 8 0]) hne
  rw [← inn_cut g1 g2] at this
  have e1 : (spS n (at9 w1 0)).length = (escL n [w1.getD 0 0]).length := len_of _
  have e2 : (spS n (at9 w2 8)).length = (escL n [w2.getD 8 0]).length := len_of _
  rw [e1, e2]
  exact this
theorem pair_body {w : World} {mean : ExcName → Option Value} {mg mb : Str → Option Value} {h₀ : Heap} {s : Shared} {L a : Addr} {ccd : Value} {n : Nat} {D d Sg' wl wr : Addr} {od o2 o3 o4 : Obj} {ts : Nat → Tok} {sg : List (Nat × Tok)} {cS c cq : Nat} {ys : List Value} {ks : List Int} {ws qs : List (List Nat × Tok)} {w1 w2 : List Nat} {t1 t2 t3 t4 : Tok} {c0 c1 c2 c3 : Option Value} {b1 b2 x0 x1 u0 u1 u2 : Option Value} {tn : Tok} {own : List (Addr × Obj)}
    (Z : LF w n L D d Sg' od o2 o3 o4 ts sg ys ks) (hgood : ∀ p ∈ ws, Good n p.1) (hwl : ws.length ≤ 3) (hqs : qs.map (·.1) = (ws.map fun p => escL n p.1)) (g1 : Good n w1) (g2 : Good n w2)
    (B : Below callerA h₀ [] h₀) (F : Fr h₀ L s.heap (nmP (.str (S (escL n w2)) t1) (.str (S w2) t2) c0 c1 c2 c3 (.str (S (escL n w1)) t3) (.str (S w1) t4) (nm7 b1 b2 wr x0 x1 wl u0 u1 u2 D n tn))) (T : Top hd.view_39 (looseW hd.view_39 []) mean mg mb h₀)
    (N : News h₀ L s.heap (led2 wl wr ws qs c cq L D d Sg' od o2 o3 o4 sg cS ys ++ own)) :
    (hd.heap_39 w.params).In h₀ → wpAny (model Challenge.rw_wr0030_01.row.prog w) (lawA L a ccd) (execs pairBody (lawEnv L a ccd)) (FPost h₀ L (led2 wl wr ws qs c cq L D d Sg' od o2 o3 o4 sg cS ys ++ own) (fun m => ∃ c0 c1 c2 c3, m = nmP (.str (S (escL n w2)) t1) (.str (S w2) t2) c0 c1 c2 c3 (.str (S (escL n w1)) t3) (.str (S w1) t4) (nm7 b1 b2 wr x0 x1 wl u0 u1 u2 D n tn)) s) (fun _ _ => False) s := by
  k_fill
  intro X
  unfold lawA lawEnv
  conv in (occs := *) (scopeAt 19) => all_goals whnf
  show wpAny _ _ (execs (_ :: _) _) _ _ _
  dsimp only [led2, led, List.cons_append, List.nil_append] at N
  have z3 := Z.c3
  have zd := Z.hd
  have zn := Z.hn
  have q1 := good_pos zn g1
  have q2 := good_pos zn g2
  have l1 : (S (escL n w1)).length ≤ 54 := by rw [S_len]; exact q1.2
  have l2 : (S (escL n w2)).length ≤ 54 := by rw [S_len]; exact q2.2
  have m1 : at9 w1 0 ∈ sgn n := g1.sg _ (List.mem_of_getElem? (at9_get g1.len (i := 0) (by decide)))
  have m2 : at9 w2 8 ∈ sgn n := g2.sg _ (List.mem_of_getElem? (at9_get g2.len (i := 8) (by decide)))
  have k1 : (spS n (at9 w1 0)).length ≤ 6 := by
    have := (esc_len zn (w := [at9 w1 0]) (fun x hx => by rw [List.mem_singleton.mp hx]; exact m1)).2
    unfold spS; rw [len_of]; simpa using this
  have k2 : (spS n (at9 w2 8)).length ≤ 6 := by
    have := (esc_len zn (w := [at9 w2 8]) (fun x hx => by rw [List.mem_singleton.mp hx]; exact m2)).2
    unfold spS; rw [len_of]; simpa using this
  have l3 : (S (escL n w1 ++ escL n w2)).length ≤ 108 := by rw [S_len]; exact app_len zn g1 g2
  k_steps
  unfold Stop
  rename Fr _ _ _ _ => F5
  rename News _ _ _ _ => N5
  rw [show S (escL n w1) ++ S (escL n w2) = S (escL n w1 ++ escL n w2) from app_of _ _]
  refine storeX_L F5 N5 ?_ (by rfl) (by rfl)
  intro h6 F6 N6
  clear F5 N5
  k_steps
  unfold Stop
  rename Fr _ _ _ _ => F5
  rename News _ _ _ _ => N5
  refine item_ring (at9_get g1.len (i := 0) (by decide)) (.inl rfl) (by rw [g1.len]; decide) ?_
  k_steps
  unfold Stop
  rename Fr _ _ _ _ => F5
  rename News _ _ _ _ => N5
  refine sp_item N5 (by k_mem) zd m1 ?_
  k_steps
  unfold Stop
  rename Fr _ _ _ _ => F5
  rename News _ _ _ _ => N5
  refine item_ring (at9_get g2.len (i := 8) (by decide)) (.inl rfl) (by rw [g2.len]; decide) ?_
  k_steps
  unfold Stop
  rename Fr _ _ _ _ => F5
  rename News _ _ _ _ => N5
  refine sp_item N5 (by k_mem) zd m2 ?_
  k_steps
  unfold Stop
  rename Fr _ _ _ _ => F5
  rename News _ _ _ _ => N5
  rw [inn_slice zn g1 g2]
  refine storeX_L F5 N5 ?_ (by rfl) (by rfl)
  intro h7 F7 N7
  have l4 : (S (escL n (innW w1 w2))).length ≤ 96 := by rw [S_len]; exact (inn_pos zn g1 g2).2
  clear F5 N5
  k_steps
  unfold Stop
  rename Fr _ _ _ _ => F5
  rename News _ _ _ _ => N5
  refine tuple_loop (JW "want") (by rfl) F5 N5 (Nat.le_of_ble_eq_true rfl) (JW.start _ _) ?t1 ?d1
  case t1 =>
    rintro v h tk m own' hv ⟨u, rfl⟩ F N
    obtain ⟨x, t, rfl, hE⟩ : ∃ x t, v = .str x t ∧ EllC x (S (escL n w1 ++ escL n w2)) true := by
      have hw := want1 zn g1 g2
      simp only [List.mem_cons, List.not_mem_nil, or_false] at hv
      rcases hv with rfl | rfl
      · exact ⟨_, _, rfl, by rw [x_2]; exact hw.1⟩
      · exact ⟨_, _, rfl, by rw [x_m]; exact hw.2⟩
    clear F5 N5
    simp only [List.cons_append] at N ⊢
    k_steps
    unfold Stop
    rename Fr _ _ _ _ => F5
    rename News _ _ _ _ => N5
    refine' hE w mean mg mb _ _ _ _ _ _ _ _ _ _ _ _ _ _ _ _ _ _ _ _ B F5 X N5 T ?k True.intro ?d ?u ?_
    case k => exact rfl
    case d => ktr_room
    case u => ktr_units
    intro h9 tk9 F9 N9
    k_steps
    rename Fr _ _ _ _ => F5
    rename News _ _ _ _ => N5
    exact fpost F5 N5 (fun p hp => hp) (JW.again _ _ _ _)
  case d1 =>
    clear F5 N5
    rintro m h tk ⟨u, rfl⟩ F N
    k_steps
    unfold Stop
    rename Fr _ _ _ _ => F5
    rename News _ _ _ _ => N5
    refine join_v [("", _), (S (escL n w1), _), (S (escL n w1), _), ("", _)] N5 (List.mem_cons_self ..) rfl rfl ?_ (Nat.le_of_ble_eq_true rfl) dots_len ?_
    · intro p hp
      simp only [List.mem_cons, List.not_mem_nil, or_false] at hp
      rcases hp with rfl | rfl | rfl | rfl
      · exact nil_len0
      · exact Nat.le_trans l1 (by decide)
      · exact Nat.le_trans l1 (by decide)
      · exact nil_len0
    intro tj kj
    rw [x_j, show (([("", _), (S (escL n w1), _), (S (escL n w1), _), ("", _)] : List (Str × Tok)).map (·.1)) = [("" : Str), S (escL n w1), S (escL n w1), ("" : Str)] from rfl, hee]
    k_steps
    unfold Stop
    rename Fr _ _ _ _ => F5
    rename News _ _ _ _ => N5
    refine tuple_loop (JW "want") (by rfl) F5 N5 (Nat.le_of_ble_eq_true rfl) (JW.start _ _) ?t2 ?d2
    case t2 =>
      rintro v h tk m own' hv ⟨u', rfl⟩ F N
      obtain ⟨x, t, rfl, hE⟩ : ∃ x t, v = .str x t ∧ EllC x (S (escL n w1 ++ escL n w2)) (decide (escL n w1 = escL n w2)) := by
        have hw := want2 zn g1 g2
        simp only [List.mem_cons, List.not_mem_nil, or_false] at hv
        rcases hv with rfl | rfl | rfl | rfl | rfl
        · exact ⟨_, _, rfl, by rw [x_h]; exact hw.1⟩
        · exact ⟨_, _, rfl, by rw [x_t]; exact hw.2.1⟩
        · exact ⟨_, _, rfl, by rw [x_2]; exact hw.2.2.1⟩
        · exact ⟨_, _, rfl, by rw [x_2]; exact hw.2.2.2.1⟩
        · exact ⟨_, _, rfl, hw.2.2.2.2⟩
      clear F5 N5
      simp only [List.cons_append] at N ⊢
      k_steps
      unfold Stop
      rename Fr _ _ _ _ => F5
      rename News _ _ _ _ => N5
      refine' hE w mean mg mb _ _ _ _ _ _ _ _ _ _ _ _ _ _ _ _ _ _ _ _ B F5 X N5 T ?k True.intro ?d ?u ?_
      case k => exact rfl
      case d => ktr_room
      case u => ktr_units
      intro h9 tk9 F9 N9
      k_steps
      · exact bneB (beqS _ _).symm ‹(_ != _) = true›
      rename Fr _ _ _ _ => F5
      rename News _ _ _ _ => N5
      exact fpost F5 N5 (fun p hp => hp) (JW.again _ _ _ _)
    case d2 =>
      clear F5 N5
      rintro m h tk ⟨u', rfl⟩ F N
      k_steps
      unfold Stop
      rename Fr _ _ _ _ => F5
      rename News _ _ _ _ => N5
      refine join_v [(S (escL n w1), _), (S (escL n w1), _), (S (escL n w2), _)] N5 (List.mem_cons_self ..) rfl rfl ?_ (Nat.le_of_ble_eq_true rfl) dots_len ?_
      · intro p hp
        simp only [List.mem_cons, List.not_mem_nil, or_false] at hp
        rcases hp with rfl | rfl | rfl
        · exact Nat.le_trans l1 (by decide)
        · exact Nat.le_trans l1 (by decide)
        · exact Nat.le_trans l2 (by decide)
      intro tj kj
      rw [x_j, show (([(S (escL n w1), _), (S (escL n w1), _), (S (escL n w2), _)] : List (Str × Tok)).map (·.1)) = [S (escL n w1), S (escL n w1), S (escL n w2)] from rfl]
      k_steps
      unfold Stop
      rename Fr _ _ _ _ => F5
      rename News _ _ _ _ => N5
      refine join_v [(S (escL n w1), _), (S (escL n w2), _), (S (escL n w2), _)] N5 (List.mem_cons_self ..) rfl rfl ?_ (Nat.le_of_ble_eq_true rfl) dots_len ?_
      · intro p hp
        simp only [List.mem_cons, List.not_mem_nil, or_false] at hp
        rcases hp with rfl | rfl | rfl
        · exact Nat.le_trans l1 (by decide)
        · exact Nat.le_trans l2 (by decide)
        · exact Nat.le_trans l2 (by decide)
      intro tj kj
      rw [x_j, show (([(S (escL n w1), _), (S (escL n w2), _), (S (escL n w2), _)] : List (Str × Tok)).map (·.1)) = [S (escL n w1), S (escL n w2), S (escL n w2)] from rfl]
      k_steps
      unfold Stop
      rename Fr _ _ _ _ => F5
      rename News _ _ _ _ => N5
      refine tuple_loop (JW "want") (by rfl) F5 N5 (Nat.le_of_ble_eq_true rfl) (JW.start _ _) ?t3 ?d3
      case t3 =>
        rintro v h tk m own' hv ⟨u', rfl⟩ F N
        obtain ⟨x, t, rfl, hE⟩ : ∃ x t, v = .str x t ∧ EllC x (S (escL n w1 ++ escL n w2)) false := by
          have hw := want3 zn g1 g2
          simp only [List.mem_cons, List.not_mem_nil, or_false] at hv
          rcases hv with rfl | rfl
          · exact ⟨_, _, rfl, hw.1⟩
          · exact ⟨_, _, rfl, hw.2⟩
        clear F5 N5
        simp only [List.cons_append] at N ⊢
        k_steps
        unfold Stop
        rename Fr _ _ _ _ => F5
        rename News _ _ _ _ => N5
        refine' hE w mean mg mb _ _ _ _ _ _ _ _ _ _ _ _ _ _ _ _ _ _ _ _ B F5 X N5 T ?k True.intro ?d ?u ?_
        case k => exact rfl
        case d => ktr_room
        case u => ktr_units
        intro h9 tk9 F9 N9
        k_steps
        rename Fr _ _ _ _ => F5
        rename News _ _ _ _ => N5
        exact fpost F5 N5 (fun p hp => hp) (JW.again _ _ _ _)
      case d3 =>
        clear F5 N5
        rintro m h tk ⟨u', rfl⟩ F N
        k_steps
        unfold Stop
        rename Fr _ _ _ _ => F5
        rename News _ _ _ _ => N5
        with_reducible apply For_turns
        case _F => with_unfolding_all exact F5
        case hs => (intro _; with_unfolding_all rfl)
        k_steps
        unfold Stop
        rename Fr _ _ _ _ => F5
        rename News _ _ _ _ => N5
        refine list_loop (JW "r") (by rfl) F5 N5 (l := wr) (o := strsOf qs cq) (by k_mem) rfl rfl (JW.start _ _) ?t4 ?d4
        case t4 =>
          rintro v h tk m own' hv ⟨u', rfl⟩ F N
          obtain ⟨w3, t, rfl, g3⟩ : ∃ w3 t, v = .str (S (escL n w3)) t ∧ Good n w3 := by
            obtain ⟨q, hq, rfl⟩ := List.mem_map.mp hv
            have hm : q.1 ∈ qs.map (·.1) := List.mem_map.mpr ⟨q, hq, rfl⟩
            rw [hqs] at hm
            obtain ⟨p, hp, he⟩ := List.mem_map.mp hm
            exact ⟨p.1, q.2, by rw [he], hgood p hp⟩
          have hE := want4 zn g1 g2 g3
          have l5 : (S (escL n w3)).length ≤ 54 := by rw [S_len]; exact (good_pos zn g3).2
          rw [← x_m] at hE
          clear F5 N5
          simp only [List.cons_append] at N ⊢
          k_steps
          unfold Stop
          rename Fr _ _ _ _ => F5
          rename News _ _ _ _ => N5
          refine' hE w mean mg mb _ _ _ _ _ _ _ _ _ _ _ _ _ _ _ _ _ _ _ _ B F5 X N5 T ?k True.intro ?d ?u ?_
          case k => exact rfl
          case d => ktr_room
          case u => ktr_units
          intro h9 tk9 F9 N9
          k_steps
          rename Fr _ _ _ _ => F5
          rename News _ _ _ _ => N5
          exact fpost F5 N5 (fun p hp => hp) (JW.again _ _ _ _)
        case d4 =>
          clear F5 N5
          rintro m h tk ⟨u', rfl⟩ F N
          k_steps
          rename Fr _ _ _ _ => F5
          rename News _ _ _ _ => N5
          refine fpost F5 N5 (fun p hp => by repeat (first | exact hp | apply List.mem_cons_of_mem)) ?_
          refine nmP_canon (c0 := c0) (c1 := c1) (c2 := c2) (c3 := c3) fun y h1 h2 h3 h4 => ?_
          simp only [if_neg h1, if_neg h2, if_neg h3, if_neg h4]
end Mine
end
theorem Mine.rest_U7 {prog : PySem.Program} {w : PySem.World} {A : PySem.Around} {E : PySem.Value → PySem.Shared → Prop} {s : PySem.Shared} {env : PySem.Env} : PySem.wpAny (PySem.model prog w) A (PySem.execs [] env) (fun _ _ => True) E s := by
  w_top off
  first | (walk1; trivial) | exact PySem.wpAny_execs_nil trivial
section
open PySem PySem.W PyProof.Rows
set_option Elab.async false
set_option maxRecDepth 100000
set_option maxHeartbeats 8000000
set_option linter.unusedVariables false
namespace Mine
local macro_rules | `(tactic| walk_at $k:str) => if ["exec For", "exec For Tuple Call cons nil", "exec For Tuple Call", "call type:zip"].contains k.getString then `(tactic| (k_here; k_dflt (refine stop_it ?_))) else Lean.Macro.throwUnsupported
local macro_rules | `(tactic| walk_at "execs cons") => `(tactic| (k_here; (with_reducible show wpAny _ _ (execs (Stmt.Assign [_] (Expr.BinOp _ _ _ _) _ :: _) _) _ _ _); k_dflt (refine stop_it ?_)))
noncomputable def nmO (uq u2 c0 c1 c2 c3 up u1 : Option Value) (base : Str → Option Value) : Str → Option Value := fun y => if y = "q" then uq else if y = "two" then u2 else if y = "whole" then c0 else if y = "within" then c1 else if y = "want" then c2 else if y = "r" then c3 else if y = "p" then up else if y = "one" then u1 else base y
noncomputable def KO (base : Str → Option Value) (m : Str → Option Value) : Prop := ∃ uq u2 c0 c1 c2 c3 up u1, m = nmO uq u2 c0 c1 c2 c3 up u1 base
noncomputable def KI (up u1 : Option Value) (base : Str → Option Value) (m : Str → Option Value) : Prop := ∃ uq u2 c0 c1 c2 c3, m = nmO uq u2 c0 c1 c2 c3 up u1 base
theorem nmO_start (base : Str → Option Value) : KO base base := by
  refine ⟨base "q", base "two", base "whole", base "within", base "want", base "r", base "p", base "one", funext fun y => ?_⟩
  unfold nmO
  by_cases h1 : y = "q"
  · rw [if_pos h1, h1]
  by_cases h2 : y = "two"
  · rw [if_neg h1, if_pos h2, h2]
  by_cases h3 : y = "whole"
  · rw [if_neg h1, if_neg h2, if_pos h3, h3]
  by_cases h4 : y = "within"
  · rw [if_neg h1, if_neg h2, if_neg h3, if_pos h4, h4]
  by_cases h5 : y = "want"
  · rw [if_neg h1, if_neg h2, if_neg h3, if_neg h4, if_pos h5, h5]
  by_cases h6 : y = "r"
  · rw [if_neg h1, if_neg h2, if_neg h3, if_neg h4, if_neg h5, if_pos h6, h6]
  by_cases h7 : y = "p"
  · rw [if_neg h1, if_neg h2, if_neg h3, if_neg h4, if_neg h5, if_neg h6, if_pos h7, h7]
  by_cases h8 : y = "one"
  · rw [if_neg h1, if_neg h2, if_neg h3, if_neg h4, if_neg h5, if_neg h6, if_neg h7, if_pos h8, h8]
  rw [if_neg h1, if_neg h2, if_neg h3, if_neg h4, if_neg h5, if_neg h6, if_neg h7, if_neg h8]
theorem nmO_outer (vp v1 uq u2 c0 c1 c2 c3 up u1 : Option Value) (base : Str → Option Value) : (fun y : Str => if y = "p" then vp else if y = "one" then v1 else nmO uq u2 c0 c1 c2 c3 up u1 base y) = nmO uq u2 c0 c1 c2 c3 vp v1 base := by
  funext y
  unfold nmO
  by_cases h7 : y = "p"
  · subst h7; rfl
  by_cases h8 : y = "one"
  · subst h8; rfl
  simp only [if_neg h7, if_neg h8]
theorem nmO_inner (vq v2 uq u2 c0 c1 c2 c3 up u1 : Option Value) (base : Str → Option Value) : (fun y : Str => if y = "q" then vq else if y = "two" then v2 else nmO uq u2 c0 c1 c2 c3 up u1 base y) = nmO vq v2 c0 c1 c2 c3 up u1 base := by
  funext y
  unfold nmO
  by_cases h7 : y = "q"
  · subst h7; rfl
  by_cases h8 : y = "two"
  · subst h8; rfl
  simp only [if_neg h7, if_neg h8]
theorem KI.start (uq u2 c0 c1 c2 c3 up u1 : Option Value) (base : Str → Option Value) : KI up u1 base (nmO uq u2 c0 c1 c2 c3 up u1 base) := ⟨uq, u2, c0, c1, c2, c3, rfl⟩
theorem fpost_mono {h₀ : Heap} {L : Addr} {all : List (Addr × Obj)} {J K : (Str → Option Value) → Prop} {s₁ s₂ : Shared} {f : Flow} (h : FPost h₀ L all J s₁ f s₂) (hJ : ∀ m, J m → K m) : FPost h₀ L all K s₁ f s₂ := by
  obtain ⟨hf, h', tk, m', big, e, F, N, hs, j⟩ := h
  exact ⟨hf, h', tk, m', big, e, F, N, hs, hJ _ j⟩
theorem zip_words {n : Nat} {ws qs : List (List Nat × Tok)} (hqs : qs.map (·.1) = (ws.map fun p => escL n p.1)) (hgood : ∀ p ∈ ws, Good n p.1) {i : Nat} {x y : Value} (hx : (ws.map fun p => Value.str ⟨p.1.toArray⟩ p.2)[i]? = some x) (hy : (qs.map fun p => Value.str ⟨p.1.toArray⟩ p.2)[i]? = some y) :
    ∃ w1 t1 t2, x = .str (S w1) t1 ∧ y = .str (S (escL n w1)) t2 ∧ Good n w1 := by
  rw [List.getElem?_map] at hx hy
  obtain ⟨p, hp, rfl⟩ := Option.map_eq_some_iff.mp hx
  obtain ⟨q, hq, rfl⟩ := Option.map_eq_some_iff.mp hy
  have e1 : (qs.map (·.1))[i]? = some q.1 := by rw [List.getElem?_map, hq]; rfl
  rw [hqs, List.getElem?_map, hp] at e1
  have e2 : escL n p.1 = q.1 := Option.some.inj e1
  exact ⟨p.1, p.2, q.2, rfl, by rw [e2], hgood p (List.mem_of_getElem? hp)⟩
theorem law_7 {w : World} {mean : ExcName → Option Value} {mg mb : Str → Option Value} {h₀ : Heap} {s : Shared} {L a : Addr} {ccd : Value} {n : Nat} {D d Sg' wl wr : Addr} {od o2 o3 o4 : Obj} {ts : Nat → Tok} {sg : List (Nat × Tok)} {cS c cq : Nat} {ys : List Value} {ks : List Int} {ws qs : List (List Nat × Tok)} {b1 b2 x0 x1 u0 u1 u2 : Option Value} {tn : Tok} {Q : Flow → Shared → Prop}
    (Z : LF w n L D d Sg' od o2 o3 o4 ts sg ys ks) (hgood : ∀ p ∈ ws, Good n p.1) (hwl : ws.length ≤ 3) (hqs : qs.map (·.1) = (ws.map fun p => escL n p.1))
    (B : Below callerA h₀ [] h₀) (F : Fr h₀ L s.heap (nm7 b1 b2 wr x0 x1 wl u0 u1 u2 D n tn)) (T : Top hd.view_39 (looseW hd.view_39 []) mean mg mb h₀)
    (N : News h₀ L s.heap (led2 wl wr ws qs c cq L D d Sg' od o2 o3 o4 sg cS ys))
    (next : ∀ uq v2 c0 c1 c2 c3 up v1 h tk, Fr h₀ L h (nmO uq v2 c0 c1 c2 c3 up v1 (nm7 b1 b2 wr x0 x1 wl u0 u1 u2 D n tn)) → News h₀ L h (led2 wl wr ws qs c cq L D d Sg' od o2 o3 o4 sg cS ys) →
      wpAny (model Challenge.rw_wr0030_01.row.prog w) (lawA L a ccd) (execs ((bodyAt 19).drop 14) (lawEnv L a ccd)) Q (fun _ _ => False) { s with heap := h, toks := tk }) :
    (hd.heap_39 w.params).In h₀ → wpAny (model Challenge.rw_wr0030_01.row.prog w) (lawA L a ccd) (execs ((bodyAt 19).drop 13) (lawEnv L a ccd)) Q (fun _ _ => False) s := by
  k_fill
  intro X
  unfold lawA lawEnv
  conv in (occs := *) (scopeAt 19) => all_goals whnf
  show wpAny _ _ (execs (_ :: _) _) _ _ _
  dsimp only [led2, led, List.cons_append, List.nil_append] at N
  k_steps
  unfold Stop
  with_reducible apply For_turns
  case _F => with_unfolding_all exact F
  case hs => (intro _; with_unfolding_all rfl)
  k_steps
  unfold Stop
  rename Fr _ _ _ _ => F5
  rename News _ _ _ _ => N5
  refine zip_loop (fun _ => KO (nm7 b1 b2 wr x0 x1 wl u0 u1 u2 D n tn)) (by rfl) F5 N5 (l1 := wl) (o1 := strsOf ws c) (by k_mem) rfl rfl (l2 := wr) (o2 := strsOf qs cq) (by k_mem) rfl rfl (nmO_start _) ?t1 ?d1
  case t1 =>
    clear F5 N5
    rintro i x y T1 h tk m own hx hy ⟨uq, v2, c0, c1, c2, c3, up, v1, rfl⟩ hT F N
    simp only [List.cons_append] at N ⊢
    obtain ⟨w1, t1, t3, rfl, rfl, g1⟩ := zip_words hqs hgood hx hy
    k_steps
    unfold Stop
    rename Fr _ _ _ _ => F5
    rename News _ _ _ _ => N5
    replace F5 := fr_eq F5 (nmO_outer _ _ _ _ _ _ _ _ _ _ _)
    with_reducible apply For_turns
    case _F => with_unfolding_all exact F5
    case hs => (intro _; with_unfolding_all rfl)
    k_steps
    unfold Stop
    rename Fr _ _ _ _ => F6
    rename News _ _ _ _ => N6
    refine zip_loop (fun _ => KI (some (.str (S (escL n w1)) t3)) (some (.str (S w1) t1)) (nm7 b1 b2 wr x0 x1 wl u0 u1 u2 D n tn)) (by rfl) F6 N6 (l1 := wl) (o1 := strsOf ws c) (by k_mem) rfl rfl (l2 := wr) (o2 := strsOf qs cq) (by k_mem) rfl rfl (KI.start _ _ _ _ _ _ _ _ _) ?t2 ?d2
    case t2 =>
      clear F6 N6
      rintro j x' y' T2 h' tk' m' own' hx' hy' ⟨uq, v2, c0, c1, c2, c3, rfl⟩ hT2 F N
      simp only [List.cons_append] at N ⊢
      obtain ⟨w2, t2, t4, rfl, rfl, g2⟩ := zip_words hqs hgood hx' hy'
      k_steps
      unfold Stop
      rename Fr _ _ _ _ => F7
      rename News _ _ _ _ => N7
      replace F7 := fr_eq F7 (nmO_inner _ _ _ _ _ _ _ _ _ _ _)
      refine wpAny_mono (pair_body (own := own ++ own') Z hgood hwl hqs g1 g2 B F7 T N7 X) (fun f s₃ p => ?_) fun _ _ e => e
      obtain ⟨hf, h'', tk'', m', big, rfl, F8, N8, hs, c0', c1', c2', c3', rfl⟩ := p
      exact ⟨hf, h'', tk'', _, big, rfl, F8, N8, hs, _, _, c0', c1', c2', c3', rfl⟩
    case d2 =>
      clear F6 N6
      rintro m h2 tk2 ⟨uq, v2, c0, c1, c2, c3, rfl⟩ F N
      k_steps
      rename Fr _ _ _ _ => F7
      rename News _ _ _ _ => N7
      refine fpost F7 N7 (fun p hp => hp) ⟨_, _, _, _, _, _, _, _, rfl⟩
  case d1 =>
    clear F5 N5
    rintro m h tk ⟨uq, v2, c0, c1, c2, c3, up, v1, rfl⟩ F N
    exact next uq v2 c0 c1 c2 c3 up v1 h tk F N
end Mine
end
theorem Mine.rest_U8 {prog : PySem.Program} {w : PySem.World} {A : PySem.Around} {E : PySem.Value → PySem.Shared → Prop} {s : PySem.Shared} {env : PySem.Env} : PySem.wpAny (PySem.model prog w) A (PySem.execs [] env) (fun _ _ => True) E s := by
  w_top off
  first | (walk1; trivial) | exact PySem.wpAny_execs_nil trivial
section
open PySem PySem.W PyProof.Rows
set_option Elab.async false
set_option maxRecDepth 100000
set_option maxHeartbeats 8000000
set_option linter.unusedVariables false
namespace Mine
local macro_rules | `(tactic| walk_at $k:str) => if ["exec For", "exec For Name Name cons nil", "exec For Name Name", "pyIter ref", "last pyIter ref", "call ref", "call builtin:str.join"].contains k.getString then `(tactic| (k_here; k_dflt (refine stop_it ?_))) else Lean.Macro.throwUnsupported
local macro_rules | `(tactic| walk_at "storeName") => `(tactic| (k_here; (with_reducible show wpAny _ _ (storeName _ (PySem.Str.ofString "less") _) _ _ _); k_dflt (refine stop_it ?_)))
noncomputable def KL (base m : Str → Option Value) : Prop := ∃ v u, m = fun y : Str => if y = "less" then v else if y = "r" then u else base y
theorem KL.start (base : Str → Option Value) : KL base base := ⟨base "less", base "r", funext fun y => by
  by_cases h1 : y = "less"
  · rw [if_pos h1, h1]
  by_cases h2 : y = "r"
  · rw [if_neg h1, if_pos h2, h2]
  rw [if_neg h1, if_neg h2]⟩
theorem KL.again (base : Str → Option Value) (v u v' u' : Option Value) : KL base (fun y : Str => if y = "less" then v' else (fun y : Str => if y = "r" then u' else (fun y : Str => if y = "less" then v else if y = "r" then u else base y) y) y) := ⟨v', u', funext fun y => by
  by_cases h1 : y = "less"
  · simp only [if_pos h1]
  by_cases h2 : y = "r"
  · simp only [if_neg h1, if_pos h2]
  simp only [if_neg h1, if_neg h2]⟩
theorem less_eq {l : List Nat} (h : 5 ≤ l.length) : (Txt.slice (S l) none (some 4) ++ Txt.slice (S l) (some 5) none) = S (lessL l) := by
  rw [sl_to l (a := 4) (j := 4) rfl (by omega), sl_from l (a := 5) (i := 5) rfl (by omega), app_of]
  rfl
theorem law_8 {w : World} {mean : ExcName → Option Value} {mg mb : Str → Option Value} {h₀ : Heap} {s : Shared} {L a : Addr} {ccd : Value} {n : Nat} {D d Sg' wl wr : Addr} {od o2 o3 o4 : Obj} {ts : Nat → Tok} {sg : List (Nat × Tok)} {cS c cq : Nat} {ys : List Value} {ks : List Int} {ws qs : List (List Nat × Tok)} {b1 b2 x0 x1 u0 u1 u2 uq v2 c0 c1 c2 c3 up v1 : Option Value} {tn : Tok} {Q : Flow → Shared → Prop}
    (Z : LF w n L D d Sg' od o2 o3 o4 ts sg ys ks) (hgood : ∀ p ∈ ws, Good n p.1) (hqs : qs.map (·.1) = (ws.map fun p => escL n p.1))
    (B : Below callerA h₀ [] h₀) (F : Fr h₀ L s.heap (nmO uq v2 c0 c1 c2 c3 up v1 (nm7 b1 b2 wr x0 x1 wl u0 u1 u2 D n tn))) (T : Top hd.view_39 (looseW hd.view_39 []) mean mg mb h₀)
    (N : News h₀ L s.heap (led2 wl wr ws qs c cq L D d Sg' od o2 o3 o4 sg cS ys))
    (next : ∀ m h tk, Fr h₀ L h m → Q (.ret (.bool true)) { s with heap := h, toks := tk }) :
    (hd.heap_39 w.params).In h₀ → wpAny (model Challenge.rw_wr0030_01.row.prog w) (lawA L a ccd) (execs ((bodyAt 19).drop 14) (lawEnv L a ccd)) Q (fun _ _ => False) s := by
  k_fill
  intro X
  unfold lawA lawEnv
  conv in (occs := *) (scopeAt 19) => all_goals whnf
  show wpAny _ _ (execs (_ :: _) _) _ _ _
  dsimp only [led2, led, List.cons_append, List.nil_append] at N
  have zn := Z.hn
  k_steps
  unfold Stop
  with_reducible apply For_turns
  case _F => with_unfolding_all exact F
  case hs => (intro _; with_unfolding_all rfl)
  k_steps
  unfold Stop
  rename Fr _ _ _ _ => F5
  rename News _ _ _ _ => N5
  refine list_loop KL (by rfl) F5 N5 (l := wr) (o := strsOf qs cq) (by k_mem) rfl rfl (KL.start _) ?t1 ?d1
  case t1 =>
    rintro v h tk m own hv ⟨u, u', rfl⟩ F N
    obtain ⟨w3, t, rfl, g3⟩ : ∃ w3 t, v = .str (S (escL n w3)) t ∧ Good n w3 := by
      obtain ⟨q, hq, rfl⟩ := List.mem_map.mp hv
      have hm : q.1 ∈ qs.map (·.1) := List.mem_map.mpr ⟨q, hq, rfl⟩
      rw [hqs] at hm
      obtain ⟨p, hp, he⟩ := List.mem_map.mp hm
      exact ⟨p.1, q.2, by rw [he], hgood p hp⟩
    have l5 : (S (escL n w3)).length ≤ 54 := by rw [S_len]; exact (good_pos zn g3).2
    clear F5 N5
    simp only [List.cons_append] at N ⊢
    have q3 := good_pos zn g3
    have l6 : (S (lessL (escL n w3))).length ≤ 54 := by
      rw [S_len]
      unfold lessL
      rw [List.length_append, List.length_take, List.length_drop]; omega
    have hE1 := want5 zn g3
    have hE2 := want6 zn g3
    rw [← x_m] at hE2
    k_steps
    unfold Stop
    rename Fr _ _ _ _ => F5
    rename News _ _ _ _ => N5
    rw [less_eq (by omega)]
    refine storeX_L F5 N5 ?_ (by rfl) (by rfl)
    intro h6 F6 N6
    clear F5 N5
    k_steps
    unfold Stop
    rename Fr _ _ _ _ => F5
    rename News _ _ _ _ => N5
    refine join_v [(S (escL n w3), _), (S (escL n w3), _)] N5 (List.mem_cons_self ..) rfl rfl ?_ (Nat.le_of_ble_eq_true rfl) dots_len ?_
    · intro p hp
      simp only [List.mem_cons, List.not_mem_nil, or_false] at hp
      rcases hp with rfl | rfl
      · exact Nat.le_trans l5 (by decide)
      · exact Nat.le_trans l5 (by decide)
    intro tj kj
    rw [x_j, show (([(S (escL n w3), _), (S (escL n w3), _)] : List (Str × Tok)).map (·.1)) = [S (escL n w3), S (escL n w3)] from rfl]
    k_steps
    unfold Stop
    rename Fr _ _ _ _ => F5
    rename News _ _ _ _ => N5
    refine' hE1 w mean mg mb _ _ _ _ _ _ _ _ _ _ _ _ _ _ _ _ _ _ _ _ B F5 X N5 T ?k True.intro ?d ?u ?_
    case k => exact rfl
    case d => ktr_room
    case u => ktr_units
    intro h9 tk9 F9 N9
    k_steps
    unfold Stop
    rename Fr _ _ _ _ => F5
    rename News _ _ _ _ => N5
    refine' hE2 w mean mg mb _ _ _ _ _ _ _ _ _ _ _ _ _ _ _ _ _ _ _ _ B F5 X N5 T ?k True.intro ?d ?u ?_
    case k => exact rfl
    case d => ktr_room
    case u => ktr_units
    intro h10 tk10 F10 N10
    k_steps
    · exact bneB rfl ‹(_ != _) = true›
    rename Fr _ _ _ _ => F5
    rename News _ _ _ _ => N5
    refine fpost F5 N5 ?_ (KL.again _ _ _ _ _)
    exact fun p hp => by repeat (first | exact hp | apply List.mem_cons_of_mem)
  case d1 =>
    clear F5 N5
    rintro m h tk ⟨u, u', rfl⟩ F N
    k_steps
    rename Fr _ _ _ _ => F5
    exact next _ _ _ F5
end Mine
end
theorem Mine.rest_U9 {prog : PySem.Program} {w : PySem.World} {A : PySem.Around} {E : PySem.Value → PySem.Shared → Prop} {s : PySem.Shared} {env : PySem.Env} : PySem.wpAny (PySem.model prog w) A (PySem.execs [] env) (fun _ _ => True) E s := by
  w_top off
  first | (walk1; trivial) | exact PySem.wpAny_execs_nil trivial
section
open PySem PySem.W PyProof.Rows
set_option Elab.async false
set_option maxRecDepth 100000
set_option maxHeartbeats 8000000
set_option linter.unusedVariables false
namespace Mine
theorem ring_len {n : Nat} {ks : List Int} (h : ks.length = 9) (u : Nat) : (ringOf n ks u).length = 9 := by unfold ringOf; rw [List.length_map, h]
theorem ring_sg (n : Nat) (ks : List Int) (u : Nat) : Sg n (ringOf n ks u) := by
  intro c hc
  obtain ⟨k, _, rfl⟩ := List.mem_map.mp hc
  exact sgn_at n (by omega)
theorem words_good {n : Nat} {ks : List Int} (h : ks.length = 9) {us : List Nat} : ∀ x ∈ wordsOf n ks us, Good n x := by
  intro x hx
  obtain ⟨u, _, hx⟩ := List.mem_flatMap.mp hx
  exact good_taken (ring_len h u) (ring_sg n ks u) x hx
theorem words_len {n : Nat} (hn : n < 5) {ks : List Int} (h : ks.length = 9) : (wordsOf n ks [1, 6, 36]).length ≤ 3 := by
  have one : ∀ u, (takenF n (ringOf n ks u) 9).length ≤ 1 := fun u => by
    rw [taken_len hn (ring_len h u) (ring_sg n ks u)]; split <;> omega
  have h1 := one 1
  have h6 := one 6
  have h36 := one 36
  unfold wordsOf
  simp only [List.flatMap_cons, List.flatMap_nil, List.append_nil, List.length_append]
  omega
theorem law_all {w : World} {mean : ExcName → Option Value} {mg mb : Str → Option Value} {h₀ : Heap} {s : Shared} {L a : Addr} {ccd : Value} {l : Addr} {vs : List Value} {ns : List Int} {o1 o2 o3 o4 o5 : Obj} {Q : Flow → Shared → Prop} {v2 v3 v4 v5 : Option Value}
    (B : Below callerA h₀ [] h₀) (F : Fr h₀ L s.heap fun _ => none) (T : Top hd.view_39 (looseW hd.view_39 []) mean mg mb h₀)
    (N : News h₀ L s.heap [(L + 5, o5), (L + 4, o4), (L + 3, o3), (L + 2, o2), (L + 1, o1)]) (d1 : o1.data = .cell (some (.ref l))) (c2 : o2.data = .cell v2) (c3 : o3.data = .cell v3) (c4 : o4.data = .cell v4) (c5 : o5.data = .cell v5)
    (hl : h₀.IsList l vs.toArray) (hi : IntsAre vs ns) (hn : ns.length ≤ 63) (X : (hd.heap_39 w.params).In h₀)
    (next : ∀ m h tk, Fr h₀ L h m → Q (.ret (.bool true)) { s with heap := h, gens := s.gens.push .finished, toks := tk }) :
    wpAny (model Challenge.rw_wr0030_01.row.prog w) (lawA L a ccd) (execs (bodyAt 19) (lawEnv L a ccd)) Q (fun _ _ => False) s := by
  refine law_1 B F T N d1 hl hi hn (fun D h tk ys ks hk9 hkb hi ne F N => ?_) X
  refine law_2 B F T N hk9 hkb hi ne.1 ne.2.1 ne.2.2.1 ne.2.2.2 c5 c4 c3 c2 (fun n d od sL cS sg o2' o3' o4' ts t h tk Z F N => ?_) X
  refine law_3 Z B F T N (fun u0 u1 u2 h tk F N => ?_) X
  have zn := Z.hn
  refine law_4 Z (fun u _ => taken_len zn (ring_len hk9 u) (ring_sg n ks u)) B F T N c5 (fun wl ws c x0 x1 h tk hws F N => ?_) X
  have hgood : ∀ p ∈ ws, Good n p.1 := fun p hp => words_good hk9 (us := [1, 6, 36]) p.1 (by rw [← hws]; exact List.mem_map.mpr ⟨p, hp, rfl⟩)
  have hwl : ws.length ≤ 3 := by
    have := words_len zn hk9
    rw [← hws, List.length_map] at this
    exact this
  have hw9 : ∀ p ∈ ws, p.1.length = 9 := fun p hp => (hgood p hp).len
  have hsg : ∀ p ∈ ws, ∀ x ∈ p.1, x ∈ sgn n := fun p hp => (hgood p hp).sg
  refine law_5 Z hw9 hwl hsg ?_ (esc_flat n) ?_ B F T N (fun wr qs cq h tk hqs F N => ?_) X
  · intro p hp x hx
    rw [esc_flat] at hx
    obtain ⟨c, hc, hx⟩ := List.mem_flatMap.mp hx
    obtain ⟨_, _, _, _, _, _, _, _, h128⟩ := sp_form zn (hsg p hp c hc)
    exact h128 x hx
  · intro p hp x hx
    have := (esc_len zn (w := [x]) (fun y hy => by rw [List.mem_singleton.mp hy]; exact hsg p hp x hx)).2
    simpa using this
  refine law_6 Z hw9 hwl hsg hqs B F T N (fun v1 v2 h tk F N => ?_) X
  refine law_7 Z hgood hwl hqs B F T N (fun uq v2 c0 c1 c2 c3 up v1 h tk F N => ?_) X
  refine law_8 Z hgood hqs B F T N (fun m h tk F => ?_) X
  exact next m h tk F
end Mine
end
theorem Mine.rest_U10 {prog : PySem.Program} {w : PySem.World} {A : PySem.Around} {E : PySem.Value → PySem.Shared → Prop} {s : PySem.Shared} {env : PySem.Env} : PySem.wpAny (PySem.model prog w) A (PySem.execs [] env) (fun _ _ => True) E s := by
  w_top off
  first | (walk1; trivial) | exact PySem.wpAny_execs_nil trivial
section
open PySem PySem.W PyProof.Rows
set_option Elab.async false
set_option maxRecDepth 100000
set_option maxHeartbeats 8000000
set_option linter.unusedVariables false
namespace Mine
theorem fin : Challenge.rw_wr0030_01.Holds := Mine.hd (by
  w_strict (
    k_fill
    intro w s₀ s₁ mg mb G Y fa o pm cd doc dV kV ho hd hcd hD hmg hg args vals as hpre hlay hrd hwl hlo
    have KX := kIn_of Y
    have X := (Ground.X G).1
    have V := (Ground.X G).2
    refine Ground.open G ?_
    intro T B D TE TW
    try (refine guard_noD D (by decide +kernel) ?_; clear D)
    obtain ⟨_, _, M⟩ := bmod_of_top T
    have TA := at_of_top T
    try (obtain ⟨_, _, he, B0⟩ := based_of_top T rfl hmg ho hd; have he' : cd = _ := he; subst he'; clear he)
    clear hmg
    wrow_args hpre hlay hrd hwl hlo
    all_goals (
      first | refine callC_kw (enter_call ?_) | refine enter_call ?_ | refine callC_kw (enter_callW ?_) | refine enter_callW ?_ | w_how
      w_top on
      have K0 := below_caller (Top.heap T)
      w_call any ho hd hcd hD T F
      clear hd TA
      k_drop
      skip)
    refine wpAny_noRaise ?_
    rename Fr _ _ _ _ => Fz
    rename News _ _ _ _ => Nz
    refine law_all (v2 := none) (v3 := none) (v4 := none) (v5 := none) K0 (fr_eq Fz ?hf) T Nz ?d1 ?c2 ?c3 ?c4 ?c5 ‹Heap.IsList _ _ _› ‹IntsAre _ _› ?hn KX ?next
    case hf => rfl
    case d1 => assumption
    case c2 => assumption
    case c3 => assumption
    case c4 => assumption
    case c5 => assumption
    case hn => omega
    case next =>
      intro m h tk F
      refine ⟨.inl ⟨_, _, [], rfl, fun _ => rfl, ReadsW.bool true, ?hp, fun _ => ⟨List.nodup_nil, fun _ hm => (nomatch hm)⟩⟩, .of_keep F.keep, rfl, AllBare.push (.of_eq hg) rfl⟩
      case hp => first | rfl | wrow_post))
end Mine
end
theorem Mine.rest_U11 {prog : PySem.Program} {w : PySem.World} {A : PySem.Around} {E : PySem.Value → PySem.Shared → Prop} {s : PySem.Shared} {env : PySem.Env} : PySem.wpAny (PySem.model prog w) A (PySem.execs [] env) (fun _ _ => True) E s := by
  w_top off
  first | (walk1; trivial) | exact PySem.wpAny_execs_nil trivial
open PySem PySem.W PyProof.Rows
theorem PySem.Challenge.cw_wr0030_01_holds : PySem.Challenge.rw_wr0030_01.Holds := by
  exact Mine.fin
