import PyProof.Rows.All
import Wide.All
import OpenK.AllK
import Wide.FinOn
import PySem.Challenge.RW_mr0282_02
open PySem PySem.W PyProof.Rows PySem.Calls PySem.Spec
set_option Elab.async false
set_option maxRecDepth 100000
set_option maxHeartbeats 0
set_option linter.all false
set_option rowWalk.seconds 0
set_option compiler.extract_closed false
set_option genSizeOf false
set_option genInjectivity false
local macro_rules | `(tactic| walk_at $s:str) => `(tactic| k_extra $s)
namespace Mine
def autoA : Lean.Syntax := (Lean.Unhygienic.run `(Lean.Parser.Tactic.tacticSeq| rfl)).raw
def autoB : Lean.Syntax := (Lean.Unhygienic.run `(Lean.Parser.Tactic.tacticSeq| intro _; rfl)).raw
def autoC : Lean.Syntax := (Lean.Unhygienic.run `(Lean.Parser.Tactic.tacticSeq| decide)).raw
def autoD : Lean.Syntax := (Lean.Unhygienic.run `(Lean.Parser.Tactic.tacticSeq| intro _ _; rfl)).raw
def autoE : Lean.Syntax := (Lean.Unhygienic.run `(Lean.Parser.Tactic.tacticSeq| with_unfolding_all rfl)).raw
def autoF : Lean.Syntax := (Lean.Unhygienic.run `(Lean.Parser.Tactic.tacticSeq| intro _; with_unfolding_all rfl)).raw
end Mine
namespace Mine
set_option maxHeartbeats 0
noncomputable def viewq : Program := { PySem.Challenge.pw_mr0282_02 with main := { PySem.Challenge.pw_mr0282_02.main with body := ((PySem.Challenge.pw_mr0282_02.main.body.eraseIdx 9).eraseIdx 7).eraseIdx 1 } }
noncomputable def xtq : Shared → Bool := fun s => xlAt Mine.viewq [] s && recOk (RowW.records (PySem.Challenge.rw_mr0282_02.row.toRowW)) s
theorem holdX (H : Hook) {d : DefRec} {kwd : List (Str × PySem.Expr)} (k1 : PySem.Challenge.rw_mr0282_02.row.wellSaid = true) (hl : LeftO PySem.Challenge.rw_mr0282_02.row.prog viewq [PySem.Str.ofString "_NodeInfo"] xtq H.obs H.val 2632)
    (hdef : defOf viewq PySem.Challenge.rw_mr0282_02.row.name = some (d, kwd)) (hp : PySem.Challenge.rw_mr0282_02.row.prog.theDef PySem.Challenge.rw_mr0282_02.row.name = some (d.params, d.body, d.scope)) (hk : kwWritten? d.params.kwonlyargs d.params.kw_defaults = some kwd)
    (hw : PySem.Challenge.rw_mr0282_02.row.toRowW.promised) (hc : WalkO viewq [PySem.Str.ofString "_NodeInfo"] (XL Mine.viewq []) H.says PySem.Challenge.rw_mr0282_02.row.toRowW d kwd fun f vs => PySem.call f vs) : PySem.Challenge.rw_mr0282_02.row.Holds :=
  holds_open (q := viewq) (Xt := xtq) hl H.of H.keeps (fun s e => xl_of s (Bool.and_eq_true_iff.mp e).1) XL.keeps hdef hp hk (fun s e => recFacts_of (Bool.and_eq_true_iff.mp e).2) (by first | rfl | fail "x") k1 (by decide +kernel) ⟨rfl, rfl, rfl, rfl, rfl, by decide +kernel⟩ hw hc
local macro_rules | `(tactic| o_head $H) => `(tactic| (refine holdX $H (by assumption) ?hl (by rfl) (by rfl) (by rfl) ?hw ?hc; (case hl => (intro w; kernel_rfl))))
local macro_rules | `(tactic| o_law) => `(tactic| refine holds_law (by decide +kernel) fun said => ?_)
open_top hd for PySem.Challenge.rw_mr0282_02
end Mine
namespace Mine
theorem and2 {a1 a2 g : Prop} (h : a1 ∧ a2) (k : a1 → a2 → g) : g := k h.1 h.2
theorem and3 {a1 a2 a3 g : Prop} (h : a1 ∧ a2 ∧ a3) (k : a1 → a2 → a3 → g) : g := k h.1 h.2.1 h.2.2
theorem and4 {a1 a2 a3 a4 g : Prop} (h : a1 ∧ a2 ∧ a3 ∧ a4) (k : a1 → a2 → a3 → a4 → g) : g := k h.1 h.2.1 h.2.2.1 h.2.2.2
theorem and5 {a1 a2 a3 a4 a5 g : Prop} (h : a1 ∧ a2 ∧ a3 ∧ a4 ∧ a5) (k : a1 → a2 → a3 → a4 → a5 → g) : g := k h.1 h.2.1 h.2.2.1 h.2.2.2.1 h.2.2.2.2
theorem and6 {a1 a2 a3 a4 a5 a6 g : Prop} (h : a1 ∧ a2 ∧ a3 ∧ a4 ∧ a5 ∧ a6) (k : a1 → a2 → a3 → a4 → a5 → a6 → g) : g := k h.1 h.2.1 h.2.2.1 h.2.2.2.1 h.2.2.2.2.1 h.2.2.2.2.2
theorem and7 {a1 a2 a3 a4 a5 a6 a7 g : Prop} (h : a1 ∧ a2 ∧ a3 ∧ a4 ∧ a5 ∧ a6 ∧ a7) (k : a1 → a2 → a3 → a4 → a5 → a6 → a7 → g) : g := k h.1 h.2.1 h.2.2.1 h.2.2.2.1 h.2.2.2.2.1 h.2.2.2.2.2.1 h.2.2.2.2.2.2
theorem and8 {a1 a2 a3 a4 a5 a6 a7 a8 g : Prop} (h : a1 ∧ a2 ∧ a3 ∧ a4 ∧ a5 ∧ a6 ∧ a7 ∧ a8) (k : a1 → a2 → a3 → a4 → a5 → a6 → a7 → a8 → g) : g := k h.1 h.2.1 h.2.2.1 h.2.2.2.1 h.2.2.2.2.1 h.2.2.2.2.2.1 h.2.2.2.2.2.2.1 h.2.2.2.2.2.2.2
theorem and9 {a1 a2 a3 a4 a5 a6 a7 a8 a9 g : Prop} (h : a1 ∧ a2 ∧ a3 ∧ a4 ∧ a5 ∧ a6 ∧ a7 ∧ a8 ∧ a9) (k : a1 → a2 → a3 → a4 → a5 → a6 → a7 → a8 → a9 → g) : g := k h.1 h.2.1 h.2.2.1 h.2.2.2.1 h.2.2.2.2.1 h.2.2.2.2.2.1 h.2.2.2.2.2.2.1 h.2.2.2.2.2.2.2.1 h.2.2.2.2.2.2.2.2
theorem and10 {a1 a2 a3 a4 a5 a6 a7 a8 a9 a10 g : Prop} (h : a1 ∧ a2 ∧ a3 ∧ a4 ∧ a5 ∧ a6 ∧ a7 ∧ a8 ∧ a9 ∧ a10) (k : a1 → a2 → a3 → a4 → a5 → a6 → a7 → a8 → a9 → a10 → g) : g := k h.1 h.2.1 h.2.2.1 h.2.2.2.1 h.2.2.2.2.1 h.2.2.2.2.2.1 h.2.2.2.2.2.2.1 h.2.2.2.2.2.2.2.1 h.2.2.2.2.2.2.2.2.1 h.2.2.2.2.2.2.2.2.2
theorem and11 {a1 a2 a3 a4 a5 a6 a7 a8 a9 a10 a11 g : Prop} (h : a1 ∧ a2 ∧ a3 ∧ a4 ∧ a5 ∧ a6 ∧ a7 ∧ a8 ∧ a9 ∧ a10 ∧ a11) (k : a1 → a2 → a3 → a4 → a5 → a6 → a7 → a8 → a9 → a10 → a11 → g) : g := k h.1 h.2.1 h.2.2.1 h.2.2.2.1 h.2.2.2.2.1 h.2.2.2.2.2.1 h.2.2.2.2.2.2.1 h.2.2.2.2.2.2.2.1 h.2.2.2.2.2.2.2.2.1 h.2.2.2.2.2.2.2.2.2.1 h.2.2.2.2.2.2.2.2.2.2
theorem and12 {a1 a2 a3 a4 a5 a6 a7 a8 a9 a10 a11 a12 g : Prop} (h : a1 ∧ a2 ∧ a3 ∧ a4 ∧ a5 ∧ a6 ∧ a7 ∧ a8 ∧ a9 ∧ a10 ∧ a11 ∧ a12) (k : a1 → a2 → a3 → a4 → a5 → a6 → a7 → a8 → a9 → a10 → a11 → a12 → g) : g := k h.1 h.2.1 h.2.2.1 h.2.2.2.1 h.2.2.2.2.1 h.2.2.2.2.2.1 h.2.2.2.2.2.2.1 h.2.2.2.2.2.2.2.1 h.2.2.2.2.2.2.2.2.1 h.2.2.2.2.2.2.2.2.2.1 h.2.2.2.2.2.2.2.2.2.2.1 h.2.2.2.2.2.2.2.2.2.2.2
theorem ex1 {t1 : Type} {p : t1 → Prop} {g : Prop} (h : ∃ x1, p x1) (k : ∀ x1, p x1 → g) : g := let ⟨x1, q⟩ := h; k x1 q
theorem ex2 {t1 t2 : Type} {p : t1 → t2 → Prop} {g : Prop} (h : ∃ x1 x2, p x1 x2) (k : ∀ x1 x2, p x1 x2 → g) : g := let ⟨x1, x2, q⟩ := h; k x1 x2 q
theorem ex3 {t1 t2 t3 : Type} {p : t1 → t2 → t3 → Prop} {g : Prop} (h : ∃ x1 x2 x3, p x1 x2 x3) (k : ∀ x1 x2 x3, p x1 x2 x3 → g) : g := let ⟨x1, x2, x3, q⟩ := h; k x1 x2 x3 q
theorem ex4 {t1 t2 t3 t4 : Type} {p : t1 → t2 → t3 → t4 → Prop} {g : Prop} (h : ∃ x1 x2 x3 x4, p x1 x2 x3 x4) (k : ∀ x1 x2 x3 x4, p x1 x2 x3 x4 → g) : g := let ⟨x1, x2, x3, x4, q⟩ := h; k x1 x2 x3 x4 q
theorem ex5 {t1 t2 t3 t4 t5 : Type} {p : t1 → t2 → t3 → t4 → t5 → Prop} {g : Prop} (h : ∃ x1 x2 x3 x4 x5, p x1 x2 x3 x4 x5) (k : ∀ x1 x2 x3 x4 x5, p x1 x2 x3 x4 x5 → g) : g := let ⟨x1, x2, x3, x4, x5, q⟩ := h; k x1 x2 x3 x4 x5 q
theorem ex6 {t1 t2 t3 t4 t5 t6 : Type} {p : t1 → t2 → t3 → t4 → t5 → t6 → Prop} {g : Prop} (h : ∃ x1 x2 x3 x4 x5 x6, p x1 x2 x3 x4 x5 x6) (k : ∀ x1 x2 x3 x4 x5 x6, p x1 x2 x3 x4 x5 x6 → g) : g := let ⟨x1, x2, x3, x4, x5, x6, q⟩ := h; k x1 x2 x3 x4 x5 x6 q
local macro_rules | `(tactic| omega) => `(tactic| k_extra "omega")
theorem rules_first : True := by
  k_with_none
  (k_with "omega" => lia)
  trivial
section
section
structure Stop (P : Prop) : Prop where
  out : P
abbrev Led := List (Addr × Obj)
def setL (l : Led) (d : Addr) (o : Obj) : Led := l.map fun p => if p.1 = d then (d, o) else p
theorem setL_keys (l : Led) (d : Addr) (o : Obj) : (setL l d o).map (·.1) = l.map (·.1) := by
  unfold setL
  rw [List.map_map]
  refine List.map_congr_left fun p _ => ?_
  by_cases h : p.1 = d
  · simp [h]
  · simp [h]
theorem setL_nodup {l : Led} {d : Addr} {o : Obj} (h : (l.map (·.1)).Nodup) : ((setL l d o).map (·.1)).Nodup := by rw [setL_keys]; exact h
theorem setL_of_ne {l : Led} {d : Addr} {o : Obj} (h : ∀ p ∈ l, p.1 ≠ d) : setL l d o = l := by
  unfold setL
  conv => rhs; rw [← List.map_id l]
  exact List.map_congr_left fun p hp => by simp [h p hp]
theorem mem_setL_self {l : Led} {d : Addr} {o o' : Obj} (h : (d, o) ∈ l) : (d, o') ∈ setL l d o' := by
  unfold setL
  exact List.mem_map.mpr ⟨_, h, by simp⟩
theorem mem_setL_ne {l : Led} {d b : Addr} {o o' : Obj} (hne : b ≠ d) (h : (b, o) ∈ l) : (b, o) ∈ setL l d o' := by
  unfold setL
  exact List.mem_map.mpr ⟨_, h, by simp [hne]⟩
theorem upd_setL {d : Addr} {o o' : Obj} : ∀ {l : Led}, (l.map (·.1)).Nodup → (d, o) ∈ l → Upd d o o' l (setL l d o')
  | [], _, h => nomatch h
  | p :: r, hn, h => by
    rw [List.map_cons, List.nodup_cons] at hn
    have hr : ∀ q ∈ r, q.1 ≠ p.1 := fun q hq e => hn.1 (by rw [← e]; exact List.mem_map_of_mem hq)
    rcases List.mem_cons.mp h with rfl | h
    · have e : setL ((d, o) :: r) d o' = (d, o') :: r := by
        show (if d = d then (d, o') else (d, o)) :: setL r d o' = _
        rw [if_pos rfl, setL_of_ne hr]
      rw [e]
      exact .head hr
    · have hne : p.1 ≠ d := fun e => hr _ h e.symm
      have e : setL (p :: r) d o' = p :: setL r d o' := by
        show (if p.1 = d then (d, o') else p) :: setL r d o' = _
        rw [if_neg hne]
      rw [e]
      exact .tail hne (upd_setL hn.2 h)
theorem updF_setL {d : Addr} {o : Obj} : ∀ {l : Led}, (l.map (·.1)).Nodup → (d, o) ∈ l → UpdF d o l (fun o' => setL l d o')
  | [], _, h => nomatch h
  | p :: r, hn, h => by
    rw [List.map_cons, List.nodup_cons] at hn
    have hr : ∀ q ∈ r, q.1 ≠ p.1 := fun q hq e => hn.1 (by rw [← e]; exact List.mem_map_of_mem hq)
    rcases List.mem_cons.mp h with rfl | h
    · have e : (fun o' => setL ((d, o) :: r) d o') = fun o' => (d, o') :: r := by
        funext o'
        show (if d = d then (d, o') else (d, o)) :: setL r d o' = _
        rw [if_pos rfl, setL_of_ne hr]
      rw [e]
      exact .head hr
    · have hne : p.1 ≠ d := fun e => hr _ h e.symm
      have e : (fun o' => setL (p :: r) d o') = fun o' => p :: setL r d o' := by
        funext o'
        show (if p.1 = d then (d, o') else p) :: setL r d o' = _
        rw [if_neg hne]
      rw [e]
      exact .tail hne (updF_setL hn.2 h)
theorem all_setL {l : Led} {d y : Addr} {o : Obj} (h : ∀ p ∈ l, p.1 ≠ y) : ∀ p ∈ setL l d o, p.1 ≠ y := fun p hp => by
  have : p.1 ∈ (setL l d o).map (·.1) := List.mem_map_of_mem hp
  rw [setL_keys] at this
  obtain ⟨q, hq, e⟩ := List.mem_map.mp this
  exact e ▸ h q hq
theorem allLt_iff {x : Nat} : ∀ {l : Led}, AllLt x l ↔ ∀ p ∈ l, p.1 < x
  | [] => ⟨fun _ _ h => (nomatch h), fun _ => trivial⟩
  | p :: r => ⟨fun h q hq => (List.mem_cons.mp hq).elim (fun e => e ▸ h.1) fun hq => allLt_iff.mp h.2 q hq, fun h => ⟨h p (.head _), allLt_iff.mpr fun q hq => h q (.tail _ hq)⟩⟩
theorem allLt_setL {x : Nat} {l : Led} {d : Addr} {o : Obj} : AllLt x (setL l d o) = AllLt x l := by
  apply propext
  rw [allLt_iff, allLt_iff]
  have key : ∀ a b : Led, a.map (·.1) = b.map (·.1) → (∀ p ∈ a, p.1 < x) → ∀ p ∈ b, p.1 < x := fun a b e h p hp => by
    have : p.1 ∈ a.map (·.1) := by rw [e]; exact List.mem_map_of_mem hp
    obtain ⟨q, hq, e'⟩ := List.mem_map.mp this
    exact e' ▸ h q hq
  exact ⟨key _ _ (setL_keys ..), key _ _ (setL_keys ..).symm⟩
theorem ne_of_allLt {x : Nat} {l : Led} (h : AllLt x l) : ∀ p ∈ l, p.1 ≠ x := fun p hp => Nat.ne_of_lt (allLt_iff.mp h p hp)
theorem ne_of_lt_mem {x b : Addr} {o : Obj} {l : Led} (h : AllLt x l) (hm : (b, o) ∈ l) : x ≠ b := fun e => ne_of_allLt h _ hm e.symm
theorem ne_of_lt_mem' {x b : Addr} {o : Obj} {l : Led} (h : AllLt x l) (hm : (b, o) ∈ l) : b ≠ x := fun e => ne_of_allLt h _ hm e
theorem allLt_mono {d x : Nat} (hx : d < x) {l : Led} (h : AllLt d l) : AllLt x l := allLt_iff.mpr fun p hp => Nat.lt_trans (allLt_iff.mp h p hp) hx
theorem allLt_append {x : Nat} {a b : Led} : AllLt x (a ++ b) = (AllLt x a ∧ AllLt x b) := by
  apply propext
  simp only [allLt_iff, List.mem_append]
  exact ⟨fun h => ⟨fun p hp => h p (.inl hp), fun p hp => h p (.inr hp)⟩, fun h p hp => hp.elim (h.1 p) (h.2 p)⟩
theorem news_nodup {h₀ h : Heap} {L : Addr} : ∀ {l : Led}, News h₀ L h l → ∃ l' : Led, (l'.map (·.1)).Nodup ∧ (∀ p, p ∈ l' ↔ p ∈ l) ∧ News h₀ L h l'
  | [], N => ⟨[], List.nodup_nil, fun _ => Iff.rfl, N⟩
  | p :: r, N => by
    refine ex1 (news_nodup (l := r) fun q hq => N q (.tail _ hq)) fun r' zz => and3 zz fun hn hm N' => ?_
    by_cases hp : p.1 ∈ r'.map (·.1)
    · obtain ⟨q, hq, e⟩ := List.mem_map.mp hp
      have h1 := (N' q hq).1
      have h2 := (N p (.head _)).1
      rw [e, h2] at h1
      have e2 : p = q := Prod.ext e.symm (Option.some.inj h1)
      refine ⟨r', hn, fun x => ⟨fun hx => .tail _ ((hm x).mp hx), fun hx => ?_⟩, N'⟩
      rcases List.mem_cons.mp hx with rfl | hx
      · exact e2 ▸ hq
      · exact (hm x).mpr hx
    · refine ⟨p :: r', ?_, fun x => ?_, fun x hx => ?_⟩
      · rw [List.map_cons, List.nodup_cons]; exact ⟨hp, hn⟩
      · rw [List.mem_cons, List.mem_cons, hm]
      · rcases List.mem_cons.mp hx with rfl | hx
        · exact N _ (.head _)
        · exact N' x hx
theorem news_sub {h₀ h : Heap} {L : Addr} {l l' : Led} (N : News h₀ L h l) (hs : ∀ p ∈ l', p ∈ l) : News h₀ L h l' := fun p hp => N p (hs p hp)
section
variable {prog : Program} {w : World} {K : Type} [DecidableEq K]
def KA (knd : KeyKind prog w K) : List Value → List K → Prop
  | [], [] => True
  | v :: vs, k :: ks => knd.is k v = true ∧ KA knd vs ks
  | _, _ => False
variable {knd : KeyKind prog w K}
theorem KA.length : ∀ {vs : List Value} {ks : List K}, KA knd vs ks → vs.length = ks.length
  | [], [], _ => rfl
  | _ :: _, _ :: _, h => by rw [List.length_cons, List.length_cons, KA.length h.2]
  | [], _ :: _, h => h.elim
  | _ :: _, [], h => h.elim
theorem KA.append : ∀ {vs vs' : List Value} {ks ks' : List K}, KA knd vs ks → KA knd vs' ks' → KA knd (vs ++ vs') (ks ++ ks')
  | [], _, [], _, _, h => h
  | _ :: _, _, _ :: _, _, h, h' => ⟨h.1, KA.append h.2 h'⟩
  | [], _, _ :: _, _, h, _ => h.elim
  | _ :: _, _, [], _, h, _ => h.elim
theorem KA.get : ∀ {vs : List Value} {ks : List K}, KA knd vs ks → ∀ {i : Nat} {k : K}, ks[i]? = some k → ∃ v, vs[i]? = some v ∧ knd.is k v = true
  | [], [], _, _, _, e => by cases e
  | v :: vs, k :: ks, h, i, k', e => by
    cases i with
    | zero => cases e; exact ⟨v, rfl, h.1⟩
    | succ i => exact KA.get h.2 (i := i) e
  | [], _ :: _, h, _, _, _ => h.elim
  | _ :: _, [], h, _, _, _ => h.elim
theorem KA.get' : ∀ {vs : List Value} {ks : List K}, KA knd vs ks → ∀ {i : Nat} {v : Value}, vs[i]? = some v → ∃ k, ks[i]? = some k ∧ knd.is k v = true
  | [], [], _, _, _, e => by cases e
  | v :: vs, k :: ks, h, i, k', e => by
    cases i with
    | zero => cases e; exact ⟨k, rfl, h.1⟩
    | succ i => exact KA.get' h.2 (i := i) e
  | [], _ :: _, h, _, _, _ => h.elim
  | _ :: _, [], h, _, _, _ => h.elim
theorem KA.single {v : Value} {k : K} (h : knd.is k v = true) : KA knd [v] [k] := ⟨h, trivial⟩
end
section
variable {prog : Program} {w : World} {A A₀ : Around} {s : Shared} {K : Frag} {L : Addr} {h₀ base : Heap} {m mg mb : Str → Option Value} {news : Led} {p : Program} {loose : List Str} {mean : ExcName → Option Value}
theorem enter_rest {env : Env} {outer : List Env} {R : Result → Shared → Prop} {name qual : Str} {params : Arguments} {body : List Stmt} {scope : Scope} {dV kV doc pm cdv ct oc : Value} {an od : Option Addr} {osl : Array (Option Value)} {f : Addr} {args : Args} {vs : List Value} {front : List (Str × Value)} {nm : Str}
    (B : Below A₀ base outer h₀) (F : Fr h₀ L s.heap m) (X₀ : K.In h₀) (N : News h₀ L s.heap news) (T : Top p loose mean mg mb h₀) (hA : A.frames = some (env :: outer)) (hf : env.frame = some L) (hke : env.scope.kind = .function)
    (ho : K.lookup f = some ⟨oc, od, .func (fnOf name qual params body scope dV kV doc pm an cdv ct), osl⟩) (hcd : codeIn K cdv qual = true) (hroom : A.depth < recursionLimit)
    (hb : bindArgs (fnOf name qual params body scope dV kV doc pm an cdv ct) args = (newTuple vs >>= fun t => pure (front ++ [(nm, t)]))) (hsz : vs.length ≤ sizeLine)
    (hloc : ∀ D, ∀ y ∈ front ++ [(nm, Value.ref D)], scope.names.lookup y.1 = some .local)
    (h : ∀ D g L' h₁, (∀ p ∈ news, p.1 < D) → Fr h₀ L g m → Fr g L' h₁ (fun y => (front ++ [(nm, Value.ref D)]).reverse.lookup y) → News g L' h₁ ((D, ({ cls := .type "tuple", data := .seq vs.toArray } : Obj)) :: news) → Below A base (env :: outer) g → K.In g → Top p loose mean mg mb g →
      wpAny (model prog w) (A.deeper (envOf qual scope L' f cdv)) (execs body (envOf qual scope L' f cdv))
        (fun fl s' => LeaveK h₀ L m g R (match fl with | .ret v => v | _ => .none) s')
        (fun e s' => wpAny (model prog w) (A.deeper (envOf qual scope L' f cdv)) (leaving (envOf qual scope L' f cdv) e) (fun _ s'' => R (.error e) s'') (fun e' s'' => R (.error e') s'') s')
        { s with heap := h₁, toks := s.toks + (front ++ [(nm, Value.ref D)]).length })
    (hco : scope.isCoroutine = false) (hgen : scope.isGenerator = false) (hk : scope.kind = .function)
    (hcell : ∀ x ∈ scope.names, x.2 ≠ .cell) : codeAny (model prog w) A (.call (.ref f) args) R s := by
  refine codeAny_call_function (fd := fnOf name qual params body scope dV kV doc pm an cdv ct) (body := body) hroom ((X₀.keeps F.keep) _ _ ho) rfl hco hgen rfl (codeRec_of (X₀.keeps F.keep) hcd) ?_
  rw [hb]
  refine wpAny_bind (newTuple_N F N (fun h' F' N' => wpAny_pure ?_) hsz)
  exact kp_frame (cl := []) (s := { s with heap := h' }) B F' N' T.nolimit hA hf hke (hloc _) (fun g L' h₁ FG FL NG BG st => h _ g L' h₁ (fun p hp => Heap.lt_size (N p hp).1) FG FL NG BG (X₀.keeps st) (T.keeps st)) hcell hk
end
def TurnEnd (h₀ : Heap) (L : Addr) (J : (Str → Option Value) → Led → Prop) (own : Led) (I : Addr) (s₁ s₂ : Shared) : Prop :=
  ∃ h' tk m' news', s₂ = { s₁ with heap := h', toks := tk } ∧ Fr h₀ L h' m' ∧ News h₀ L h' news' ∧ (∀ p ∈ own, p ∈ news') ∧ J m' (news'.filter fun p => p.1 != I)
def TurnPost (h₀ : Heap) (L : Addr) (J : (Str → Option Value) → Led → Prop) (own : Led) (I : Addr) (s₁ : Shared) (Q : Flow → Shared → Prop) (f : Flow) (s₂ : Shared) : Prop :=
  match f with
  | .ret v => Q (.ret v) s₂
  | .brk => Q .next s₂
  | _ => TurnEnd h₀ L J own I s₁ s₂
section
variable {prog : Program} {w : World} {A : Around} {s : Shared} {env : Env} {h₀ : Heap} {x : Str} {body : List Stmt} {Q : Flow → Shared → Prop} {E : Value → Shared → Prop} {m₀ : Str → Option Value} {news : Led}
theorem loop_walks {I : Addr} {fp : List Addr} {n : Nat} {P : Nat → Value → Prop} {St : Nat → Heap → Prop} {it0 : Obj} (J : Nat → (Str → Option Value) → Led → Prop)
    (W : Walks prog w A I fp [I] n P St) (hI : I = s.heap.objs.size) (hfp : ∀ b ∈ fp, b = I ∨ (b < s.heap.objs.size ∧ b ≠ env.locals)) (hst : St 0 (s.heap.push it0)) (hal : ∀ i h, St i h → ∃ o, h.get? I = some o)
    (F : Fr h₀ env.locals s.heap m₀) (N : News h₀ env.locals s.heap news) (hj : J 0 m₀ news)
    (turn : ∀ i v m₁ news₁ h tk own l, i < n → P i v → J i m₁ news₁ → St (i + 1) h → (∀ p ∈ news₁, p.1 ≠ I) → (∀ p ∈ own, p.1 ∈ fp) → (∃ o, (I, o) ∈ own) → Fr h₀ env.locals h (fun y => if y = x then some v else m₁ y) → (l.map (·.1)).Nodup → (∀ p, p ∈ l ↔ p ∈ own ∨ p ∈ news₁) → News h₀ env.locals h l →
      wpAny (model prog w) A (execs body env) (TurnPost h₀ env.locals (J (i + 1)) own I { s with heap := h, toks := tk } Q) E { s with heap := h, toks := tk })
    (done : ∀ m₁ news₁ h tk, J n m₁ news₁ → Fr h₀ env.locals h m₁ → News h₀ env.locals h news₁ → Q .next { s with heap := h, toks := tk }) :
    LoopAtV prog w A h₀ env x body Q E (.ref I) { s with heap := s.heap.push it0 } := by
  subst hI
  have fresh : h₀.get? s.heap.objs.size = none := by
    cases q : h₀.get? s.heap.objs.size with
    | none => rfl
    | some o => exact absurd (Heap.lt_size (F.keep _ _ q)) (Nat.lt_irrefl _)
  refine ⟨_, fp, _, n, P, St, m₀, news, fun i m₁ news₁ => J i m₁ news₁, rfl, W, ?_, ?_, ?_, hst, F.push _, (fun p hp => ⟨Heap.get?_push_of_some _ (N p hp).1, (N p hp).2⟩), hj, ?_, ?_⟩
  · intro hm
    rcases hfp _ hm with e | e
    · exact absurd F.ns.lt (e ▸ Nat.lt_irrefl _)
    · exact e.2 rfl
  · intro b hb
    rw [List.mem_singleton.mp hb]
    exact fresh
  · intro p hp hI
    exact absurd (Heap.lt_size (N p hp).1) ((List.mem_singleton.mp hI) ▸ Nat.lt_irrefl _)
  · rintro i v m₁ news₁ s₁ own ⟨hh', tk', rfl⟩ hin hP hJ hoff hown _ hall hst₁ F₁ N₁
    have hx : ∃ o, (s.heap.objs.size, o) ∈ own := by
      refine ex1 (hal _ _ hst₁) fun o ho => ?_
      exact ⟨o, hall _ (W.sub _ (List.mem_singleton.mpr rfl)) fresh o ho⟩
    refine ex1 (news_nodup N₁) fun l zz => and3 zz fun hnd hmm Nl => ?_
    refine wpAny_mono (turn i v m₁ news₁ hh' tk' own l hin hP hJ hst₁ (fun p hp e => hoff p hp (by rw [e]; exact List.mem_singleton.mpr rfl)) hown hx F₁ hnd (fun p => (hmm p).trans List.mem_append) Nl) (fun f s₂ p => ?_) fun _ _ e => e
    have fin : TurnEnd h₀ env.locals (J (i + 1)) own s.heap.objs.size { s with heap := hh', toks := tk' } s₂ → LoopStepU h₀ env.locals [s.heap.objs.size] own (J (i + 1)) { s with heap := hh', toks := tk' } .next s₂ := by
      rintro ⟨h', tk, m', news', e, F', N', hn, hm⟩
      refine ⟨rfl, h', tk, m', _, e, F', fun p hp => ?_, fun p hp => ?_, hm⟩
      · rcases List.mem_append.mp hp with q | q
        · exact N' p (hn p q)
        · exact N' p (List.mem_filter.mp q).1
      · intro q
        have := (List.mem_filter.mp hp).2
        rw [List.mem_singleton.mp q] at this
        simp at this
    cases f with
    | ret v => exact .ret p
    | brk => exact .brk p
    | next => exact .next (fin p)
    | cont => exact .cont (fin p)
  · rintro h' tk m' news' F' N' _ hJ
    exact done m' news' h' tk hJ F' N'
theorem iter_tuple {t : Addr} {vs : List Value} {n : Nat} (J : Nat → (Str → Option Value) → Led → Prop) (hh : A.handled = none) (hm : (t, ({ cls := .type "tuple", data := .seq vs.toArray n } : Obj)) ∈ news)
    (F : Fr h₀ env.locals s.heap m₀) (N : News h₀ env.locals s.heap news) (hj : J 0 m₀ news)
    (turn : ∀ I i v m₁ news₁ h tk own l, vs[i]? = some v → J i m₁ news₁ → (∀ p ∈ news₁, p.1 ≠ I) → (∀ p ∈ news, p.1 ≠ I) → (∀ p ∈ own, p.1 = I ∨ p.1 = t) → (∃ o, (I, o) ∈ own) → Fr h₀ env.locals h (fun y => if y = x then some v else m₁ y) → (l.map (·.1)).Nodup → (∀ p, p ∈ l ↔ p ∈ own ∨ p ∈ news₁) → News h₀ env.locals h l →
      wpAny (model prog w) A (execs body env) (TurnPost h₀ env.locals (J (i + 1)) own I { s with heap := h, toks := tk } Q) E { s with heap := h, toks := tk })
    (done : ∀ m₁ news₁ h tk, J vs.length m₁ news₁ → Fr h₀ env.locals h m₁ → News h₀ env.locals h news₁ → Q .next { s with heap := h, toks := tk }) :
    wpAny (model prog w) A (pyIter (.ref t)) (fun it s₂ => LoopAtV prog w A h₀ env x body Q E it s₂) E s := by
  have hx := N _ hm
  have ht : s.heap.IsTuple t vs.toArray := ⟨_, hx.1, rfl, n, rfl⟩
  have hlt : t < s.heap.objs.size := Heap.lt_size hx.1
  refine wpAny_pyIter_tuple ht ?_
  have W := Walks.tuple (prog := prog) (w := w) hh s.heap.objs.size t (Nat.ne_of_lt hlt) vs.toArray
  have hlen : vs.toArray.size = vs.length := by simp
  rw [hlen] at W
  refine loop_walks J W rfl ?_ ⟨⟨_, Heap.get?_push_size _ rfl, rfl, rfl⟩, ht.push _⟩ (fun _ _ x => let ⟨o, ho, _⟩ := x.1; ⟨o, ho⟩) F N hj ?_ done
  · intro b hb
    simp only [List.mem_cons, List.not_mem_nil, or_false] at hb
    rcases hb with rfl | rfl
    · exact .inl rfl
    · exact .inr ⟨hlt, hx.2.1⟩
  · intro i v m₁ news₁ h tk own l hi hP hJ hst₁ h1 h2 h3 F₁ h4 h5 N₁
    exact turn _ i v m₁ news₁ h tk own l (by simpa using hP) hJ h1 (fun p hp e => Nat.lt_irrefl _ (e ▸ Heap.lt_size (N p hp).1)) (fun p hp => by simpa using h2 p hp) h3 F₁ h4 h5 N₁
theorem iter_list {t : Addr} {vs : List Value} {n : Nat} (J : Nat → (Str → Option Value) → Led → Prop) (hh : A.handled = none) (hm : (t, W.listOf vs.toArray n) ∈ news)
    (F : Fr h₀ env.locals s.heap m₀) (N : News h₀ env.locals s.heap news) (hj : J 0 m₀ news)
    (turn : ∀ I i v m₁ news₁ h tk own l, vs[i]? = some v → J i m₁ news₁ → (∀ p ∈ news₁, p.1 ≠ I) → (∀ p ∈ news, p.1 ≠ I) → (∀ p ∈ own, p.1 = I ∨ p.1 = t) → (∃ o, (I, o) ∈ own) → (∀ p ∈ own, p.1 = t → p.2.cls = .type "list") → Fr h₀ env.locals h (fun y => if y = x then some v else m₁ y) → (l.map (·.1)).Nodup → (∀ p, p ∈ l ↔ p ∈ own ∨ p ∈ news₁) → News h₀ env.locals h l →
      wpAny (model prog w) A (execs body env) (TurnPost h₀ env.locals (J (i + 1)) own I { s with heap := h, toks := tk } Q) E { s with heap := h, toks := tk })
    (done : ∀ m₁ news₁ h tk, J vs.length m₁ news₁ → Fr h₀ env.locals h m₁ → News h₀ env.locals h news₁ → Q .next { s with heap := h, toks := tk }) :
    wpAny (model prog w) A (pyIter (.ref t)) (fun it s₂ => LoopAtV prog w A h₀ env x body Q E it s₂) E s := by
  have hx := N _ hm
  have ht : s.heap.IsList t vs.toArray := ⟨_, hx.1, rfl, n, rfl⟩
  have hlt : t < s.heap.objs.size := Heap.lt_size hx.1
  refine wpAny_pyIter_list ht ?_
  have W := Walks.list (prog := prog) (w := w) hh s.heap.objs.size t (Nat.ne_of_lt hlt) vs.toArray
  have hlen : vs.toArray.size = vs.length := by simp
  rw [hlen] at W
  refine loop_walks J W rfl ?_ ⟨⟨_, Heap.get?_push_size _ rfl, rfl, rfl⟩, ht.at fun o e => Heap.get?_push_of_some _ e⟩ (fun _ _ x => let ⟨o, ho, _⟩ := x.1; ⟨o, ho⟩) F N hj ?_ done
  · intro b hb
    simp only [List.mem_cons, List.not_mem_nil, or_false] at hb
    rcases hb with rfl | rfl
    · exact .inl rfl
    · exact .inr ⟨hlt, hx.2.1⟩
  · intro i v m₁ news₁ h tk own l hi hP hJ hst₁ h1 h2 h3 F₁ h4 h5 N₁
    exact turn _ i v m₁ news₁ h tk own l (by simpa using hP) hJ h1 (fun p hp e => Nat.lt_irrefl _ (e ▸ Heap.lt_size (N p hp).1)) (fun p hp => by simpa using h2 p hp) h3 (fun p hp e => by
      refine ex1 hst₁.2 fun o zz => and3 zz fun ho hc _ => ?_
      have := (N₁ p ((h5 p).mpr (.inl hp))).1
      rw [e, ho] at this
      rw [← Option.some.inj this]; exact hc) F₁ h4 h5 N₁
end
theorem ov {m : Str → Option Value} {x : Str} {v : Value} (h : m x = some v) : m = fun y => if y = x then some v else m y := by
  funext y
  by_cases e : y = x
  · rw [if_pos e, e, h]
  · rw [if_neg e]
section
variable {prog : Program} {w : World} {A : Around} {E : Value → Shared → Prop} {s : Shared} {h₀ : Heap} {L t : Addr} {news : Led} {vs : List Value} {n : Nat}
theorem len_tupN {Q : Value → Shared → Prop} (N : News h₀ L s.heap news) (hm : (t, ({ cls := .type "tuple", data := .seq vs.toArray n } : Obj)) ∈ news) (hz : vs.length ≤ 1000000)
    (h : Q (.int vs.length (s.toks + 1)) { s with toks := s.toks + 1 + 1 }) : wpAny (model prog w) A (call (.builtin "len") [.ref t]) Q E s :=
  PyProof.Rows.len_tuple (items := vs.toArray) ⟨_, (N _ hm).1, rfl, n, rfl⟩ (by rw [List.size_toArray]; omega) (by rw [List.size_toArray]; exact h)
theorem len_listN {Q : Value → Shared → Prop} (N : News h₀ L s.heap news) (hm : (t, W.listOf vs.toArray n) ∈ news) (hz : vs.length ≤ 1000000)
    (h : Q (.int vs.length (s.toks + 1)) { s with toks := s.toks + 1 + 1 }) : wpAny (model prog w) A (call (.builtin "len") [.ref t]) Q E s :=
  PyProof.Rows.len_list (items := vs.toArray) ⟨_, (N _ hm).1, rfl, n, rfl⟩ (by rw [List.size_toArray]; omega) (by rw [List.size_toArray]; exact h)
theorem truthy_listN {Q : Bool → Shared → Prop} (N : News h₀ L s.heap news) (hm : (t, W.listOf vs.toArray n) ∈ news) (hz : vs.length ≤ 1000000)
    (h : Q (!vs.isEmpty) { s with toks := s.toks + 1 + 1 }) : wpAny (model prog w) A (truthy (.ref t)) Q E s :=
  wpAny_truthy_list (items := vs.toArray) ⟨_, (N _ hm).1, rfl, n, rfl⟩ (by rw [List.size_toArray]; omega) (by
    have e : vs.toArray.isEmpty = vs.isEmpty := by cases vs <;> simp
    rw [e]; exact h)
theorem meets_bool_list (l : Addr) (items : Array Value) :
    Meets (Builtin.«bool.__new__» ⟨[.type "bool", .ref l], []⟩) (fun _ R s => s.heap.IsList l items ∧ (items.size : Int) < 2 ^ 63 ∧ R (.ok (.ret (.bool (!items.isEmpty)))) { s with toks := s.toks + 1 + 1 }) :=
  Meets.of_wp fun prog w A R s hs => by
    (refine and3 hs ?_; try clear hs; rintro h1 h2 hs)
    obtain ⟨hp, g, d, tk, os⟩ := s
    have f1 := F.conv_sub_bool
    repeat (any_goals (first | assumption | (with_reducible refine wpAny_truthy_list h1 h2 ?_) | wp_step))
    all_goals first | exact ⟨_, rfl, hs⟩ | exact hs | skip
theorem bool_listN {Q : Value → Shared → Prop} (N : News h₀ L s.heap news) (hm : (t, W.listOf vs.toArray n) ∈ news) (hz : vs.length ≤ 1000000)
    (h : Q (.bool (!vs.isEmpty)) { s with toks := s.toks + 1 + 1 }) : wpAny (model prog w) A (call (.type "bool") [.ref t]) Q E s := by
  have e : vs.toArray.isEmpty = vs.isEmpty := by cases vs <;> simp
  refine call_bool_1 (meets_bool_list t vs.toArray) ⟨⟨_, (N _ hm).1, rfl, n, rfl⟩, by rw [List.size_toArray]; omega, ?_⟩
  rw [e]
  exact ⟨rfl, h⟩
variable {m : Str → Option Value} {g : Obj → Led}
theorem tuple_ofListN {Q : Value → Shared → Prop} (F : Fr h₀ L s.heap m) (N : News h₀ L s.heap news) (hm : (t, W.listOf vs.toArray n) ∈ news) (hz : vs.length ≤ 1000000)
    (h : ∀ D h', Fr h₀ L h' m → News h₀ L h' ((D, ({ cls := .type "tuple", data := .seq vs.toArray } : Obj)) :: news) → (∀ p ∈ news, p.1 < D) → Q (.ref D) { s with heap := h' }) : wpAny (model prog w) A (call (.type "tuple") [.ref t]) Q E s := by
  refine call_tuple_list (items := vs.toArray) ⟨_, (N _ hm).1, rfl, n, rfl⟩ (fun h' hk => ?_) (by rw [List.size_toArray, sizeLine_eq]; omega)
  have F' : Fr h₀ L h' m := F.keeps hk
  have N' : News h₀ L h' news := fun p hp => ⟨hk _ _ (N p hp).1, (N p hp).2⟩
  exact h _ _ (F'.push _) (N'.push F' _) fun p hp => Heap.lt_size (N' p hp).1
theorem list_ofTupN {Q : Value → Shared → Prop} (F : Fr h₀ L s.heap m) (N : News h₀ L s.heap news) (hm : (t, ({ cls := .type "tuple", data := .seq vs.toArray n } : Obj)) ∈ news) (hz : vs.length ≤ 1000000)
    (h : ∀ D c h', Fr h₀ L h' m → News h₀ L h' ((D, W.listOf vs.toArray c) :: news) → (∀ p ∈ news, p.1 < D) → Q (.ref D) { s with heap := h' }) : wpAny (model prog w) A (call (.type "list") [.ref t]) Q E s :=
  list_copyKT (items := vs.toArray) F N ⟨_, (N _ hm).1, rfl, n, rfl⟩ h (by rw [List.size_toArray, sizeLine_eq]; omega)
theorem clear_listN {Q : Value → Shared → Prop} (F : Fr h₀ L s.heap m) (N : News h₀ L s.heap news) (U : UpdF t (W.listOf vs.toArray n) news g) (hz : vs.length ≤ 1000000)
    (h : ∀ h' n', Fr h₀ L h' m → News h₀ L h' (g (W.listOf ([] : List Value).toArray n')) → Q .none { s with heap := h' }) : wpAny (model prog w) A (call (.builtin "list.clear") [.ref t]) Q E s := by
  (refine ex2 U.split ?_; rintro pre post zz; refine and4 zz ?_; try clear zz; rintro rfl hg a c)
  have z := N (t, W.listOf vs.toArray n) (List.mem_append.mpr (.inr (.head _)))
  refine call_meets PySem.F.slot_list_clear ⟨_, z.1, rfl⟩ PySem.F.entry_list_clear (PySem.F.args_list_clear_1 _) (PySem.AutoSeq1.list_clear_list_0 t vs.toArray n (by rw [List.size_toArray, sizeLine_eq]; omega)) ⟨z.1, ?_⟩
  by_cases hv : vs = []
  · subst hv
    exact h _ n (F.change (Heap.SameBut.update ..) z.2.1 z.2.2) (by rw [hg]; exact kl_turn0 (fun _ => #[]) N a c rfl rfl)
  · have hne : (#[] : Array Value).size ≠ vs.toArray.size := fun q => hv (List.eq_nil_of_length_eq_zero (by simpa using q.symm))
    exact h _ (n + 1) (F.change (Heap.SameBut.update ..) z.2.1 z.2.2) (by rw [hg]; exact kl_turn (fun _ => #[]) N a c rfl hne)
end
theorem memG {l : Led} {d : Addr} {o : Obj} {p : Addr × Obj} (h : p ∈ setL l d o) : p ∈ setL l d o := h
theorem memS {l : Led} {d b : Addr} {o o' : Obj} (h : (b, o) ∈ l) (hn : b ≠ d) : (b, o) ∈ setL l d o' := mem_setL_ne hn h
end
end
section
section
abbrev NoExc : Value → Shared → Prop := fun _ _ => False
section
variable {prog : Program} {w : World} {A : Around} {s : Shared} {env : Env}
def Goes (I : Nat → Shared → Prop) (n : Nat) (Q : Flow → Shared → Prop) (f : Flow) (s : Shared) : Prop :=
  match f with
  | .next => ∃ m, m < n ∧ I m s
  | .cont => ∃ m, m < n ∧ I m s
  | .brk => Q .next s
  | .ret v => Q (.ret v) s
theorem while_inv {test : PySem.Expr} {body orelse : List Stmt} {pos : Pos} {Q : Flow → Shared → Prop} (I : Nat → Shared → Prop) (n : Nat) (h : I n s)
    (turn : ∀ n s, I n s → wpAny (model prog w) A (isTrue test env (eval test env)) (fun b s₂ =>
      if b then wpAny (model prog w) A (execs body env) (Goes I n Q) NoExc s₂
      else wpAny (model prog w) A (execs orelse env) Q NoExc s₂) NoExc s) :
    wpAny (model prog w) A (exec (.While test body orelse pos) env) Q NoExc s := by
  refine wpAny_While (codeAny_whileLoop I (fun n s hI => ?_) n h)
  refine wpAny_mono (turn n s hI) (fun b s₂ h₂ => ?_) fun _ _ x => x.elim
  cases b with
  | false =>
    simp only [Bool.false_eq_true, if_false] at h₂ ⊢
    exact wpAny_mono h₂ (fun _ _ x => x) fun _ _ x => x.elim
  | true =>
    simp only [if_true] at h₂ ⊢
    refine wpAny_mono h₂ (fun f s₃ x => ?_) fun _ _ x => x.elim
    cases f <;> exact x
theorem for_inv {target iter : PySem.Expr} {body orelse : List Stmt} {pos : Pos} {Q : Flow → Shared → Prop}
    (h : wpAny (model prog w) A (eval iter env) (fun x s₁ => wpAny (model prog w) A (pyIter x) (fun it s₂ =>
      ∃ (I : Nat → Shared → Prop) (n : Nat), I n s₂ ∧ (∀ v, letOwnedTupleGo target it v = pure ()) ∧ ∀ n s, I n s → wpAny (model prog w) A (pyNext it) (fun r s₁ => match r with
        | none => wpAny (model prog w) A (execs orelse env) Q NoExc s₁
        | some v => wpAny (model prog w) A (assign target env v) (fun _ s₂ => wpAny (model prog w) A (execs body env) (Goes I n Q) NoExc s₂) NoExc s₁) NoExc s) NoExc s₁) NoExc s)
    (hs : autoParam (∀ x, foldedSetIterable iter env x = pure x) autoB) :
    wpAny (model prog w) A (exec (.For target iter body orelse pos) env) Q NoExc s := by
  refine wpAny_For (wpAny_mono h (fun x s₁ h₁ => wpAny_mono h₁ (fun it s₂ h₂ => ?_) fun _ _ x => x) fun _ _ x => x) hs
  (refine ex2 h₂ fun I n zz => and3 zz fun hI ht turn => ?_; try clear h₂)
  refine codeAny_forLoop I (fun n s hI => ?_) n hI ht
  refine wpAny_mono (turn n s hI) (fun r s₁ h₁ => ?_) fun _ _ x => x.elim
  cases r with
  | none => exact wpAny_mono h₁ (fun _ _ x => x) fun _ _ x => x.elim
  | some v =>
    refine wpAny_mono h₁ (fun _ s₂ h₂ => ?_) fun _ _ x => x.elim
    refine wpAny_mono h₂ (fun f s₃ x => ?_) fun _ _ x => x.elim
    cases f <;> exact x
theorem fr_but {g h h' : Heap} {L I : Addr} {m : Str → Option Value} (F : Fr g L h m) (hk : ∀ b o, b ∉ [I] → h.get? b = some o → h'.get? b = some o) (hL : I ≠ L) (hg : g.get? I = none) : Fr g L h' m :=
  ⟨F.ns.at' fun o e => hk L o (by simpa using Ne.symm hL) e, fun b o e => hk b o (by simp only [List.mem_singleton]; rintro rfl; rw [hg] at e; cases e) (F.keep b o e), F.above⟩
theorem news_but {g h h' : Heap} {L I : Addr} {l : Led} (N : News g L h l) (hk : ∀ b o, b ∉ [I] → h.get? b = some o → h'.get? b = some o) (hl : ∀ p ∈ l, p.1 ≠ I) : News g L h' l :=
  fun p hp => ⟨hk _ _ (by simpa using hl p hp) (N p hp).1, (N p hp).2⟩
end
end
end
section
section
abbrev Kn := Addr → Obj → Prop
def hid (Z : List Addr) (h : Heap) : Kn := fun b o => b ∉ Z ∧ h.get? b = some o
structure Rp (α : Type) where
  rel : α → Kn → Value → Prop
  mono : ∀ {a : α} {P P' : Kn} {v : Value}, (∀ b o, P b o → P' b o) → rel a P v → rel a P' v
def KB (Mv : List Addr) (s s' : Shared) : Prop := ∃ h' tk, s' = { s with heap := h', toks := tk } ∧ ∀ b o, b ∉ Mv → s.heap.get? b = some o → h'.get? b = some o
theorem KB.refl {Mv : List Addr} {s : Shared} : KB Mv s s := ⟨s.heap, s.toks, rfl, fun _ _ _ e => e⟩
theorem KB.trans {Mv : List Addr} {s s' s'' : Shared} (a : KB Mv s s') (b : KB Mv s' s'') : KB Mv s s'' := by
  obtain ⟨h1, t1, rfl, k1⟩ := a
  obtain ⟨h2, t2, rfl, k2⟩ := b
  exact ⟨h2, t2, rfl, fun b o hb e => k2 b o hb (k1 b o hb e)⟩
theorem KB.get {Mv : List Addr} {s s' : Shared} (a : KB Mv s s') {b : Addr} {o : Obj} (hb : b ∉ Mv) (e : s.heap.get? b = some o) : s'.heap.get? b = some o := by
  obtain ⟨h1, t1, rfl, k1⟩ := a; exact k1 b o hb e
theorem KB.mono {Mv Mv' : List Addr} {s s' : Shared} (a : KB Mv s s') (h : ∀ b ∈ Mv, b ∈ Mv') : KB Mv' s s' := by
  obtain ⟨h1, t1, e, k1⟩ := a
  exact ⟨h1, t1, e, fun b o hb x => k1 b o (fun q => hb (h b q)) x⟩
theorem KB.less {Mv Mv' : List Addr} {s s' : Shared} (a : KB Mv s s') (h : ∀ b ∈ Mv, b ∈ Mv' ∨ s.heap.get? b = none) : KB Mv' s s' := by
  obtain ⟨h1, t1, e, k1⟩ := a
  exact ⟨h1, t1, e, fun b o hb x => k1 b o (fun q => (h b q).elim hb fun y => by rw [y] at x; cases x) x⟩
def Kp (s s' : Shared) : Prop := ∃ h' tk, s' = { s with heap := h', toks := tk } ∧ ∀ b o, s.heap.get? b = some o → h'.get? b = some o
theorem keeps_kb {s s' : Shared} : Kp s s' ↔ KB [] s s' := ⟨fun ⟨h, t, e, k⟩ => ⟨h, t, e, fun b o _ x => k b o x⟩, fun ⟨h, t, e, k⟩ => ⟨h, t, e, fun b o x => k b o (by simp) x⟩⟩
theorem Kp.kb {s s' : Shared} {Mv : List Addr} (h : Kp s s') : KB Mv s s' := (keeps_kb.mp h).mono fun _ h => nomatch h
theorem Kp.rfl' {s : Shared} : Kp s s := ⟨s.heap, s.toks, rfl, fun _ _ e => e⟩
theorem Kp.tr {s s' s'' : Shared} (a : Kp s s') (b : Kp s' s'') : Kp s s'' := keeps_kb.mpr ((keeps_kb.mp a).trans (keeps_kb.mp b))
theorem Kp.get {s s' : Shared} (a : Kp s s') {b : Addr} {o : Obj} (e : s.heap.get? b = some o) : s'.heap.get? b = some o := (keeps_kb.mp a).get (by simp) e
theorem Kp.of {s : Shared} {h' : Heap} {tk : Nat} (k : ∀ b o, s.heap.get? b = some o → h'.get? b = some o) : Kp s { s with heap := h', toks := tk } := ⟨h', tk, rfl, k⟩
theorem Kp.tok {s : Shared} {tk : Nat} : Kp s { s with toks := tk } := ⟨s.heap, tk, rfl, fun _ _ e => e⟩
theorem hid_keeps {Z : List Addr} {s s' : Shared} (a : Kp s s') : ∀ b o, hid Z s.heap b o → hid Z s'.heap b o := fun b o x => ⟨x.1, a.get x.2⟩
section
variable {α : Type}
def A2 (F : α → Value → Prop) : List α → List Value → Prop
  | [], [] => True
  | a :: as, v :: vs => F a v ∧ A2 F as vs
  | _, _ => False
theorem A2.length {F : α → Value → Prop} : ∀ {as : List α} {vs : List Value}, A2 F as vs → as.length = vs.length
  | [], [], _ => rfl
  | _ :: _, _ :: _, h => by rw [List.length_cons, List.length_cons, A2.length h.2]
  | [], _ :: _, h => h.elim
  | _ :: _, [], h => h.elim
theorem A2.imp {F G : α → Value → Prop} (hi : ∀ a v, F a v → G a v) : ∀ {as : List α} {vs : List Value}, A2 F as vs → A2 G as vs
  | [], [], _ => trivial
  | _ :: _, _ :: _, h => ⟨hi _ _ h.1, A2.imp hi h.2⟩
  | [], _ :: _, h => h.elim
  | _ :: _, [], h => h.elim
theorem A2.append {F : α → Value → Prop} : ∀ {as as' : List α} {vs vs' : List Value}, A2 F as vs → A2 F as' vs' → A2 F (as ++ as') (vs ++ vs')
  | [], _, [], _, _, h => h
  | _ :: _, _, _ :: _, _, h, h' => ⟨h.1, A2.append h.2 h'⟩
  | [], _, _ :: _, _, h, _ => h.elim
  | _ :: _, _, [], _, h, _ => h.elim
theorem A2.get {F : α → Value → Prop} : ∀ {as : List α} {vs : List Value}, A2 F as vs → ∀ {i : Nat} {v : Value}, vs[i]? = some v → ∃ a, as[i]? = some a ∧ F a v
  | [], [], _, _, _, e => by cases e
  | a :: as, v :: vs, h, i, u, e => by
    cases i with
    | zero => cases e; exact ⟨a, rfl, h.1⟩
    | succ i => exact A2.get h.2 (i := i) e
  | [], _ :: _, h, _, _, _ => h.elim
  | _ :: _, [], h, _, _, _ => h.elim
theorem A2.get' {F : α → Value → Prop} : ∀ {as : List α} {vs : List Value}, A2 F as vs → ∀ {i : Nat} {a : α}, as[i]? = some a → ∃ v, vs[i]? = some v ∧ F a v
  | [], [], _, _, _, e => by cases e
  | a :: as, v :: vs, h, i, u, e => by
    cases i with
    | zero => cases e; exact ⟨v, rfl, h.1⟩
    | succ i => exact A2.get' h.2 (i := i) e
  | [], _ :: _, h, _, _, _ => h.elim
  | _ :: _, [], h, _, _, _ => h.elim
theorem A2.take {F : α → Value → Prop} : ∀ {as : List α} {vs : List Value}, A2 F as vs → ∀ n, A2 F (as.take n) (vs.take n)
  | _, _, _, 0 => trivial
  | [], [], _, _ + 1 => trivial
  | _ :: _, _ :: _, h, n + 1 => ⟨h.1, A2.take h.2 n⟩
  | [], _ :: _, h, _ + 1 => h.elim
  | _ :: _, [], h, _ + 1 => h.elim
theorem A2.snoc {F : α → Value → Prop} {as : List α} {vs : List Value} {a : α} {v : Value} (h : A2 F as vs) (hv : F a v) : A2 F (as ++ [a]) (vs ++ [v]) := h.append ⟨hv, trivial⟩
end
def RInt : Rp Int := ⟨fun i _ v => ∃ t, v = .int i t, fun _ h => h⟩
def RBool : Rp Bool := ⟨fun b _ v => v = .bool b, fun _ h => h⟩
def RStr : Rp Str := ⟨fun x _ v => ∃ t, v = .str x t, fun _ h => h⟩
def RIs : Rp Value := ⟨fun u _ v => v = u, fun _ h => h⟩
section
variable {α β : Type}
def RList (R : Rp α) : Rp (List α) := ⟨fun xs P v => ∃ l o n vs, v = .ref l ∧ P l o ∧ o.cls = .type "list" ∧ o.data = .seq vs.toArray n ∧ A2 (fun a u => R.rel a P u) xs vs,
  by rintro xs P P' v hs ⟨l, o, n, vs, e, hl, hc, hd, ha⟩; exact ⟨l, o, n, vs, e, hs _ _ hl, hc, hd, ha.imp fun _ _ h => R.mono hs h⟩⟩
def RTup (R : Rp α) (S : Rp β) : Rp (α × β) := ⟨fun x P v => ∃ l o n u w, v = .ref l ∧ P l o ∧ o.cls = .type "tuple" ∧ o.data = .seq #[u, w] n ∧ R.rel x.1 P u ∧ S.rel x.2 P w,
  by rintro xs P P' v hs ⟨l, o, n, u, w, e, hl, hc, hd, h1, h2⟩; exact ⟨l, o, n, u, w, e, hs _ _ hl, hc, hd, R.mono hs h1, S.mono hs h2⟩⟩
end
structure Flat {α : Type} (R : Rp α) : Prop where
  f : ∀ {a : α} {P P' : Kn} {v : Value}, R.rel a P v → R.rel a P' v
theorem flatInt : Flat RInt := ⟨fun h => h⟩
def SeesV (env : Env) (s : Shared) (x : Str) (v : Value) : Prop :=
  (env.kindOf x = some .local ∧ ∃ m, s.heap.Ns env.locals m ∧ m x = some v) ∨
  ((env.kindOf x = some .cell ∨ env.kindOf x = some .free) ∧ (x == ("__classdict__" : Str)) = false ∧ ∃ c, env.cells.lookup x = some c ∧ s.heap.IsCell c (some v))
theorem SeesV.load {M : Model} {A : Around} {env : Env} {s : Shared} {x : Str} {v : Value} {Q : Value → Shared → Prop} {E : Value → Shared → Prop} (hk : env.scope.kind = .function) (h : SeesV env s x v) (q : Q v s) : wpAny M A (loadName env x) Q E s := by
  rcases h with ⟨h1, m, h2, h3⟩ | ⟨h1 | h1, h2, c, h3, h4⟩
  · exact wpAny_loadName_local hk h1 h2 h3 q
  · exact wpAny_loadName_cell hk h1 h3 h4 q
  · exact wpAny_loadName_free hk h1 h3 h4 q h2
theorem SeesV.kb {env : Env} {s s' : Shared} {x : Str} {v : Value} {Mv : List Addr} (h : SeesV env s x v) (k : KB Mv s s') (hL : env.locals ∉ Mv) (hc : ∀ c, env.cells.lookup x = some c → c ∉ Mv) : SeesV env s' x v := by
  rcases h with ⟨h1, m, h2, h3⟩ | ⟨h1, h2, c, h3, o, h4, h5⟩
  · exact .inl ⟨h1, m, h2.at' fun o e => k.get hL e, h3⟩
  · exact .inr ⟨h1, h2, c, h3, o, k.get (hc c h3) h4, h5⟩
theorem SeesV.keeps {env : Env} {s s' : Shared} {x : Str} {v : Value} (h : SeesV env s x v) (k : Kp s s') : SeesV env s' x v := h.kb (keeps_kb.mp k) (by simp) fun _ _ => by simp
structure Vb : Type 1 where
  x : Str
  α : Type
  R : Rp α
  a : α
structure Gm : Type 1 where
  h₀ : Heap
  L : Addr
  mg : Str → Option Value
  mb : Str → Option Value
  gs : List Str
  cs : List Str
  vars : List Vb
  mvars : List Vb
structure Cx (Γ : Gm) (env : Env) (s : Shared) (Z : List Addr) : Prop where
  fn : env.scope.kind = .function
  gl : env.globals = mainGlobals
  bl : env.builtins = builtinsNs
  g : s.heap.Ns mainGlobals Γ.mg
  b : s.heap.Ns builtinsNs Γ.mb
  fr : ∃ m, Fr Γ.h₀ Γ.L s.heap m
  gk : ∀ x ∈ Γ.gs, env.kindOf x = some .globalImplicit
  ck : ∀ x ∈ Γ.cs, (env.kindOf x = some .cell ∨ env.kindOf x = some .free) ∧ ∃ c, env.cells.lookup x = some c ∧ ∃ o, s.heap.get? c = some o
  zl : ∀ z ∈ Z, ∃ o, s.heap.get? z = some o
  vis : ∀ vb ∈ Γ.vars, ∃ v, SeesV env s vb.x v ∧ vb.R.rel vb.a (hid Z s.heap) v
  mvis : ∀ vb ∈ Γ.mvars, ∃ v, SeesV env s vb.x v ∧ vb.R.rel vb.a (hid [] s.heap) v
theorem Cx.keeps {Γ : Gm} {env : Env} {s s' : Shared} {Z : List Addr} (c : Cx Γ env s Z) (k : Kp s s') : Cx Γ env s' Z := by
  have kk : ∀ b o, s.heap.get? b = some o → s'.heap.get? b = some o := fun b o e => k.get e
  refine ⟨c.fn, c.gl, c.bl, c.g.at' fun o e => kk _ o e, c.b.at' fun o e => kk _ o e, ?_, c.gk, fun x hx => ⟨(c.ck x hx).1, (c.ck x hx).2.imp fun c' y => ⟨y.1, y.2.imp fun o e => kk c' o e⟩⟩, fun z hz => (c.zl z hz).imp fun o e => kk z o e, fun vb h => ?_, fun vb h => ?_⟩
  · obtain ⟨m, F⟩ := c.fr; exact ⟨m, F.keeps kk⟩
  · obtain ⟨v, h1, h2⟩ := c.vis vb h; exact ⟨v, h1.keeps k, vb.R.mono (hid_keeps k) h2⟩
  · obtain ⟨v, h1, h2⟩ := c.mvis vb h; exact ⟨v, h1.keeps k, vb.R.mono (hid_keeps k) h2⟩
section
variable {α β : Type} (prog : Program) (w : World) (A : Around) (Γ : Gm)
def Ev (e : PySem.Expr) (R : Rp α) (a : α) : Prop :=
  ∀ env s Z, Cx Γ env s Z → wpAny (model prog w) A (eval e env) (fun v s' => Kp s s' ∧ R.rel a (hid Z s'.heap) v) NoExc s
def Er (e : PySem.Expr) (R : Rp α) (a : α) : Prop :=
  ∀ env s Z, Cx Γ env s Z → wpAny (model prog w) A (eval e env) (fun v s' => Kp s s' ∧ R.rel a (hid [] s'.heap) v) NoExc s
def Et (e : PySem.Expr) (b : Bool) : Prop :=
  ∀ env s Z, Cx Γ env s Z → wpAny (model prog w) A (isTrue e env (eval e env)) (fun r s' => Kp s s' ∧ r = b) NoExc s
end
section
variable {α β : Type} {prog : Program} {w : World} {A : Around} {Γ : Gm} {e e₁ e₂ : PySem.Expr} {R : Rp α} {S : Rp β} {a : α} {b : β} {pos : Pos}
theorem Ev.r (h : Ev prog w A Γ e R a) : Er prog w A Γ e R a := fun env s Z c => wpAny_mono (h env s Z c) (fun v s' x => ⟨x.1, R.mono (fun b o y => ⟨by simp, y.2⟩) x.2⟩) fun _ _ x => x
theorem ev_eq {a' : α} (h : Ev prog w A Γ e R a) (q : a = a') : Ev prog w A Γ e R a' := q ▸ h
theorem et_eq {a a' : Bool} (h : Et prog w A Γ e a) (q : a = a') : Et prog w A Γ e a' := q ▸ h
theorem ev_name {x : Str} (hm : Vb.mk x α R a ∈ Γ.vars) (hd : autoParam ((x == ("__debug__" : Str)) = false) autoC) : Ev prog w A Γ (.Name x pos) R a := fun env s Z c => by
  obtain ⟨v, h1, h2⟩ := c.vis _ hm
  exact wpAny_Name (h1.load c.fn ⟨.rfl', h2⟩) hd
theorem er_name {x : Str} (hm : Vb.mk x α R a ∈ Γ.mvars) (hd : autoParam ((x == ("__debug__" : Str)) = false) autoC) : Er prog w A Γ (.Name x pos) R a := fun env s Z c => by
  obtain ⟨v, h1, h2⟩ := c.mvis _ hm
  exact wpAny_Name (h1.load c.fn ⟨.rfl', h2⟩) hd
theorem Ev.then {Q : Value → Shared → Prop} {env : Env} {s : Shared} {Z : List Addr} (h : Ev prog w A Γ e R a) (c : Cx Γ env s Z) (k : ∀ v s', Kp s s' → Cx Γ env s' Z → R.rel a (hid Z s'.heap) v → Q v s') : wpAny (model prog w) A (eval e env) Q NoExc s :=
  wpAny_mono (h env s Z c) (fun v s' x => k v s' x.1 (c.keeps x.1) x.2) fun _ _ x => x
theorem Er.then {Q : Value → Shared → Prop} {env : Env} {s : Shared} {Z : List Addr} (h : Er prog w A Γ e R a) (c : Cx Γ env s Z) (k : ∀ v s', Kp s s' → Cx Γ env s' Z → R.rel a (hid [] s'.heap) v → Q v s') : wpAny (model prog w) A (eval e env) Q NoExc s :=
  wpAny_mono (h env s Z c) (fun v s' x => k v s' x.1 (c.keeps x.1) x.2) fun _ _ x => x
theorem Et.then {Q : Bool → Shared → Prop} {env : Env} {s : Shared} {Z : List Addr} {b : Bool} (h : Et prog w A Γ e b) (c : Cx Γ env s Z) (k : ∀ s', Kp s s' → Cx Γ env s' Z → Q b s') : wpAny (model prog w) A (isTrue e env (eval e env)) Q NoExc s :=
  wpAny_mono (h env s Z c) (fun v s' x => x.2 ▸ k s' x.1 (c.keeps x.1)) fun _ _ x => x
end
end
end
section
section
structure Src (prog : Program) (w : World) (A : Around) (target : PySem.Expr) (I : Addr) (fp wr : List Addr) (n : Nat) (P Md : Nat → Value → Heap → Prop) (St : Nat → Heap → Prop) : Prop where
  t : KTurns prog w A target I fp wr n P Md St
  self : ∀ i (s : Shared) (Q : Value → Shared → Prop) (E : Value → Shared → Prop), St i s.heap → Q (.ref I) s → wpAny (model prog w) A (pyIter (.ref I)) Q E s
  ex : ∀ i h, St i h → ∀ b ∈ wr, ∃ o, h.get? b = some o
abbrev tests (ifs : List PySem.Expr) (env : Env) : Sem Bool := forIn ifs true fun c r => if r = true then do let ok ← isTrue c env (eval c env); pure (ForInStep.yield ok) else pure (ForInStep.yield r)
def stdTurn (sp : Pos) (it : Value) (target : PySem.Expr) (ifs : List PySem.Expr) (env : Env) (emit : Sem Unit) (nxt : Code) : Sem Fin :=
  standAt sp >>= fun _ => pyNext it >>= fun r => match r with
    | none => pure (.done .next)
    | some v => letOwnedTupleGo target it v >>= fun _ => assign target env v >>= fun _ => tests ifs env >>= fun ok => if ok = true then emit >>= fun _ => again nxt else again nxt
theorem shape_list (elt target iter : PySem.Expr) (ifs : List PySem.Expr) (scope : Scope) (pos : Pos) (it acc : Value) (env : Env) :
    compTurn (.ListComp elt [⟨target, iter, ifs, 0⟩] scope pos) 0 it acc env = stdTurn iter.pos it target ifs env (do let _ ← call (.builtin "list.append") [acc, ← eval elt env]) (.compLoop (.ListComp elt [⟨target, iter, ifs, 0⟩] scope pos) 0 it acc env) := by rfl
theorem shape_dict (kx vx target iter : PySem.Expr) (ifs : List PySem.Expr) (scope : Scope) (pos : Pos) (it : Value) (D : Addr) (env : Env) :
    compTurn (.DictComp kx vx [⟨target, iter, ifs, 0⟩] scope pos) 0 it (.ref D) env = stdTurn iter.pos it target ifs env (do
            let kv ← eval kx env
            let vv ← holding [kv] (eval vx env)
            standAt { kx.pos with endLine := vx.pos.endLine, endCol := vx.pos.endCol }
            holding [kv, vv] (dictSet D kv vv)) (.compLoop (.DictComp kx vx [⟨target, iter, ifs, 0⟩] scope pos) 0 it (.ref D) env) := by rfl
theorem shape_list1 (elt t₀ i₀ t₁ i₁ : PySem.Expr) (f₀ f₁ : List PySem.Expr) (scope : Scope) (pos : Pos) (it acc : Value) (env : Env) :
    compTurn (.ListComp elt [⟨t₀, i₀, f₀, 0⟩, ⟨t₁, i₁, f₁, 0⟩] scope pos) 1 it acc env = stdTurn i₁.pos it t₁ f₁ env (do let _ ← call (.builtin "list.append") [acc, ← eval elt env]) (.compLoop (.ListComp elt [⟨t₀, i₀, f₀, 0⟩, ⟨t₁, i₁, f₁, 0⟩] scope pos) 1 it acc env) := by rfl
theorem shape_list0 (elt t₀ i₀ t₁ i₁ : PySem.Expr) (f₀ f₁ : List PySem.Expr) (scope : Scope) (pos : Pos) (it acc : Value) (env : Env) :
    compTurn (.ListComp elt [⟨t₀, i₀, f₀, 0⟩, ⟨t₁, i₁, f₁, 0⟩] scope pos) 0 it acc env = stdTurn i₀.pos it t₀ f₀ env (do
        let x ← eval i₁ env
        standAt i₁.pos
        let x ← foldedSetIterable i₁ env x
        let _ ← runOwn (.compStart (.ListComp elt [⟨t₀, i₀, f₀, 0⟩, ⟨t₁, i₁, f₁, 0⟩] scope pos) 1 (← holding [x] (pyIter x)) acc env) env) (.compLoop (.ListComp elt [⟨t₀, i₀, f₀, 0⟩, ⟨t₁, i₁, f₁, 0⟩] scope pos) 0 it acc env) := by
  unfold stdTurn
  simp only [bind_assoc, pure_bind]
  rfl
section
variable {α β : Type} (prog : Program) (w : World) (A : Around) (Γ : Gm)
def Ets (ifs : List PySem.Expr) (b : Bool) : Prop := ∀ env s Z, Cx Γ env s Z → wpAny (model prog w) A (tests ifs env) (fun r s' => Kp s s' ∧ r = b) NoExc s
end
section
variable {prog : Program} {w : World} {A : Around} {Γ : Gm}
theorem ets_nil : Ets prog w A Γ [] true := fun env s Z c => wpAny_pure ⟨.rfl', rfl⟩
theorem ets_one {c : PySem.Expr} {b : Bool} (h : Et prog w A Γ c b) : Ets prog w A Γ [c] b := fun env s Z cx => wpAny_tests_one (h env s Z cx)
end
section
variable {α β : Type} {prog : Program} {w : World} {A : Around} {R : Result → Shared → Prop} {s : Shared} {e : PySem.Expr} {d : Nat} {sp : Pos} {target : PySem.Expr} {ifs : List PySem.Expr} {acc : Value} {cenv : Env} {emit : Sem Unit}
  {I D : Addr} {fp wr Fm Z : List Addr} {P Md : Nat → Value → Heap → Prop} {St : Nat → Heap → Prop} {xs : List α} {It : α → Value → Heap → Prop} {FO : Shared → Prop} {On : α → Shared → Prop} {Γ' : α → Gm} {p : α → Bool} {f : α → List β} {AccS : List β → Heap → Prop} {ys0 : List β}
theorem cloop_go (hsh : compTurn e d (.ref I) acc cenv = stdTurn sp (.ref I) target ifs cenv emit (.compLoop e d (.ref I) acc cenv)) (hq : (Code.compLoop e d (.ref I) acc cenv).quiet = true) (hun : A.under (.compLoop e d (.ref I) acc cenv) = A) (hden : (model prog w).den (.compLoop e d (.ref I) acc cenv) = (compTurn e d (.ref I) acc cenv).onRaise (fun x => do noteFrame x cenv; theTreesLotGoes x))
    (W : KTurns prog w A target I fp wr xs.length P Md St) (hst : St 0 s.heap) (hitem : ∀ i v h x, xs[i]? = some x → P i v h → It x v h)
    (hfo : FO s) (fo_stab : ∀ s₁ s₂, KB (D :: wr) s₁ s₂ → FO s₁ → FO s₂)
    (hbind : ∀ s₁ x v, x ∈ xs → FO s₁ → It x v s₁.heap → wpAny (model prog w) A (assign target cenv v) (fun _ s₂ => KB Fm s₁ s₂ ∧ FO s₂ ∧ On x s₂) NoExc s₁)
    (on_stab : ∀ x s₁ s₂, Kp s₁ s₂ → On x s₁ → On x s₂)
    (hex : ∀ i h, St i h → ∀ b ∈ wr, ∃ o, h.get? b = some o)
    (hcx : ∀ x s₁, x ∈ xs → FO s₁ → On x s₁ → KB (D :: (Fm ++ wr)) s s₁ → (∀ b ∈ wr, ∃ o, s₁.heap.get? b = some o) → (∃ ys, AccS ys s₁.heap) → Cx (Γ' x) cenv s₁ Z)
    (hts : ∀ x ∈ xs, Ets prog w A (Γ' x) ifs (p x))
    (hem : ∀ x ys s₁, x ∈ xs → p x = true → FO s₁ → On x s₁ → KB (D :: (Fm ++ wr)) s s₁ → Cx (Γ' x) cenv s₁ Z → AccS ys s₁.heap → (ys ++ f x).length ≤ sizeLine → wpAny (model prog w) A emit (fun _ s₂ => KB (D :: Fm) s₁ s₂ ∧ FO s₂ ∧ AccS (ys ++ f x) s₂.heap) NoExc s₁)
    (acc_stab : ∀ ys s₁ s₂, KB (Fm ++ wr) s₁ s₂ → AccS ys s₁.heap → AccS ys s₂.heap) (hacc : AccS ys0 s.heap)
    (hlen : (ys0 ++ xs.flatMap fun x => if p x = true then f x else []).length ≤ sizeLine)
    (hFf : ∀ b ∈ Fm, b ∉ fp) (hDf : D ∉ fp)
    (hR : ∀ s', KB (D :: (Fm ++ wr)) s s' → FO s' → AccS (ys0 ++ xs.flatMap fun x => if p x = true then f x else []) s'.heap → R (.ok .next) s') :
    codeAny (model prog w) A (.compLoop e d (.ref I) acc cenv) R s := by
  refine codeAny_loop hq (fun k s' => ∃ i, i ≤ xs.length ∧ k = xs.length + 1 - i ∧ KB (D :: (Fm ++ wr)) s s' ∧ St i s'.heap ∧ FO s' ∧ AccS (ys0 ++ (xs.take i).flatMap fun x => if p x = true then f x else []) s'.heap) ?_ (xs.length + 1) ⟨0, Nat.zero_le _, rfl, .refl, hst, hfo, by simpa using hacc⟩
  rintro k s₁ ⟨i, hi, rfl, k₁, st₁, fo₁, ac₁⟩
  rw [hun, hden]
  refine wpAny_noted ?_
  rw [hsh]
  unfold stdTurn
  refine wpAny_bind (wpAny_standAt (wpAny_bind ?_))
  by_cases hlt : i < xs.length
  · obtain ⟨x, hx⟩ : ∃ x, xs[i]? = some x := ⟨xs[i], List.getElem?_eq_getElem hlt⟩
    have hxm : x ∈ xs := List.mem_of_getElem? hx
    refine W.item i _ _ _ hlt st₁ fun v h₂ tk₂ hm hk₂ => ?_
    refine wpAny_bind (W.go i v _ _ _ hm fun h₃ hP st₃ hk₃ => ?_)
    have k₃ : KB wr s₁ { s₁ with heap := h₃, toks := tk₂ } := ⟨h₃, tk₂, rfl, fun b o hb e => hk₃ b o hb (hk₂ b o hb e)⟩
    have fo₃ := fo_stab _ _ (k₃.mono fun b h => List.mem_cons_of_mem _ h) fo₁
    have ac₃ := acc_stab _ _ _ (k₃.mono fun b h => List.mem_append_right _ h) ac₁
    refine wpAny_bind (wpAny_mono (hbind _ x v hxm fo₃ (hitem i v _ x hx hP)) (fun _ s₄ h₄ => ?_) fun _ _ x => x.elim)
    (refine and3 h₄ fun k₄ fo₄ on₄ => ?_; try clear h₄)
    have ac₄ := acc_stab _ _ _ (k₄.mono fun b h => List.mem_append_left _ h) ac₃
    have kk₄ : KB (D :: (Fm ++ wr)) s s₄ := (k₁.trans (k₃.mono fun b h => .tail _ (List.mem_append_right _ h))).trans (k₄.mono fun b h => .tail _ (List.mem_append_left _ h))
    have st₄ : St (i + 1) s₄.heap := W.frame _ _ _ st₃ fun b hb o e => k₄.get (fun q => hFf b q hb) e
    refine wpAny_bind (wpAny_mono (hts x hxm cenv s₄ Z (hcx x s₄ hxm fo₄ on₄ kk₄ (hex _ _ st₄) ⟨_, ac₄⟩)) (fun ok s₅ h₅ => ?_) fun _ _ x => x.elim)
    (refine and2 h₅ ?_; try clear h₅; rintro k₅ rfl)
    have fo₅ := fo_stab _ _ k₅.kb fo₄
    have on₅ := on_stab _ _ _ k₅ on₄
    have ac₅ := acc_stab _ _ _ k₅.kb ac₄
    have kk₅ : KB (D :: (Fm ++ wr)) s s₅ := kk₄.trans k₅.kb
    have st₅ : St (i + 1) s₅.heap := W.frame _ _ _ st₄ fun b hb o e => k₅.get e
    have htk : (ys0 ++ (xs.take (i + 1)).flatMap (fun x => if p x = true then f x else [])) = (ys0 ++ (xs.take i).flatMap fun x => if p x = true then f x else []) ++ (if p x = true then f x else []) := by
      rw [List.take_add_one, hx, List.flatMap_append, List.append_assoc]; simp
    cases hp : p x with
    | false =>
      simp only [hp, Bool.false_eq_true, if_false, List.append_nil] at htk
      simp only [Bool.false_eq_true, if_false]
      exact wpAny_pure ⟨rfl, xs.length + 1 - (i + 1), by omega, i + 1, hlt, rfl, kk₅, st₅, fo₅, htk ▸ ac₅⟩
    | true =>
      simp only [hp, if_true] at htk
      simp only [if_true]
      have hl : ((ys0 ++ (xs.take i).flatMap fun x => if p x = true then f x else []) ++ f x).length ≤ sizeLine := by
        rw [← htk]
        refine Nat.le_trans ?_ hlen
        have : xs.flatMap (fun x => if p x = true then f x else []) = (xs.take (i + 1)).flatMap (fun x => if p x = true then f x else []) ++ (xs.drop (i + 1)).flatMap (fun x => if p x = true then f x else []) := by
          rw [← List.flatMap_append, List.take_append_drop]
        simp only [List.length_append]; rw [this, List.length_append]; omega
      refine wpAny_bind (wpAny_mono (hem x _ s₅ hxm hp fo₅ on₅ kk₅ (hcx x s₅ hxm fo₅ on₅ kk₅ (hex _ _ st₅) ⟨_, ac₅⟩) ac₅ hl) (fun _ s₆ h₆ => ?_) fun _ _ x => x.elim)
      (refine and3 h₆ fun k₆ fo₆ ac₆ => ?_; try clear h₆)
      have st₆ : St (i + 1) s₆.heap := W.frame _ _ _ st₅ fun b hb o e => k₆.get (fun q => by
        rcases List.mem_cons.mp q with q | q
        · exact hDf (q ▸ hb)
        · exact hFf b q hb) e
      exact wpAny_pure ⟨rfl, xs.length + 1 - (i + 1), by omega, i + 1, hlt, rfl, kk₅.trans (k₆.mono fun b h => (List.mem_cons.mp h).elim (fun q => q ▸ .head _) fun q => .tail _ (List.mem_append_left _ q)), st₆, fo₆, htk ▸ ac₆⟩
  · have hin : i = xs.length := by omega
    subst hin
    refine W.done _ _ _ st₁ fun h₂ tk₂ hk₂ => wpAny_pure ?_
    have k₂ : KB wr s₁ { s₁ with heap := h₂, toks := tk₂ } := ⟨h₂, tk₂, rfl, hk₂⟩
    rw [List.take_length] at ac₁
    exact hR _ (k₁.trans (k₂.mono fun b h => .tail _ (List.mem_append_right _ h))) (fo_stab _ _ (k₂.mono fun b h => List.mem_cons_of_mem _ h) fo₁) (acc_stab _ _ _ (k₂.mono fun b h => List.mem_append_right _ h) ac₁)
end
end
end
section
section
def clFrom (cells : List (Str × Addr)) : List (Str × NameKind) → List (Str × Addr) → List (Str × Addr)
  | [], acc => acc
  | (n, k) :: r, acc => if k == .free then clFrom cells r ((n, (cells.lookup n).getD 0) :: acc) else clFrom cells r acc
theorem clFrom_mem {cells : List (Str × Addr)} : ∀ {names : List (Str × NameKind)} {acc : List (Str × Addr)} {p : Str × Addr}, (∀ y ∈ names, y.2 = .free → ∃ c, cells.lookup y.1 = some c) → p ∈ clFrom cells names acc → p ∈ acc ∨ cells.lookup p.1 = some p.2
  | [], acc, p, _, h => .inl h
  | (n, k) :: r, acc, p, hc, h => by
    unfold clFrom at h
    have hr : ∀ {acc : List (Str × Addr)}, p ∈ clFrom cells r acc → p ∈ acc ∨ cells.lookup p.1 = some p.2 := clFrom_mem (names := r) (fun y hy => hc y (List.mem_cons_of_mem _ hy))
    split at h
    · rename_i hk
      rcases hr h with h | h
      · rcases List.mem_cons.mp h with e | h
        · obtain ⟨c, e'⟩ := hc (n, k) List.mem_cons_self (by simpa using hk)
          right; rw [e]; simp only; rw [e']; rfl
        · exact .inl h
      · exact .inr h
    · exact hr h
theorem clFrom_acc {cells : List (Str × Addr)} : ∀ {names : List (Str × NameKind)} {acc : List (Str × Addr)} {p : Str × Addr}, p ∈ acc → p ∈ clFrom cells names acc
  | [], _, _, h => h
  | (n, k) :: r, acc, p, h => by
    unfold clFrom
    split
    · exact clFrom_acc (List.mem_cons_of_mem _ h)
    · exact clFrom_acc h
theorem clFrom_has {cells : List (Str × Addr)} : ∀ {names : List (Str × NameKind)} {acc : List (Str × Addr)} {x : Str}, (x, NameKind.free) ∈ names → ∃ c, (x, c) ∈ clFrom cells names acc
  | (n, k) :: r, acc, x, h => by
    unfold clFrom
    rcases List.mem_cons.mp h with e | h
    · cases e
      simp only [beq_self_eq_true, if_true]
      exact ⟨_, clFrom_acc List.mem_cons_self⟩
    · split
      · exact clFrom_has h
      · exact clFrom_has h
theorem lookup_some_of_mem {α : Type} : ∀ {l : List (Str × α)} {x : Str} {c : α}, (x, c) ∈ l → ∃ c', l.lookup x = some c'
  | (n, v) :: r, x, c, h => by
    rw [List.lookup_cons]
    cases hb : x == n with
    | true => exact ⟨v, rfl⟩
    | false =>
      rcases List.mem_cons.mp h with e | h
      · cases e; simp at hb
      · exact lookup_some_of_mem h
theorem closure_ok {scope : Scope} {env : Env} (hc : ∀ y ∈ scope.names, y.2 = .free → ∃ c, env.cells.lookup y.1 = some c) : closureFor scope env = pure (clFrom env.cells scope.names []) := by
  simp only [closureFor]
  generalize hn : scope.names = names at hc
  have key : ∀ (names : List (Str × NameKind)) (acc : List (Str × Addr)), (∀ y ∈ names, y.2 = .free → ∃ c, env.cells.lookup y.1 = some c) →
      (forIn names acc fun x r => (if (x.2 == NameKind.free) = true then (cellOf env x.1 >>= fun c => pure (ForInStep.yield ((x.1, c) :: r))) else pure (ForInStep.yield r) : Sem (ForInStep (List (Str × Addr))))) = pure (clFrom env.cells names acc) := by
    intro names
    induction names with
    | nil => intro acc _; rfl
    | cons y r ih =>
      obtain ⟨n, k⟩ := y
      intro acc hc
      rw [List.forIn_cons]
      unfold clFrom
      have hr : ∀ y ∈ r, y.2 = .free → ∃ c, env.cells.lookup y.1 = some c := fun y hy => hc y (List.mem_cons_of_mem _ hy)
      cases hk : k == NameKind.free with
      | true =>
        refine ex1 (hc (n, k) List.mem_cons_self (by simpa using hk)) fun c hl => ?_
        have hl' : env.cells.lookup n = some c := hl
        have e1 : cellOf env n = pure c := by unfold cellOf; rw [hl']
        simp only [if_true, e1, pure_bind]
        rw [ih _ hr, hl']; rfl
      | false =>
        simp only [Bool.false_eq_true, if_false, pure_bind]
        exact ih _ hr
  have := key names [] hc
  rw [bind_pure]
  exact this
theorem cellsFrom_append : ∀ (names : List (Str × NameKind)) (n : Nat) (acc : List (Str × Addr)), cellsFrom n names acc = cellsFrom n names [] ++ acc
  | [], _, _ => rfl
  | (m, k) :: r, n, acc => by
    unfold cellsFrom
    split
    · rw [cellsFrom_append r (n + 1) ((m, n) :: acc), cellsFrom_append r (n + 1) [(m, n)]]; simp
    · exact cellsFrom_append r n acc
theorem cellsFrom_kind : ∀ {names : List (Str × NameKind)} {n : Nat} {p : Str × Addr}, p ∈ cellsFrom n names [] → (p.1, NameKind.cell) ∈ names
  | (m, k) :: r, n, p, h => by
    unfold cellsFrom at h
    split at h
    · rename_i hk
      rw [cellsFrom_append] at h
      rcases List.mem_append.mp h with h | h
      · exact List.mem_cons_of_mem _ (cellsFrom_kind h)
      · rw [List.mem_singleton.mp h]
        have : k = .cell := by simpa using hk
        rw [this]; exact List.mem_cons_self
    · exact List.mem_cons_of_mem _ (cellsFrom_kind h)
theorem cellsFrom_own : ∀ {names : List (Str × NameKind)} {n : Nat} {x : Str}, (x, NameKind.cell) ∈ names → ∃ c, (x, c) ∈ cellsFrom n names []
  | (m, k) :: r, n, x, h => by
    unfold cellsFrom
    rcases List.mem_cons.mp h with e | h
    · cases e
      simp only [beq_self_eq_true, if_true]
      rw [cellsFrom_append]
      exact ⟨n, List.mem_append_right _ List.mem_cons_self⟩
    · split
      · rw [cellsFrom_append]
        obtain ⟨c, hc⟩ := cellsFrom_own (n := n + 1) h
        exact ⟨c, List.mem_append_left _ hc⟩
      · exact cellsFrom_own h
theorem lookup_append_none {α : Type} : ∀ {l r : List (Str × α)} {x : Str}, (∀ p ∈ l, p.1 ≠ x) → (l ++ r).lookup x = r.lookup x
  | [], _, _, _ => rfl
  | (n, v) :: l, r, x, h => by
    rw [List.cons_append, List.lookup_cons]
    have : (x == n) = false := beq_eq_false_iff_ne.mpr fun e => h (n, v) List.mem_cons_self e.symm
    rw [this]
    exact lookup_append_none fun p hp => h p (List.mem_cons_of_mem _ hp)
theorem lookup_append_some {α : Type} : ∀ {l r : List (Str × α)} {x : Str} {c : α}, l.lookup x = some c → (l ++ r).lookup x = some c
  | (n, v) :: l, r, x, c, h => by
    rw [List.cons_append, List.lookup_cons]
    rw [List.lookup_cons] at h
    cases hb : x == n with
    | true => rw [hb] at h; exact h
    | false => rw [hb] at h; exact lookup_append_some h
theorem relabel_lookup {scope : Scope} {env : Env} {x : Str} {k : NameKind} (h : scope.names.lookup x = some k) :
    (relabel scope env).names.lookup x = some k ∨ (k = .free ∧ (relabel scope env).names.lookup x = some .cell) := by
  unfold relabel
  simp only
  revert h
  generalize scope.names = names
  intro h
  induction names with
  | nil => simp at h
  | cons y r ih =>
    obtain ⟨n, k'⟩ := y
    rw [List.lookup_cons] at h
    rw [List.map_cons]
    dsimp only
    cases hb : x == n with
    | true =>
      rw [hb] at h
      cases h
      split
      · rename_i hc
        right
        refine ⟨?_, by rw [List.lookup_cons, hb]⟩
        simp only [Bool.and_eq_true, beq_iff_eq] at hc
        exact hc.1.1
      · left; rw [List.lookup_cons, hb]
    | false =>
      rw [hb] at h
      split <;> (rw [List.lookup_cons, hb]; exact ih h)
theorem newCompEnv {M : Model} {A : Around} {E : Value → Shared → Prop} {s : Shared} {scope : Scope} {env : Env} {cl : List (Str × Addr)} {Q : Env → Shared → Prop}
    (hQ : Q (newEnv scope s.heap.objs.size env.globals (cellsFrom (s.heap.objs.size + 1) scope.names cl) env.qual none .none (some env) builtinsNs) { s with heap := pushCells (s.heap.push { cls := .type "dict", data := .dict #[] }) scope.names }) :
    wpAny M A (newFunctionEnv scope env.globals cl [] env.qual none .none (some env)) Q E s := by
  simp only [newFunctionEnv, Option.isSome_some, if_true]
  refine wpAny_bind (wpAny_alloc ?_)
  refine wpAny_bind (wpAny_layCells _ (fun name kind cells => by cases hkc : kind == NameKind.cell <;> simp [hkc]) _ _ _ _ ?_)
  rw [show ({ s with heap := s.heap.push { cls := .type "dict", data := .dict #[] } } : Shared).heap.objs.size = s.heap.objs.size + 1 from Heap.size_push ..]
  exact wpAny_bind (wpAny_pure (wpAny_pure hQ))
end
end
section
section
def Γc (Γ : Gm) (scope : Scope) (own : List Vb) : Gm := { Γ with
  gs := (scope.names.filter fun y => y.2 == .globalImplicit && scope.names.lookup y.1 == some .globalImplicit).map (·.1)
  cs := (scope.names.filter fun y => (y.2 == .free || y.2 == .cell) && scope.names.lookup y.1 == some y.2).map (·.1)
  vars := own ++ Γ.vars.filter fun vb => scope.names.lookup vb.x == some .free
  mvars := Γ.mvars.filter fun vb => scope.names.lookup vb.x == some .free }
structure Stat (Γ : Gm) (scope : Scope) : Prop where
  kind : scope.kind = .function
  nm : ∀ y ∈ scope.names, y.2 = .local → scope.names.lookup y.1 = some .local
  fr : ∀ y ∈ scope.names, y.2 = .free → y.1 ∈ Γ.cs
  cl : ∀ y ∈ scope.names, y.2 = .cell → scope.names.lookup y.1 = some .cell
  nd : ((cellsFrom 0 scope.names []).map (·.1)).Nodup
  cd : ∀ y ∈ scope.names, (y.1 == ("__classdict__" : Str)) = false
structure FOk (cenv : Env) (own : List (Str × Addr)) (s : Shared) : Prop where
  ns : ∃ m, s.heap.Ns cenv.locals m
  ce : ∀ n c, (n, c) ∈ own → ∃ v, s.heap.IsCell c v
structure OwnOk (scope : Scope) (cenv : Env) (own : List (Str × Addr)) : Prop where
  fn : cenv.scope.kind = .function
  kd : ∀ y k, scope.names.lookup y = some k → k ≠ .free → cenv.kindOf y = some k
  kf : ∀ y, scope.names.lookup y = some .free → cenv.kindOf y = some .free ∨ cenv.kindOf y = some .cell
  has : ∀ y, scope.names.lookup y = some .cell → ∃ c, (y, c) ∈ own
  lk : ∀ n c, (n, c) ∈ own → cenv.cells.lookup n = some c
  ap : ∀ n c, (n, c) ∈ own → ∀ y c', cenv.cells.lookup y = some c' → y ≠ n → c' ≠ c
def Fms (cenv : Env) (own : List (Str × Addr)) : List Addr := cenv.locals :: own.map (·.2)
theorem ns_ne_cell {h : Heap} {a c : Addr} {m : Str → Option Value} {v : Option Value} (hn : h.Ns a m) (hc : h.IsCell c v) : c ≠ a := by
  rintro rfl
  obtain ⟨o, es, ep, ho, hd, _⟩ := hn
  obtain ⟨o', ho', hd'⟩ := hc
  rw [ho] at ho'
  cases ho'
  rw [hd] at hd'
  cases hd'
section
variable {α : Type}
def BndOk (scope : Scope) (target : PySem.Expr) (It : α → Kn → Value → Heap → Prop) (own : α → List Vb) (tn : List Str) : Prop :=
  ∀ (prog : Program) (w : World) (A : Around) (cenv : Env) (oc : List (Str × Addr)) (K : Kn) (s : Shared) (x : α) (v : Value), OwnOk scope cenv oc → FOk cenv oc s → It x K v s.heap → A.handled = none →
    wpAny (model prog w) A (assign target cenv v) (fun _ s' => KB (Fms cenv oc) s s' ∧ FOk cenv oc s' ∧ (∀ vb ∈ own x, ∃ u, SeesV cenv s' vb.x u ∧ vb.R.rel vb.a K u) ∧ ∀ y u, y ∉ tn → SeesV cenv s y u → SeesV cenv s' y u) NoExc s
variable {scope : Scope} {x y : Str} {px py tp : Pos} {kk : Nat} {R : Rp α}
def ItR (R : Rp α) : α → Kn → Value → Heap → Prop := fun a K v _ => R.rel a K v
def ItP {β γ : Type} (R : Rp β) (S : Rp γ) : β × γ → Kn → Value → Heap → Prop := fun a K v h => ∃ T u w, v = .ref T ∧ h.IsTuple T #[u, w] ∧ R.rel a.1 K u ∧ S.rel a.2 K w
theorem bnd_local (hx : scope.names.lookup x = some .local) : BndOk scope (.Name x px) (ItR R) (fun a => [⟨x, α, R, a⟩]) [x] := by
  intro prog w A cenv oc K s a v O F hi hh
  have hk := O.kd x _ hx (by decide)
  refine ex1 F.ns fun m hm => ?_
  refine wpAny_assign_Name (wpAny_storeName_local hk hm (fun h' hn hs => ?_) (by rw [O.fn]; rfl))
  refine ⟨⟨h', _, rfl, fun b o hb e => hs.extBut b o (fun q => hb (by rw [q]; exact .head _)) e⟩, ⟨⟨_, hn⟩, fun n c hc => ?_⟩, fun vb hv => ?_, fun y u hy sy => ?_⟩
  · refine ex1 (F.ce n c hc) fun u hu => ?_
    exact ⟨u, hu.sameBut hs (ns_ne_cell hm hu)⟩
  · rw [List.mem_singleton.mp hv]
    exact ⟨v, .inl ⟨hk, _, hn, by simp⟩, hi⟩
  · rcases sy with ⟨h1, m', h2, h3⟩ | ⟨h1, h2, c, h3, h4⟩
    · refine .inl ⟨h1, _, hn, ?_⟩
      have e : m y = m' y := by
        (refine ex3 hm fun o es ep zz => and4 zz fun ho hd hkk hmm => ?_; try clear hm)
        (refine ex3 h2 fun o' es' ep' zz => and4 zz fun ho' hd' hkk' hmm' => ?_; try clear h2)
        rw [ho] at ho'; cases ho'
        rw [hd] at hd'; cases hd'
        rw [← hmm y, ← hmm' y]
      simp only [List.mem_singleton] at hy
      simp only [hy, if_false, e, h3]
    · exact .inr ⟨h1, h2, c, h3, h4.sameBut hs (ns_ne_cell hm h4)⟩
theorem bnd_cell (hx : scope.names.lookup x = some .cell) (hcd : autoParam ((x == ("__classdict__" : Str)) = false) autoC) : BndOk scope (.Name x px) (ItR R) (fun a => [⟨x, α, R, a⟩]) [x] := by
  intro prog w A cenv oc K s a v O F hi hh
  have hk := O.kd x _ hx (by decide)
  refine ex1 F.ns fun m hm => ?_
  refine ex1 (O.has x hx) fun c hc => ?_
  refine ex1 (F.ce x c hc) fun u₀ hu₀ => ?_
  have hcL := ns_ne_cell hm hu₀
  refine wpAny_assign_Name (wpAny_storeName_cell O.fn hk (O.lk x c hc) hu₀ fun h' hv hs => ?_)
  refine ⟨⟨h', _, rfl, fun b o hb e => hs.extBut b o (fun q => hb (by rw [q]; exact .tail _ (List.mem_map.mpr ⟨_, hc, rfl⟩))) e⟩, ⟨⟨m, hm.sameBut hs (Ne.symm hcL)⟩, fun n c' hc' => ?_⟩, fun vb hv' => ?_, fun y u hy sy => ?_⟩
  · by_cases e : n = x
    · subst e
      have : c' = c := Option.some.inj ((O.lk _ _ hc').symm.trans (O.lk _ _ hc))
      exact ⟨_, this ▸ hv⟩
    · refine ex1 (F.ce n c' hc') fun u hu => ?_
      exact ⟨u, hu.sameBut hs (O.ap x c hc n c' (O.lk _ _ hc') e)⟩
  · rw [List.mem_singleton.mp hv']
    exact ⟨v, .inr ⟨.inl hk, hcd, c, O.lk x c hc, hv⟩, hi⟩
  · rcases sy with ⟨h1, m', h2, h3⟩ | ⟨h1, h2, c', h3, h4⟩
    · exact .inl ⟨h1, m', h2.sameBut hs (Ne.symm hcL), h3⟩
    · simp only [List.mem_singleton] at hy
      exact .inr ⟨h1, h2, c', h3, h4.sameBut hs (O.ap x c hc y c' h3 hy)⟩
theorem bnd_pair {β γ : Type} {R : Rp β} {S : Rp γ} (hx : scope.names.lookup x = some .local) (hy : scope.names.lookup y = some .local) (hxy : x ≠ y) :
    BndOk scope (.Tuple [.Name x px, .Name y py] kk tp) (ItP R S) (fun a => [⟨x, β, R, a.1⟩, ⟨y, γ, S, a.2⟩]) [x, y] := by
  intro prog w A cenv oc K s a v O F hi hh
  have hkx := O.kd x _ hx (by decide)
  have hky := O.kd y _ hy (by decide)
  refine ex1 F.ns fun m hm => ?_
  (refine ex3 hi ?_; try clear hi; rintro T u z zz; refine and4 zz ?_; try clear zz; rintro rfl hT hu hz)
  refine kcp_assign hh hT hkx hky (by rw [O.fn]; rfl) hm fun h' tk hn hk => ?_
  have kL : ∀ c v, s.heap.IsCell c v → h'.IsCell c v := fun c v hc => by
    have := ns_ne_cell hm hc
    (refine ex1 hc fun o zz => and2 zz fun ho hd => ?_; try clear hc)
    exact ⟨o, hk c o this ho, hd⟩
  refine ⟨⟨h', tk, rfl, fun b o hb e => hk b o (fun q => hb (by rw [q]; exact .head _)) e⟩, ⟨⟨_, hn⟩, fun n c hc => (F.ce n c hc).imp fun v hv => kL c v hv⟩, fun vb hv => ?_, fun q r hq sq => ?_⟩
  · simp only [List.mem_cons, List.not_mem_nil, or_false] at hv
    rcases hv with rfl | rfl
    · exact ⟨u, .inl ⟨hkx, _, hn, by simp [hxy]⟩, hu⟩
    · exact ⟨z, .inl ⟨hky, _, hn, by simp⟩, hz⟩
  · rcases sq with ⟨h1, m', h2, h3⟩ | ⟨h1, h2, c, h3, h4⟩
    · refine .inl ⟨h1, _, hn, ?_⟩
      have e : m q = m' q := by
        (refine ex3 hm fun o es ep zz => and4 zz fun ho hd hkk hmm => ?_; try clear hm)
        (refine ex3 h2 fun o' es' ep' zz => and4 zz fun ho' hd' hkk' hmm' => ?_; try clear h2)
        rw [ho] at ho'; cases ho'
        rw [hd] at hd'; cases hd'
        rw [← hmm q, ← hmm' q]
      simp only [List.mem_cons, List.not_mem_nil, or_false, not_or] at hq
      simp only [hq.1, hq.2, if_false, e, h3]
    · exact .inr ⟨h1, h2, c, h3, kL _ _ h4⟩
end
section
variable {α : Type} (prog : Program) (w : World) (A : Around) (Γ : Gm)
def EvI (e target : PySem.Expr) (It : α → Kn → Value → Heap → Prop) (xs : List α) : Prop :=
  ∀ env s Z, Cx Γ env s Z → wpAny (model prog w) A (eval e env) (fun x s₁ => wpAny (model prog w) A (pyIter x) (fun it s₂ => ∃ I fp wr P Md St, it = .ref I ∧ Src prog w A target I fp wr xs.length P Md St ∧ St 0 s₂.heap ∧
    (∀ b ∈ fp, (∃ o, s₂.heap.get? b = some o) ∧ b ∉ Z) ∧ (∀ b ∈ wr, s.heap.get? b = none) ∧ Kp s s₂ ∧ ∀ i v h x, xs[i]? = some x → P i v h → It x (hid (wr ++ Z) s₂.heap) v h) NoExc s₁) NoExc s
end
theorem ownOk_of {scope : Scope} {env : Env} {C : Addr} {h : Heap} {Γ : Gm} {s : Shared} {Z : List Addr} (c : Cx Γ env s Z) (st : Stat Γ scope) (hlt : ∀ b o, s.heap.get? b = some o → b < C) :
    OwnOk scope (compEnvC scope (cellsFrom (C + 1) scope.names (clFrom env.cells scope.names [])) C env) (cellsFrom (C + 1) scope.names []) := by
  have hfr : ∀ y ∈ scope.names, y.2 = .free → ∃ c, env.cells.lookup y.1 = some c := fun y hy hf => ((c.ck _ (st.fr y hy hf)).2).imp fun _ z => z.1
  have lk : ∀ n c, (n, c) ∈ cellsFrom (C + 1) scope.names [] → (cellsFrom (C + 1) scope.names []).lookup n = some c := fun n c hm =>
    lookup_of_mem_nodup (cellsFrom_names scope.names 0 (C + 1) [] [] rfl ▸ st.nd) hm
  have lk' : ∀ n c, (n, c) ∈ cellsFrom (C + 1) scope.names [] → (cellsFrom (C + 1) scope.names (clFrom env.cells scope.names [])).lookup n = some c := fun n c hm => by
    rw [cellsFrom_append]; exact lookup_append_some (lk n c hm)
  have ok := cellsFrom_ok scope.names { objs := Array.replicate (C + 1) default } (C + 1) [] ⟨fun _ _ hm => (nomatch hm), List.Pairwise.nil⟩ (by simp)
  simp only [Array.size_replicate] at ok
  refine ⟨st.kind, fun y k hy hk => ?_, fun y hy => ?_, fun y hy => cellsFrom_own (mem_of_lookup hy), lk', fun n c hc y c' hy hne => ?_⟩
  · exact (relabel_lookup (env := env) hy).elim id fun q => absurd q.1 hk
  · exact (relabel_lookup (env := env) hy).elim (fun q => .inl q) fun q => .inr q.2
  · rintro rfl
    have hm := mem_of_lookup hy
    simp only [compEnvC] at hm
    rw [cellsFrom_append] at hm
    rcases List.mem_append.mp hm with hm | hm
    · exact hne (name_of_addr ok.apart hm hc)
    · have hc1 := (ok.empty n c' hc).2
      rcases clFrom_mem hfr hm with q | q
      · cases q
      · obtain ⟨_, z, q', o, ho⟩ : _ ∧ ∃ z, env.cells.lookup y = some z ∧ ∃ o, s.heap.get? z = some o := c.ck y (by
          have : (y, NameKind.free) ∈ scope.names := by
            have key : ∀ {names : List (Str × NameKind)} {acc : List (Str × Addr)}, (y, c') ∈ clFrom env.cells names acc → (y, c') ∈ acc ∨ (y, NameKind.free) ∈ names := by
              intro names
              induction names with
              | nil => intro acc h; exact .inl h
              | cons z r ih =>
                obtain ⟨n', k'⟩ := z
                intro acc h
                unfold clFrom at h
                split at h
                · rename_i hk
                  rcases ih h with h | h
                  · rcases List.mem_cons.mp h with e | h
                    · cases e
                      have : k' = .free := by simpa using hk
                      rw [this]; exact .inr List.mem_cons_self
                    · exact .inl h
                  · exact .inr (List.mem_cons_of_mem _ h)
                · rcases ih h with h | h
                  · exact .inl h
                  · exact .inr (List.mem_cons_of_mem _ h)
            rcases key hm with q | q
            · cases q
            · exact q
          exact st.fr _ this rfl)
        have q : env.cells.lookup y = some c' := q
        rw [q] at q'
        cases q'
        exact absurd (Nat.lt_of_lt_of_le (hlt _ _ ho) (Nat.le_succ _)) (Nat.not_lt.mpr hc1)
end
end
section
section
theorem cx_comp {Γ : Gm} {scope : Scope} {env cenv : Env} {s s₁ : Shared} {Z Z' : List Addr} {oc : List (Str × Addr)} {vbs : List Vb} (c : Cx Γ env s Z) (st : Stat Γ scope) (k : Kp s s₁) (O : OwnOk scope cenv oc)
    (hg : cenv.globals = env.globals) (hb : cenv.builtins = env.builtins)
    (hcl : ∀ x c', scope.names.lookup x = some .free → env.cells.lookup x = some c' → cenv.cells.lookup x = some c')
    (hoc : ∀ n a, (n, a) ∈ oc → ∃ o, s₁.heap.get? a = some o)
    (hZ : ∀ z ∈ Z, z ∈ Z') (hZ' : ∀ z ∈ Z', z ∈ Z ∨ s.heap.get? z = none) (hzl : ∀ z ∈ Z', ∃ o, s₁.heap.get? z = some o)
    (hown : ∀ vb ∈ vbs, ∃ u, SeesV cenv s₁ vb.x u ∧ vb.R.rel vb.a (hid Z' s₁.heap) u) : Cx (Γc Γ scope vbs) cenv s₁ Z' := by
  have kk : ∀ b o, s.heap.get? b = some o → s₁.heap.get? b = some o := fun b o e => k.get e
  have see : ∀ (y : Str) (v : Value), scope.names.lookup y = some .free → SeesV env s y v → SeesV cenv s₁ y v := fun y v hy sy => by
    have hm := mem_of_lookup hy
    refine and2 (c.ck y (st.fr _ hm rfl)) fun hkc zz => ex1 zz fun c' zz => and2 zz fun hl _ => ?_
    rcases sy with ⟨h1, _⟩ | ⟨h1, h2, c'', h3, h4⟩
    · rw [h1] at hkc
      rcases hkc with q | q <;> cases q
    · exact .inr ⟨(O.kf y hy).symm, h2, c'', hcl y c'' hy h3, h4.keeps kk⟩
  refine ⟨O.fn, hg.trans c.gl, hb.trans c.bl, c.g.at' fun o e => kk _ o e, c.b.at' fun o e => kk _ o e, ?_, fun x hx => ?_, fun x hx => ?_, hzl, fun vb hv => ?_, fun vb hv => ?_⟩
  · refine ex1 c.fr fun m F => ?_; exact ⟨m, F.keeps kk⟩
  · (have zz := List.mem_map.mp hx; refine ex1 zz ?_; try clear zz; rintro y zz; refine and2 zz ?_; try clear zz; rintro hy rfl)
    have := (List.mem_filter.mp hy).2
    simp only [Bool.and_eq_true, beq_iff_eq] at this
    exact O.kd _ _ this.2 (by decide)
  · (have zz := List.mem_map.mp hx; refine ex1 zz ?_; try clear zz; rintro y zz; refine and2 zz ?_; try clear zz; rintro hy rfl)
    refine and2 (List.mem_filter.mp hy) fun hm hq => ?_
    simp only [Bool.and_eq_true, Bool.or_eq_true, beq_iff_eq] at hq
    rcases hq.1 with e | e
    · rw [e] at hq
      refine and2 (c.ck _ (st.fr y hm e)) fun _ zz => ex1 zz fun c' zz => and2 zz fun hl zz => ex1 zz fun o ho => ?_
      exact ⟨(O.kf _ hq.2).symm, c', hcl _ c' hq.2 hl, o, kk _ _ ho⟩
    · rw [e] at hq
      refine ex1 (O.has _ hq.2) fun c' hc' => ?_
      exact ⟨.inl (O.kd _ _ hq.2 (by decide)), c', O.lk _ _ hc', hoc _ _ hc'⟩
  · rcases List.mem_append.mp hv with hv | hv
    · exact hown vb hv
    · refine and2 (List.mem_filter.mp hv) fun hv hf => ?_
      refine ex1 (c.vis vb hv) fun v zz => and2 zz fun h1 h2 => ?_
      refine ⟨v, see _ v (by simpa using hf) h1, vb.R.mono (fun b o x => ⟨fun q => ?_, kk b o x.2⟩) h2⟩
      rcases hZ' b q with q | q
      · exact x.1 q
      · have := x.2; rw [q] at this; cases this
  · refine and2 (List.mem_filter.mp hv) fun hv hf => ?_
    refine ex1 (c.mvis vb hv) fun v zz => and2 zz fun h1 h2 => ?_
    exact ⟨v, see _ v (by simpa using hf) h1, vb.R.mono (fun b o x => ⟨by simp, kk b o x.2⟩) h2⟩
theorem get_lt {h : Heap} {b : Addr} {o : Obj} (e : h.get? b = some o) : b < h.objs.size := Heap.lt_size e
theorem get_none {h : Heap} {b : Addr} (e : h.objs.size ≤ b) : h.get? b = none := by
  cases q : h.get? b with
  | none => rfl
  | some o => exact absurd (Heap.lt_size q) (Nat.not_lt.mpr e)
def Rbd (Γ : Gm) (scope : Scope) (cenv : Env) (oc : List (Str × Addr)) (D : Addr) (Z' : List Addr) (s₁ : Shared) : Prop :=
  ∀ (s' : Shared) (vbs : List Vb) (wr' : List Addr), KB (D :: (Fms cenv oc ++ wr')) s₁ s' → (∀ b ∈ wr', s₁.heap.get? b = none) → (∃ o, s'.heap.get? D = some o) → (∀ b ∈ wr', ∃ o, s'.heap.get? b = some o) → FOk cenv oc s' →
    (∀ vb ∈ vbs, ∃ u, SeesV cenv s' vb.x u ∧ vb.R.rel vb.a (hid (wr' ++ Z') s'.heap) u) → Cx (Γc Γ scope vbs) cenv s' (wr' ++ Z')
section
variable {α β : Type} {prog : Program} {w : World} {A : Around} {Γ : Gm} {e target iter : PySem.Expr} {ifs : List PySem.Expr} {rest : List Comprehension} {scope : Scope} {pos : Pos} {env : Env} {s : Shared} {Z : List Addr} {accO : Obj} {newAcc : Sem Value}
  {emit : Addr → Env → Sem Unit} {xs : List α} {It : α → Kn → Value → Heap → Prop} {own : α → List Vb} {tn : List Str} {p : α → Bool} {f : α → List β} {AccS : Addr → List Addr → List β → Heap → Prop} {use : Option (Value → Sem Unit)} {Q : Value → Shared → Prop}
theorem comp_coreL (hcl : clausesOf e = ⟨target, iter, ifs, 0⟩ :: rest) (hs : ∀ env x, foldedSetIterable iter env x = pure x)
    (hnew : ∀ (Q : Value → Shared → Prop) (s : Shared), Q (.ref s.heap.objs.size) { s with heap := s.heap.push accO } → wpAny (model prog w) A newAcc Q NoExc s) (hof : accO.isFreed = false)
    (hsh : ∀ I D cenv, compTurn e 0 (.ref I) (.ref D) cenv = stdTurn iter.pos (.ref I) target ifs cenv (emit D cenv) (.compLoop e 0 (.ref I) (.ref D) cenv))
    (hstart : ∀ I D cenv (R : Result → Shared → Prop) s, codeAny (model prog w) A (.compLoop e 0 (.ref I) (.ref D) cenv) R s → wpAny (model prog w) A (pyIter (.ref I)) (fun it' s' => codeAny (model prog w) A (.compLoop e 0 it' (.ref D) cenv) R s') (notedBy (model prog w) A cenv fun x s' => R (.error x) s') s → codeAny (model prog w) A (.compStart e 0 (.ref I) (.ref D) cenv) R s)
    (hq : ∀ I D cenv, (Code.compLoop e 0 (.ref I) (.ref D) cenv).quiet = true) (hun : ∀ I D cenv, A.under (.compLoop e 0 (.ref I) (.ref D) cenv) = A) (hden : ∀ I D cenv, (model prog w).den (.compLoop e 0 (.ref I) (.ref D) cenv) = (compTurn e 0 (.ref I) (.ref D) cenv).onRaise (fun x => do noteFrame x cenv; theTreesLotGoes x))
    (c : Cx Γ env s Z) (hh : A.handled = none) (hi : EvI prog w A Γ iter target It xs) (st : Stat Γ scope) (hb : BndOk scope target It own tn)
    (hts : ∀ x ∈ xs, Ets prog w A (Γc Γ scope (own x)) ifs (p x))
    (hem : ∀ x ∈ xs, p x = true → ∀ D cenv oc s₁ Z' ys, OwnOk scope cenv oc → FOk cenv oc s₁ → (∀ b ∈ Fms cenv oc, b ∈ Z') → D ∈ Z' → D ∉ Fms cenv oc → Cx (Γc Γ scope (own x)) cenv s₁ Z' → Rbd Γ scope cenv oc D Z' s₁ → AccS D Z' ys s₁.heap → (ys ++ f x).length ≤ sizeLine →
      wpAny (model prog w) A (emit D cenv) (fun _ s₂ => KB (D :: Fms cenv oc) s₁ s₂ ∧ FOk cenv oc s₂ ∧ AccS D Z' (ys ++ f x) s₂.heap) NoExc s₁)
    (acc0 : ∀ D Z' h, h.get? D = some accO → AccS D Z' [] h) (acc_has : ∀ D Z' ys h, AccS D Z' ys h → ∃ o, h.get? D = some o) (acc_stab : ∀ D Z' ys h h', (∀ b o, (b = D ∨ b ∉ Z') → h.get? b = some o → h'.get? b = some o) → AccS D Z' ys h → AccS D Z' ys h')
    (hlen : (xs.flatMap fun x => if p x = true then f x else []).length ≤ sizeLine)
    (hRR : ∀ D C m s₅ Z', Γ.L < D → Kp s s₅ → s.heap.get? D = none → s.heap.get? C = none → D ≠ C → C ∈ Z' → D ∈ Z' → (∀ z ∈ Z, z ∈ Z') → (∀ z ∈ Z', z ∈ Z ∨ s.heap.get? z = none) → s₅.heap.Ns C m → AccS D Z' (xs.flatMap fun x => if p x = true then f x else []) s₅.heap → compPost (model prog w) A NoExc use Q (.ref D) C (.ok .next) s₅) :
    wpAny (model prog w) A (comprehension e scope env pos newAcc false (eval iter env) use) Q NoExc s := by
  have hfr : ∀ y ∈ scope.names, y.2 = .free → ∃ c, env.cells.lookup y.1 = some c := fun y hy hf => ((c.ck _ (st.fr y hy hf)).2).imp fun _ z => z.1
  refine wpAny_comprehension_free hcl (hs env) (closure_ok hfr) st.kind st.nm ?_
  refine wpAny_mono (hi env s Z c) (fun xv s₁ h₁ => wpAny_mono h₁ (fun it s₂ h₂ => ?_) fun _ _ e => e) fun _ _ e => e
  (refine ex6 h₂ ?_; try clear h₂; rintro I fp wr P Md St zz; refine and7 zz ?_; try clear zz; rintro rfl W hst hfp hwr k₂ hit)
  refine hnew _ _ (newCompEnv ?_)
  dsimp only
  generalize hC : (s₂.heap.push accO).objs.size = C
  have hC' : C = s₂.heap.objs.size + 1 := by rw [← hC, Heap.size_push]
  generalize hH : pushCells ((s₂.heap.push accO).push { cls := .type "dict", data := .dict #[] }) scope.names = H
  have kp : ∀ b o, s₂.heap.get? b = some o → H.get? b = some o := fun b o e => by
    rw [← hH]; exact pushCells_keeps _ _ b o (Heap.get?_push_of_some _ (Heap.get?_push_of_some _ e))
  have hD : H.get? s₂.heap.objs.size = some accO := by
    rw [← hH]; exact pushCells_keeps _ _ _ _ (Heap.get?_push_of_some _ (Heap.get?_push_size _ hof))
  have hN : H.Ns C fun _ => none := by
    rw [← hH, ← hC]; exact (Heap.Ns.new (s₂.heap.push accO) (.type "dict")).keeps (pushCells_keeps _ _)
  have ok := cellsFrom_ok scope.names ((s₂.heap.push accO).push { cls := .type "dict", data := .dict #[] }) (C + 1) [] ⟨fun _ _ hm => (nomatch hm), List.Pairwise.nil⟩ (by rw [Heap.size_push, hC]; exact Nat.le_refl _)
  rw [hH, Heap.size_push, hC] at ok
  generalize hoc : cellsFrom (C + 1) scope.names [] = oc at ok
  have kk₂ : ∀ b o, s.heap.get? b = some o → s₂.heap.get? b = some o := fun b o e => k₂.get e
  have O : OwnOk scope (compEnvC scope (cellsFrom (C + 1) scope.names (clFrom env.cells scope.names [])) C env) oc := hoc ▸ ownOk_of (h := H) c st (fun b o e => by rw [hC']; exact Nat.lt_succ_of_lt (get_lt (kk₂ b o e)))
  have hcells : (cellsFrom (C + 1) scope.names (clFrom env.cells scope.names [])) = oc ++ clFrom env.cells scope.names [] := by rw [cellsFrom_append, hoc]
  have hoc' : ∀ n a, (n, a) ∈ oc → scope.names.lookup n = some .cell := fun n a hm => st.cl _ (cellsFrom_kind (hoc ▸ hm)) rfl
  have hclk : ∀ x c', scope.names.lookup x = some .free → env.cells.lookup x = some c' → (oc ++ clFrom env.cells scope.names []).lookup x = some c' := fun x c' hx hl => by
    rw [lookup_append_none fun q hq e => by have := hoc' q.1 q.2 hq; rw [e, hx] at this; cases this]
    refine ex1 (clFrom_has (cells := env.cells) (acc := []) (mem_of_lookup hx)) fun z hz => ?_
    refine ex1 (lookup_some_of_mem hz) fun z' hz' => ?_
    rcases clFrom_mem hfr (mem_of_lookup hz') with q | q
    · cases q
    · rw [hz']; exact q.symm.trans hl
  generalize hce : compEnvC scope (cellsFrom (C + 1) scope.names (clFrom env.cells scope.names [])) C env = cenv at O
  have hce' : ({ (newEnv scope C env.globals (cellsFrom (C + 1) scope.names (clFrom env.cells scope.names [])) env.qual none .none (some env) builtinsNs) with scope := relabel scope env } : Env) = cenv := by rw [← hce]; rfl
  have hcL : cenv.locals = C := by rw [← hce]; rfl
  have hcc : cenv.cells = oc ++ clFrom env.cells scope.names [] := by rw [← hce, ← hcells]; rfl
  have hcg : cenv.globals = env.globals := by rw [← hce]; rfl
  have hcb : cenv.builtins = env.builtins := by rw [← hce]; rfl
  show codeAny _ _ (.compStart e 0 (.ref I) (.ref s₂.heap.objs.size) ({ (newEnv scope C env.globals (cellsFrom (C + 1) scope.names (clFrom env.cells scope.names [])) env.qual none .none (some env) builtinsNs) with scope := relabel scope env } : Env)) (compPost (model prog w) A NoExc use Q (.ref s₂.heap.objs.size) C) { s₂ with heap := H }
  rw [hce']
  generalize hDn : s₂.heap.objs.size = D at hD hC' ⊢
  have fresh : ∀ a, D ≤ a → s₂.heap.get? a = none := fun a ha => get_none (hDn ▸ ha)
  have hFmem : ∀ b ∈ Fms cenv oc, D < b := fun b hb' => by
    rcases List.mem_cons.mp hb' with q | q
    · rw [q, hcL, hC']; exact Nat.lt_succ_self _
    · (have zz := List.mem_map.mp q; refine ex1 zz ?_; try clear zz; rintro ⟨n, a⟩ zz; refine and2 zz ?_; try clear zz; rintro hm rfl)
      have := (ok.empty n a hm).2
      simp only
      omega
  have hDF : D ∉ Fms cenv oc := fun q => Nat.lt_irrefl _ (hFmem _ q)
  have hfpD : ∀ b ∈ fp, b < D := fun b hb' => by (have zz := hfp b hb'; refine and2 zz ?_; try clear zz; rintro ⟨o, ho⟩ _); rw [← hDn]; exact get_lt ho
  have hFf : ∀ b ∈ Fms cenv oc, b ∉ fp := fun b hb' q => Nat.lt_asymm (hFmem b hb') (hfpD b q)
  have hDf : D ∉ fp := fun q => Nat.lt_irrefl _ (hfpD _ q)
  have hwF : ∀ b ∈ wr, b ∉ Fms cenv oc := fun b hb' q => hFf b q (W.t.sub b hb')
  have hMv : ∀ z ∈ D :: (Fms cenv oc ++ wr), s.heap.get? z = none := fun z q => by
    rcases List.mem_cons.mp q with q | q
    · cases h : s.heap.get? z with
      | none => rfl
      | some o => have := kk₂ _ _ h; rw [q, fresh D (Nat.le_refl _)] at this; cases this
    · rcases List.mem_append.mp q with q | q
      · cases h : s.heap.get? z with
        | none => rfl
        | some o => have := kk₂ _ _ h; rw [fresh z (Nat.le_of_lt (hFmem z q))] at this; cases this
      · exact hwr z q
  have hZ' : ∀ z ∈ (D :: (Fms cenv oc ++ wr)) ++ Z, z ∈ Z ∨ s.heap.get? z = none := fun z hz => (List.mem_append.mp hz).elim (fun q => .inr (hMv z q)) .inl
  have hZs : ∀ z ∈ Z, z ∈ (D :: (Fms cenv oc ++ wr)) ++ Z := fun z hz => List.mem_append_right _ hz
  have loop : codeAny (model prog w) A (.compLoop e 0 (.ref I) (.ref D) cenv) (compPost (model prog w) A NoExc use Q (.ref D) C) { s₂ with heap := H } := by
    have kall : ∀ s₁, KB (D :: (Fms cenv oc ++ wr)) { s₂ with heap := H } s₁ → Kp s s₁ := fun s₁ k => by
      (refine ex2 k₂ ?_; try clear k₂; rintro h2 t2 zz; refine and2 zz ?_; try clear zz; rintro rfl k2)
      (refine ex2 k ?_; try clear k; rintro h1 t1 zz; refine and2 zz ?_; try clear zz; rintro rfl k1)
      exact ⟨h1, t1, rfl, fun b o e => k1 b o (fun q => by rw [hMv b q] at e; cases e) (kp b o (k2 b o e))⟩
    have kin : ∀ s₁, KB (D :: (Fms cenv oc ++ wr)) { s₂ with heap := H } s₁ → ∀ b o, hid (wr ++ Z) s₂.heap b o → hid ((D :: (Fms cenv oc ++ wr)) ++ Z) s₁.heap b o := fun s₁ k b o x => by
      have hlt : b < D := hDn ▸ get_lt x.2
      have nb : b ∉ D :: (Fms cenv oc ++ wr) := fun q => by
        rcases List.mem_cons.mp q with q | q
        · exact Nat.lt_irrefl _ (q ▸ hlt)
        · rcases List.mem_append.mp q with q | q
          · exact Nat.lt_asymm hlt (hFmem b q)
          · exact x.1 (List.mem_append_left _ q)
      exact ⟨fun q => (List.mem_append.mp q).elim nb fun q => x.1 (List.mem_append_right _ q), k.get nb (kp b o x.2)⟩
    have foS : ∀ s₁ s₂, KB (D :: wr) s₁ s₂ → FOk cenv oc s₁ → FOk cenv oc s₂ := fun s₁ s₂ k F => by
      have nd : ∀ b ∈ Fms cenv oc, b ∉ D :: wr := fun b hb' q => (List.mem_cons.mp q).elim (fun q => hDF (q ▸ hb')) fun q => hwF b q hb'
      refine ⟨?_, fun n a hm => ?_⟩
      · refine ex1 F.ns fun m hm => ?_; exact ⟨m, hm.at' fun o e => k.get (nd _ (.head _)) e⟩
      · refine ex2 (F.ce n a hm) fun v o zz => and2 zz fun ho hd => ?_
        exact ⟨v, o, k.get (nd _ (.tail _ (List.mem_map.mpr ⟨_, hm, rfl⟩))) ho, hd⟩
    refine cloop_go (It := fun x v h => It x (hid (wr ++ Z) s₂.heap) v h) (FO := FOk cenv oc) (On := fun x s' => ∀ vb ∈ own x, ∃ u, SeesV cenv s' vb.x u ∧ vb.R.rel vb.a (hid (wr ++ Z) s₂.heap) u) (D := D) (Fm := Fms cenv oc) (Z := (D :: (Fms cenv oc ++ wr)) ++ Z) (AccS := AccS D ((D :: (Fms cenv oc ++ wr)) ++ Z)) (p := p) (f := f) (Γ' := fun x => Γc Γ scope (own x))
      (hsh I D cenv) (hq I D cenv) (hun I D cenv) (hden I D cenv) W.t (W.t.frame _ _ _ hst fun b _ o e => kp b o e) hit ⟨⟨_, hcL ▸ hN⟩, fun n a hm => ⟨none, (ok.empty n a hm).1⟩⟩ foS ?_ ?_ W.ex ?_ hts ?_ ?_ (acc0 _ _ _ hD) (by simpa using hlen) hFf hDf ?_
    · intro s₁ x v hx fo hi
      exact wpAny_mono (hb prog w A cenv oc _ s₁ x v O fo hi hh) (fun _ s' h => ⟨h.1, h.2.1, h.2.2.1⟩) fun _ _ x => x
    · intro x s₁ s₂ k on vb hv
      refine ex1 (on vb hv) fun u zz => and2 zz fun h1 h2 => ?_
      exact ⟨u, h1.keeps k, h2⟩
    · intro x s₁ hx fo on k hw hac
      refine cx_comp (env := env) (s := s) (Z := Z) c st (kall s₁ k) O hcg hcb (fun y c' hy hl => by rw [hcc]; exact hclk y c' hy hl) (fun n a hm => ?_) hZs hZ' (fun z hz => ?_) fun vb hv => ?_
      · refine ex2 (fo.ce n a hm) fun v o zz => and2 zz fun ho _ => ?_; exact ⟨o, ho⟩
      · rcases List.mem_append.mp hz with q | q
        · rcases List.mem_cons.mp q with q | q
          · rw [q]; (refine ex1 hac fun ys hy => ?_; try clear hac); exact acc_has _ _ _ _ hy
          · rcases List.mem_append.mp q with q | q
            · rcases List.mem_cons.mp q with q | q
              · refine ex4 fo.ns fun m o _ _ zz => and2 zz fun ho _ => ?_; rw [q]; exact ⟨o, ho⟩
              · (have zz := List.mem_map.mp q; refine ex1 zz ?_; try clear zz; rintro ⟨n, a⟩ zz; refine and2 zz ?_; try clear zz; rintro hm rfl)
                refine ex2 (fo.ce n a hm) fun v o zz => and2 zz fun ho _ => ?_; exact ⟨o, ho⟩
            · exact hw z q
        · refine ex1 (c.zl z q) fun o ho => ?_; exact ⟨o, (kall s₁ k).get ho⟩
      · refine ex1 (on vb hv) fun u zz => and2 zz fun h1 h2 => ?_
        exact ⟨u, h1, vb.R.mono (kin s₁ k) h2⟩
    · intro x ys s₁ hx hp fo on k cx hac hl
      refine hem x hx hp D cenv oc s₁ _ ys O fo (fun b hb' => List.mem_append_left _ (.tail _ (List.mem_append_left _ hb'))) (List.mem_append_left _ (.head _)) hDF cx (fun s' vbs wr' k' hw' hD' hw'' fo' hv' => ?_) hac hl
      have ks : Kp s s' := by
        have k1 := kall s₁ k
        (refine ex2 k1 ?_; try clear k1; rintro h1 t1 zz; refine and2 zz ?_; try clear zz; rintro rfl kk1)
        (refine ex2 k' ?_; try clear k'; rintro h3 t3 zz; refine and2 zz ?_; try clear zz; rintro rfl kk3)
        refine ⟨h3, t3, rfl, fun b o e => kk3 b o (fun q => ?_) (kk1 b o e)⟩
        rcases List.mem_cons.mp q with q | q
        · rw [hMv b (q ▸ .head _)] at e; cases e
        · rcases List.mem_append.mp q with q | q
          · rw [hMv b (.tail _ (List.mem_append_left _ q))] at e; cases e
          · have := hw' b q; rw [kk1 b o e] at this; cases this
      refine cx_comp (env := env) (s := s) (Z := Z) c st ks O hcg hcb (fun y c' hy hl => by rw [hcc]; exact hclk y c' hy hl) (fun n a hm => ?_) (fun z hz => List.mem_append_right _ (hZs z hz)) (fun z hz => ?_) (fun z hz => ?_) hv'
      · refine ex2 (fo'.ce n a hm) fun v o zz => and2 zz fun ho _ => ?_; exact ⟨o, ho⟩
      · rcases List.mem_append.mp hz with q | q
        · right
          cases h : s.heap.get? z with
          | none => rfl
          | some o => have := (kall s₁ k).get h; rw [hw' z q] at this; cases this
        · exact hZ' z q
      · rcases List.mem_append.mp hz with q | q
        · exact hw'' z q
        · rcases List.mem_append.mp q with q | q
          · rcases List.mem_cons.mp q with q | q
            · rw [q]; exact hD'
            · rcases List.mem_append.mp q with q | q
              · rcases List.mem_cons.mp q with q | q
                · refine ex4 fo'.ns fun m o _ _ zz => and2 zz fun ho _ => ?_; rw [q]; exact ⟨o, ho⟩
                · (have zz := List.mem_map.mp q; refine ex1 zz ?_; try clear zz; rintro ⟨n, a⟩ zz; refine and2 zz ?_; try clear zz; rintro hm rfl)
                  refine ex2 (fo'.ce n a hm) fun v o zz => and2 zz fun ho _ => ?_; exact ⟨o, ho⟩
              · refine ex1 (cx.zl z (List.mem_append_left _ (.tail _ (List.mem_append_right _ q)))) fun o ho => ?_
                refine ⟨o, k'.get (fun q' => ?_) ho⟩
                rcases List.mem_cons.mp q' with q' | q'
                · exact hDf (W.t.sub _ (q' ▸ q))
                · rcases List.mem_append.mp q' with q' | q'
                  · exact hwF z q q'
                  · have := hw' z q'; rw [ho] at this; cases this
          · refine ex1 (c.zl z q) fun o ho => ?_; exact ⟨o, ks.get ho⟩
    · intro ys s₁ s₂ k hac
      refine acc_stab _ _ _ _ _ (fun b o hb' e => k.get (fun q => ?_) e) hac
      rcases hb' with q' | q'
      · rw [q'] at q
        exact (List.mem_append.mp q).elim hDF fun q => hDf (W.t.sub _ q)
      · exact q' (List.mem_append_left _ (.tail _ q))
    · intro s₅ k fo hac
      refine ex1 fo.ns fun m hm => ?_
      exact hRR D C m s₅ _ (by refine ex1 c.fr fun m' F => ?_; have := F.ns.lt; refine ex3 F.ns fun o _ _ zz => and2 zz fun ho _ => ?_; exact hDn ▸ get_lt (kk₂ _ _ ho)) (kall s₅ k) (hMv D (.head _)) (hMv C (.tail _ (List.mem_append_left _ (hcL ▸ .head _)))) (by rw [hC']; exact Nat.ne_of_lt (Nat.lt_succ_self _)) (List.mem_append_left _ (.tail _ (List.mem_append_left _ (hcL ▸ .head _)))) (List.mem_append_left _ (.head _)) hZs hZ' (hcL ▸ hm) (by simpa using hac)
  exact hstart _ _ _ _ _ loop (W.self 0 _ _ _ (W.t.frame _ _ _ hst fun b _ o e => kp b o e) loop)
theorem comp_core (hcl : clausesOf e = ⟨target, iter, ifs, 0⟩ :: rest) (hs : ∀ env x, foldedSetIterable iter env x = pure x)
    (hnew : ∀ (Q : Value → Shared → Prop) (s : Shared), Q (.ref s.heap.objs.size) { s with heap := s.heap.push accO } → wpAny (model prog w) A newAcc Q NoExc s) (hof : accO.isFreed = false)
    (hsh : ∀ I D cenv, compTurn e 0 (.ref I) (.ref D) cenv = stdTurn iter.pos (.ref I) target ifs cenv (emit D cenv) (.compLoop e 0 (.ref I) (.ref D) cenv))
    (hstart : ∀ I D cenv (R : Result → Shared → Prop) s, codeAny (model prog w) A (.compLoop e 0 (.ref I) (.ref D) cenv) R s → wpAny (model prog w) A (pyIter (.ref I)) (fun it' s' => codeAny (model prog w) A (.compLoop e 0 it' (.ref D) cenv) R s') (notedBy (model prog w) A cenv fun x s' => R (.error x) s') s → codeAny (model prog w) A (.compStart e 0 (.ref I) (.ref D) cenv) R s)
    (hq : ∀ I D cenv, (Code.compLoop e 0 (.ref I) (.ref D) cenv).quiet = true) (hun : ∀ I D cenv, A.under (.compLoop e 0 (.ref I) (.ref D) cenv) = A) (hden : ∀ I D cenv, (model prog w).den (.compLoop e 0 (.ref I) (.ref D) cenv) = (compTurn e 0 (.ref I) (.ref D) cenv).onRaise (fun x => do noteFrame x cenv; theTreesLotGoes x))
    (c : Cx Γ env s Z) (hh : A.handled = none) (hi : EvI prog w A Γ iter target It xs) (st : Stat Γ scope) (hb : BndOk scope target It own tn)
    (hts : ∀ x ∈ xs, Ets prog w A (Γc Γ scope (own x)) ifs (p x))
    (hem : ∀ x ∈ xs, p x = true → ∀ D cenv oc s₁ Z' ys, OwnOk scope cenv oc → FOk cenv oc s₁ → (∀ b ∈ Fms cenv oc, b ∈ Z') → D ∈ Z' → D ∉ Fms cenv oc → Cx (Γc Γ scope (own x)) cenv s₁ Z' → Rbd Γ scope cenv oc D Z' s₁ → AccS D Z' ys s₁.heap → (ys ++ f x).length ≤ sizeLine →
      wpAny (model prog w) A (emit D cenv) (fun _ s₂ => KB (D :: Fms cenv oc) s₁ s₂ ∧ FOk cenv oc s₂ ∧ AccS D Z' (ys ++ f x) s₂.heap) NoExc s₁)
    (acc0 : ∀ D Z' h, h.get? D = some accO → AccS D Z' [] h) (acc_has : ∀ D Z' ys h, AccS D Z' ys h → ∃ o, h.get? D = some o) (acc_stab : ∀ D Z' ys h h', (∀ b o, (b = D ∨ b ∉ Z') → h.get? b = some o → h'.get? b = some o) → AccS D Z' ys h → AccS D Z' ys h')
    (hlen : (xs.flatMap fun x => if p x = true then f x else []).length ≤ sizeLine)
    (hRR : ∀ D C m s₅ Z', Kp s s₅ → s.heap.get? D = none → s.heap.get? C = none → D ≠ C → C ∈ Z' → D ∈ Z' → (∀ z ∈ Z, z ∈ Z') → (∀ z ∈ Z', z ∈ Z ∨ s.heap.get? z = none) → s₅.heap.Ns C m → AccS D Z' (xs.flatMap fun x => if p x = true then f x else []) s₅.heap → compPost (model prog w) A NoExc use Q (.ref D) C (.ok .next) s₅) :
    wpAny (model prog w) A (comprehension e scope env pos newAcc false (eval iter env) use) Q NoExc s :=
  comp_coreL hcl hs hnew hof hsh hstart hq hun hden c hh hi st hb hts hem acc0 acc_has acc_stab hlen fun D C m s₅ Z' _ => hRR D C m s₅ Z'
end
end
end
section
section
section
variable {α β γ : Type} {prog : Program} {w : World} {A : Around} {Γ : Gm} {R : Rp β}
def AccL (R : Rp β) (D : Addr) (Z' : List Addr) (ys : List β) (h : Heap) : Prop := ∃ vs, h.IsList D vs.toArray ∧ A2 (fun b u => R.rel b (hid Z' h) u) ys vs
theorem accL_stab (D : Addr) (Z' : List Addr) (ys : List β) (h h' : Heap) (hk : ∀ b o, (b = D ∨ b ∉ Z') → h.get? b = some o → h'.get? b = some o) (x : AccL R D Z' ys h) : AccL R D Z' ys h' := by
  obtain ⟨vs, hl, ha⟩ := x
  exact ⟨vs, hl.at fun o e => hk D o (.inl rfl) e, ha.imp fun a u y => R.mono (fun b o z => ⟨z.1, hk b o (.inr z.1) z.2⟩) y⟩
theorem accL_has (D : Addr) (Z' : List Addr) (ys : List β) (h : Heap) (x : AccL R D Z' ys h) : ∃ o, h.get? D = some o := by
  obtain ⟨vs, ⟨o, ho, _⟩, _⟩ := x; exact ⟨o, ho⟩
theorem accL_nil (D : Addr) (Z' : List Addr) (h : Heap) (e : h.get? D = some { cls := .type "list", dict := none, data := .seq ([] : List Value).toArray }) : AccL R D Z' [] h := ⟨[], ⟨_, e, rfl, _, rfl⟩, trivial⟩
theorem newList_acc (Q : Value → Shared → Prop) (s : Shared) (h : Q (.ref s.heap.objs.size) { s with heap := s.heap.push { cls := .type "list", dict := none, data := .seq ([] : List Value).toArray } }) : wpAny (model prog w) A (newList []) Q NoExc s := wpAny_newObj_type h
theorem emit_list {Γ' : Gm} {cenv : Env} {oc : List (Str × Addr)} {s₁ : Shared} {Z' : List Addr} {D : Addr} {ys : List β} {elt : PySem.Expr} {b : β} (he : Ev prog w A Γ' elt R b) (cx : Cx Γ' cenv s₁ Z') (fo : FOk cenv oc s₁) (hD : D ∈ Z') (hDF : D ∉ Fms cenv oc) (hac : AccL R D Z' ys s₁.heap) (hl : (ys ++ [b]).length ≤ sizeLine) {Mv : List Addr} (hMv : D ∈ Mv) :
    wpAny (model prog w) A (do let _ ← call (.builtin "list.append") [.ref D, ← eval elt cenv]) (fun _ s₂ => KB Mv s₁ s₂ ∧ FOk cenv oc s₂ ∧ AccL R D Z' (ys ++ [b]) s₂.heap) NoExc s₁ := by
  refine wpAny_bind (he.then cx fun v s₂ k₂ cx₂ hv => ?_)
  refine ex1 (accL_stab D Z' ys _ _ (fun b o _ e => k₂.get e) hac) fun vs zz => and2 zz fun hL hA => ?_
  have hlen := hA.length
  refine wpAny_bind (wpAny_list_append (hsz := by rw [List.size_toArray, ← hlen]; rw [List.length_append] at hl; exact Nat.le_trans (Nat.le_add_right _ _) hl) hL fun h' hL' hs' => wpAny_pure ?_)
  have hk : ∀ b o, b ≠ D → s₂.heap.get? b = some o → h'.get? b = some o := fun b o hb e => hs'.extBut b o hb e
  refine ⟨(k₂.kb (Mv := Mv)).trans ⟨h', _, rfl, fun b o hb e => hk b o (fun q => hb (q ▸ hMv)) e⟩, ⟨?_, fun n a hm => ?_⟩, vs ++ [v], ?_, ?_⟩
  · refine ex1 fo.ns fun m hm => ?_
    exact ⟨m, hm.at' fun o e => hk _ o (fun q => hDF (q ▸ .head _)) (k₂.get e)⟩
  · refine ex2 (fo.ce n a hm) fun u o zz => and2 zz fun ho hd => ?_
    exact ⟨u, o, hk _ o (fun q => hDF (q ▸ .tail _ (List.mem_map.mpr ⟨_, hm, rfl⟩))) (k₂.get ho), hd⟩
  · rw [List.push_toArray] at hL'; exact hL'
  · have up : ∀ b o, hid Z' s₂.heap b o → hid Z' h' b o := fun b o x => ⟨x.1, hk b o (fun q => x.1 (q ▸ hD)) x.2⟩
    exact (hA.imp fun a u y => R.mono up y).snoc (R.mono up hv)
variable {elt target iter : PySem.Expr} {ifs : List PySem.Expr} {scope : Scope} {pos : Pos} {env : Env} {s : Shared} {Z : List Addr} {xs : List α} {It : α → Kn → Value → Heap → Prop} {own : α → List Vb} {tn : List Str} {p : α → Bool} {f : α → β}
theorem flat_filter (p : α → Bool) (f : α → β) : ∀ xs : List α, (xs.flatMap fun x => if p x = true then [f x] else []) = (xs.filter p).map f
  | [] => rfl
  | x :: r => by
    rw [List.flatMap_cons, flat_filter p f r, List.filter_cons]
    cases p x <;> simp
theorem listcomp_use {use : Option (Value → Sem Unit)} {Q : Value → Shared → Prop} (c : Cx Γ env s Z) (hh : A.handled = none) (hi : EvI prog w A Γ iter target It xs) (st : Stat Γ scope) (hb : BndOk scope target It own tn)
    (hts : ∀ x ∈ xs, Ets prog w A (Γc Γ scope (own x)) ifs (p x)) (hel : ∀ x ∈ xs, p x = true → Ev prog w A (Γc Γ scope (own x)) elt R (f x)) (hlen : xs.length ≤ sizeLine) (hs : ∀ env x, foldedSetIterable iter env x = pure x)
    (hRR : ∀ D C m s₅ Z', Kp s s₅ → s.heap.get? D = none → s.heap.get? C = none → D ≠ C → C ∈ Z' → D ∈ Z' → (∀ z ∈ Z, z ∈ Z') → (∀ z ∈ Z', z ∈ Z ∨ s.heap.get? z = none) → s₅.heap.Ns C m → AccL R D Z' ((xs.filter p).map f) s₅.heap → compPost (model prog w) A NoExc use Q (.ref D) C (.ok .next) s₅) :
    wpAny (model prog w) A (comprehension (.ListComp elt [⟨target, iter, ifs, 0⟩] scope pos) scope env (firstIterPos [⟨target, iter, ifs, 0⟩] pos) (newList []) false (eval iter env) use) Q NoExc s := by
  refine comp_core (f := fun x => [f x]) (AccS := AccL R) (p := p) rfl hs newList_acc rfl (fun I D cenv => shape_list elt target iter ifs scope pos (.ref I) (.ref D) cenv) (fun I D cenv R s h0 h => codeAny_compStart_list h0 h) (fun _ _ _ => rfl) (fun _ _ _ => rfl) (fun _ _ _ => rfl) c hh hi st hb hts ?_ accL_nil accL_has accL_stab ?_ ?_
  · intro x hx hp D cenv oc s₁ Z' ys O fo hF hD hDF cx rb hac hl
    exact emit_list (hel x hx hp) cx fo hD hDF hac hl (.head _)
  · rw [flat_filter, List.length_map]
    exact Nat.le_trans (List.length_filter_le _ _) hlen
  · intro D C m s₅ Z' h1 h2 h3 h4 h5 h6 h7 h8 h9 h10
    rw [flat_filter] at h10
    exact hRR D C m s₅ Z' h1 h2 h3 h4 h5 h6 h7 h8 h9 h10
theorem accL_rel {D C : Addr} {Z Z' : List Addr} {ys : List β} {h h' : Heap} (hac : AccL R D Z' ys h) (hD : D ∉ Z) (hs : ∀ b o, b ≠ C → h.get? b = some o → h'.get? b = some o) (hDC : D ≠ C) (hC : C ∈ Z') (hZ : ∀ z ∈ Z, z ∈ Z') : (RList R).rel ys (hid Z h') (.ref D) := by
  obtain ⟨vs, ⟨o, ho, hc, n, hd⟩, ha⟩ := hac
  exact ⟨D, o, n, vs, rfl, ⟨hD, hs D o hDC ho⟩, hc, hd, ha.imp fun a u y => R.mono (fun b o z => ⟨fun q => z.1 (hZ b q), hs b o (fun q => z.1 (q ▸ hC)) z.2⟩) y⟩
theorem ev_listcomp (hh : A.handled = none) (hi : EvI prog w A Γ iter target It xs) (st : Stat Γ scope) (hb : BndOk scope target It own tn)
    (hts : ∀ x ∈ xs, Ets prog w A (Γc Γ scope (own x)) ifs (p x)) (hel : ∀ x ∈ xs, p x = true → Ev prog w A (Γc Γ scope (own x)) elt R (f x)) (hlen : xs.length ≤ sizeLine) (hs : autoParam (∀ env x, foldedSetIterable iter env x = pure x) autoD) :
    Ev prog w A Γ (.ListComp elt [⟨target, iter, ifs, 0⟩] scope pos) (RList R) ((xs.filter p).map f) := by
  intro env s Z c
  refine listcomp_use (use := none) (R := R) (p := p) (f := f) c hh hi st hb hts hel hlen hs ?_
  intro D C m s₅ Z' k hD hC hDC hCZ hDZ hZ hZ' hn hac
  refine ⟨m, hn, fun h' hs' => ⟨?_, accL_rel hac (fun q => ?_) (fun b o hb e => hs'.extBut b o hb e) hDC hCZ hZ⟩⟩
  · (refine ex2 k ?_; try clear k; rintro h5 t5 zz; refine and2 zz ?_; try clear zz; rintro rfl k5)
    exact ⟨h', t5, rfl, fun b o e => hs'.extBut b o (fun q => by rw [q, hC] at e; cases e) (k5 b o e)⟩
  · refine ex1 (c.zl D q) fun o ho => ?_; rw [hD] at ho; cases ho
end
end
end
section
section
section
variable {α β γ : Type} {prog : Program} {w : World} {A : Around} {Γ : Gm} {R : Rp β}
theorem start_second {elt t₀ i₀ t₁ i₁ : PySem.Expr} {f₀ f₁ : List PySem.Expr} {scope : Scope} {pos : Pos} {it acc : Value} {env : Env} {RR : Result → Shared → Prop} {s : Shared}
    (h0 : codeAny (model prog w) A (.compLoop (.ListComp elt [⟨t₀, i₀, f₀, 0⟩, ⟨t₁, i₁, f₁, 0⟩] scope pos) 1 it acc env) RR s)
    (h : wpAny (model prog w) A (pyIter it) (fun it' s' => codeAny (model prog w) A (.compLoop (.ListComp elt [⟨t₀, i₀, f₀, 0⟩, ⟨t₁, i₁, f₁, 0⟩] scope pos) 1 it' acc env) RR s') NoExc s) :
    codeAny (model prog w) A (.compStart (.ListComp elt [⟨t₀, i₀, f₀, 0⟩, ⟨t₁, i₁, f₁, 0⟩] scope pos) 1 it acc env) RR s := by
  refine codeAny_of_tree ?_
  show wpAny _ _ ((compStart (.ListComp elt [⟨t₀, i₀, f₀, 0⟩, ⟨t₁, i₁, f₁, 0⟩] scope pos) 1 it acc env).onRaise (fun x => do noteFrame x env; standAt theWindowsPlace)) _ _ s
  refine wpAny_notedAt (wpAny_mono (Q := fun fin s' => match fin with | .done f => RR (.ok f) s' | .again c' => c'.quiet = true ∧ codeAny (model prog w) A c' RR s') (E := NoExc) ?_ (fun a s' x => x) fun _ _ x => x.elim)
  unfold compStart
  show wpAny _ _ (ask >>= _) _ _ s
  refine wpAny_bind (wpAny_askSetting (wpAny_ite ?_))
  split
  · first
      | exact wpAny_bind (wpAny_pure (wpAny_pure (And.intro rfl h0)))
      | exact wpAny_pure (And.intro rfl h0)
  · refine wpAny_bind (wpAny_rule ?_)
    show wpAny _ _ (standAt i₁.pos >>= _) _ _ s
    exact wpAny_bind (wpAny_standAt (wpAny_bind (wpAny_mono h (fun it' s' h' => wpAny_pure (And.intro rfl h')) fun _ _ x => x)))
theorem flat_all (f : α → β) (xs : List α) : (xs.flatMap fun x => if (fun _ => true : α → Bool) x = true then [f x] else []) = xs.map f := by
  rw [flat_filter (fun _ => true), List.filter_eq_self.mpr fun _ _ => rfl]
variable {elt t₀ i₀ t₁ i₁ : PySem.Expr} {scope : Scope} {pos : Pos} {xs : List α} {ys : α → List γ} {It₀ : α → Kn → Value → Heap → Prop} {It₁ : γ → Kn → Value → Heap → Prop} {own₀ : α → List Vb} {own₁ : γ → List Vb} {tn₀ tn₁ : List Str} {f : α → γ → β}
end
end
end
section
section
theorem ints_of {P : Kn} : ∀ {xs : List Int} {vs : List Value}, A2 (fun a u => RInt.rel a P u) xs vs → IntsAre vs xs
  | [], [], _ => .nil
  | x :: xs, v :: vs, h => by obtain ⟨t, rfl⟩ := h.1; exact .cons _ _ (ints_of h.2)
  | [], _ :: _, h => h.elim
  | _ :: _, [], h => h.elim
theorem of_ints {P : Kn} : ∀ {xs : List Int} {vs : List Value}, IntsAre vs xs → A2 (fun a u => RInt.rel a P u) xs vs
  | _, _, .nil => trivial
  | _, _, .cons n t h => ⟨⟨t, rfl⟩, of_ints h⟩
theorem rlist_is {α : Type} {R : Rp α} {xs : List α} {Z : List Addr} {h : Heap} {v : Value} (x : (RList R).rel xs (hid Z h) v) : ∃ l vs, v = .ref l ∧ l ∉ Z ∧ h.IsList l vs.toArray ∧ A2 (fun a u => R.rel a (hid Z h) u) xs vs := by
  obtain ⟨l, o, n, vs, rfl, ⟨h1, h2⟩, h3, h4, h5⟩ := x
  exact ⟨l, vs, rfl, h1, ⟨o, h2, h3, n, h4⟩, h5⟩
theorem is_rlist {α : Type} {R : Rp α} {xs : List α} {Z : List Addr} {h : Heap} {l : Addr} {vs : List Value} (h1 : l ∉ Z) (h2 : h.IsList l vs.toArray) (h3 : A2 (fun a u => R.rel a (hid Z h) u) xs vs) : (RList R).rel xs (hid Z h) (.ref l) := by
  obtain ⟨o, ho, hc, n, hd⟩ := h2
  exact ⟨l, o, n, vs, rfl, ⟨h1, ho⟩, hc, hd, h3⟩
section
variable {α β : Type} {prog : Program} {w : World} {A : Around} {Γ : Gm} {e e₁ e₂ : PySem.Expr} {R : Rp α} {S : Rp β} {a b : Int} {pos : Pos} {k : Nat}
theorem ev_int {i : Int} : Ev prog w A Γ (.Constant (.int i) k pos) RInt i := fun env s Z c => wpAny_Constant_int ⟨.tok, _, rfl⟩
theorem ev_str {x : Str} : Ev prog w A Γ (.Constant (.str x) k pos) RStr x := fun env s Z c => wpAny_Constant_str ⟨.tok, _, rfl⟩
theorem bin2 {x : α} {y : β} {op : Operator} (h₁ : Er prog w A Γ e₁ R x) (h₂ : Er prog w A Γ e₂ S y) {γ : Type} {T : Rp γ} {z : γ}
    (k : ∀ env s Z u v, Cx Γ env s Z → R.rel x (hid [] s.heap) u → S.rel y (hid [] s.heap) v → wpAny (model prog w) A (binaryOp op u v) (fun r s' => Kp s s' ∧ T.rel z (hid Z s'.heap) r) NoExc s) : Ev prog w A Γ (.BinOp e₁ op e₂ pos) T z := fun env s Z c => by
  refine wpAny_BinOp (h₁.then c fun u s₁ k₁ c₁ hu => h₂.then c₁ fun v s₂ k₂ c₂ hv => ?_)
  exact wpAny_mono (k env s₂ Z u v c₂ (R.mono (hid_keeps k₂) hu) hv) (fun r s' x => ⟨(k₁.tr k₂).tr x.1, x.2⟩) fun _ _ x => x
theorem ev_add (h₁ : Ev prog w A Γ e₁ RInt a) (h₂ : Ev prog w A Γ e₂ RInt b) : Ev prog w A Γ (.BinOp e₁ .Add e₂ pos) RInt (a + b) :=
  bin2 h₁.r h₂.r fun env s Z u v c ⟨t, hu⟩ ⟨t', hv⟩ => by subst hu hv; exact add_int ⟨.tok, _, rfl⟩
theorem ev_mul (h₁ : Ev prog w A Γ e₁ RInt a) (h₂ : Ev prog w A Γ e₂ RInt b) (hm : IntMulOk a b) : Ev prog w A Γ (.BinOp e₁ .Mult e₂ pos) RInt (a * b) :=
  bin2 h₁.r h₂.r fun env s Z u v c ⟨t, hu⟩ ⟨t', hv⟩ => by subst hu hv; exact mul_int ⟨.tok, _, rfl⟩ hm
theorem ev_fdiv (h₁ : Ev prog w A Γ e₁ RInt a) (h₂ : Ev prog w A Γ e₂ RInt b) (hb : b ≠ 0) (hl : b.natAbs < 1073741824) : Ev prog w A Γ (.BinOp e₁ .FloorDiv e₂ pos) RInt (a.fdiv b) :=
  bin2 h₁.r h₂.r fun env s Z u v c ⟨t, hu⟩ ⟨t', hv⟩ => by subst hu hv; exact floordiv_int hb ⟨.tok, _, rfl⟩ (.inl (PyProof.noPylong_small hl))
theorem ev_mod (h₁ : Ev prog w A Γ e₁ RInt a) (h₂ : Ev prog w A Γ e₂ RInt b) (hb : b ≠ 0) : Ev prog w A Γ (.BinOp e₁ .Mod e₂ pos) RInt (a.fmod b) :=
  bin2 h₁.r h₂.r fun env s Z u v c ⟨t, hu⟩ ⟨t', hv⟩ => by subst hu hv; exact mod_int' hb ⟨.tok, _, rfl⟩
theorem ev_pow (h₁ : Ev prog w A Γ e₁ RInt a) (h₂ : Ev prog w A Γ e₂ RInt b) (h0 : 0 ≤ b) (hn2 : b ≤ 1000000) (ha : a.natAbs < 2 ^ 64) : Ev prog w A Γ (.BinOp e₁ .Pow e₂ pos) RInt (a ^ b.toNat) :=
  bin2 h₁.r h₂.r fun env s Z u v c ⟨t, hu⟩ ⟨t', hv⟩ => by subst hu hv; exact pow_int_small h0 hn2 ha ⟨.tok, _, rfl⟩
theorem ev_neg (h₁ : Ev prog w A Γ e₁ RInt a) : Ev prog w A Γ (.UnaryOp .USub e₁ pos) RInt (-a) := fun env s Z c => by
  refine wpAny_UnaryOp (h₁.then c fun u s₁ k₁ c₁ hu => ?_)
  obtain ⟨t, rfl⟩ := hu
  exact neg_int ⟨k₁.tr .tok, _, rfl⟩
theorem ev_if {c : Bool} {x y : α} (hc : Et prog w A Γ e c) (h₁ : c = true → Ev prog w A Γ e₁ R x) (h₂ : c = false → Ev prog w A Γ e₂ R y) : Ev prog w A Γ (.IfExp e e₁ e₂ pos) R (if c = true then x else y) := fun env s Z cx => by
  refine wpAny_IfExp (hc.then cx fun s₁ k₁ c₁ => ?_)
  cases c with
  | false => exact wpAny_mono (h₂ rfl env s₁ Z c₁) (fun v s' x => ⟨k₁.tr x.1, x.2⟩) fun _ _ x => x
  | true => exact wpAny_mono (h₁ rfl env s₁ Z c₁) (fun v s' x => ⟨k₁.tr x.1, x.2⟩) fun _ _ x => x
theorem cmp2 {x : α} {y : β} {op : CmpOp} {r : Bool} (h₁ : Er prog w A Γ e₁ R x) (h₂ : Er prog w A Γ e₂ S y)
    (k : ∀ (Q : Value → Shared → Prop) s u v, R.rel x (hid [] s.heap) u → S.rel y (hid [] s.heap) v → (∀ s', Kp s s' → Q (.bool r) s') → wpAny (model prog w) A (compareOp op u v) Q NoExc s) (hm : behindInMarks op e₂ = false) : Et prog w A Γ (.Compare e₁ [op] [e₂] pos) r := fun env s Z c =>
  wpAny_isTrue_Compare1 (h₁.then c fun u s₁ k₁ c₁ hu => h₂.then c₁ fun v s₂ k₂ c₂ hv => k _ s₂ u v (R.mono (hid_keeps k₂) hu) hv fun s' k' => wpAny_truthy_bool ⟨(k₁.tr k₂).tr k', rfl⟩) hm
theorem cmp2v {x : α} {y : β} {op : CmpOp} {r : Bool} (h₁ : Er prog w A Γ e₁ R x) (h₂ : Er prog w A Γ e₂ S y)
    (k : ∀ (Q : Value → Shared → Prop) s u v, R.rel x (hid [] s.heap) u → S.rel y (hid [] s.heap) v → (∀ s', Kp s s' → Q (.bool r) s') → wpAny (model prog w) A (compareOp op u v) Q NoExc s) (hm : behindInMarks op e₂ = false) : Ev prog w A Γ (.Compare e₁ [op] [e₂] pos) RBool r := fun env s Z c =>
  wpAny_Compare1 (h₁.then c fun u s₁ k₁ c₁ hu => h₂.then c₁ fun v s₂ k₂ c₂ hv => k _ s₂ u v (R.mono (hid_keeps k₂) hu) hv fun s' k' => ⟨(k₁.tr k₂).tr k', rfl⟩) hm
theorem et_eqi (h₁ : Ev prog w A Γ e₁ RInt a) (h₂ : Ev prog w A Γ e₂ RInt b) (hm : autoParam (behindInMarks .Eq e₂ = false) autoE) : Et prog w A Γ (.Compare e₁ [.Eq] [e₂] pos) (a == b) :=
  cmp2 h₁.r h₂.r (fun Q s u v ⟨t, hu⟩ ⟨t', hv⟩ q => by subst hu hv; exact PyProof.Rows.eq_int (q _ .rfl')) hm
theorem et_nei (h₁ : Ev prog w A Γ e₁ RInt a) (h₂ : Ev prog w A Γ e₂ RInt b) (hm : autoParam (behindInMarks .NotEq e₂ = false) autoE) : Et prog w A Γ (.Compare e₁ [.NotEq] [e₂] pos) (a != b) :=
  cmp2 h₁.r h₂.r (fun Q s u v ⟨t, hu⟩ ⟨t', hv⟩ q => by subst hu hv; exact PyProof.Rows.ne_int (q _ .rfl')) hm
theorem et_int (h₁ : Ev prog w A Γ e RInt a) (he : autoParam (∀ env whole, isTrue e env whole = (do let v ← whole; standAt e.pos; holding [v] (truthy v))) autoD) : Et prog w A Γ e (a != 0) := fun env s Z c => by
  refine wpAny_isTrue_value (h₁.then c fun u s₁ k₁ c₁ hu => ?_) (he env _)
  obtain ⟨t, rfl⟩ := hu
  exact truthy_int ⟨k₁, rfl⟩
theorem et_list {xs : List α} (h₁ : Er prog w A Γ e (RList R) xs) (hl : xs.length ≤ sizeLine) (he : autoParam (∀ env whole, isTrue e env whole = (do let v ← whole; standAt e.pos; holding [v] (truthy v))) autoD) : Et prog w A Γ e (!xs.isEmpty) := fun env s Z c => by
  refine wpAny_isTrue_value (h₁.then c fun u s₁ k₁ c₁ hu => ?_) (he env _)
  (have zz := rlist_is hu; refine ex2 zz ?_; try clear zz; rintro l vs zz; refine and4 zz ?_; try clear zz; rintro rfl _ hL ha)
  have hlen := ha.length
  refine wpAny_truthy_list hL (by rw [List.size_toArray, ← hlen]; rw [sizeLine_eq] at hl; omega) ⟨k₁.tr .tok, ?_⟩
  cases vs <;> cases xs <;> first | rfl | (simp at hlen)
theorem et_not {b : Bool} (h : Et prog w A Γ e b) : Et prog w A Γ (.UnaryOp .Not e pos) (!b) := fun env s Z c =>
  wpAny_isTrue_Not (h.then c fun s₁ k₁ c₁ => ⟨k₁, rfl⟩)
theorem et_or {a b : Bool} (h₁ : Et prog w A Γ e₁ a) (h₂ : a = false → Et prog w A Γ e₂ b) : Et prog w A Γ (.BoolOp .Or [e₁, e₂] pos) (a || b) := fun env s Z c => by
  refine wpAny_isTrue_BoolOp (wpAny_allTrue_Or_cons (h₁.then c fun s₁ k₁ c₁ => ?_))
  cases a with
  | true => exact ⟨k₁, rfl⟩
  | false =>
    refine wpAny_allTrue_Or_cons ((h₂ rfl).then c₁ fun s₂ k₂ c₂ => ?_)
    cases b with
    | true => exact ⟨k₁.tr k₂, rfl⟩
    | false => exact wpAny_allTrue_Or_nil ⟨k₁.tr k₂, rfl⟩
end
end
end
section
section
structure BFn (Γ : Gm) (x : Str) (v : Value) : Prop where
  m : x ∈ Γ.gs
  g : Γ.mg x = none
  b : Γ.mb x = some v
structure GFn (Γ : Gm) (x : Str) (v : Value) : Prop where
  m : x ∈ Γ.gs
  g : Γ.mg x = some v
theorem fresh_not {Γ : Gm} {env : Env} {s : Shared} {Z : List Addr} (c : Cx Γ env s Z) {D : Addr} (h : s.heap.objs.size ≤ D) : D ∉ Z := fun q => by
  obtain ⟨o, ho⟩ := c.zl D q; rw [get_none h] at ho; cases ho
theorem Kp.push {s : Shared} {o : Obj} : Kp s { s with heap := s.heap.push o } := ⟨_, s.toks, rfl, fun _ _ e => Heap.get?_push_of_some _ e⟩
section
variable {α β : Type} {prog : Program} {w : World} {A : Around} {Γ : Gm} {e e₁ e₂ e₃ : PySem.Expr} {R : Rp α} {S : Rp β} {a b : Int} {x : Str} {pos p p' : Pos} {k : Nat}
theorem ev_bfn {v : Value} (h : BFn Γ x v) (hd : autoParam ((x == ("__debug__" : Str)) = false) autoC) : Ev prog w A Γ (.Name x pos) RIs v := fun env s Z c =>
  Name_function_global c.fn (c.gk x h.m) (loadGlobal_builtin (c.gl ▸ c.g) h.g (c.bl ▸ c.b) h.b ⟨.rfl', rfl⟩) hd
theorem ev_gfn {v : Value} (h : GFn Γ x v) (hd : autoParam ((x == ("__debug__" : Str)) = false) autoC) : Ev prog w A Γ (.Name x pos) RIs v := fun env s Z c =>
  Name_function_global c.fn (c.gk x h.m) (loadGlobal_global (c.gl ▸ c.g) h.g ⟨.rfl', rfl⟩) hd
theorem call1 {id : String} {y : α} {z : β} (hf : BFn Γ x (.builtin id)) (he : Er prog w A Γ e R y)
    (k : ∀ env s Z v, Cx Γ env s Z → R.rel y (hid [] s.heap) v → wpAny (model prog w) A (call (.builtin id) [v]) (fun r s' => Kp s s' ∧ S.rel z (hid Z s'.heap) r) NoExc s)
    (hs : autoParam (∀ env, starEach [e] env = [(false, eval e env)]) autoB) (hd : autoParam ((x == ("__debug__" : Str)) = false) autoC) : Ev prog w A Γ (.Call (.Name x p) [e] [] pos) S z := fun env s Z c => by
  refine Call_Name (trees := backTo pos [(false, eval e env)]) (by rw [hs]) ((ev_bfn hf hd).then c fun f s₁ k₁ c₁ hf => ?_)
  cases hf
  refine callWith_builtin rfl (evalArgs_plain (spliced_cons (he.then c₁ fun v s₂ k₂ c₂ hv => spliced_nil ?_)))
  exact wpAny_mono (k env s₂ Z v c₂ hv) (fun r s' q => ⟨(k₁.tr k₂).tr q.1, q.2⟩) fun _ _ q => q
theorem callT1 {T : String} {y : α} {z : β} (hf : BFn Γ x (.type T)) (he : Er prog w A Γ e R y)
    (k : ∀ env s Z v, Cx Γ env s Z → R.rel y (hid [] s.heap) v → wpAny (model prog w) A (call (.type T) [v]) (fun r s' => Kp s s' ∧ S.rel z (hid Z s'.heap) r) NoExc s)
    (hs : autoParam (∀ env, starEach [e] env = [(false, eval e env)]) autoB) (hd : autoParam ((x == ("__debug__" : Str)) = false) autoC) : Ev prog w A Γ (.Call (.Name x p) [e] [] pos) S z := fun env s Z c => by
  refine Call_Name (trees := backTo pos [(false, eval e env)]) (by rw [hs]) ((ev_bfn hf hd).then c fun f s₁ k₁ c₁ hf => ?_)
  cases hf
  refine PyProof.Rows.callWith_type rfl (evalArgs_plain (spliced_cons (he.then c₁ fun v s₂ k₂ c₂ hv => spliced_nil ?_)))
  exact wpAny_mono (k env s₂ Z v c₂ hv) (fun r s' q => ⟨(k₁.tr k₂).tr q.1, q.2⟩) fun _ _ q => q
theorem ev_sum {xs : List Int} (hh : A.handled = none) (hf : BFn Γ "sum" (.builtin "sum")) (he : Er prog w A Γ e (RList RInt) xs) (hs : autoParam (∀ env, starEach [e] env = [(false, eval e env)]) autoB) : Ev prog w A Γ (.Call (.Name "sum" p) [e] [] pos) RInt xs.sum :=
  call1 hf he (fun env s Z v c hv => by
    (have zz := rlist_is hv; refine ex2 zz ?_; try clear zz; rintro l vs zz; refine and4 zz ?_; try clear zz; rintro rfl _ hL ha)
    have hi := ints_of ha
    refine ex1 hi.allInts.items fun ys hys => ?_
    refine sum_intListG (xs := ys) hh (hys ▸ hL) fun h' tk t' hk => ⟨.of hk, t', ?_⟩
    rw [preSum_eq, List.take_of_length_le (by simp), ← nums_intItems, ← hys, show vs.toArray.toList = vs from rfl, hi.numsOf]) hs
variable (prog w A Γ) in
def Evs (es : List PySem.Expr) (R : Rp α) (xs : List α) : Prop := ∀ pos env s Z, Cx Γ env s Z → wpAny (model prog w) A (spliced (backTo pos (starEach es env))) (fun vs s' => Kp s s' ∧ A2 (fun a u => R.rel a (hid Z s'.heap) u) xs vs) NoExc s
theorem evs_nil : Evs prog w A Γ [] R [] := fun pos env s Z c => wpAny_items_nil ⟨.rfl', trivial⟩
theorem evs_cons {es : List PySem.Expr} {y : α} {ys : List α} (h : Ev prog w A Γ e R y) (hr : Evs prog w A Γ es R ys) (hs : autoParam (∀ env, starEach (e :: es) env = (false, eval e env) :: starEach es env) autoB) : Evs prog w A Γ (e :: es) R (y :: ys) := fun pos env s Z c => by
  refine wpAny_items_cons (h.then c fun v s₁ k₁ c₁ hv => ?_) (hs env)
  exact wpAny_mono (hr pos env s₁ Z c₁) (fun vs s' q => ⟨k₁.tr q.1, R.mono (hid_keeps q.1) hv, q.2⟩) fun _ _ q => q
theorem ev_tup {y : α} {z : β} (h₁ : Ev prog w A Γ e₁ R y) (h₂ : Ev prog w A Γ e₂ S z) (hs₁ : autoParam (∀ env, starEach [e₁, e₂] env = [(false, eval e₁ env), (false, eval e₂ env)]) autoB) : Ev prog w A Γ (.Tuple [e₁, e₂] k pos) (RTup R S) (y, z) := fun env s Z c => by
  refine Tuple_ ?_
  rw [hs₁ env]
  refine spliced_cons (h₁.then c fun u s₁ k₁ c₁ hu => spliced_cons (h₂.then c₁ fun v s₂ k₂ c₂ hv => spliced_nil ?_))
  refine wpAny_newObj_type ⟨(k₁.tr k₂).tr .push, ?_⟩ (by show 2 ≤ sizeLine; rw [sizeLine_eq]; omega)
  exact ⟨_, _, 0, u, v, rfl, ⟨fresh_not c₂ (Nat.le_refl _), Heap.get?_push_size _ rfl⟩, rfl, rfl, R.mono (fun b o q => hid_keeps .push b o (hid_keeps k₂ b o q)) hu, S.mono (hid_keeps .push) hv⟩
theorem subscripted_ops (slice : PySem.Expr) (o i : Value) : ∃ ops, subscripted slice false o i = operate ops (getItem o i) := by
  cases slice with
  | Slice l u st p => cases st <;> exact ⟨_, rfl⟩
  | _ => exact ⟨_, rfl⟩
theorem sub2 {y : α} {z : β} {γ : Type} {T : Rp γ} {r : γ} {cls id : String} (h₁ : Ev prog w A Γ e₁ R y) (h₂ : Ev prog w A Γ e₂ S z)
    (k : ∀ env s Z u v, Cx Γ env s Z → R.rel y (hid Z s.heap) u → S.rel z (hid Z s.heap) v → s.TypeIs u cls ∧ wpAny (model prog w) A (getItem u v) (fun q s' => Kp s s' ∧ T.rel r (hid Z s'.heap) q) NoExc s)
    (hl : typeLookup (.type cls) "__getitem__" = pure (some (.builtin id))) : Ev prog w A Γ (.Subscript e₁ e₂ pos) T r := fun env s Z c => by
  refine Subscript_ (h₁.then c fun u s₁ k₁ c₁ hu => h₂.then c₁ fun v s₂ k₂ c₂ hv => ?_)
  obtain ⟨hT, hw⟩ := k env s₂ Z u v c₂ (R.mono (hid_keeps k₂) hu) hv
  obtain ⟨ops, ho⟩ := subscripted_ops e₂ u v
  refine kba_turn (value' := PySem.Expr.Name (PySem.Str.ofString "_") ⟨0, 0, 0, 0⟩) (fun _ => rfl) (subscriptTail_ops hT hl ?_ ho (fun _ => rfl))
  exact wpAny_mono hw (fun q s' x => ⟨(k₁.tr k₂).tr x.1, x.2⟩) fun _ _ x => x
theorem ev_item {xs : List α} {i : Int} {y : α} (h₁ : Ev prog w A Γ e₁ (RList R) xs) (h₂ : Ev prog w A Γ e₂ RInt i) (h0 : 0 ≤ i) (hy : xs[i.toNat]? = some y) (hl : xs.length ≤ sizeLine) : Ev prog w A Γ (.Subscript e₁ e₂ pos) R y :=
  sub2 h₁ h₂ (fun env s Z u v c hu ⟨t, hv⟩ => by
    subst hv
    (have zz := rlist_is hu; refine ex2 zz ?_; try clear zz; rintro l vs zz; refine and4 zz ?_; try clear zz; rintro rfl _ hL ha)
    refine ex1 (ha.get' hy) fun v zz => and2 zz fun hv hr => ?_
    have hlt : i.toNat < xs.length := (List.getElem?_eq_some_iff.mp hy).1
    exact ⟨hL.typeIs, wpAny_getItem_list hL h0 (by rw [sizeLine_eq] at hl; omega) (by simpa using hv) ⟨.rfl', hr⟩⟩) list_getitem_lookup
end
end
end
section
section
def RByt : Rp (List Int) := ⟨fun ks _ v => ∃ b t, v = .bytes b t ∧ KBw.bInts b = ks, fun _ h => h⟩
theorem toInts_inj : ∀ l l' : List UInt8, l.map (fun c => (c.toNat : Int)) = l'.map (fun c => (c.toNat : Int)) → l = l'
  | [], [], _ => rfl
  | [], _ :: _, h => by simp at h
  | _ :: _, [], h => by simp at h
  | x :: r, y :: r', h => by
    simp only [List.map_cons, List.cons.injEq] at h
    have e : x = y := UInt8.toNat_inj.mp (by have := h.1; omega)
    rw [toInts_inj r r' h.2, e]
theorem bInts_inj {b c : Array UInt8} : (b.toList == c.toList) = decide (KBw.bInts b = KBw.bInts c) := by
  by_cases h : b.toList = c.toList
  · have : KBw.bInts b = KBw.bInts c := congrArg (List.map fun c : UInt8 => (c.toNat : Int)) h
    rw [decide_eq_true this]; exact beq_iff_eq.mpr h
  · have : ¬ KBw.bInts b = KBw.bInts c := fun q => h (toInts_inj _ _ q)
    rw [decide_eq_false this]; exact beq_eq_false_iff_ne.mpr h
section
variable {α β : Type} {prog : Program} {w : World} {A : Around} {Γ : Gm} {e e₁ e₂ e₃ : PySem.Expr} {R : Rp α} {S : Rp β} {a b : Int} {x : Str} {pos p p' : Pos} {k : Nat}
variable (prog w A Γ) in
def Ep (x : Option PySem.Expr) (i : Option Int) : Prop := ∀ env s Z, Cx Γ env s Z → wpAny (model prog w) A (evalPart x env) (fun v s' => Kp s s' ∧ IsPart v i) NoExc s
theorem ep_none : Ep prog w A Γ none none := fun env s Z c => wpAny_pure ⟨.rfl', .none⟩
theorem ep_some (h : Ev prog w A Γ e RInt a) : Ep prog w A Γ (some e) (some a) := fun env s Z c => h.then c fun v s₁ k₁ c₁ ⟨t, hv⟩ => ⟨k₁, hv ▸ .int a t⟩
theorem Ep.then {y : Option PySem.Expr} {i : Option Int} {Q : Value → Shared → Prop} {env : Env} {s : Shared} {Z : List Addr} (h : Ep prog w A Γ y i) (c : Cx Γ env s Z) (k : ∀ v s', Kp s s' → Cx Γ env s' Z → IsPart v i → Q v s') : wpAny (model prog w) A (evalPart y env) Q NoExc s :=
  wpAny_mono (h env s Z c) (fun v s' x => k v s' x.1 (c.keeps x.1) x.2) fun _ _ x => x
theorem slice3 {lo hi st : Option PySem.Expr} {l u d : Option Int} {xs : List α} {ys : List α} (h₁ : Ev prog w A Γ e₁ (RList R) xs) (hl : Ep prog w A Γ lo l) (hu : Ep prog w A Γ hi u) (hd : Ep prog w A Γ st d) (h0 : d ≠ some 0) (hlen : xs.length ≤ sizeLine)
    (hy : ∀ (F : α → Value → Prop) (vs : List Value), A2 F xs vs → A2 F ys (slicePick vs.toArray l u d).toList) : Ev prog w A Γ (.Subscript e₁ (.Slice lo hi st p) pos) (RList R) ys := fun env s Z c => by
  refine Subscript_ (h₁.then c fun o s₁ k₁ c₁ ho => wpAny_Slice (hl.then c₁ fun vl s₂ k₂ c₂ pl => hu.then c₂ fun vu s₃ k₃ c₃ pu => hd.then c₃ fun vd s₄ k₄ c₄ pd => ?_))
  have k24 := (k₂.tr k₃).tr k₄
  (have zz := rlist_is ((RList R).mono (hid_keeps k24) ho); refine ex2 zz ?_; try clear zz; rintro a vs zz; refine and4 zz ?_; try clear zz; rintro rfl ha hL hA)
  refine ex1 (subscripted_ops (.Slice lo hi st p) (.ref a) (.ref s₄.heap.objs.size)) fun ops hops => ?_
  refine kba_turn (value' := PySem.Expr.Name (PySem.Str.ofString "_") ⟨0, 0, 0, 0⟩) (fun _ => rfl) (subscriptTail_ops (Heap.IsList.typeIs (s := { s₄ with heap := s₄.heap.push { cls := .type "slice", data := .fields #[vl, vu, vd] } }) (hL.push _)) list_getitem_lookup ?_ hops (fun _ => rfl))
  refine wpAny_getItem_list_slice (hL.push _) (Heap.IsSliceOf.new ..) pl pu pd h0 ?_ (by rw [List.size_toArray, ← hA.length]; exact hlen)
  refine ⟨(k₁.tr k24).tr (Kp.push.tr .push), is_rlist (fresh_not (c₄.keeps .push) (Nat.le_refl _)) (vs := (slicePick vs.toArray l u d).toList) ⟨_, Heap.get?_push_size _ rfl, rfl, 0, by simp⟩ (hy _ vs (hA.imp fun a u y => R.mono (fun b o q => hid_keeps .push b o (hid_keeps .push b o q)) y))⟩
theorem ev_upto {xs : List α} (h₁ : Ev prog w A Γ e₁ (RList R) xs) (h₂ : Ev prog w A Γ e₂ RInt a) (h0 : 0 ≤ a) (hlen : xs.length ≤ sizeLine) : Ev prog w A Γ (.Subscript e₁ (.Slice none (some e₂) none p) pos) (RList R) (xs.take a.toNat) :=
  slice3 h₁ ep_none (ep_some h₂) ep_none (by simp) hlen fun F vs h => by
    obtain ⟨n, rfl⟩ := Int.eq_ofNat_of_zero_le h0
    rw [slicePick_upto']; simpa using h.take n
theorem ev_intf (hf : BFn Γ "int" (.type "int")) (he : Ev prog w A Γ e RInt a) (hs : autoParam (∀ env, starEach [e] env = [(false, eval e env)]) autoB) : Ev prog w A Γ (.Call (.Name "int" p) [e] [] pos) RInt a :=
  callT1 hf he.r (fun env s Z v c ⟨t, hv⟩ => by subst hv; exact call_int_int ⟨.rfl', t, rfl⟩) hs
theorem ev_bytes {x : List UInt8} : Ev prog w A Γ (.Constant (.bytes x) k pos) RByt (x.map fun c => (c.toNat : Int)) := fun env s Z c => Constant_bytes ⟨.tok, _, _, rfl, rfl⟩
theorem ev_lenB {ks : List Int} (hf : BFn Γ "len" (.builtin "len")) (he : Ev prog w A Γ e RByt ks) (hl : ks.length ≤ sizeLine) (hs : autoParam (∀ env, starEach [e] env = [(false, eval e env)]) autoB) : Ev prog w A Γ (.Call (.Name "len" p) [e] [] pos) RInt ks.length :=
  call1 hf he.r (fun env s Z v c ⟨b, t, hv, hk⟩ => by subst hv; exact KBw.len_K hk (by rw [sizeLine_eq] at hl; omega) ⟨.tok, _, rfl⟩) hs
theorem ev_addB {ks ls : List Int} (h₁ : Ev prog w A Γ e₁ RByt ks) (h₂ : Ev prog w A Γ e₂ RByt ls) (hl : ks.length + ls.length ≤ 16777216) : Ev prog w A Γ (.BinOp e₁ .Add e₂ pos) RByt (ks ++ ls) :=
  bin2 h₁.r h₂.r fun env s Z u v c ⟨b, t, hu, hb⟩ ⟨b', t', hv, hb'⟩ => by subst hu hv; exact KBa.add_K hb hb' hl fun t' k h => ⟨.tok, _, _, rfl, h⟩
theorem ev_eqB {ks ls : List Int} (h₁ : Ev prog w A Γ e₁ RByt ks) (h₂ : Ev prog w A Γ e₂ RByt ls) (hm : autoParam (behindInMarks .Eq e₂ = false) autoE) : Ev prog w A Γ (.Compare e₁ [.Eq] [e₂] pos) RBool (decide (ks = ls)) :=
  cmp2v h₁.r h₂.r (fun Q s u v ⟨b, t, hu, hb⟩ ⟨b', t', hv, hb'⟩ q => by subst hu hv; exact eq_bytes (by rw [bInts_inj, hb, hb']; exact q _ .rfl')) hm
theorem et_neB {ks ls : List Int} (h₁ : Ev prog w A Γ e₁ RByt ks) (h₂ : Ev prog w A Γ e₂ RByt ls) (hm : autoParam (behindInMarks .NotEq e₂ = false) autoE) : Et prog w A Γ (.Compare e₁ [.NotEq] [e₂] pos) (!decide (ks = ls)) :=
  cmp2 h₁.r h₂.r (fun Q s u v ⟨b, t, hu, hb⟩ ⟨b', t', hv, hb'⟩ q => by subst hu hv; exact ne_bytes (by rw [bne, bInts_inj, hb, hb']; exact q _ .rfl')) hm
theorem ev_cutB {lo hi : Option PySem.Expr} {l u : Option Int} {ks : List Int} (h₁ : Ev prog w A Γ e₁ RByt ks) (hl : Ep prog w A Γ lo l) (hu : Ep prog w A Γ hi u) (hlen : ks.length ≤ 16777216) : Ev prog w A Γ (.Subscript e₁ (.Slice lo hi none p) pos) RByt ((ks.drop (l.elim 0 (clipAt ks.length))).take (u.elim ks.length (clipAt ks.length) - l.elim 0 (clipAt ks.length))) := fun env s Z c => by
  refine Subscript_ (h₁.then c fun o s₁ k₁ c₁ ho => wpAny_Slice (hl.then c₁ fun vl s₂ k₂ c₂ pl => hu.then c₂ fun vu s₃ k₃ c₃ pu => ep_none.then c₃ fun vd s₄ k₄ c₄ pd => ?_))
  (refine ex2 ho ?_; try clear ho; rintro b t zz; refine and2 zz ?_; try clear zz; rintro rfl hb)
  cases pd
  refine kba_turn (value' := PySem.Expr.Name (PySem.Str.ofString "_") ⟨0, 0, 0, 0⟩) (fun _ => rfl) ?_
  refine tail_of_ItemOn ⟨"bytes", _, FB.slot_bytes_getitem.lookup, typeIs_bytes _ _ _, getItem_meets (typeIs_bytes _ _ _) (by decide) FB.slot_bytes_getitem FB.entry_bytes_getitem (FB.args_bytes_getitem_2 _ _) (KBc.meets_slice2 b t _ pl pu)
    ⟨Heap.IsSliceOf.new _ _ _ _, Nat.le_trans (KBc.size_picked_le b l u) (by rw [← KBw.ints_length b, hb, sizeLine_eq]; exact hlen), fun t' k => ⟨(((k₁.tr k₂).tr k₃).tr k₄).tr (.tr .push .tok), _, _, rfl, KBc.ints_picked hb l u⟩⟩⟩ rfl (fun _ => rfl)
end
end
end
section
section
section
variable {α β : Type} {prog : Program} {w : World} {A : Around} {Γ : Gm} {e e₁ e₂ e₃ : PySem.Expr} {R : Rp α} {S : Rp β} {a b : Int} {x y : Str} {pos p p' px py tp : Pos} {k kk : Nat}
theorem go_name {I : Addr} {v : Value} : letOwnedTupleGo (.Name x px) (.ref I) v = pure () := rfl
theorem Src.ofWalks {I : Addr} {fp wr : List Addr} {n : Nat} {P : Nat → Value → Prop} {St : Nat → Heap → Prop} (W : Walks prog w A I fp wr n P St) (ex : ∀ i h, St i h → ∀ b ∈ wr, ∃ o, h.get? b = some o) : Src prog w A (.Name x px) I fp wr n (fun i v _ => P i v) (fun i v h => P i v ∧ St (i + 1) h) St :=
  ⟨KTurns.ofWalks W fun _ v s Q E _ q => wpAny_of_eq go_name q, W.self, ex⟩
theorem Src.ofWalksU {elts : List PySem.Expr} {I : Addr} {fp wr : List Addr} {n : Nat} {Pt : Nat → Array Value → Prop} {St : Nat → Heap → Prop} {Mid : Nat → Addr → Heap → Prop} (W : WalksU prog w A I fp wr n Pt St Mid) (ex : ∀ i h, St i h → ∀ b ∈ wr, ∃ o, h.get? b = some o) :
    Src prog w A (.Tuple elts kk tp) I fp wr n (fun i v h => ∃ T vals, v = .ref T ∧ Pt i vals ∧ h.IsTuple T vals) (fun i v h => ∃ T vals, v = .ref T ∧ Pt i vals ∧ h.IsTuple T vals ∧ Mid i T h) St :=
  ⟨KTurns.ofWalksU W, W.self, ex⟩
theorem evi_list {xs : List α} (hh : A.handled = none) (h : Ev prog w A Γ e (RList R) xs) : EvI prog w A Γ e (.Name x px) (ItR R) xs := fun env s Z c => by
  refine h.then c fun v s₁ k₁ c₁ hv => ?_
  (have zz := rlist_is hv; refine ex2 zz ?_; try clear zz; rintro l vs zz; refine and4 zz ?_; try clear zz; rintro rfl hl hL ha)
  have hlt : l < s₁.heap.objs.size := by (refine ex1 hL fun o zz => and2 zz fun ho _ => ?_; try clear hL); exact get_lt ho
  have W := Walks.list (prog := prog) (w := w) hh s₁.heap.objs.size l (Nat.ne_of_lt hlt) vs.toArray
  have esz : vs.toArray.size = xs.length := by rw [List.size_toArray, ha.length]
  rw [esz] at W
  refine wpAny_pyIter_list hL ⟨_, _, _, _, _, _, rfl, Src.ofWalks W (fun i h st b hb => by rw [List.mem_singleton.mp hb]; refine ex1 st.1 fun o zz => and2 zz fun ho _ => ?_; exact ⟨o, ho⟩), ⟨⟨_, Heap.get?_push_size _ rfl, rfl, rfl⟩, hL.push _⟩, ?_, ?_, k₁.tr .push, ?_⟩
  · intro b hb
    simp only [List.mem_cons, List.not_mem_nil, or_false] at hb
    rcases hb with rfl | rfl
    · exact ⟨⟨_, Heap.get?_push_size _ rfl⟩, fresh_not c₁ (Nat.le_refl _)⟩
    · (refine ex1 hL fun o zz => and2 zz fun ho _ => ?_; try clear hL); exact ⟨⟨o, Heap.get?_push_of_some _ ho⟩, hl⟩
  · intro b hb
    rw [List.mem_singleton.mp hb]
    cases q : s.heap.get? s₁.heap.objs.size with
    | none => rfl
    | some o => exact absurd (get_lt (k₁.get q)) (Nat.lt_irrefl _)
  · intro i v h y hy hP
    refine ex1 (ha.get' hy) fun u zz => and2 zz fun hu hr => ?_
    have : u = v := by
      have hP' : vs.toArray[i]? = some v := hP
      rw [List.getElem?_toArray, hu] at hP'; exact Option.some.inj hP'
    subst this
    exact R.mono (fun b o q => ⟨fun m => (List.mem_append.mp m).elim (fun m => by have := get_lt q.2; rw [List.mem_singleton.mp m] at this; exact Nat.lt_irrefl _ this) q.1, Heap.get?_push_of_some _ q.2⟩) hr
def irange (a c : Int) (n : Nat) : List Int := (List.range n).map fun (i : Nat) => a + (i : Int) * c
theorem irange_get {a c : Int} {n i : Nat} {y : Int} (h : (irange a c n)[i]? = some y) : i < n ∧ y = a + (i : Int) * c := by
  unfold irange at h
  rw [List.getElem?_map] at h
  by_cases q : i < n
  · rw [List.getElem?_range q] at h; exact ⟨q, (Option.some.inj h).symm⟩
  · rw [List.getElem?_eq_none (by simpa using q)] at h; cases h
theorem range_src {r : Addr} {a b c : Int} {t u v : Tok} {env : Env} {s s₁ : Shared} {Z : List Addr} (hh : A.handled = none) (cx : Cx Γ env s₁ Z) (k : Kp s s₁) (hr : IsRange s₁.heap r a b c t u v) (hsmall : Builtin.Range.small a b c = true) {n : Nat} (hn : Builtin.Range.rangeSize a b c = n) :
    wpAny (model prog w) A (pyIter (.ref r)) (fun it s₂ => ∃ I fp wr P Md St, it = .ref I ∧ Src prog w A (.Name x px) I fp wr (irange a c n).length P Md St ∧ St 0 s₂.heap ∧
    (∀ b ∈ fp, (∃ o, s₂.heap.get? b = some o) ∧ b ∉ Z) ∧ (∀ b ∈ wr, s.heap.get? b = none) ∧ Kp s s₂ ∧ ∀ i v h x, (irange a c n)[i]? = some x → P i v h → ItR RInt x (hid (wr ++ Z) s₂.heap) v h) NoExc s₁ := by
  have W := Walks.range (prog := prog) (w := w) hh s₁.heap.objs.size a c n
  have e : (irange a c n).length = n := by simp [irange]
  rw [e]
  refine wpAny_pyIter_range hr hsmall ⟨_, _, _, _, _, _, rfl, Src.ofWalks W (fun i h st b hb => by rw [List.mem_singleton.mp hb]; exact ⟨_, st⟩), ?_, ?_, ?_, k.tr .push, ?_⟩
  · show IsRangeIter _ _ _ _ _
    have e := Heap.get?_push_size s₁.heap (o := { cls := .type "range_iterator", data := .fields #[rawInt a, rawInt (Builtin.Range.rangeSize a b c), rawInt c] }) rfl
    unfold IsRangeIter
    rw [e, hn]; simp
  · intro b hb
    rw [List.mem_singleton.mp hb]
    exact ⟨⟨_, Heap.get?_push_size _ rfl⟩, fresh_not cx (Nat.le_refl _)⟩
  · intro b hb
    rw [List.mem_singleton.mp hb]
    cases q : s.heap.get? s₁.heap.objs.size with
    | none => rfl
    | some o => exact absurd (get_lt (k.get q)) (Nat.lt_irrefl _)
  · rintro i v h y hy ⟨t', rfl⟩
    exact ⟨t', by rw [(irange_get hy).2]⟩
theorem evi_range1 (hh : A.handled = none) (hf : BFn Γ "range" (.type "range")) (he : Ev prog w A Γ e RInt a) (h0 : 0 ≤ a) (h1 : a < 2 ^ 62) (hs : autoParam (∀ env, starEach [e] env = [(false, eval e env)]) autoB) : EvI prog w A Γ (.Call (.Name "range" p) [e] [] pos) (.Name x px) (ItR RInt) (irange 0 1 a.toNat) := fun env s Z c => by
  refine Call_Name (trees := backTo pos [(false, eval e env)]) (by rw [hs]) ((ev_bfn hf).then c fun f s₁ k₁ c₁ hf => ?_)
  cases hf
  refine PyProof.Rows.callWith_type rfl (evalArgs_plain (spliced_cons (he.then c₁ fun v s₂ k₂ c₂ ⟨t, hv⟩ => spliced_nil ?_)))
  subst hv
  refine call_range_1 ?_
  have k3 : Kp s₂ { s₂ with heap := s₂.heap.push { cls := .type "range", data := .fields #[.int 0 s₂.toks, .int a t, .int 1 (s₂.toks + 1)] }, toks := s₂.toks + 1 + 1 } := Kp.push.tr .tok
  exact range_src hh (c₂.keeps k3) ((k₁.tr k₂).tr k3) (Heap.get?_push_size _ rfl) (small_one (by omega) (by omega) (by omega) h1) (by unfold Builtin.Range.rangeSize; simp; split <;> omega)
theorem evi_pairs {xs : List (α × β)} (hh : A.handled = none) (h : Ev prog w A Γ e (RList (RTup R S)) xs) : EvI prog w A Γ e (.Tuple [.Name x px, .Name y py] kk tp) (ItP R S) xs := fun env s Z c => by
  refine h.then c fun v s₁ k₁ c₁ hv => ?_
  (have zz := rlist_is hv; refine ex2 zz ?_; try clear zz; rintro l vs zz; refine and4 zz ?_; try clear zz; rintro rfl hl hL ha)
  have hlt : l < s₁.heap.objs.size := by (refine ex1 hL fun o zz => and2 zz fun ho _ => ?_; try clear hL); exact get_lt ho
  let Ts : Nat → Addr := fun j => match vs[j]? with | some (.ref T) => T | _ => 0
  let vals : Nat → Array Value := fun j => match s₁.heap.get? (Ts j) with | some o => (match o.data with | .seq a _ => a | _ => #[]) | none => #[]
  have esz : vs.toArray.size = xs.length := by rw [List.size_toArray, ha.length]
  have hT : ∀ j, j < vs.toArray.size → ∃ u w', ∃ x : α × β, xs[j]? = some x ∧ vs[j]? = some (.ref (Ts j)) ∧ Ts j ∉ Z ∧ s₁.heap.IsTuple (Ts j) #[u, w'] ∧ vals j = #[u, w'] ∧ R.rel x.1 (hid Z s₁.heap) u ∧ S.rel x.2 (hid Z s₁.heap) w' := fun j hj => by
    obtain ⟨x, hx⟩ : ∃ x, xs[j]? = some x := ⟨xs[j]'(esz ▸ hj), List.getElem?_eq_getElem _⟩
    (have zz := ha.get' hx; refine ex1 zz ?_; try clear zz; rintro v zz; refine and2 zz ?_; try clear zz; rintro hv zz; refine ex5 zz ?_; try clear zz; rintro T o n u w' zz; refine and6 zz ?_; try clear zz; rintro rfl ⟨hTz, ho⟩ hc hd h1 h2)
    have eT : Ts j = T := by show (match vs[j]? with | some (.ref T) => T | _ => 0) = T; rw [hv]
    refine ⟨u, w', x, hx, by rw [eT]; exact hv, by rw [eT]; exact hTz, by rw [eT]; exact ⟨o, ho, hc, n, hd⟩, ?_, h1, h2⟩
    show (match s₁.heap.get? (Ts j) with | some o => (match o.data with | .seq a _ => a | _ => #[]) | none => #[]) = _
    rw [eT, ho]; simp only [hd]
  have W := WalksU.listOfTuples (prog := prog) (w := w) (A := A) hh s₁.heap.objs.size l (Nat.ne_of_lt hlt) vs.toArray Ts vals (fun j hj => by refine ex3 (hT j hj) fun _ _ _ zz => and3 zz fun _ h _ => ?_; simpa using h) (fun j hj => by
    (have zz := hT j hj; refine ex3 zz ?_; try clear zz; rintro _ _ _ zz; refine and5 zz ?_; try clear zz; rintro _ _ _ ⟨o, ho, _⟩ _); exact Nat.ne_of_lt (get_lt ho))
  have W' := W.bound
  rw [esz] at W'
  refine wpAny_pyIter_list hL ⟨_, _, _, _, _, _, rfl, Src.ofWalksU W' (fun i h st b hb => by rw [List.mem_singleton.mp hb]; refine ex1 st.1 fun o zz => and2 zz fun ho _ => ?_; exact ⟨o, ho⟩), ⟨⟨_, Heap.get?_push_size _ rfl, rfl, rfl⟩, hL.push _, ?_⟩, ?_, ?_, k₁.tr .push, ?_⟩
  · intro j hj
    refine ex3 (hT j (esz ▸ hj)) fun u w' _ zz => and6 zz fun _ _ _ ht hv _ => ?_
    rw [hv]; exact ht.push _
  · intro b hb
    rcases List.mem_cons.mp hb with rfl | hb
    · exact ⟨⟨_, Heap.get?_push_size _ rfl⟩, fresh_not c₁ (Nat.le_refl _)⟩
    · rcases List.mem_cons.mp hb with rfl | hb
      · (refine ex1 hL fun o zz => and2 zz fun ho _ => ?_; try clear hL); exact ⟨⟨o, Heap.get?_push_of_some _ ho⟩, hl⟩
      · (have zz := List.mem_map.mp hb; refine ex1 zz ?_; try clear zz; rintro j zz; refine and2 zz ?_; try clear zz; rintro hj rfl)
        (have zz := hT j (esz ▸ List.mem_range.mp hj); refine ex3 zz ?_; try clear zz; rintro u w' _ zz; refine and5 zz ?_; try clear zz; rintro _ _ hz ⟨o, ho, _⟩ _)
        exact ⟨⟨o, Heap.get?_push_of_some _ ho⟩, hz⟩
  · intro b hb
    rw [List.mem_singleton.mp hb]
    cases q : s.heap.get? s₁.heap.objs.size with
    | none => rfl
    | some o => exact absurd (get_lt (k₁.get q)) (Nat.lt_irrefl _)
  · rintro i v h y hy ⟨T, vs', rfl, ⟨hi, rfl⟩, hIT⟩
    refine ex3 (hT i (esz ▸ hi)) fun u w' x' zz => and7 zz fun hx' _ _ _ hv h1 h2 => ?_
    rw [hy] at hx'
    cases hx'
    rw [hv] at hIT
    have up : ∀ b o, hid Z s₁.heap b o → hid ([s₁.heap.objs.size] ++ Z) (s₁.heap.push { cls := .type "list_iterator", data := .fields #[.ref l, .int 0 0] }) b o := fun b o q => ⟨fun m => (List.mem_append.mp m).elim (fun m => by have := get_lt q.2; rw [List.mem_singleton.mp m] at this; exact Nat.lt_irrefl _ this) q.1, Heap.get?_push_of_some _ q.2⟩
    exact ⟨T, u, w', rfl, hIT, R.mono up h1, S.mono up h2⟩
def enumd (xs : List α) : List (Int × α) := (xs.zipIdx).map fun p => ((p.2 : Int), p.1)
theorem enumd_length (xs : List α) : (enumd xs).length = xs.length := by simp [enumd]
theorem enumd_get {xs : List α} {i : Nat} {p : Int × α} (h : (enumd xs)[i]? = some p) : xs[i]? = some p.2 ∧ p.1 = i := by
  unfold enumd at h
  rw [List.getElem?_map, List.getElem?_zipIdx] at h
  cases hx : xs[i]? with
  | none => rw [hx] at h; cases h
  | some y => rw [hx] at h; cases h; simp
theorem evi_enum {xs : List α} (hh : A.handled = none) (hf : BFn Γ "enumerate" (.type "enumerate")) (he : Ev prog w A Γ e (RList R) xs) (hs : autoParam (∀ env, starEach [e] env = [(false, eval e env)]) autoB) : EvI prog w A Γ (.Call (.Name "enumerate" p) [e] [] pos) (.Tuple [.Name x px, .Name y py] kk tp) (ItP RInt R) (enumd xs) := fun env s Z c => by
  refine Call_Name (trees := backTo pos [(false, eval e env)]) (by rw [hs]) ((ev_bfn hf).then c fun f s₁ k₁ c₁ hf => ?_)
  cases hf
  refine PyProof.Rows.callWith_type rfl (evalArgs_plain (spliced_cons (he.then c₁ fun v s₂ k₂ c₂ hv => spliced_nil ?_)))
  (have zz := rlist_is hv; refine ex2 zz ?_; try clear zz; rintro l vs zz; refine and4 zz ?_; try clear zz; rintro rfl hl hL ha)
  have hlt : l < s₂.heap.objs.size := by (refine ex1 hL fun o zz => and2 zz fun ho _ => ?_; try clear hL); exact get_lt ho
  have esz : vs.toArray.size = (enumd xs).length := by rw [enumd_length, List.size_toArray, ha.length]
  refine call_enumerate_list hL fun h' hE hI hsz hk => wpAny_pyIter_enum hE ?_
  have W := (WalksT.enumerate (prog := prog) (w := w) (A := A) hh (s₂.heap.objs.size + 1) s₂.heap.objs.size l (Nat.succ_ne_self _) (Nat.ne_of_lt (Nat.lt_succ_of_lt hlt)) (Nat.ne_of_lt hlt) vs.toArray).toU
  rw [esz] at W
  refine ⟨_, _, _, _, _, _, rfl, Src.ofWalksU W (fun i h st b hb => ?_), ⟨⟨_, hE⟩, hI, hL.at fun o e => hk _ o e⟩, ?_, ?_, (k₁.tr k₂).tr ⟨h', s₂.toks, rfl, hk⟩, ?_⟩
  · simp only [List.mem_cons, List.not_mem_nil, or_false] at hb
    rcases hb with rfl | rfl
    · (refine and2 st ?_; try clear st; rintro ⟨old, he⟩ _); exact ⟨_, he⟩
    · (refine and3 st ?_; try clear st; rintro _ ⟨o, ho, _⟩ _); exact ⟨o, ho⟩
  · intro b hb
    simp only [List.mem_cons, List.not_mem_nil, or_false] at hb
    rcases hb with rfl | rfl | rfl
    · exact ⟨⟨_, hE⟩, fresh_not c₂ (Nat.le_succ _)⟩
    · (refine ex1 hI fun o zz => and2 zz fun ho _ => ?_; try clear hI); exact ⟨⟨o, ho⟩, fresh_not c₂ (Nat.le_refl _)⟩
    · (refine ex1 hL fun o zz => and2 zz fun ho _ => ?_; try clear hL); exact ⟨⟨o, hk _ o ho⟩, hl⟩
  · intro b hb
    simp only [List.mem_cons, List.not_mem_nil, or_false] at hb
    cases q : s.heap.get? b with
    | none => rfl
    | some o =>
      have := get_lt ((k₁.tr k₂).get q)
      rcases hb with rfl | rfl
      · exact absurd (Nat.lt_of_succ_lt this) (Nat.lt_irrefl _)
      · exact absurd this (Nat.lt_irrefl _)
  · rintro i v h q hq ⟨T, vals, rfl, ⟨t, z, hz, rfl⟩, hIT⟩
    refine and2 (enumd_get hq) fun hx hi => ?_
    refine ex1 (ha.get' hx) fun u zz => and2 zz fun hu hr => ?_
    have : u = z := by rw [List.getElem?_toArray, hu] at hz; exact Option.some.inj hz
    subst this
    have up : ∀ b o, hid Z s₂.heap b o → hid ([s₂.heap.objs.size + 1, s₂.heap.objs.size] ++ Z) h' b o := fun b o q => ⟨fun m => (List.mem_append.mp m).elim (fun m => by have := get_lt q.2; simp only [List.mem_cons, List.not_mem_nil, or_false] at m; rcases m with rfl | rfl; exact absurd (Nat.lt_of_succ_lt this) (Nat.lt_irrefl _); exact absurd this (Nat.lt_irrefl _)) q.1, hk _ _ q.2⟩
    exact ⟨T, _, u, rfl, hIT, ⟨t, by rw [hi]⟩, R.mono up hr⟩
end
end
end
section
section
structure Res where
  foot : List Addr
  P : Kn → Heap → Prop
  stab : ∀ {K K' : Kn} {h h' : Heap}, (∀ b o, K b o → K' b o) → (∀ b ∈ foot, ∀ o, h.get? b = some o → h'.get? b = some o) → P K h → P K' h'
  ex : ∀ {K : Kn} {h : Heap}, P K h → ∀ b ∈ foot, ∃ o, h.get? b = some o
def MutL {α : Type} (a : Addr) (R : Rp α) (xs : List α) : Res where
  foot := [a]
  P := fun K h => ∃ vs n, h.get? a = some (W.listOf vs.toArray n) ∧ A2 (fun x u => R.rel x K u) xs vs
  stab := by
    rintro K K' h h' hK hk ⟨vs, n, hl, ha⟩
    exact ⟨vs, n, hk a (by simp) _ hl, ha.imp fun _ _ y => R.mono hK y⟩
  ex := by
    rintro K h ⟨vs, n, ho, _⟩ b hb
    rw [List.mem_singleton.mp hb]; exact ⟨_, ho⟩
structure At (Γ : Gm) (env : Env) (res : List Res) (Hd Z : List Addr) (s : Shared) : Prop where
  cx : Cx Γ env s (Hd ++ Z)
  mv : Γ.mvars = []
  loc : env.locals = Γ.L
  g₀ : Γ.h₀.Ns mainGlobals Γ.mg
  b₀ : Γ.h₀.Ns builtinsNs Γ.mb
  lz : env.locals ∈ Z
  hz : ∀ b ∈ Hd, b ∉ Z
  z₀ : ∀ b ∈ Z, Γ.h₀.get? b = none
  cz : ∀ n c, env.cells.lookup n = some c → c ∈ Z ∧ ∃ v, s.heap.IsCell c v
  ap : ∀ n c y c', env.cells.lookup n = some c → env.cells.lookup y = some c' → y ≠ n → c' ≠ c
  rs : ∀ r ∈ res, r.P (hid (Hd ++ Z) s.heap) s.heap ∧ ∀ a ∈ r.foot, a ∈ Z ∧ a ≠ env.locals ∧ ∀ n c, env.cells.lookup n = some c → a ≠ c
  rp : res.Pairwise fun r r' => ∀ a ∈ r.foot, a ∉ r'.foot
def Stp (Z : List Addr) (s : Shared) (Z' : List Addr) (s' : Shared) : Prop := KB Z s s' ∧ ∀ z ∈ Z', z ∈ Z ∨ s.heap.get? z = none
theorem Stp.refl {Z : List Addr} {s : Shared} : Stp Z s Z s := ⟨.refl, fun _ h => .inl h⟩
theorem Stp.trans {Z Z' Z'' : List Addr} {s s' s'' : Shared} (a : Stp Z s Z' s') (b : Stp Z' s' Z'' s'') : Stp Z s Z'' s'' := by
  have h : ∀ b o, b ∉ Z → s.heap.get? b = some o → b ∉ Z' := fun b o hb e q => (a.2 b q).elim hb fun x => by rw [x] at e; cases e
  refine ⟨?_, fun z hz => ?_⟩
  · obtain ⟨h1, t1, rfl, k1⟩ := a.1
    obtain ⟨h2, t2, rfl, k2⟩ := b.1
    exact ⟨h2, t2, rfl, fun b o hb e => k2 b o (h b o hb e) (k1 b o hb e)⟩
  · rcases b.2 z hz with q | q
    · exact a.2 z q
    · by_cases hz' : z ∈ Z
      · exact .inl hz'
      · right
        cases e : s.heap.get? z with
        | none => rfl
        | some o => have := a.1.get hz' e; rw [q] at this; cases this
theorem Kp.stp {Z : List Addr} {s s' : Shared} (k : Kp s s') : Stp Z s Z s' := ⟨k.kb, fun _ h => .inl h⟩
section
variable {Γ : Gm} {env : Env} {res : List Res} {Hd Z : List Addr} {s s' : Shared}
theorem At.keeps (a : At Γ env res Hd Z s) (k : Kp s s') : At Γ env res Hd Z s' :=
  ⟨a.cx.keeps k, a.mv, a.loc, a.g₀, a.b₀, a.lz, a.hz, a.z₀, fun n c h => ⟨(a.cz n c h).1, (a.cz n c h).2.imp fun v x => x.keeps fun b o e => k.get e⟩, a.ap, fun r hr => ⟨r.stab (hid_keeps k) (fun b _ o e => k.get e) (a.rs r hr).1, (a.rs r hr).2⟩, a.rp⟩
theorem At.iter {wr : List Addr} (a : At Γ env res Hd Z s) (hw : ∀ b ∈ wr, b ∈ Hd) (hw₀ : ∀ b ∈ wr, Γ.h₀.get? b = none) (k : KB wr s s') (ex : ∀ b ∈ wr, ∃ o, s'.heap.get? b = some o) : At Γ env res Hd Z s' := by
  have nz : ∀ b ∈ Z, b ∉ wr := fun b hb q => a.hz b (hw b q) hb
  have n₀ : ∀ b o, Γ.h₀.get? b = some o → b ∉ wr := fun b o e q => by rw [hw₀ b q] at e; cases e
  have up : ∀ b o, hid (Hd ++ Z) s.heap b o → hid (Hd ++ Z) s'.heap b o := fun b o x => ⟨x.1, k.get (fun q => x.1 (List.mem_append_left _ (hw b q))) x.2⟩
  have fr : ∃ m, Fr Γ.h₀ Γ.L s'.heap m := by
    refine ex1 a.cx.fr fun m F => ?_
    exact ⟨m, F.ns.at' fun o e => k.get (nz _ (a.loc ▸ a.lz)) e, fun b o e => k.get (n₀ b o e) (F.keep b o e), F.above⟩
  have hc : ∀ c, (∃ n, env.cells.lookup n = some c) → c ∉ wr := fun c ⟨n, h⟩ => nz c (a.cz n c h).1
  have kF : ∀ b o, Γ.h₀.get? b = some o → s'.heap.get? b = some o := fun b o e => by (refine ex1 fr fun m F => ?_; try clear fr); exact F.keep b o e
  refine ⟨⟨a.cx.fn, a.cx.gl, a.cx.bl, a.g₀.at' fun o e => kF _ o e, a.b₀.at' fun o e => kF _ o e, fr, a.cx.gk, fun x hx => ?_, fun z hz => ?_, fun vb hv => ?_, fun vb hv => ?_⟩, a.mv, a.loc, a.g₀, a.b₀, a.lz, a.hz, a.z₀, fun n c h => ?_, a.ap, fun r hr => ?_, a.rp⟩
  · refine and2 (a.cx.ck x hx) fun h1 zz => ex1 zz fun c zz => and2 zz fun h2 zz => ex1 zz fun o h3 => ?_
    exact ⟨h1, c, h2, o, k.get (hc c ⟨x, h2⟩) h3⟩
  · by_cases q : z ∈ wr
    · exact ex z q
    · exact (a.cx.zl z hz).imp fun o e => k.get q e
  · refine ex1 (a.cx.vis vb hv) fun v zz => and2 zz fun h1 h2 => ?_
    exact ⟨v, h1.kb k (nz _ a.lz) fun c h => hc c ⟨_, h⟩, vb.R.mono up h2⟩
  · rw [a.mv] at hv; cases hv
  · refine and2 (a.cz n c h) fun h1 zz => ex2 zz fun v o zz => and2 zz fun ho hd => ?_
    exact ⟨h1, v, o, k.get (nz c h1) ho, hd⟩
  · exact ⟨r.stab up (fun b hb o e => k.get (nz b ((a.rs r hr).2 b hb).1) e) (a.rs r hr).1, (a.rs r hr).2⟩
theorem At.hide {wr : List Addr} (a : At Γ env res Hd Z s) (k : Kp s s') (hn : ∀ b ∈ wr, s.heap.get? b = none) (ex : ∀ b ∈ wr, ∃ o, s'.heap.get? b = some o) : At Γ env res (wr ++ Hd) Z s' := by
  have a' := a.keeps k
  have up : ∀ b o, hid (Hd ++ Z) s.heap b o → hid ((wr ++ Hd) ++ Z) s'.heap b o := fun b o x => ⟨fun q => by
    rw [List.append_assoc] at q
    exact (List.mem_append.mp q).elim (fun q => by have := x.2; rw [hn b q] at this; cases this) x.1, k.get x.2⟩
  refine ⟨⟨a'.cx.fn, a'.cx.gl, a'.cx.bl, a'.cx.g, a'.cx.b, a'.cx.fr, a'.cx.gk, a'.cx.ck, fun z hz => ?_, fun vb hv => ?_, fun vb hv => ?_⟩, a.mv, a.loc, a.g₀, a.b₀, a.lz, fun b hb => ?_, a.z₀, a'.cz, a.ap, fun r hr => ?_, a.rp⟩
  · rw [List.append_assoc] at hz
    exact (List.mem_append.mp hz).elim (ex z) (a'.cx.zl z)
  · refine ex1 (a.cx.vis vb hv) fun v zz => and2 zz fun h1 h2 => ?_
    exact ⟨v, h1.keeps k, vb.R.mono up h2⟩
  · rw [a.mv] at hv; cases hv
  · rcases List.mem_append.mp hb with q | q
    · intro hz
      refine ex1 (a.cx.zl b (List.mem_append_right _ hz)) fun o ho => ?_; rw [hn b q] at ho; cases ho
    · exact a.hz b q
  · exact ⟨r.stab up (fun b _ o e => k.get e) (a.rs r hr).1, (a.rs r hr).2⟩
theorem At.drop {wr : List Addr} (a : At Γ env res (wr ++ Hd) Z s) (hd : ∀ b ∈ wr, b ∉ Hd) (hw₀ : ∀ b ∈ wr, Γ.h₀.get? b = none) (k : KB wr s s') : At Γ env res Hd Z s' := by
  have nz : ∀ b ∈ Z, b ∉ wr := fun b hb q => a.hz b (List.mem_append_left _ q) hb
  have n₀ : ∀ b o, Γ.h₀.get? b = some o → b ∉ wr := fun b o e q => by rw [hw₀ b q] at e; cases e
  have sub : ∀ b, b ∈ Hd ++ Z → b ∈ (wr ++ Hd) ++ Z := fun b hb => by rw [List.append_assoc]; exact List.mem_append_right _ hb
  have up : ∀ b o, hid ((wr ++ Hd) ++ Z) s.heap b o → hid (Hd ++ Z) s'.heap b o := fun b o x => ⟨fun q => x.1 (sub b q), k.get (fun q => x.1 (List.mem_append_left _ (List.mem_append_left _ q))) x.2⟩
  have fr : ∃ m, Fr Γ.h₀ Γ.L s'.heap m := by
    refine ex1 a.cx.fr fun m F => ?_
    exact ⟨m, F.ns.at' fun o e => k.get (nz _ (a.loc ▸ a.lz)) e, fun b o e => k.get (n₀ b o e) (F.keep b o e), F.above⟩
  have hc : ∀ c, (∃ n, env.cells.lookup n = some c) → c ∉ wr := fun c ⟨n, h⟩ => nz c (a.cz n c h).1
  have kF : ∀ b o, Γ.h₀.get? b = some o → s'.heap.get? b = some o := fun b o e => by (refine ex1 fr fun m F => ?_; try clear fr); exact F.keep b o e
  refine ⟨⟨a.cx.fn, a.cx.gl, a.cx.bl, a.g₀.at' fun o e => kF _ o e, a.b₀.at' fun o e => kF _ o e, fr, a.cx.gk, fun x hx => ?_, fun z hz => ?_, fun vb hv => ?_, fun vb hv => ?_⟩, a.mv, a.loc, a.g₀, a.b₀, a.lz, fun b hb => a.hz b (List.mem_append_right _ hb), a.z₀, fun n c h => ?_, a.ap, fun r hr => ?_, a.rp⟩
  · refine and2 (a.cx.ck x hx) fun h1 zz => ex1 zz fun c zz => and2 zz fun h2 zz => ex1 zz fun o h3 => ?_
    exact ⟨h1, c, h2, o, k.get (hc c ⟨x, h2⟩) h3⟩
  · exact (a.cx.zl z (sub z hz)).imp fun o e => k.get (fun q => (List.mem_append.mp hz).elim (hd z q) fun h => nz z h q) e
  · refine ex1 (a.cx.vis vb hv) fun v zz => and2 zz fun h1 h2 => ?_
    exact ⟨v, h1.kb k (nz _ a.lz) fun c h => hc c ⟨_, h⟩, vb.R.mono up h2⟩
  · rw [a.mv] at hv; cases hv
  · refine and2 (a.cz n c h) fun h1 zz => ex2 zz fun v o zz => and2 zz fun ho hd => ?_
    exact ⟨h1, v, o, k.get (nz c h1) ho, hd⟩
  · exact ⟨r.stab up (fun b hb o e => k.get (nz b ((a.rs r hr).2 b hb).1) e) (a.rs r hr).1, (a.rs r hr).2⟩
theorem At.add (a : At Γ env res Hd Z s) (k : Kp s s') (r : Res) (hf : ∀ b ∈ r.foot, s.heap.get? b = none) (hP : r.P (hid (Hd ++ (r.foot ++ Z)) s'.heap) s'.heap) : At Γ env (r :: res) Hd (r.foot ++ Z) s' := by
  have a' := a.keeps k
  have hex := r.ex hP
  have old : ∀ b o, s.heap.get? b = some o → b ∉ r.foot := fun b o e q => by rw [hf b q] at e; cases e
  have mem : ∀ b, b ∈ Hd ++ (r.foot ++ Z) → b ∈ Hd ++ Z ∨ b ∈ r.foot := fun b hb => by
    rcases List.mem_append.mp hb with q | q
    · exact .inl (List.mem_append_left _ q)
    · exact (List.mem_append.mp q).elim .inr fun q => .inl (List.mem_append_right _ q)
  have up : ∀ b o, hid (Hd ++ Z) s.heap b o → hid (Hd ++ (r.foot ++ Z)) s'.heap b o := fun b o x => ⟨fun q => (mem b q).elim x.1 (old b o x.2), k.get x.2⟩
  have h₀n : ∀ b ∈ r.foot, Γ.h₀.get? b = none := fun b hb => by
    cases e : Γ.h₀.get? b with
    | none => rfl
    | some o => refine ex1 a.cx.fr fun m F => ?_; have := F.keep b o e; rw [hf b hb] at this; cases this
  refine ⟨⟨a'.cx.fn, a'.cx.gl, a'.cx.bl, a'.cx.g, a'.cx.b, a'.cx.fr, a'.cx.gk, a'.cx.ck, fun z hz => (mem z hz).elim (a'.cx.zl z) (hex z), fun vb hv => ?_, fun vb hv => ?_⟩, a.mv, a.loc, a.g₀, a.b₀, List.mem_append_right _ a.lz, fun b hb q => (List.mem_append.mp q).elim (fun q => ?_) (a.hz b hb), fun b hb => (List.mem_append.mp hb).elim (h₀n b) (a.z₀ b), fun n c h => ⟨List.mem_append_right _ (a'.cz n c h).1, (a'.cz n c h).2⟩, a.ap, fun r' hr' => ?_, ?_⟩
  · refine ex1 (a.cx.vis vb hv) fun v zz => and2 zz fun h1 h2 => ?_
    exact ⟨v, h1.keeps k, vb.R.mono up h2⟩
  · rw [a.mv] at hv; cases hv
  · refine ex1 (a.cx.zl b (List.mem_append_left _ hb)) fun o ho => ?_; exact old b o ho q
  · rcases List.mem_cons.mp hr' with rfl | hr'
    · refine ⟨hP, fun b hb => ⟨List.mem_append_left _ hb, fun e => ?_, fun n c h e => ?_⟩⟩
      · refine ex1 (a.cx.zl env.locals (List.mem_append_right _ a.lz)) fun o ho => ?_; exact old _ o ho (e ▸ hb)
      · refine and2 (a.cz n c h) fun _ zz => ex2 zz fun v o zz => and2 zz fun ho _ => ?_; exact old _ o ho (e ▸ hb)
    · refine and2 (a.rs r' hr') fun h1 h2 => ?_
      exact ⟨r'.stab up (fun b _ o e => k.get e) h1, fun b hb => ⟨List.mem_append_right _ (h2 b hb).1, (h2 b hb).2⟩⟩
  · refine List.pairwise_cons.mpr ⟨fun r' hr' b hb hb' => ?_, a.rp⟩
    refine ex1 (a.cx.zl b (List.mem_append_right _ ((a.rs r' hr').2 b hb').1)) fun o ho => ?_
    exact old b o ho hb
theorem At.perm {res' : List Res} (a : At Γ env res Hd Z s) (h : res.Perm res') : At Γ env res' Hd Z s :=
  ⟨a.cx, a.mv, a.loc, a.g₀, a.b₀, a.lz, a.hz, a.z₀, a.cz, a.ap, fun r hr => a.rs r (h.mem_iff.mpr hr), (h.pairwise_iff fun {r r'} q b hb hb' => q b hb' hb).mp a.rp⟩
theorem At.freeze {α : Type} {R : Rp α} {xs : List α} {x : Str} {l : Addr} (a : At Γ env (MutL l R xs :: res) Hd Z s) (hx : Vb.mk x Value RIs (.ref l) ∈ Γ.vars) :
    ∃ Z', (∀ z ∈ Z', z ∈ Z) ∧ At { Γ with vars := ⟨x, List α, RList R, xs⟩ :: Γ.vars.filter fun vb => vb.x != x } env res Hd Z' s := by
  have hl := a.rs _ List.mem_cons_self
  refine and3 (hl.2 l (by simp [MutL])) fun hlz hll hlc => ?_
  have sub : ∀ b, b ∈ Hd ++ (Z.filter (· != l)) → b ∈ Hd ++ Z := fun b hb => (List.mem_append.mp hb).elim (List.mem_append_left _) fun q => List.mem_append_right _ (List.mem_filter.mp q).1
  have up : ∀ b o, hid (Hd ++ Z) s.heap b o → hid (Hd ++ (Z.filter (· != l))) s.heap b o := fun b o y => ⟨fun q => y.1 (sub b q), y.2⟩
  have keep : ∀ b ∈ Z, b ≠ l → b ∈ Z.filter (· != l) := fun b hb hne => List.mem_filter.mpr ⟨hb, by simpa using hne⟩
  refine ⟨Z.filter (· != l), fun z hz => (List.mem_filter.mp hz).1, ⟨⟨a.cx.fn, a.cx.gl, a.cx.bl, a.cx.g, a.cx.b, a.cx.fr, a.cx.gk, a.cx.ck, fun z hz => a.cx.zl z (sub z hz), fun vb hv => ?_, fun vb hv => ?_⟩, a.mv, a.loc, a.g₀, a.b₀, keep _ a.lz (Ne.symm hll), fun b hb q => a.hz b hb (List.mem_filter.mp q).1, fun b hb => a.z₀ b (List.mem_filter.mp hb).1, fun n c h => ⟨keep c (a.cz n c h).1 (Ne.symm (hlc n c h)), (a.cz n c h).2⟩, a.ap, fun r hr => ?_, (List.pairwise_cons.mp a.rp).2⟩⟩
  · rcases List.mem_cons.mp hv with rfl | hv
    · refine ex1 (a.cx.vis _ hx) fun v zz => and2 zz fun h1 h2 => ?_
      cases (show v = .ref l from h2)
      refine ex2 hl.1 fun vs n zz => and2 zz fun ho ha => ?_
      refine ⟨_, h1, l, _, n, vs, rfl, ⟨fun q => ?_, ho⟩, rfl, rfl, ha.imp fun _ _ y => R.mono up y⟩
      rcases List.mem_append.mp q with q | q
      · exact a.hz l q hlz
      · have := (List.mem_filter.mp q).2; simp at this
    · refine ex1 (a.cx.vis vb (List.mem_filter.mp hv).1) fun v zz => and2 zz fun h1 h2 => ?_
      exact ⟨v, h1, vb.R.mono up h2⟩
  · have hv' : vb ∈ Γ.mvars := hv
    rw [a.mv] at hv'; cases hv'
  · refine and2 (a.rs r (List.mem_cons_of_mem _ hr)) fun h1 h2 => ?_
    refine ⟨r.stab up (fun _ _ _ e => e) h1, fun b hb => ⟨keep b (h2 b hb).1 fun e => ?_, (h2 b hb).2⟩⟩
    exact (List.pairwise_cons.mp a.rp).1 r hr l (by simp [MutL]) (e ▸ hb)
def turned (r r' : Res) (Z : List Addr) : List Addr := r'.foot ++ Z.filter fun b => decide (b ∉ r.foot)
theorem At.turn {r : Res} (a : At Γ env (r :: res) Hd Z s) (r' : Res) (k : KB r.foot s s') (hf : ∀ b ∈ r'.foot, b ∈ r.foot ∨ s.heap.get? b = none) (hP : r'.P (hid (Hd ++ turned r r' Z) s'.heap) s'.heap) :
    Stp Z s (turned r r' Z) s' ∧ At Γ env (r' :: res) Hd (turned r r' Z) s' := by
  refine and2 (a.rs r List.mem_cons_self) fun hrP hr => ?_
  have hex := r'.ex hP
  refine and2 (List.pairwise_cons.mp a.rp) fun hap hrp => ?_
  have memZ : ∀ b, b ∈ turned r r' Z → b ∈ r'.foot ∨ (b ∈ Z ∧ b ∉ r.foot) := fun b hb => (List.mem_append.mp hb).imp id fun q => ⟨(List.mem_filter.mp q).1, by simpa using (List.mem_filter.mp q).2⟩
  have inZ : ∀ b ∈ Z, b ∉ r.foot → b ∈ turned r r' Z := fun b hb hn => List.mem_append_right _ (List.mem_filter.mpr ⟨hb, by simpa using hn⟩)
  have up : ∀ b o, hid (Hd ++ Z) s.heap b o → hid (Hd ++ turned r r' Z) s'.heap b o := fun b o y => by
    have nr : b ∉ r.foot := fun q => y.1 (List.mem_append_right _ (hr b q).1)
    refine ⟨fun q => ?_, k.get nr y.2⟩
    rcases List.mem_append.mp q with q | q
    · exact y.1 (List.mem_append_left _ q)
    · rcases memZ b q with q | q
      · rcases hf b q with q | q
        · exact nr q
        · have := y.2; rw [q] at this; cases this
      · exact y.1 (List.mem_append_right _ q.1)
  have n₀ : ∀ b ∈ r.foot, Γ.h₀.get? b = none := fun b hb => a.z₀ b (hr b hb).1
  have f₀ : ∀ b, s.heap.get? b = none → Γ.h₀.get? b = none := fun b hb => by
    cases e : Γ.h₀.get? b with
    | none => rfl
    | some o => refine ex1 a.cx.fr fun m F => ?_; have := F.keep b o e; rw [hb] at this; cases this
  have fr : ∃ m, Fr Γ.h₀ Γ.L s'.heap m := by
    refine ex1 a.cx.fr fun m F => ?_
    refine ⟨m, F.ns.at' fun o e => k.get (fun q => (hr _ q).2.1 a.loc.symm) e, fun b o e => k.get (fun q => by rw [n₀ b q] at e; cases e) (F.keep b o e), F.above⟩
  have kF : ∀ b o, Γ.h₀.get? b = some o → s'.heap.get? b = some o := fun b o e => by (refine ex1 fr fun m F => ?_; try clear fr); exact F.keep b o e
  have hc : ∀ n c, env.cells.lookup n = some c → c ∉ r.foot := fun n c h q => (hr c q).2.2 n c h rfl
  have hL : env.locals ∉ r.foot := fun q => (hr _ q).2.1 rfl
  have old' : ∀ b o, s.heap.get? b = some o → b ∉ r.foot → b ∉ r'.foot := fun b o e nr q => (hf b q).elim nr fun q => by rw [q] at e; cases e
  refine ⟨⟨k.mono fun b hb => (hr b hb).1, fun z hz => (memZ z hz).elim (fun q => (hf z q).imp (fun q => (hr z q).1) id) fun q => .inl q.1⟩, ⟨⟨a.cx.fn, a.cx.gl, a.cx.bl, a.g₀.at' fun o e => kF _ o e, a.b₀.at' fun o e => kF _ o e, fr, a.cx.gk, fun x hx => ?_, fun z hz => ?_, fun vb hv => ?_, fun vb hv => ?_⟩, a.mv, a.loc, a.g₀, a.b₀, inZ _ a.lz hL, fun b hb q => ?_, fun b hb => ?_, fun n c h => ?_, a.ap, fun r2 hr2 => ?_, ?_⟩⟩
  · refine and2 (a.cx.ck x hx) fun h1 zz => ex1 zz fun c zz => and2 zz fun h2 zz => ex1 zz fun o h3 => ?_
    exact ⟨h1, c, h2, o, k.get (hc x c h2) h3⟩
  · rcases List.mem_append.mp hz with q | q
    · exact (a.cx.zl z (List.mem_append_left _ q)).imp fun o e => k.get (fun q' => a.hz z q (hr z q').1) e
    · rcases memZ z q with q | q
      · exact hex z q
      · exact (a.cx.zl z (List.mem_append_right _ q.1)).imp fun o e => k.get q.2 e
  · refine ex1 (a.cx.vis vb hv) fun v zz => and2 zz fun h1 h2 => ?_
    exact ⟨v, h1.kb k hL fun c h => hc _ c h, vb.R.mono up h2⟩
  · rw [a.mv] at hv; cases hv
  · rcases memZ b q with q | q
    · rcases hf b q with q | q
      · exact a.hz b hb (hr b q).1
      · refine ex1 (a.cx.zl b (List.mem_append_left _ hb)) fun o ho => ?_; rw [q] at ho; cases ho
    · exact a.hz b hb q.1
  · rcases memZ b hb with q | q
    · exact (hf b q).elim (n₀ b) (f₀ b)
    · exact a.z₀ b q.1
  · refine and2 (a.cz n c h) fun h1 zz => ex2 zz fun v o zz => and2 zz fun ho hd => ?_
    exact ⟨inZ c h1 (hc n c h), v, o, k.get (hc n c h) ho, hd⟩
  · rcases List.mem_cons.mp hr2 with rfl | hr2
    · refine ⟨hP, fun b hb => ⟨List.mem_append_left _ hb, fun e => ?_, fun n c h e => ?_⟩⟩
      · refine ex1 (a.cx.zl _ (List.mem_append_right _ a.lz)) fun o ho => ?_
        exact old' _ o ho hL (e ▸ hb)
      · refine and2 (a.cz n c h) fun _ zz => ex2 zz fun v o zz => and2 zz fun ho _ => ?_
        exact old' _ o ho (hc n c h) (e ▸ hb)
    · refine and2 (a.rs r2 (List.mem_cons_of_mem _ hr2)) fun h1 h2 => ?_
      have nr : ∀ b ∈ r2.foot, b ∉ r.foot := fun b hb q => hap r2 hr2 b q hb
      exact ⟨r2.stab up (fun b hb o e => k.get (nr b hb) e) h1, fun b hb => ⟨inZ b (h2 b hb).1 (nr b hb), (h2 b hb).2⟩⟩
  · refine List.pairwise_cons.mpr ⟨fun r2 hr2 b hb hb' => ?_, hrp⟩
    refine and2 (a.rs r2 (List.mem_cons_of_mem _ hr2)) fun h1 h2 => ?_
    refine ex1 (a.cx.zl b (List.mem_append_right _ (h2 b hb').1)) fun o ho => ?_
    exact old' b o ho (fun q => hap r2 hr2 b q hb') hb
theorem At.sub {vars' : List Vb} {res' : List Res} (a : At Γ env res Hd Z s) (hv : ∀ vb ∈ vars', vb ∈ Γ.vars) (hr : res'.Sublist res) : At { Γ with vars := vars' } env res' Hd Z s :=
  ⟨⟨a.cx.fn, a.cx.gl, a.cx.bl, a.cx.g, a.cx.b, a.cx.fr, a.cx.gk, a.cx.ck, a.cx.zl, fun vb h => a.cx.vis vb (hv vb h), a.cx.mvis⟩, a.mv, a.loc, a.g₀, a.b₀, a.lz, a.hz, a.z₀, a.cz, a.ap, fun r h => a.rs r (hr.subset h), a.rp.sublist hr⟩
def Gm.set (Γ : Gm) {β : Type} (x : Str) (R : Rp β) (b : β) : Gm := { Γ with vars := ⟨x, β, R, b⟩ :: Γ.vars.filter fun vb => vb.x != x }
theorem At.store {M : Model} {A : Around} {β : Type} {R : Rp β} {b : β} {x : Str} {v : Value} {Q : Unit → Shared → Prop} {E : Value → Shared → Prop} (a : At Γ env res Hd Z s) (hv : R.rel b (hid (Hd ++ Z) s.heap) v) (hk : env.kindOf x = some .local ∨ (env.kindOf x = some .cell ∧ ∃ c, env.cells.lookup x = some c)) (hcd : (x == ("__classdict__" : Str)) = false)
    (q : ∀ s', Stp Z s Z s' → At (Γ.set x R b) env res Hd Z s' → Q () s') : wpAny M A (storeName env x v) Q E s := by
  refine ex1 a.cx.fr fun m F => ?_
  have hns : s.heap.Ns env.locals m := a.loc ▸ F.ns
  have core : ∀ (h' : Heap) (tk : Nat) (w : Addr), w ∈ Z → (w = env.locals ∨ ∃ n, env.cells.lookup n = some w) → (∀ b o, b ≠ w → s.heap.get? b = some o → h'.get? b = some o) → (∃ o, h'.get? w = some o) → (∃ m', h'.Ns env.locals m') → (∀ n c, env.cells.lookup n = some c → ∃ u, h'.IsCell c u) → SeesV env { s with heap := h', toks := tk } x v → (∀ y u, y ≠ x → SeesV env s y u → SeesV env { s with heap := h', toks := tk } y u) → Q () { s with heap := h', toks := tk } := by
    intro h' tk w hw hwk hk' hew hm' hcells hsx hsy
    have up : ∀ b o, hid (Hd ++ Z) s.heap b o → hid (Hd ++ Z) h' b o := fun b o y => ⟨y.1, hk' b o (fun e => y.1 (List.mem_append_right _ (e ▸ hw))) y.2⟩
    have hw₀ : ∀ b o, Γ.h₀.get? b = some o → b ≠ w := fun b o e q => by rw [q, a.z₀ w hw] at e; cases e
    have fr : ∃ m, Fr Γ.h₀ Γ.L h' m := by
      (refine ex1 hm' ?_; try clear hm'; rintro m' hm')
      exact ⟨m', a.loc ▸ hm', fun b o e => hk' b o (hw₀ b o e) (F.keep b o e), F.above⟩
    have kF : ∀ b o, Γ.h₀.get? b = some o → h'.get? b = some o := fun b o e => by (refine ex1 fr fun m F => ?_; try clear fr); exact F.keep b o e
    refine q _ ⟨⟨h', tk, rfl, fun b o hb e => hk' b o (fun q => hb (q ▸ hw)) e⟩, fun _ h => .inl h⟩ ⟨⟨a.cx.fn, a.cx.gl, a.cx.bl, a.g₀.at' fun o e => kF _ o e, a.b₀.at' fun o e => kF _ o e, fr, a.cx.gk, fun y hy => ?_, fun z hz => ?_, fun vb hv' => ?_, fun vb hv' => ?_⟩, a.mv, a.loc, a.g₀, a.b₀, a.lz, a.hz, a.z₀, fun n c h => ⟨(a.cz n c h).1, hcells n c h⟩, a.ap, fun r hr => ?_, a.rp⟩
    · refine and2 (a.cx.ck y hy) fun h1 zz => ex1 zz fun c zz => and2 zz fun h2 zz => ex1 zz fun o h3 => ?_
      refine ex2 (hcells y c h2) fun u o' zz => and2 zz fun ho' _ => ?_
      exact ⟨h1, c, h2, o', ho'⟩
    · by_cases e : z = w
      · rw [e]; exact hew
      · exact (a.cx.zl z hz).imp fun o y => hk' z o e y
    · rcases List.mem_cons.mp hv' with e | hv'
      · rw [e]; exact ⟨v, hsx, R.mono up hv⟩
      · refine and2 (List.mem_filter.mp hv') fun hm hne => ?_
        refine ex1 (a.cx.vis vb hm) fun u zz => and2 zz fun h1 h2 => ?_
        exact ⟨u, hsy _ u (by simpa using hne) h1, vb.R.mono up h2⟩
    · have : (Γ.set x R b).mvars = [] := a.mv
      rw [this] at hv'; cases hv'
    · refine and2 (a.rs r hr) fun h1 h2 => ?_
      refine ⟨r.stab up (fun b' hb' o e => hk' b' o ?_ e) h1, h2⟩
      rcases hwk with e' | ⟨n, e'⟩
      · rw [e']; exact (h2 b' hb').2.1
      · exact (h2 b' hb').2.2 n w e'
  rcases hk with hk | ⟨hk, c, hc⟩
  · refine wpAny_storeName_local hk hns (fun h' hn hs => ?_) (by rw [a.cx.fn]; rfl)
    have kc : ∀ c u, s.heap.IsCell c u → h'.IsCell c u := fun c u y => y.sameBut hs (ns_ne_cell hns y)
    refine core h' _ env.locals a.lz (.inl rfl) (fun b o hb e => hs.extBut b o hb e) (by (refine ex3 hn fun o _ _ zz => and2 zz fun ho _ => ?_; try clear hn); exact ⟨o, ho⟩) ⟨_, hn⟩ (fun n c h => (a.cz n c h).2.imp fun u y => kc c u y) (.inl ⟨hk, _, hn, by simp⟩) fun y u hy sy => ?_
    rcases sy with ⟨h1, m', h2, h3⟩ | ⟨h1, h2, c, h3, h4⟩
    · refine .inl ⟨h1, _, hn, ?_⟩
      have e : m y = m' y := by
        (refine ex3 hns fun o es ep zz => and4 zz fun ho hd hkk hmm => ?_; try clear hns)
        (refine ex3 h2 fun o' es' ep' zz => and4 zz fun ho' hd' hkk' hmm' => ?_; try clear h2)
        rw [ho] at ho'; cases ho'
        rw [hd] at hd'; cases hd'
        rw [← hmm y, ← hmm' y]
      simp only [hy, if_false, e, h3]
    · exact .inr ⟨h1, h2, c, h3, kc c _ h4⟩
  · refine and2 (a.cz x c hc) fun hcz zz => ex1 zz fun u₀ hu₀ => ?_
    have hcL := ns_ne_cell hns hu₀
    refine wpAny_storeName_cell a.cx.fn hk hc hu₀ fun h' hv' hs => ?_
    have e1 : ({ s with heap := h' } : Shared) = { s with heap := h', toks := s.toks } := rfl
    rw [e1]
    refine core h' s.toks c hcz (.inr ⟨x, hc⟩) (fun b o hb e => hs.extBut b o hb e) (by (refine ex1 hv' fun o zz => and2 zz fun ho _ => ?_; try clear hv'); exact ⟨o, ho⟩) ⟨m, hns.sameBut hs (Ne.symm hcL)⟩ (fun n c' h => ?_) (.inr ⟨.inl hk, hcd, c, hc, hv'⟩) fun y u hy sy => ?_
    · by_cases e : n = x
      · subst e; rw [hc] at h; cases h; exact ⟨_, hv'⟩
      · exact (a.cz n c' h).2.imp fun u y => y.sameBut hs (a.ap x c n c' hc h e)
    · rcases sy with ⟨h1, m', h2, h3⟩ | ⟨h1, h2, c', h3, h4⟩
      · exact .inl ⟨h1, m', h2.sameBut hs (Ne.symm hcL), h3⟩
      · exact .inr ⟨h1, h2, c', h3, h4.sameBut hs (a.ap x c y c' hc h3 hy)⟩
end
end
end
section
section
section
variable (prog : Program) (w : World) (A : Around) (env : Env)
def HT (Γ : Gm) (res : List Res) (b : List Stmt) (P : Gm → List Res → Prop) : Prop :=
  ∀ Hd Z s, At Γ env res Hd Z s → wpAny (model prog w) A (execs b env) (fun f s' => f = .next ∧ ∃ Γ' res' Z', P Γ' res' ∧ (Γ'.h₀ = Γ.h₀ ∧ Γ'.L = Γ.L) ∧ Stp Z s Z' s' ∧ At Γ' env res' Hd Z' s') NoExc s
def HS (Γ : Gm) (res : List Res) (b : Stmt) (P : Gm → List Res → Prop) : Prop :=
  ∀ Hd Z s, At Γ env res Hd Z s → wpAny (model prog w) A (exec b env) (fun f s' => f = .next ∧ ∃ Γ' res' Z', P Γ' res' ∧ (Γ'.h₀ = Γ.h₀ ∧ Γ'.L = Γ.L) ∧ Stp Z s Z' s' ∧ At Γ' env res' Hd Z' s') NoExc s
def HR {β : Type} (Γ : Gm) (res : List Res) (b : List Stmt) (R : Rp β) (a : β) : Prop :=
  ∀ Hd Z s, At Γ env res Hd Z s → wpAny (model prog w) A (execs b env) (fun f s' => ∃ v, f = .ret v ∧ ∃ Γ' res' Z', Stp Z s Z' s' ∧ At Γ' env res' Hd Z' s' ∧ Γ'.h₀ = Γ.h₀ ∧ Γ'.L = Γ.L ∧ R.rel a (hid (Hd ++ Z') s'.heap) v) NoExc s
end
section
variable {α β : Type} {prog : Program} {w : World} {A : Around} {env : Env} {Γ : Gm} {res : List Res} {st : Stmt} {b rest : List Stmt} {P P' : Gm → List Res → Prop} {e : PySem.Expr} {R : Rp β} {a : β} {x : Str} {px pos p p' : Pos}
theorem ht_nil (h : P Γ res) : HT prog w A env Γ res [] P := fun Hd Z s at_ => wpAny_execs_nil ⟨rfl, Γ, res, Z, h, ⟨rfl, rfl⟩, .refl, at_⟩
theorem ht_cons (h : HS prog w A env Γ res st P) (k : ∀ Γ' res', P Γ' res' → HT prog w A env Γ' res' rest P') : HT prog w A env Γ res (st :: rest) P' := fun Hd Z s at_ => by
  refine wpAny_execs_cons (wpAny_mono (h Hd Z s at_) (fun f s₁ h₁ => ?_) fun _ _ x => x)
  (refine and2 h₁ ?_; try clear h₁; rintro rfl zz; obtain ⟨Γ₁, r₁, Z₁, hP, ⟨e1, e2⟩, st₁, at₁⟩ := zz)
  exact wpAny_mono (k Γ₁ r₁ hP Hd Z₁ s₁ at₁) (fun f s₂ h₂ => by (refine and2 h₂ ?_; try clear h₂; rintro rfl zz; obtain ⟨Γ₂, r₂, Z₂, hP₂, ⟨q1, q2⟩, st₂, at₂⟩ := zz); exact ⟨rfl, Γ₂, r₂, Z₂, hP₂, ⟨q1.trans e1, q2.trans e2⟩, st₁.trans st₂, at₂⟩) fun _ _ x => x
theorem hr_cons (h : HS prog w A env Γ res st P) (k : ∀ Γ' res', P Γ' res' → HR prog w A env Γ' res' rest R a) : HR prog w A env Γ res (st :: rest) R a := fun Hd Z s at_ => by
  refine wpAny_execs_cons (wpAny_mono (h Hd Z s at_) (fun f s₁ h₁ => ?_) fun _ _ x => x)
  (refine and2 h₁ ?_; try clear h₁; rintro rfl zz; obtain ⟨Γ₁, r₁, Z₁, hP, ⟨e1, e2⟩, st₁, at₁⟩ := zz)
  exact wpAny_mono (k Γ₁ r₁ hP Hd Z₁ s₁ at₁) (fun f s₂ h₂ => by (refine ex1 h₂ ?_; try clear h₂; rintro v zz; refine and2 zz ?_; try clear zz; rintro rfl zz; obtain ⟨Γ₂, r₂, Z₂, st₂, at₂, q1, q2, q3⟩ := zz); exact ⟨v, rfl, Γ₂, r₂, Z₂, st₁.trans st₂, at₂, q1.trans e1, q2.trans e2, q3⟩) fun _ _ x => x
theorem hr_return (h : Ev prog w A Γ e R a) : HR prog w A env Γ res [.Return (some e) pos] R a := fun Hd Z s at_ => by
  refine wpAny_execs_cons (wpAny_Return_some (h.then at_.cx fun v s₁ k₁ c₁ hv => ⟨v, rfl, Γ, res, Z, k₁.stp, at_.keeps k₁, rfl, rfl, hv⟩))
inductive Rd (Γ : Gm) (res : List Res) : Vb → Prop
  | mk {α : Type} {R : Rp α} {xs : List α} {x : Str} {a : Addr} : Vb.mk x Value RIs (.ref a) ∈ Γ.vars → MutL a R xs ∈ res → Rd Γ res ⟨x, List α, RList R, xs⟩
theorem At.read {Hd Z : List Addr} {s : Shared} {mv : List Vb} (at_ : At Γ env res Hd Z s) (h : ∀ vb ∈ mv, Rd Γ res vb) : Cx { Γ with mvars := mv } env s (Hd ++ Z) := by
  refine ⟨at_.cx.fn, at_.cx.gl, at_.cx.bl, at_.cx.g, at_.cx.b, at_.cx.fr, at_.cx.gk, at_.cx.ck, at_.cx.zl, at_.cx.vis, fun vb hv => ?_⟩
  cases h vb hv with
  | @mk α R xs x a h1 h2 =>
    refine ex1 (at_.cx.vis _ h1) fun v zz => and2 zz fun hs hr => ?_
    cases (show v = .ref a from hr)
    refine ex2 ((at_.rs _ h2).1) fun vs n zz => and2 zz fun hl ha => ?_
    exact ⟨_, hs, a, _, n, vs, rfl, ⟨by simp, hl⟩, rfl, rfl, ha.imp fun _ _ y => R.mono (fun b o z => ⟨by simp, z.2⟩) y⟩
def Gm.rd (Γ : Gm) (mv : List Vb) : Gm := { Γ with mvars := mv }
structure Kd (env : Env) (x : Str) : Prop where
  k : env.kindOf x = some .local ∨ (env.kindOf x = some .cell ∧ ∃ c, env.cells.lookup x = some c)
  cd : (x == ("__classdict__" : Str)) = false
theorem hs_assign {mv : List Vb} (h : Ev prog w A (Γ.rd mv) e R a) (hx : Kd env x) (hm : ∀ vb ∈ mv, Rd Γ res vb) (hsw : autoParam (swapsWith e (some (.Name x px)) pos.line env = pure false) autoA) :
    HS prog w A env Γ res (.Assign [.Name x px] e pos) fun Γ' res' => Γ' = Γ.set x R a ∧ res' = res := fun Hd Z s at_ => by
  refine wpAny_Assign_Name (h.then (at_.read hm) fun v s₁ k₁ c₁ hv => ?_) hsw
  exact (at_.keeps k₁).store hv hx.k hx.cd fun s' st' at' => ⟨rfl, _, _, Z, ⟨rfl, rfl⟩, ⟨rfl, rfl⟩, k₁.stp.trans st', at'⟩
theorem hs_assignC {elt target iter : PySem.Expr} {ifs : List PySem.Expr} {scope : Scope} {cpos : Pos} {xs : List α} {It : α → Kn → Value → Heap → Prop} {own : α → List Vb} {tn : List Str} {pp : α → Bool} {f : α → β} {mv : List Vb}
    (hh : A.handled = none) (hi : EvI prog w A (Γ.rd mv) iter target It xs) (stt : Stat (Γ.rd mv) scope) (hb : BndOk scope target It own tn)
    (hts : ∀ y ∈ xs, Ets prog w A (Γc (Γ.rd mv) scope (own y)) ifs (pp y)) (hel : ∀ y ∈ xs, pp y = true → Ev prog w A (Γc (Γ.rd mv) scope (own y)) elt R (f y)) (hlen : xs.length ≤ sizeLine) (hx : Kd env x) (hm : ∀ vb ∈ mv, Rd Γ res vb)
    (hsw : swapsWith (.ListComp elt [⟨target, iter, ifs, 0⟩] scope cpos) (some (.Name x px)) pos.line env = pure true) (hs : autoParam (∀ env x, foldedSetIterable iter env x = pure x) autoD) :
    HS prog w A env Γ res (.Assign [.Name x px] (.ListComp elt [⟨target, iter, ifs, 0⟩] scope cpos) pos) fun Γ' res' => Γ' = Γ.set x (RList R) ((xs.filter pp).map f) ∧ res' = res := fun Hd Z s at_ => by
  rw [exec_Assign_Name_used _ _ _ _ hsw]
  refine wpAny_bind (wpAny_standAt (wpAny_bind ?_))
  show wpAny _ A (do let _ ← comprehension (.ListComp elt [⟨target, iter, ifs, 0⟩] scope cpos) scope env (firstIterPos [⟨target, iter, ifs, 0⟩] cpos) (newList []) false (eval iter env) (some (assign (.Name x px) env))) _ _ s
  refine wpAny_bind (wpAny_mono (listcomp_use (use := some (assign (.Name x px) env)) (R := R) (p := pp) (f := f) (Q := fun _ s' => ∃ Γ' res' Z', (Γ' = Γ.set x (RList R) ((xs.filter pp).map f) ∧ res' = res) ∧ (Γ'.h₀ = Γ.h₀ ∧ Γ'.L = Γ.L) ∧ Stp Z s Z' s' ∧ At Γ' env res' Hd Z' s') (at_.read hm) hh hi stt hb hts hel hlen hs ?_) (fun _ s' q => wpAny_pure (wpAny_pure ⟨rfl, q⟩)) fun _ _ e => e)
  intro D C m s₅ Z' k hD hC hDC hCZ hDZ hZ hZ' hn hac
  show wpAny _ A (assign (.Name x px) env (.ref D)) _ _ _
  have hCe : ∀ b ∈ [C], ∃ o, s₅.heap.get? b = some o := fun b hb => by rw [List.mem_singleton.mp hb]; (refine ex3 hn fun o _ _ zz => and2 zz fun ho _ => ?_; try clear hn); exact ⟨o, ho⟩
  have at₅ : At Γ env res ([C] ++ Hd) Z s₅ := at_.hide k (fun b hb => by rw [List.mem_singleton.mp hb]; exact hC) hCe
  have hr : (RList R).rel ((xs.filter pp).map f) (hid (([C] ++ Hd) ++ Z) s₅.heap) (.ref D) := by
    refine accL_rel (C := C) hac (fun q => ?_) (fun b o _ e => e) hDC hCZ fun z hz => ?_
    · rw [List.append_assoc] at q
      rcases List.mem_append.mp q with q | q
      · exact hDC (List.mem_singleton.mp q)
      · refine ex1 (at_.cx.zl D q) fun o ho => ?_; rw [hD] at ho; cases ho
    · rw [List.append_assoc] at hz
      rcases List.mem_append.mp hz with q | q
      · rw [List.mem_singleton.mp q]; exact hCZ
      · exact hZ z q
  refine wpAny_assign_Name (at₅.store hr hx.k hx.cd fun s' st' at' => ?_)
  have hC' : C ∉ Z := at'.hz C (List.mem_append_left _ (.head _))
  refine ⟨m, hn.at' fun o e => st'.1.get hC' e, fun h' hs' => ⟨_, _, Z, ⟨rfl, rfl⟩, ⟨rfl, rfl⟩, ⟨?_, fun z hz => .inl hz⟩, ?_⟩⟩
  · have k' := (k.stp.trans st').1
    (refine ex2 k' ?_; try clear k'; rintro h1 t1 zz; refine and2 zz ?_; try clear zz; rintro rfl kk)
    exact ⟨h', t1, rfl, fun b o hb e => hs'.extBut b o (fun q => by rw [q, hC] at e; cases e) (kk b o hb e)⟩
  · have h₀C : Γ.h₀.get? C = none := by
      cases e : Γ.h₀.get? C with
      | none => rfl
      | some o => refine ex1 at_.cx.fr fun m F => ?_; have := F.keep C o e; rw [hC] at this; cases this
    refine At.drop (wr := [C]) at' (fun b hb q => ?_) (fun b hb => by rw [List.mem_singleton.mp hb]; exact h₀C) ⟨h', s'.toks, rfl, fun b o hb e => hs'.extBut b o (fun q => hb (by rw [q]; exact .head _)) e⟩
    rw [List.mem_singleton.mp hb] at q
    refine ex1 (at_.cx.zl C (List.mem_append_left _ q)) fun o ho => ?_; rw [hC] at ho; cases ho
end
end
end
section
section
section
variable {α β : Type} {prog : Program} {w : World} {A : Around} {env : Env} {Γ : Gm} {res : List Res} {st : Stmt} {b rest body orelse : List Stmt} {P P' : Gm → List Res → Prop} {e target iter : PySem.Expr} {R : Rp β} {a : β} {x : Str} {px pos p p' apos : Pos}
theorem hs_if {c : Bool} {mv : List Vb} (h : Et prog w A (Γ.rd mv) e c) (hm : ∀ vb ∈ mv, Rd Γ res vb) (h₁ : c = true → HT prog w A env Γ res body P) (h₂ : c = false → HT prog w A env Γ res orelse P) : HS prog w A env Γ res (.If e body orelse pos) P := fun Hd Z s at_ => by
  refine wpAny_If (h.then (at_.read hm) fun s₁ k₁ c₁ => ?_)
  cases c with
  | true =>
    simp only [if_true]
    exact wpAny_mono (h₁ rfl Hd Z s₁ (at_.keeps k₁)) (fun f s' ⟨q1, Γ', r', Z', q2, q5, q3, q4⟩ => ⟨q1, Γ', r', Z', q2, q5, k₁.stp.trans q3, q4⟩) fun _ _ x => x
  | false =>
    simp only [Bool.false_eq_true, if_false]
    exact wpAny_mono (h₂ rfl Hd Z s₁ (at_.keeps k₁)) (fun f s' ⟨q1, Γ', r', Z', q2, q5, q3, q4⟩ => ⟨q1, Γ', r', Z', q2, q5, k₁.stp.trans q3, q4⟩) fun _ _ x => x
theorem hs_newmut {lp : Pos} (R : Rp β) (hx : Kd env x) (hsw : autoParam (swapsWith (.List [] lp) (some (.Name x px)) pos.line env = pure false) autoA) :
    HS prog w A env Γ res (.Assign [.Name x px] (.List [] lp) pos) fun Γ' res' => ∃ l, Γ' = Γ.set x RIs (.ref l) ∧ res' = MutL l R [] :: res := fun Hd Z s at_ => by
  refine wpAny_Assign_Name (List_ (spliced_nil (wpAny_newObj_type ?_))) hsw
  have at₁ := at_.add (s' := { s with heap := s.heap.push { cls := .type "list", dict := none, data := .seq ([] : List Value).toArray } }) .push (MutL s.heap.objs.size R []) (fun b hb => by rw [show b = s.heap.objs.size from List.mem_singleton.mp hb]; exact get_none (Nat.le_refl _)) ⟨[], 0, Heap.get?_push_size _ rfl, trivial⟩
  refine at₁.store (R := RIs) (b := .ref s.heap.objs.size) rfl hx.k hx.cd fun s' st' at' => ⟨rfl, _, _, _, ⟨_, rfl, rfl⟩, ⟨rfl, rfl⟩, Stp.trans ⟨Kp.push.kb, fun z hz => ?_⟩ st', at'⟩
  rcases List.mem_append.mp hz with q | q
  · right; rw [show z = s.heap.objs.size from List.mem_singleton.mp q]; exact get_none (Nat.le_refl _)
  · exact .inl q
theorem hs_append {mv : List Vb} {l : Addr} {xs : List β} (h : Ev prog w A (Γ.rd mv) e R a) (hm : ∀ vb ∈ mv, Rd Γ (MutL l R xs :: res) vb) (hl : xs.length < sizeLine) (hxv : Vb.mk x Value RIs (.ref l) ∈ Γ.vars) (hline : (apos.endLine == p.line) = true)
    (hs : autoParam (∀ env, starEach [e] env = [(false, eval e env)]) autoB) (hd : autoParam ((x == ("__debug__" : Str)) = false) autoC) (hi : autoParam (interactive env = false) autoA) :
    HS prog w A env Γ (MutL l R xs :: res) (.Expr (.Call (.Attribute (.Name x px) "append" apos) [e] [] p) pos) fun Γ' res' => Γ' = Γ ∧ res' = MutL l R (xs ++ [a]) :: res := fun Hd Z s at_ => by
  refine wpAny_Expr ?_ hi rfl
  refine Call_method1 rfl (hs env) hline (wpAny_Name ?_ hd)
  refine ex1 (at_.cx.vis _ hxv) fun v zz => and2 zz fun h1 h2 => ?_
  cases (show v = .ref l from h2)
  refine h1.load at_.cx.fn ?_
  refine ex2 ((at_.rs _ List.mem_cons_self).1) fun vs n zz => and2 zz fun ho ha => ?_
  refine ⟨"list", "list.append", PySem.F.plainAttrs_list, slot_list_append, type_list_append, ⟨_, ho, rfl⟩, fun q hq => ⟨_, by cases hq; exact ho, rfl⟩, ?_⟩
  refine callWith_builtin rfl (evalArgs_plain (spliced_cons (h.then (at_.read hm) fun u s₁ k₁ c₁ hu => spliced_nil ?_)))
  have at₁ := at_.keeps k₁
  refine ex2 ((at₁.rs _ List.mem_cons_self).1) fun vs n zz => and2 zz fun ho ha => ?_
  refine append_at (its := vs.toArray) ho (fun h' hs' ho' => ?_) (by rw [List.size_toArray, ← ha.length]; omega)
  have kb : KB [l] s₁ { s₁ with heap := h' } := ⟨h', s₁.toks, rfl, fun b o hb e => hs'.extBut b o (fun q => hb (by rw [q]; exact .head _)) e⟩
  have hlz := (at₁.rs _ List.mem_cons_self).2 l (by simp [MutL])
  have hsub : ∀ b, b ∈ Hd ++ turned (MutL l R xs) (MutL l R (xs ++ [a])) Z → b ∈ Hd ++ Z := fun b hb => (List.mem_append.mp hb).elim (List.mem_append_left _) fun q => List.mem_append_right _ ((List.mem_append.mp q).elim (fun q => by rw [show b = l from List.mem_singleton.mp q]; exact hlz.1) fun q => (List.mem_filter.mp q).1)
  have up : ∀ b o, hid (Hd ++ Z) s₁.heap b o → hid (Hd ++ turned (MutL l R xs) (MutL l R (xs ++ [a])) Z) h' b o := fun b o y => ⟨fun q => y.1 (hsub b q), hs'.extBut b o (fun q => y.1 (List.mem_append_right _ (q ▸ hlz.1))) y.2⟩
  refine and2 (at₁.turn (s' := { s₁ with heap := h' }) (MutL l R (xs ++ [a])) kb (fun b hb => .inl hb) ⟨vs ++ [u], n + 1, by rw [← List.push_toArray]; exact ho', (ha.imp fun _ _ y => R.mono up y).snoc (R.mono up hu)⟩) fun st' at' => ?_
  exact ⟨rfl, Γ, _, _, ⟨rfl, rfl⟩, ⟨rfl, rfl⟩, k₁.stp.trans st', at'⟩
def ItMono (It : α → Kn → Value → Heap → Prop) : Prop := ∀ y K K' v h, (∀ b o, K b o → K' b o) → It y K v h → It y K' v h
theorem itR_mono {R : Rp α} : ItMono (ItR R) := fun y K K' v h hs x => R.mono hs x
theorem itP_mono {γ : Type} {R : Rp α} {S : Rp γ} : ItMono (ItP R S) := fun y K K' v h hs ⟨T, u, z, e, ht, h1, h2⟩ => ⟨T, u, z, e, ht, R.mono hs h1, S.mono hs h2⟩
def Turn (prog : Program) (w : World) (A : Around) (env : Env) (Γ : Gm) (res : List Res) (target : PySem.Expr) (It : α → Kn → Value → Heap → Prop) (y : α) (body : List Stmt) (P : Gm → List Res → Prop) : Prop :=
  ∀ Hd Z s v, At Γ env res Hd Z s → It y (hid (Hd ++ Z) s.heap) v s.heap → wpAny (model prog w) A (assign target env v) (fun _ s₁ => wpAny (model prog w) A (execs body env) (fun f s' => (f = .next ∨ f = .cont) ∧ ∃ Γ' res' Z', P Γ' res' ∧ (Γ'.h₀ = Γ.h₀ ∧ Γ'.L = Γ.L) ∧ Stp Z s Z' s' ∧ At Γ' env res' Hd Z' s') NoExc s₁) NoExc s
theorem turn_name {y : α} {R : Rp α} (hx : Kd env x) (h : HT prog w A env (Γ.set x R y) res body P) : Turn prog w A env Γ res (.Name x px) (ItR R) y body P := fun Hd Z s v at_ hv => by
  refine wpAny_assign_Name (at_.store (R := R) (b := y) hv hx.k hx.cd fun s₁ st₁ at₁ => ?_)
  exact wpAny_mono (h Hd Z s₁ at₁) (fun f s' ⟨q1, Γ', r', Z', q2, q5, q3, q4⟩ => ⟨.inl q1, Γ', r', Z', q2, q5, st₁.trans q3, q4⟩) fun _ _ x => x
theorem hideS {g : Prop} (T : Nat → Shared → Prop) (k : ∀ J : Nat → Shared → Prop, (∀ n s, T n s → J n s) → (∀ n s, J n s → T n s) → g) : g := k T (fun _ _ h => h) (fun _ _ h => h)
theorem hs_for {xs : List α} {It : α → Kn → Value → Heap → Prop} {mv : List Vb} (Inv : Nat → Gm → List Res → Prop) (hi : EvI prog w A (Γ.rd mv) iter target It xs) (hmo : ItMono It) (hm : ∀ vb ∈ mv, Rd Γ res vb) (h0 : Inv 0 Γ res)
    (turn : ∀ i y, xs[i]? = some y → ∀ Γ' res', Inv i Γ' res' → Turn prog w A env Γ' res' target It y body (Inv (i + 1))) (hs : autoParam (∀ env x, foldedSetIterable iter env x = pure x) autoD) :
    HS prog w A env Γ res (.For target iter body [] pos) (Inv xs.length) := fun Hd Z s at_ => by
  refine wpAny_For (wpAny_mono (hi env s (Hd ++ Z) (at_.read hm)) (fun v s₁ h₁ => wpAny_mono h₁ (fun it s₂ h₂ => ?_) fun _ _ x => x) fun _ _ x => x) (hs env)
  (refine ex6 h₂ ?_; try clear h₂; rintro I fp wr P Md St zz; refine and7 zz ?_; try clear zz; rintro rfl W hst hfp hwr k₂ hit)
  have at₂ : At Γ env res (wr ++ Hd) Z s₂ := at_.hide k₂ hwr (W.ex 0 _ hst)
  have h₀w : ∀ b ∈ wr, Γ.h₀.get? b = none := fun b hb => by
    cases e : Γ.h₀.get? b with
    | none => rfl
    | some o => refine ex1 at_.cx.fr fun m F => ?_; have := F.keep b o e; rw [hwr b hb] at this; cases this
  have fpk : ∀ Z' s', Stp Z s₂ Z' s' → ∀ b ∈ fp, b ∉ Z' := fun Z' s' st b hb q => by
    (have zz := hfp b hb; refine and2 zz ?_; try clear zz; rintro ⟨o, ho⟩ hz)
    rcases st.2 b q with q | q
    · exact hz (List.mem_append_right _ q)
    · rw [q] at ho; cases ho
  refine hideS (fun (k : Nat) (s' : Shared) => ∃ i Γ' res' Z', i ≤ xs.length ∧ k = xs.length + 1 - i ∧ Inv i Γ' res' ∧ (Γ'.h₀ = Γ.h₀ ∧ Γ'.L = Γ.L) ∧ KB (Z ++ wr) s₂ s' ∧ (∀ z ∈ Z', z ∈ Z ∨ s₂.heap.get? z = none) ∧ St i s'.heap ∧ At Γ' env res' (wr ++ Hd) Z' s') fun J mkJ elJ => ?_
  refine codeAny_forLoop_any J ?_ (xs.length + 1) (mkJ _ _ ⟨0, Γ, res, Z, Nat.zero_le _, rfl, h0, ⟨rfl, rfl⟩, .refl, fun z hz => .inl hz, hst, at₂⟩)
  rintro k s₃ hJ
  obtain ⟨i, Γ₃, r₃, Z₃, hi₃, rfl, hI₃, ⟨e3, e4⟩, k₃, hZ₃, st₃, at₃⟩ := elJ _ _ hJ
  clear hJ elJ
  have hfZ : ∀ b ∈ fp, b ∉ Z₃ := fun b hb q => by
    (have zz := hfp b hb; refine and2 zz ?_; try clear zz; rintro ⟨o, ho⟩ hz)
    rcases hZ₃ b q with q | q
    · exact hz (List.mem_append_right _ q)
    · rw [q] at ho; cases ho
  have hwZ : ∀ b ∈ wr, b ∉ Z₃ := fun b hb => hfZ b (W.t.sub b hb)
  by_cases hlt : i < xs.length
  · obtain ⟨y, hy⟩ : ∃ y, xs[i]? = some y := ⟨xs[i], List.getElem?_eq_getElem hlt⟩
    refine W.t.item i _ _ _ hlt st₃ fun v h₄ tk₄ hm₄ hk₄ => ?_
    refine W.t.go i v _ _ _ hm₄ fun h₅ hP₅ st₅ hk₅ => ?_
    have k₅ : KB wr s₃ { s₃ with heap := h₅, toks := tk₄ } := ⟨h₅, tk₄, rfl, fun b o hb e => hk₅ b o hb (hk₄ b o hb e)⟩
    have at₅ := at₃.iter (fun b hb => List.mem_append_left _ hb) (fun b hb => by rw [e3]; exact h₀w b hb) k₅ (W.ex _ _ st₅)
    have kk₅ : KB (Z ++ wr) s₂ { s₃ with heap := h₅, toks := tk₄ } := k₃.trans (k₅.mono fun b hb => List.mem_append_right _ hb)
    have hIt : It y (hid ((wr ++ Hd) ++ Z₃) h₅) v h₅ := by
      refine hmo _ _ _ _ _ (fun b o q => ?_) (hit i v h₅ y hy hP₅)
      have nz : b ∉ Z := fun z => q.1 (List.mem_append_right _ (List.mem_append_right _ z))
      have nw : b ∉ wr := fun z => q.1 (List.mem_append_left _ z)
      refine ⟨fun z => ?_, kk₅.get (fun z => (List.mem_append.mp z).elim nz nw) q.2⟩
      rcases List.mem_append.mp z with z | z
      · exact (List.mem_append.mp z).elim nw fun z => q.1 (List.mem_append_right _ (List.mem_append_left _ z))
      · rcases hZ₃ b z with z | z
        · exact nz z
        · have := q.2; rw [z] at this; cases this
    refine wpAny_mono (turn i y hy Γ₃ r₃ hI₃ (wr ++ Hd) Z₃ _ v at₅ hIt) (fun _ s₆ h₆ => wpAny_mono h₆ (fun f s₇ h₇ => ?_) fun _ _ x => x.elim) fun _ _ x => x.elim
    (refine and2 h₇ ?_; try clear h₇; rintro hf zz; obtain ⟨Γ₇, r₇, Z₇, hI₇, ⟨e5, e6⟩, stp₇, at₇⟩ := zz)
    have fin : ∃ m, m < xs.length + 1 - i ∧ J m s₇ := by
      have sub3 : ∀ b o, b ∉ Z ++ wr → s₂.heap.get? b = some o → b ∉ Z₃ := fun b o hb e q => (hZ₃ b q).elim (fun q => hb (List.mem_append_left _ q)) fun q => by rw [q] at e; cases e
      refine ⟨xs.length + 1 - (i + 1), by omega, mkJ _ _ ⟨i + 1, Γ₇, r₇, Z₇, hlt, rfl, hI₇, ⟨e5.trans e3, e6.trans e4⟩, ?_, fun z hz => ?_, W.t.frame _ _ _ st₅ fun b hb o e => stp₇.1.get (hfZ b hb) e, at₇⟩⟩
      · (refine ex2 kk₅ fun h8 t8 zz => and2 zz fun e8 k8 => ?_; try clear kk₅)
        refine ex2 stp₇.1 fun h9 t9 zz => and2 zz fun e9 k9 => ?_
        rw [e9, e8]
        refine ⟨h9, t9, rfl, fun b o hb e => k9 b o (sub3 b o hb e) ?_⟩
        rw [e8]; exact k8 b o hb e
      · rcases stp₇.2 z hz with q | q
        · exact hZ₃ z q
        · by_cases hzz : z ∈ Z
          · exact .inl hzz
          · right
            cases e : s₂.heap.get? z with
            | none => rfl
            | some o =>
              by_cases hw : z ∈ wr
              · exact absurd hz (fun hz' => at₇.hz z (List.mem_append_left _ hw) hz')
              · have := kk₅.get (fun y => (List.mem_append.mp y).elim hzz hw) e
                have q' : h₅.get? z = none := q
                rw [show ({ s₃ with heap := h₅, toks := tk₄ } : Shared).heap.get? z = h₅.get? z from rfl, q'] at this; cases this
    rcases hf with rfl | rfl <;> exact fin
  · have hin : i = xs.length := by omega
    subst hin
    refine W.t.done _ _ _ st₃ fun h₄ tk₄ hk₄ => wpAny_execs_nil ?_
    have k₄ : KB wr s₃ { s₃ with heap := h₄, toks := tk₄ } := ⟨h₄, tk₄, rfl, hk₄⟩
    have hwH : ∀ b ∈ wr, b ∉ Hd := fun b hb q => by refine ex1 (at_.cx.zl b (List.mem_append_left _ q)) fun o ho => ?_; rw [hwr b hb] at ho; cases ho
    refine ⟨rfl, Γ₃, r₃, Z₃, hI₃, ⟨e3, e4⟩, ⟨?_, fun z hz => ?_⟩, at₃.drop hwH (fun b hb => by rw [e3]; exact h₀w b hb) k₄⟩
    · have kk := k₃.trans (k₄.mono fun b hb => List.mem_append_right _ hb)
      exact ((k₂.kb (Mv := Z ++ wr)).trans kk).less fun b hb => (List.mem_append.mp hb).imp id (hwr b)
    · refine (hZ₃ z hz).imp id fun q => ?_
      cases e : s.heap.get? z with
      | none => rfl
      | some o => have := k₂.get e; rw [q] at this; cases this
end
end
end
section
section
def gsOf (scope : Scope) : List Str := (scope.names.filter fun y => y.2 == .globalImplicit && scope.names.lookup y.1 == some .globalImplicit).map (·.1)
def csOf (scope : Scope) : List Str := (scope.names.filter fun y => y.2 == .cell && scope.names.lookup y.1 == some .cell).map (·.1)
def bound (kindOf : Str → Option NameKind) (binds : List (Str × Value)) (x : Str) (v : Value) : Prop :=
  (kindOf x = some .local ∧ bindL kindOf binds (fun _ => none) x = some v) ∨ (kindOf x = some .cell ∧ bindC kindOf binds (fun _ => none) x = some v)
section
variable {β : Type} {prog : Program} {w : World} {A : Around} {s : Shared} {f : Addr} {o : Obj} {fd : FuncData} {body : List Stmt} {binds : List (Str × Value)} {vals : List Value} {vars : List Vb} {mg mb : Str → Option Value} {Z : List Addr} {S : Rp β} {b : β}
theorem at_entry (hgl : fd.globals = mainGlobals) (hbl : fd.builtins = builtinsNs) (hk : fd.scope.kind = .function) (hnd : ((cellsFrom 0 fd.scope.names []).map (·.1)).Nodup) (hg : s.heap.Ns mainGlobals mg) (hb : s.heap.Ns builtinsNs mb)
    (hcdn : ∀ y ∈ fd.scope.names, (y.1 == ("__classdict__" : Str)) = false) (hZ : ∀ z ∈ Z, ∃ o, s.heap.get? z = some o)
    (hvars : ∀ L, ∀ vb ∈ vars, ∃ v, bound (callEnvC fd L f).kindOf binds vb.x v ∧ vb.R.rel vb.a (hid Z s.heap) v) {s₁ : Shared}
    (x : InCallC s (callEnvC fd s.heap.objs.size f).locals (bindL (callEnvC fd s.heap.objs.size f).kindOf binds fun _ => none) (callEnvC fd s.heap.objs.size f).cells (bindC (callEnvC fd s.heap.objs.size f).kindOf binds fun _ => none) s₁) :
    At ⟨s.heap, s.heap.objs.size, mg, mb, gsOf fd.scope, csOf fd.scope, vars, []⟩ (callEnvC fd s.heap.objs.size f) [] Z (s.heap.objs.size :: (cellsFrom (s.heap.objs.size + 1) fd.scope.names []).map (·.2)) s₁ := by
  have hkk : ∀ b o, s.heap.get? b = some o → s₁.heap.get? b = some o := x.toInCall.keep
  have lk : ∀ n c, (n, c) ∈ cellsFrom (s.heap.objs.size + 1) fd.scope.names [] → (cellsFrom (s.heap.objs.size + 1) fd.scope.names []).lookup n = some c := fun n c hm => lookup_of_mem_nodup (cellsFrom_names fd.scope.names 0 (s.heap.objs.size + 1) [] [] rfl ▸ hnd) hm
  have cell : ∀ n c, (cellsFrom (s.heap.objs.size + 1) fd.scope.names []).lookup n = some c → ∃ v, s₁.heap.IsCell c v := fun n c h => ⟨_, x.cell n c h⟩
  have above : ∀ z ∈ s.heap.objs.size :: (cellsFrom (s.heap.objs.size + 1) fd.scope.names []).map (·.2), s.heap.objs.size ≤ z := fun z hz => by
    rcases List.mem_cons.mp hz with q | q
    · exact Nat.le_of_eq q.symm
    · (have zz := List.mem_map.mp q; refine ex1 zz ?_; try clear zz; rintro ⟨n, c⟩ zz; refine and2 zz ?_; try clear zz; rintro hm rfl)
      exact Nat.le_of_lt (x.above n c hm)
  have ex : ∀ z ∈ s.heap.objs.size :: (cellsFrom (s.heap.objs.size + 1) fd.scope.names []).map (·.2), ∃ o, s₁.heap.get? z = some o := fun z hz => by
    rcases List.mem_cons.mp hz with q | q
    · refine ex3 x.toInCall.ns fun o _ _ zz => and2 zz fun ho _ => ?_; rw [q]; exact ⟨o, ho⟩
    · (have zz := List.mem_map.mp q; refine ex1 zz ?_; try clear zz; rintro ⟨n, c⟩ zz; refine and2 zz ?_; try clear zz; rintro hm rfl)
      refine ex2 (cell n c (lk n c hm)) fun v o zz => and2 zz fun ho _ => ?_; exact ⟨o, ho⟩
  have zn : ∀ z ∈ Z, z ∉ s.heap.objs.size :: (cellsFrom (s.heap.objs.size + 1) fd.scope.names []).map (·.2) := fun z hz q => by
    refine ex1 (hZ z hz) fun o ho => ?_
    exact absurd (get_lt ho) (Nat.not_lt.mpr (above z q))
  refine ⟨⟨hk, hgl, hbl, hg.at' fun o e => hkk _ o e, hb.at' fun o e => hkk _ o e, ⟨_, x.toInCall.ns, hkk, Nat.le_refl _⟩, fun y hy => ?_, fun y hy => ?_, fun z hz => ?_, fun vb hv => ?_, fun vb hv => ?_⟩, rfl, rfl, hg, hb, .head _, zn, fun z hz => get_none (above z hz), fun n c h => ⟨.tail _ (List.mem_map.mpr ⟨_, mem_of_lookup h, rfl⟩), cell n c h⟩, fun n c y c' h h' hne e => ?_, fun r hr => (nomatch hr), .nil⟩
  · (have zz := List.mem_map.mp hy; refine ex1 zz ?_; try clear zz; rintro q zz; refine and2 zz ?_; try clear zz; rintro hq rfl)
    have := (List.mem_filter.mp hq).2
    simp only [Bool.and_eq_true, beq_iff_eq] at this
    exact this.2
  · (have zz := List.mem_map.mp hy; refine ex1 zz ?_; try clear zz; rintro q zz; refine and2 zz ?_; try clear zz; rintro hq rfl)
    have := (List.mem_filter.mp hq).2
    simp only [Bool.and_eq_true, beq_iff_eq] at this
    have hm : (q.1, NameKind.cell) ∈ fd.scope.names := mem_of_lookup this.2
    refine ex1 (cellsFrom_own (n := s.heap.objs.size + 1) hm) fun c hc => ?_
    refine ex2 (cell _ c (lk _ c hc)) fun v o zz => and2 zz fun ho _ => ?_
    exact ⟨.inl this.2, c, lk _ c hc, o, ho⟩
  · rcases List.mem_append.mp hz with q | q
    · exact (hZ z q).imp fun o e => hkk z o e
    · exact ex z q
  · refine ex1 (hvars s.heap.objs.size vb hv) fun v zz => and2 zz fun hbd hr => ?_
    refine ⟨v, ?_, vb.R.mono (fun b o y => ⟨fun q => ?_, hkk b o y.2⟩) hr⟩
    · rcases hbd with ⟨h1, h2⟩ | ⟨h1, h2⟩
      · exact .inl ⟨h1, _, x.toInCall.ns, h2⟩
      · have hm : (vb.x, NameKind.cell) ∈ fd.scope.names := mem_of_lookup h1
        refine ex1 (cellsFrom_own (n := s.heap.objs.size + 1) hm) fun c hc => ?_
        refine .inr ⟨.inl h1, hcdn _ hm, c, lk _ c hc, ?_⟩
        have := x.cell _ c (lk _ c hc)
        rw [h2] at this; exact this
    · rcases List.mem_append.mp q with q | q
      · exact y.1 q
      · exact absurd (get_lt y.2) (Nat.not_lt.mpr (above b q))
  · cases hv
  · exact hne (name_of_addr x.apart (mem_of_lookup (e ▸ h')) (mem_of_lookup h))
theorem pfn_enter (hroom : A.depth < recursionLimit) (ho : s.heap.get? f = some o) (hdata : o.data = .func fd) (hlim : s.heap.NoLimit) (hcd : s.heap.CodeRec fd.code fd.qualname) (hbody : fd.body = .stmts body) (hbind : bindArgs fd ⟨vals, []⟩ = pure binds) (hclo : fd.closure = [])
    (hkind : ∀ n, ∀ x ∈ binds, fd.scope.names.lookup x.1 = some .local ∨ (fd.scope.names.lookup x.1 = some .cell ∧ ((cellsFrom n fd.scope.names []).lookup x.1).isSome = true))
    (hgl : fd.globals = mainGlobals) (hbl : fd.builtins = builtinsNs) (hk : fd.scope.kind = .function) (hnd : ((cellsFrom 0 fd.scope.names []).map (·.1)).Nodup) (hg : s.heap.Ns mainGlobals mg) (hb : s.heap.Ns builtinsNs mb)
    (hcdn : ∀ y ∈ fd.scope.names, (y.1 == ("__classdict__" : Str)) = false) (hZ : ∀ z ∈ Z, ∃ o, s.heap.get? z = some o)
    (hvars : ∀ L, ∀ vb ∈ vars, ∃ v, bound (callEnvC fd L f).kindOf binds vb.x v ∧ vb.R.rel vb.a (hid Z s.heap) v)
    (h : ∀ L, HR prog w (A.deeper (callEnvC fd L f)) (callEnvC fd L f) ⟨s.heap, L, mg, mb, gsOf fd.scope, csOf fd.scope, vars, []⟩ [] body S b)
    (hco : fd.scope.isCoroutine = false) (hgen : fd.scope.isGenerator = false) :
    wpAny (model prog w) A (call (.ref f) vals) (fun r s' => Kp s s' ∧ S.rel b (hid Z s'.heap) r) NoExc s := by
  refine wpAny_call (codeAny_call_cells hroom ho hdata hlim hcd hbody hbind hclo (hkind _) (fun s₁ x => ?_) hco hgen hk)
  have at_ := at_entry hgl hbl hk hnd hg hb hcdn hZ hvars x
  refine wpAny_mono (h s.heap.objs.size _ _ _ at_) (fun fl s' q => ?_) fun _ _ q => q.elim
  (refine ex1 q ?_; try clear q; rintro v zz; refine and2 zz ?_; try clear zz; rintro rfl zz; obtain ⟨Γ', r', Z', st', at', e1, e2, hr⟩ := zz)
  have k1 : Kp s s₁ := x.done
  refine ⟨?_, S.mono (fun b o y => ⟨fun q => y.1 (List.mem_append_left _ q), y.2⟩) hr⟩
  (refine ex2 k1 ?_; try clear k1; rintro h2 t2 zz; refine and2 zz ?_; try clear zz; rintro rfl k2)
  (refine ex2 st'.1 ?_; rintro h3 t3 zz; refine and2 zz ?_; try clear zz; rintro rfl k3)
  refine ⟨h3, t3, rfl, fun b o e => k3 b o (fun q => ?_) (k2 b o e)⟩
  have := at_.z₀ b q
  rw [show s.heap.get? b = some o from e] at this; cases this
end
section
variable {α β γ δ : Type} {prog : Program} {w : World} {A : Around} {Γ : Gm} {e e₁ e₂ e₃ : PySem.Expr} {R : Rp α} {S : Rp β} {T : Rp γ} {U : Rp δ} {x y : Str} {pos p px py tp : Pos} {f : Addr} {k : Nat}
def IsDef (Γ : Gm) (f : Addr) : Prop := ∀ env s Z, Cx Γ env s Z → ∃ o fd, s.heap.get? f = some o ∧ o.data = .func fd
theorem ev_fn1 {a : α} {b : β} (hf : GFn Γ x (.ref f)) (hdf : IsDef Γ f) (he : Ev prog w A Γ e R a)
    (k : ∀ env s Z v, Cx Γ env s Z → R.rel a (hid Z s.heap) v → wpAny (model prog w) A (call (.ref f) [v]) (fun r s' => Kp s s' ∧ S.rel b (hid Z s'.heap) r) NoExc s)
    (hs : autoParam (∀ env, starEach [e] env = [(false, eval e env)]) autoB) (hd : autoParam ((x == ("__debug__" : Str)) = false) autoC) : Ev prog w A Γ (.Call (.Name x p) [e] [] pos) S b := fun env s Z c => by
  refine Call_Name (trees := backTo pos [(false, eval e env)]) (by rw [hs]) ((ev_gfn hf hd).then c fun g s₁ k₁ c₁ hg => ?_)
  cases hg
  refine ex2 (hdf env s₁ Z c₁) fun o fd zz => and2 zz fun ho hfd => ?_
  refine callWith_function (o := o) (fd := fd) (evalArgs_plain (spliced_cons (he.then c₁ fun v s₂ k₂ c₂ hv => spliced_nil ?_)))
  exact ⟨⟨k₂.get ho, hfd⟩, wpAny_mono (k env s₂ Z v c₂ hv) (fun r s' q => ⟨(k₁.tr k₂).tr q.1, q.2⟩) fun _ _ q => q⟩
theorem ev_fn2 {a : α} {b : β} {c' : γ} (hf : GFn Γ x (.ref f)) (hdf : IsDef Γ f) (he₁ : Ev prog w A Γ e₁ R a) (he₂ : Ev prog w A Γ e₂ S b)
    (k : ∀ env s Z u v, Cx Γ env s Z → R.rel a (hid Z s.heap) u → S.rel b (hid Z s.heap) v → wpAny (model prog w) A (call (.ref f) [u, v]) (fun r s' => Kp s s' ∧ T.rel c' (hid Z s'.heap) r) NoExc s)
    (hs : autoParam (∀ env, starEach [e₁, e₂] env = [(false, eval e₁ env), (false, eval e₂ env)]) autoB) (hd : autoParam ((x == ("__debug__" : Str)) = false) autoC) : Ev prog w A Γ (.Call (.Name x p) [e₁, e₂] [] pos) T c' := fun env s Z c => by
  refine Call_Name (trees := backTo pos [(false, eval e₁ env), (false, eval e₂ env)]) (by rw [hs]) ((ev_gfn hf hd).then c fun g s₁ k₁ c₁ hg => ?_)
  cases hg
  refine ex2 (hdf env s₁ Z c₁) fun o fd zz => and2 zz fun ho hfd => ?_
  refine callWith_function (o := o) (fd := fd) (evalArgs_plain (spliced_cons (he₁.then c₁ fun u s₂ k₂ c₂ hu => spliced_cons (he₂.then c₂ fun v s₃ k₃ c₃ hv => spliced_nil ?_))))
  exact ⟨⟨k₃.get (k₂.get ho), hfd⟩, wpAny_mono (k env s₃ Z u v c₃ (R.mono (hid_keeps k₃) hu) hv) (fun r s' q => ⟨((k₁.tr k₂).tr k₃).tr q.1, q.2⟩) fun _ _ q => q⟩
theorem ev_fn3 {a : α} {b : β} {c' : γ} {d : δ} (hf : GFn Γ x (.ref f)) (hdf : IsDef Γ f) (he₁ : Ev prog w A Γ e₁ R a) (he₂ : Ev prog w A Γ e₂ S b) (he₃ : Ev prog w A Γ e₃ T c')
    (k : ∀ env s Z u v z, Cx Γ env s Z → R.rel a (hid Z s.heap) u → S.rel b (hid Z s.heap) v → T.rel c' (hid Z s.heap) z → wpAny (model prog w) A (call (.ref f) [u, v, z]) (fun r s' => Kp s s' ∧ U.rel d (hid Z s'.heap) r) NoExc s)
    (hs : autoParam (∀ env, starEach [e₁, e₂, e₃] env = [(false, eval e₁ env), (false, eval e₂ env), (false, eval e₃ env)]) autoB) (hd : autoParam ((x == ("__debug__" : Str)) = false) autoC) : Ev prog w A Γ (.Call (.Name x p) [e₁, e₂, e₃] [] pos) U d := fun env s Z c => by
  refine Call_Name (trees := backTo pos [(false, eval e₁ env), (false, eval e₂ env), (false, eval e₃ env)]) (by rw [hs]) ((ev_gfn hf hd).then c fun g s₁ k₁ c₁ hg => ?_)
  cases hg
  refine ex2 (hdf env s₁ Z c₁) fun o fd zz => and2 zz fun ho hfd => ?_
  refine callWith_function (o := o) (fd := fd) (evalArgs_plain (spliced_cons (he₁.then c₁ fun u s₂ k₂ c₂ hu => spliced_cons (he₂.then c₂ fun v s₃ k₃ c₃ hv => spliced_cons (he₃.then c₃ fun z s₄ k₄ c₄ hz => spliced_nil ?_)))))
  exact ⟨⟨k₄.get (k₃.get (k₂.get ho)), hfd⟩, wpAny_mono (k env s₄ Z u v z c₄ (R.mono (hid_keeps (k₃.tr k₄)) hu) (S.mono (hid_keeps k₄) hv) hz) (fun r s' q => ⟨(((k₁.tr k₂).tr k₃).tr k₄).tr q.1, q.2⟩) fun _ _ q => q⟩
theorem ev_abs {a : Int} (hf : BFn Γ "abs" (.builtin "abs")) (he : Ev prog w A Γ e RInt a) (hs : autoParam (∀ env, starEach [e] env = [(false, eval e env)]) autoB) : Ev prog w A Γ (.Call (.Name "abs" p) [e] [] pos) RInt a.natAbs :=
  call1 hf he.r (fun env s Z v c ⟨t, hv⟩ => by
    subst hv
    refine call_abs_int fun u tk => ⟨.tok, u, ?_⟩
    congr 1; split <;> omega) hs
theorem ev_divmod {a b : Int} (hf : BFn Γ "divmod" (.builtin "divmod")) (he₁ : Ev prog w A Γ e₁ RInt a) (he₂ : Ev prog w A Γ e₂ RInt b) (hb : b ≠ 0) (hl : b.natAbs < 1073741824)
    (hs : autoParam (∀ env, starEach [e₁, e₂] env = [(false, eval e₁ env), (false, eval e₂ env)]) autoB) : Ev prog w A Γ (.Call (.Name "divmod" p) [e₁, e₂] [] pos) (RTup RInt RInt) (a.fdiv b, a.fmod b) := fun env s Z c => by
  refine Call_Name (trees := backTo pos [(false, eval e₁ env), (false, eval e₂ env)]) (by rw [hs]) ((ev_bfn hf).then c fun g s₁ k₁ c₁ hg => ?_)
  cases hg
  refine callWith_builtin rfl (evalArgs_plain (spliced_cons (he₁.then c₁ fun u s₂ k₂ c₂ ⟨t, hu⟩ => spliced_cons (he₂.then c₂ fun v s₃ k₃ c₃ ⟨t', hv⟩ => spliced_nil ?_))))
  subst hu hv
  refine divmod_int hb ⟨((k₁.tr k₂).tr k₃).tr (Kp.push.tr .tok), _, _, 0, _, _, rfl, ⟨fresh_not c₃ (Nat.le_refl _), Heap.get?_push_size _ rfl⟩, rfl, rfl, ⟨_, rfl⟩, ⟨_, rfl⟩⟩ (.inl (PyProof.noPylong_small hl))
end
section
variable {α β : Type} {prog : Program} {w : World} {A : Around} {env : Env} {Γ : Gm} {res : List Res} {body : List Stmt} {P : Gm → List Res → Prop} {e test : PySem.Expr} {R : Rp α} {S : Rp β} {a : α} {b : β} {x y : Str} {px py tp pos : Pos} {k : Nat}
theorem hs_while (Inv : Nat → Gm → List Res → Prop) (n : Nat) (h0 : Inv n Γ res)
    (turn : ∀ n Γ' res', Inv n Γ' res' → ∃ c, Et prog w A Γ' test c ∧ (c = true → HT prog w A env Γ' res' body fun Γ'' res'' => ∃ m, m < n ∧ Inv m Γ'' res'') ∧ (c = false → P Γ' res')) : HS prog w A env Γ res (.While test body [] pos) P := fun Hd Z s at_ => by
  refine while_inv (fun n s' => ∃ Γ' res' Z', Inv n Γ' res' ∧ (Γ'.h₀ = Γ.h₀ ∧ Γ'.L = Γ.L) ∧ Stp Z s Z' s' ∧ At Γ' env res' Hd Z' s') n ⟨Γ, res, Z, h0, ⟨rfl, rfl⟩, .refl, at_⟩ ?_
  rintro n s₁ ⟨Γ₁, r₁, Z₁, hI, ⟨e1, e2⟩, st₁, at₁⟩
  refine ex1 (turn n Γ₁ r₁ hI) fun c zz => and3 zz fun hc ht hf => ?_
  refine hc.then at₁.cx fun s₂ k₂ c₂ => ?_
  cases c with
  | true =>
    simp only [if_true]
    refine wpAny_mono (ht rfl Hd Z₁ s₂ (at₁.keeps k₂)) (fun f s₃ h₃ => ?_) fun _ _ q => q
    (refine and2 h₃ ?_; try clear h₃; rintro rfl zz; obtain ⟨Γ₃, r₃, Z₃, ⟨m, hm, hI₃⟩, ⟨q1, q2⟩, st₃, at₃⟩ := zz)
    exact ⟨m, hm, Γ₃, r₃, Z₃, hI₃, ⟨q1.trans e1, q2.trans e2⟩, (st₁.trans k₂.stp).trans st₃, at₃⟩
  | false =>
    simp only [Bool.false_eq_true, if_false]
    exact wpAny_execs_nil ⟨rfl, Γ₁, r₁, Z₁, hf rfl, ⟨e1, e2⟩, st₁.trans k₂.stp, at₁.keeps k₂⟩
theorem hs_unpack {mv : List Vb} (hh : A.handled = none) (h : Ev prog w A (Γ.rd mv) e (RTup R S) (a, b)) (hx : Kd env x) (hy : Kd env y) (hm : ∀ vb ∈ mv, Rd Γ res vb)
    (hs : autoParam (swapsWithSole [.Tuple [.Name x px, .Name y py] k tp] e pos.line env = pure false) autoA) (hw : autoParam (swappedStores [.Tuple [.Name x px, .Name y py] k tp] e env = pure none) autoA) :
    HS prog w A env Γ res (.Assign [.Tuple [.Name x px, .Name y py] k tp] e pos) fun Γ' res' => Γ' = (Γ.set x R a).set y S b ∧ res' = res := fun Hd Z s at_ => by
  refine Assign_Tuple (h.then (at_.read hm) fun v s₁ k₁ c₁ hv => ?_) hs hw
  (refine ex5 hv ?_; try clear hv; rintro l o n u z zz; refine and6 zz ?_; try clear zz; rintro rfl ⟨hl, ho⟩ hc hd h1 h2)
  refine wpAny_assign_Tuple hh ⟨o, ho, hc, n, hd⟩ rfl rfl fun h' he' => ?_
  have k₂ : Kp s₁ { s₁ with heap := h' } := ⟨h', s₁.toks, rfl, fun b o e => he' b o (Nat.ne_of_lt (get_lt e)) e⟩
  show wpAny _ _ (assignInOrder [assign (.Name x px) env, assign (.Name y py) env] [u, z]) _ _ _
  have at₂ := (at_.keeps k₁).keeps k₂
  refine assignInOrder_cons (wpAny_assign_Name (at₂.store (R := R) (b := a) (R.mono (hid_keeps k₂) h1) hx.k hx.cd fun s₃ st₃ at₃ => ?_))
  have up : ∀ b o, hid (Hd ++ Z) s₁.heap b o → hid (Hd ++ Z) s₃.heap b o := fun b o q => ⟨q.1, st₃.1.get (fun m => q.1 (List.mem_append_right _ m)) (k₂.get q.2)⟩
  refine assignInOrder_cons (wpAny_assign_Name (at₃.store (R := S) (b := b) (S.mono up h2) hy.k hy.cd fun s₄ st₄ at₄ => assignInOrder_nil ?_))
  exact ⟨rfl, _, _, Z, ⟨rfl, rfl⟩, ⟨rfl, rfl⟩, ((k₁.tr k₂).stp.trans st₃).trans st₄, at₄⟩
end
end
end
section
section
structure Ini (mg mb : Str → Option Value) (scope : Scope) (h₀ : Heap) (vbs : List Vb) (Γ : Gm) : Prop where
  mg : Γ.mg = mg
  mb : Γ.mb = mb
  gs : Γ.gs = gsOf scope
  cs : Γ.cs = csOf scope
  h₀ : Γ.h₀ = h₀
  v : ∀ vb ∈ vbs, vb ∈ Γ.vars
section
variable {β : Type} {prog : Program} {w : World} {A : Around} {s : Shared} {K : Frag} {h₀ : Heap} {p : Program} {loose : List Str} {mean : ExcName → Option Value} {mg mb : Str → Option Value} {f : Addr} {name qual : Str} {params : Arguments} {body : List Stmt} {scope : Scope} {dV kV doc pm cdv ct oc : Value} {an od : Option Addr} {osl : Array (Option Value)}
  {binds : List (Str × Value)} {vals : List Value} {vars : List Vb} {Z : List Addr} {S : Rp β} {b : β}
theorem pfn_K (X : K.In h₀) (T : Top p loose mean mg mb h₀) (hx : ∀ b o, h₀.get? b = some o → s.heap.get? b = some o) (ho : K.lookup f = some ⟨oc, od, .func (fnOf name qual params body scope dV kV doc pm an cdv ct), osl⟩) (hcd : codeIn K cdv qual = true) (hroom : A.depth < recursionLimit)
    (hbind : bindArgs (fnOf name qual params body scope dV kV doc pm an cdv ct) ⟨vals, []⟩ = pure binds)
    (hkind : ∀ n, ∀ x ∈ binds, scope.names.lookup x.1 = some .local ∨ (scope.names.lookup x.1 = some .cell ∧ ((cellsFrom n scope.names []).lookup x.1).isSome = true))
    (hk : scope.kind = .function) (hnd : ((cellsFrom 0 scope.names []).map (·.1)).Nodup) (hcdn : ∀ y ∈ scope.names, (y.1 == ("__classdict__" : Str)) = false) (hZ : ∀ z ∈ Z, ∃ o, s.heap.get? z = some o)
    (hvars : ∀ L, ∀ vb ∈ vars, ∃ v, bound (callEnvC (fnOf name qual params body scope dV kV doc pm an cdv ct) L f).kindOf binds vb.x v ∧ vb.R.rel vb.a (hid Z s.heap) v)
    (h : ∀ L Γ, Ini mg mb scope s.heap vars Γ → HR prog w (A.deeper (callEnvC (fnOf name qual params body scope dV kV doc pm an cdv ct) L f)) (callEnvC (fnOf name qual params body scope dV kV doc pm an cdv ct) L f) Γ [] body S b)
    (hco : scope.isCoroutine = false) (hgen : scope.isGenerator = false) :
    wpAny (model prog w) A (call (.ref f) vals) (fun r s' => Kp s s' ∧ S.rel b (hid Z s'.heap) r) NoExc s := by
  have Xs : K.In s.heap := X.keeps hx
  exact pfn_enter (fd := fnOf name qual params body scope dV kV doc pm an cdv ct) hroom (Xs _ _ ho) rfl (T.nolimit.keeps hx) (codeRec_of Xs hcd) rfl hbind rfl hkind rfl rfl hk hnd (T.g.at' fun o e => hx _ o e) (T.b.at' fun o e => hx _ o e) hcdn hZ hvars (fun L => h L _ ⟨rfl, rfl, rfl, rfl, rfl, fun _ h => h⟩) hco hgen
end
theorem set_self {Γ : Gm} {β : Type} {x : Str} {R : Rp β} {b : β} : Vb.mk x β R b ∈ (Γ.set x R b).vars := List.mem_cons_self
theorem set_ne {Γ : Gm} {β : Type} {x : Str} {R : Rp β} {b : β} {vb : Vb} (h : vb ∈ Γ.vars) (hn : (vb.x != x) = true) : vb ∈ (Γ.set x R b).vars := List.mem_cons_of_mem _ (List.mem_filter.mpr ⟨h, hn⟩)
theorem forall_nil {P : Vb → Prop} : ∀ vb ∈ ([] : List Vb), P vb := fun _ h => nomatch h
theorem forall_cons {P : Vb → Prop} {v : Vb} {l : List Vb} (h : P v) (t : ∀ vb ∈ l, P vb) : ∀ vb ∈ v :: l, P vb := fun vb hv => (List.mem_cons.mp hv).elim (fun e => e ▸ h) (t vb)
abbrev Ini.fam {mg mb : Str → Option Value} {scope : Scope} {h₀ : Heap} {vbs : List Vb} {Γ : Gm} (_ : Ini mg mb scope h₀ vbs Γ) : List Vb → Gm → Prop := Ini mg mb scope h₀
theorem Ini.sub {mg mb : Str → Option Value} {scope : Scope} {h₀ : Heap} {Γ : Gm} {vbs vbs' : List Vb} (H : Ini mg mb scope h₀ vbs' Γ) (h : ∀ vb ∈ vbs, vb ∈ Γ.vars) : Ini mg mb scope h₀ vbs Γ := ⟨H.mg, H.mb, H.gs, H.cs, H.h₀, h⟩
def statB (cs : List Str) (scope : Scope) : Bool :=
  (scope.names.all fun y => (y.2 != .local || scope.names.lookup y.1 == some .local) && (y.2 != .free || cs.contains y.1) && (y.2 != .cell || scope.names.lookup y.1 == some .cell) && !(y.1 == ("__classdict__" : Str))) && decide ((cellsFrom 0 scope.names []).map (·.1)).Nodup
theorem stat_of {Γ : Gm} {cs : List Str} {scope : Scope} (hcs : Γ.cs = cs) (hk : scope.kind = .function) (h : statB cs scope = true) : Stat Γ scope := by
  unfold statB at h
  rw [Bool.and_eq_true, List.all_eq_true] at h
  have key : ∀ y ∈ scope.names, (y.2 = .local → scope.names.lookup y.1 = some .local) ∧ (y.2 = .free → y.1 ∈ cs) ∧ (y.2 = .cell → scope.names.lookup y.1 = some .cell) ∧ (y.1 == ("__classdict__" : Str)) = false := fun y hy => by
    have := h.1 y hy
    simp only [Bool.and_eq_true, Bool.or_eq_true, bne_iff_ne, ne_eq, beq_iff_eq, List.contains_iff_mem, Bool.not_eq_true'] at this
    obtain ⟨⟨⟨h1, h2⟩, h3⟩, h4⟩ := this
    exact ⟨fun e => h1.resolve_left (fun q => q e), fun e => h2.resolve_left (fun q => q e), fun e => h3.resolve_left (fun q => q e), h4⟩
  exact ⟨hk, fun y hy => (key y hy).1, fun y hy e => hcs ▸ (key y hy).2.1 e, fun y hy => (key y hy).2.2.1, of_decide_eq_true h.2, fun y hy => (key y hy).2.2.2⟩
def ap (n : Nat) : List Int := if h : n = 0 then [] else ap (n / 16) ++ [65 + ((n % 16 : Nat) : Int)]
theorem ap_zero : ap 0 = [] := by unfold ap; simp
theorem ap_pos {n : Nat} (h : n ≠ 0) : ap n = ap (n / 16) ++ [65 + ((n % 16 : Nat) : Int)] := by rw [ap]; simp [h]
theorem ap_len {n k : Nat} : n < 16 ^ k → (ap n).length ≤ k := by
  induction k generalizing n with
  | zero => intro h; have : n = 0 := by simpa using h
            subst this; simp [ap_zero]
  | succ k ih =>
    intro h
    by_cases h0 : n = 0
    · subst h0; simp [ap_zero]
    · rw [ap_pos h0, List.length_append]
      have := ih (n := n / 16) (by rw [Nat.pow_succ] at h; omega)
      simp only [List.length_cons, List.length_nil]; omega
def apAll : List Int := [65, 66, 67, 68, 69, 70, 71, 72, 73, 74, 75, 76, 77, 78, 79, 80]
theorem ap_cut_all : ∀ m : Fin 16, (apAll.drop ((some (m.val : Int)).elim 0 (clipAt apAll.length))).take ((some ((m.val : Int) + 1)).elim apAll.length (clipAt apAll.length) - (some (m.val : Int)).elim 0 (clipAt apAll.length)) = [65 + (m.val : Int)] := by decide +kernel
theorem ap_cut (m : Nat) (hm : m < 16) : (apAll.drop ((some (m : Int)).elim 0 (clipAt apAll.length))).take ((some ((m : Int) + 1)).elim apAll.length (clipAt apAll.length) - (some (m : Int)).elim 0 (clipAt apAll.length)) = [65 + (m : Int)] := ap_cut_all ⟨m, hm⟩
end
section
def btab : List (Str × Value) := [("abs", .builtin "abs"), ("int", .type "int"), ("divmod", .builtin "divmod"), ("len", .builtin "len"), ("range", .type "range"), ("sum", .builtin "sum"), ("sorted", .builtin "sorted"), ("list", .type "list"), ("enumerate", .type "enumerate"), ("reversed", .type "reversed"), ("bytes", .type "bytes")]
structure Bt (mg mb : Str → Option Value) : Prop where
  g : ∀ q ∈ btab, mg q.1 = none
  b : ∀ q ∈ btab, mb q.1 = some q.2
theorem btab_boot : ∀ q ∈ btab, bootBuiltins q.1 = some q.2 ∧ q.1 ≠ "__name__" := by
  intro q hq
  simp only [btab, List.mem_cons, List.not_mem_nil, or_false] at hq
  rcases hq with rfl | rfl | rfl | rfl | rfl | rfl | rfl | rfl | rfl | rfl | rfl <;> exact ⟨by kernel_rfl, by decide⟩
theorem Bt.fn {mg mb : Str → Option Value} {scope : Scope} {h₀ : Heap} {vbs mv : List Vb} {Γ : Gm} {x : Str} {v : Value} (B : Bt mg mb) (H : Ini mg mb scope h₀ vbs Γ) (h : (x, v) ∈ btab) (hm : x ∈ gsOf scope) : BFn (Γ.rd mv) x v := ⟨by show x ∈ Γ.gs; rw [H.gs]; exact hm, by show Γ.mg x = none; rw [H.mg]; exact B.g _ h, by show Γ.mb x = some v; rw [H.mb]; exact B.b _ h⟩
theorem Bt.cfn {mg mb : Str → Option Value} {scope scope' : Scope} {h₀ : Heap} {vbs mv own : List Vb} {Γ : Gm} {x : Str} {v : Value} (B : Bt mg mb) (H : Ini mg mb scope h₀ vbs Γ) (h : (x, v) ∈ btab) (hm : x ∈ (Γc (Γ.rd mv) scope' own).gs) : BFn (Γc (Γ.rd mv) scope' own) x v := ⟨hm, by show Γ.mg x = none; rw [H.mg]; exact B.g _ h, by show Γ.mb x = some v; rw [H.mb]; exact B.b _ h⟩
end
section
theorem rd_mem {Γ : Gm} {mv : List Vb} {vb : Vb} (h : vb ∈ Γ.vars) : vb ∈ (Γ.rd mv).vars := h
theorem c_own {Γ : Gm} {scope : Scope} {own : List Vb} {vb : Vb} (h : vb ∈ own) : vb ∈ (Γc Γ scope own).vars := List.mem_append_left _ h
theorem c_up {Γ : Gm} {scope : Scope} {own : List Vb} {vb : Vb} (h : vb ∈ Γ.vars) (hf : (scope.names.lookup vb.x == some .free) = true) : vb ∈ (Γc Γ scope own).vars := List.mem_append_right _ (List.mem_filter.mpr ⟨h, hf⟩)
theorem c_mup {Γ : Gm} {scope : Scope} {own : List Vb} {vb : Vb} (h : vb ∈ Γ.mvars) (hf : (scope.names.lookup vb.x == some .free) = true) : vb ∈ (Γc Γ scope own).mvars := List.mem_filter.mpr ⟨h, hf⟩
theorem rd_mmem {Γ : Gm} {mv : List Vb} {vb : Vb} (h : vb ∈ mv) : vb ∈ (Γ.rd mv).mvars := h
theorem ini_mem {mg mb : Str → Option Value} {scope : Scope} {h₀ : Heap} {vbs : List Vb} {Γ : Gm} {vb : Vb} (H : Ini mg mb scope h₀ vbs Γ) (h : vb ∈ vbs) : vb ∈ Γ.vars := H.v vb h
end
section
theorem f_mem {x : Str} {vbs : List Vb} {vb : Vb} (h : vb ∈ vbs) (hn : (vb.x != x) = true) : vb ∈ vbs.filter fun vb => vb.x != x := List.mem_filter.mpr ⟨h, hn⟩
section
variable {mg mb : Str → Option Value} {scope : Scope} {h₀ : Heap} {vbs vbs' : List Vb} {α β : Type} {prog : Program} {w : World} {A : Around} {env : Env} {Γ : Gm} {res : List Res} {st : Stmt} {b rest body orelse : List Stmt} {P P' : Gm → List Res → Prop} {e : PySem.Expr} {R : Rp β} {a : β} {x y : Str} {px py pos tp p p' : Pos} {k : Nat}
abbrev put (vbs : List Vb) (x : Str) (R : Rp β) (a : β) : List Vb := ⟨x, β, R, a⟩ :: vbs.filter fun vb => vb.x != x
theorem Ini.put (H : Ini mg mb scope h₀ vbs Γ) (x : Str) (R : Rp β) (a : β) : Ini mg mb scope h₀ (Mine.put vbs x R a) (Γ.set x R a) := ⟨H.mg, H.mb, H.gs, H.cs, H.h₀, fun vb hv => by
  rcases List.mem_cons.mp hv with rfl | hv
  · exact set_self
  · exact set_ne (H.v vb (List.mem_filter.mp hv).1) (List.mem_filter.mp hv).2⟩
theorem hs_imp (h : HS prog w A env Γ res st P) (k : ∀ Γ' res', P Γ' res' → P' Γ' res') : HS prog w A env Γ res st P' := fun Hd Z s at_ =>
  wpAny_mono (h Hd Z s at_) (fun f s' ⟨h1, Γ', r', Z', h2, h5, h3, h4⟩ => ⟨h1, Γ', r', Z', k _ _ h2, h5, h3, h4⟩) fun _ _ x => x
theorem hs_set {mv : List Vb} (H : Ini mg mb scope h₀ vbs Γ) (h : Ev prog w A (Γ.rd mv) e R a) (hx : Kd env x) (hm : ∀ vb ∈ mv, Rd Γ res vb) (hsw : autoParam (swapsWith e (some (.Name x px)) pos.line env = pure false) autoA) :
    HS prog w A env Γ res (.Assign [.Name x px] e pos) fun Γ' res' => Ini mg mb scope h₀ (put vbs x R a) Γ' ∧ res' = res :=
  hs_imp (hs_assign h hx hm hsw) fun Γ' res' ⟨e1, e2⟩ => ⟨e1 ▸ H.put x R a, e2⟩
theorem hs_setC {elt target iter : PySem.Expr} {ifs : List PySem.Expr} {cscope : Scope} {cpos : Pos} {xs : List α} {It : α → Kn → Value → Heap → Prop} {own : α → List Vb} {tn : List Str} {pp : α → Bool} {f : α → β} {mv : List Vb} (H : Ini mg mb scope h₀ vbs Γ)
    (hh : A.handled = none) (hi : EvI prog w A (Γ.rd mv) iter target It xs) (stt : Stat (Γ.rd mv) cscope) (hb : BndOk cscope target It own tn)
    (hts : ∀ y ∈ xs, Ets prog w A (Γc (Γ.rd mv) cscope (own y)) ifs (pp y)) (hel : ∀ y ∈ xs, pp y = true → Ev prog w A (Γc (Γ.rd mv) cscope (own y)) elt R (f y)) (hlen : xs.length ≤ sizeLine) (hx : Kd env x) (hm : ∀ vb ∈ mv, Rd Γ res vb)
    (hsw : swapsWith (.ListComp elt [⟨target, iter, ifs, 0⟩] cscope cpos) (some (.Name x px)) pos.line env = pure true) (hs : autoParam (∀ env x, foldedSetIterable iter env x = pure x) autoD) :
    HS prog w A env Γ res (.Assign [.Name x px] (.ListComp elt [⟨target, iter, ifs, 0⟩] cscope cpos) pos) fun Γ' res' => Ini mg mb scope h₀ (put vbs x (RList R) ((xs.filter pp).map f)) Γ' ∧ res' = res :=
  hs_imp (hs_assignC hh hi stt hb hts hel hlen hx hm hsw hs) fun Γ' res' ⟨e1, e2⟩ => ⟨e1 ▸ H.put x _ _, e2⟩
theorem hs_unpackI {mv : List Vb} {S : Rp α} {c : α} (H : Ini mg mb scope h₀ vbs Γ) (hh : A.handled = none) (h : Ev prog w A (Γ.rd mv) e (RTup R S) (a, c)) (hx : Kd env x) (hy : Kd env y) (hm : ∀ vb ∈ mv, Rd Γ res vb)
    (hs : autoParam (swapsWithSole [.Tuple [.Name x px, .Name y py] k tp] e pos.line env = pure false) autoA) (hw : autoParam (swappedStores [.Tuple [.Name x px, .Name y py] k tp] e env = pure none) autoA) :
    HS prog w A env Γ res (.Assign [.Tuple [.Name x px, .Name y py] k tp] e pos) fun Γ' res' => Ini mg mb scope h₀ (put (put vbs x R a) y S c) Γ' ∧ res' = res :=
  hs_imp (hs_unpack hh h hx hy hm hs hw) fun Γ' res' ⟨e1, e2⟩ => ⟨e1 ▸ (H.put x R a).put y S c, e2⟩
theorem hs_newI {lp : Pos} (H : Ini mg mb scope h₀ vbs Γ) (R : Rp β) (hx : Kd env x) (hsw : autoParam (swapsWith (.List [] lp) (some (.Name x px)) pos.line env = pure false) autoA) :
    HS prog w A env Γ res (.Assign [.Name x px] (.List [] lp) pos) fun Γ' res' => ∃ l, Ini mg mb scope h₀ (put vbs x RIs (.ref l)) Γ' ∧ res' = MutL l R [] :: res :=
  hs_imp (hs_newmut R hx hsw) fun Γ' res' ⟨l, e1, e2⟩ => ⟨l, e1 ▸ H.put x _ _, e2⟩
theorem turn_nameI {S : Rp α} {y : α} (H : Ini mg mb scope h₀ vbs Γ) (hx : Kd env x) (h : ∀ Γ', Ini mg mb scope h₀ (put vbs x S y) Γ' → HT prog w A env Γ' res body P) : Turn prog w A env Γ res (.Name x px) (ItR S) y body P :=
  turn_name hx (h _ (H.put x S y))
end
end
end
section
section
section
variable {mg mb : Str → Option Value} {scope : Scope} {h₀ : Heap} {vbs : List Vb} {α β : Type} {prog : Program} {w : World} {A : Around} {env : Env} {Γ : Gm} {res res' : List Res} {st : Stmt} {b rest body orelse : List Stmt} {P P' : Gm → List Res → Prop} {e : PySem.Expr} {R : Rp β} {S : Rp α} {a : β} {x y : Str} {px py pos tp p p' lp lp' : Pos} {k k' : Nat}
theorem hr_freeze {l : Addr} {xs : List β} {c : α} (hx : Vb.mk x Value RIs (.ref l) ∈ Γ.vars) (h : HR prog w A env (Γ.set x (RList R) xs) res b S c) : HR prog w A env Γ (MutL l R xs :: res) b S c := fun Hd Z s at_ => by
  obtain ⟨Z', hz, at'⟩ := at_.freeze hx
  exact wpAny_mono (h Hd Z' s at') (fun f s' ⟨v, q1, Γ', r', Z'', q3, q4, q5⟩ => ⟨v, q1, Γ', r', Z'', Stp.trans (Z' := Z') (s' := s) ⟨.refl, fun z h => .inl (hz z h)⟩ q3, q4, q5⟩) fun _ _ x => x
theorem ht_perm (hp : res.Perm res') (h : HT prog w A env Γ res' b P) : HT prog w A env Γ res b P := fun Hd Z s at_ => h Hd Z s (at_.perm hp)
theorem hr_perm {c : α} (hp : res.Perm res') (h : HR prog w A env Γ res' b S c) : HR prog w A env Γ res b S c := fun Hd Z s at_ => h Hd Z s (at_.perm hp)
end
end
end
section
section
theorem mulOk {a b : Int} (ha : a.natAbs < 2 ^ 200) (hb : b.natAbs < 2 ^ 200) : IntMulOk a b := IntMulOk.of_le (intBits_le_iff.mpr ha) (intBits_le_iff.mpr hb) (by decide)
end
end
section
section
section
variable {mg mb : Str → Option Value} {scope : Scope} {h₀ : Heap} {vbs : List Vb} {α β : Type} {prog : Program} {w : World} {A : Around} {env : Env} {Γ : Gm} {res : List Res} {e : PySem.Expr} {R : Rp β} {S : Rp α} {a : β} {x y : Str} {px py pos tp p p' lp lp' cpos : Pos} {k k' : Nat}
  {elt target iter : PySem.Expr} {ifs : List PySem.Expr} {cscope : Scope} {xs : List α} {It : α → Kn → Value → Heap → Prop} {own : α → List Vb} {tn : List Str} {pp : α → Bool} {f : α → β} {mv : List Vb}
theorem filter_true (xs : List α) : xs.filter (fun _ => true) = xs := List.filter_eq_self.mpr fun _ _ => rfl
theorem ev_lmap (hh : A.handled = none) (hi : EvI prog w A Γ iter target It xs) (st : Stat Γ cscope) (hb : BndOk cscope target It own tn) (hel : ∀ x ∈ xs, Ev prog w A (Γc Γ cscope (own x)) elt R (f x)) (hlen : xs.length ≤ sizeLine) (hs : autoParam (∀ env x, foldedSetIterable iter env x = pure x) autoD) :
    Ev prog w A Γ (.ListComp elt [⟨target, iter, [], 0⟩] cscope pos) (RList R) (xs.map f) := by
  have := ev_listcomp (R := R) (p := fun _ => true) (f := f) (pos := pos) hh hi st hb (fun _ _ => ets_nil) (fun x hx _ => hel x hx) hlen hs
  rwa [filter_true] at this
theorem hs_setM (H : Ini mg mb scope h₀ vbs Γ) (hh : A.handled = none) (hi : EvI prog w A (Γ.rd mv) iter target It xs) (stt : Stat (Γ.rd mv) cscope) (hb : BndOk cscope target It own tn)
    (hel : ∀ y ∈ xs, Ev prog w A (Γc (Γ.rd mv) cscope (own y)) elt R (f y)) (hlen : xs.length ≤ sizeLine) (hx : Kd env x) (hm : ∀ vb ∈ mv, Rd Γ res vb)
    (hsw : swapsWith (.ListComp elt [⟨target, iter, [], 0⟩] cscope cpos) (some (.Name x px)) pos.line env = pure true) (hs : autoParam (∀ env x, foldedSetIterable iter env x = pure x) autoD) :
    HS prog w A env Γ res (.Assign [.Name x px] (.ListComp elt [⟨target, iter, [], 0⟩] cscope cpos) pos) fun Γ' res' => Ini mg mb scope h₀ (put vbs x (RList R) (xs.map f)) Γ' ∧ res' = res := by
  have := hs_setC (R := R) (pp := fun _ => true) (f := f) (px := px) (pos := pos) (cpos := cpos) H hh hi stt hb (fun _ _ => ets_nil) (fun x hx _ => hel x hx) hlen hx hm hsw hs
  rwa [filter_true] at this
theorem hr_ret {b : β} (h : Ev prog w A (Γ.rd mv) e R b) (hm : ∀ vb ∈ mv, Rd Γ res vb) : HR prog w A env Γ res [.Return (some e) pos] R b := fun Hd Z s at_ => by
  refine wpAny_execs_cons (wpAny_Return_some (h.then (at_.read hm) fun v s₁ k₁ c₁ hv => ⟨v, rfl, Γ, res, Z, k₁.stp, at_.keeps k₁, rfl, rfl, hv⟩))
end
def csC (scope : Scope) : List Str := (scope.names.filter fun y => (y.2 == .free || y.2 == .cell) && scope.names.lookup y.1 == some y.2).map (·.1)
theorem stat_c {Γ : Gm} {scope scope' : Scope} {own : List Vb} (hk : scope.kind = .function) (h : statB (csC scope') scope = true) : Stat (Γc Γ scope' own) scope := stat_of rfl hk h
theorem irange_mem {a : Int} {n : Nat} {j : Int} (h : j ∈ irange a 1 n) : a ≤ j ∧ j < a + n := by
  unfold irange at h
  obtain ⟨i, hi, rfl⟩ := List.mem_map.mp h
  have := List.mem_range.mp hi
  omega
theorem irange_len {a c : Int} {n : Nat} : (irange a c n).length = n := by simp [irange]
end
section
end
section
end
end
section
section
abbrev sdict (w : World) (k1 k2 k3 k4 : Tok) (vn vr : Value) (np : Int) (tp : Tok) (nf : Int) (tf : Tok) : List DictEntry :=
  [⟨PyData.keyHash w.params "_node2info", .str "_node2info" k1, vn⟩, ⟨PyData.keyHash w.params "_ready_nodes", .str "_ready_nodes" k2, vr⟩, ⟨PyData.keyHash w.params "_npassedout", .str "_npassedout" k3, .int np tp⟩, ⟨PyData.keyHash w.params "_nfinished", .str "_nfinished" k4, .int nf tf⟩]
abbrev niObj (cN : Addr) (v : Value) (np : Int) (t : Tok) (di as : Addr) : Obj :=
  { cls := .ref cN, dict := some di, data := .plain, slots := #[some v, some (.int np t), some (.ref as)] }
structure Nd (K : Type) where
  key : K
  ai : Addr
  di : Addr
  as : Addr
  np : Int
  succ : List K
structure Srt (K : Type) where
  self : Addr
  dself : Addr
  nd : Addr
  nodes : List (Nd K)
  rdy : Option (Addr × List K)
  pas : Int
  fin : Int
def rdyV {K : Type} : Option (Addr × List K) → Value
  | none => .none
  | some (r, _) => .ref r
def Nd.foot {K : Type} (n : Nd K) : List Addr := [n.ai, n.di, n.as]
def rdyF {K : Type} : Option (Addr × List K) → List Addr
  | none => []
  | some (r, _) => [r]
def Srt.foot {K : Type} (σ : Srt K) : List Addr := σ.self :: σ.dself :: σ.nd :: (rdyF σ.rdy ++ σ.nodes.flatMap Nd.foot)
section
variable {prog : Program} {w : World} {K : Type} [DecidableEq K] (knd : KeyKind prog w K) (cS cN : Addr)
structure NdIn (news : Led) (n : Nd K) : Prop where
  ni : ∃ v t, knd.is n.key v = true ∧ (n.ai, niObj cN v n.np t n.di n.as) ∈ news
  di : (n.di, dictOf [] 0) ∈ news
  as : ∃ vs ep, (n.as, listOf vs.toArray ep) ∈ news ∧ KA knd vs n.succ
structure SIn (news : Led) (σ : Srt K) : Prop where
  inst : (σ.self, instObj cS σ.dself) ∈ news
  dict : ∃ k1 k2 k3 k4 tp tf, (σ.dself, dictOf (sdict w k1 k2 k3 k4 (.ref σ.nd) (rdyV σ.rdy) σ.pas tp σ.fin tf) 4) ∈ news
  n2i : ∃ od, (σ.nd, od) ∈ news ∧ od.IsDictOf knd (σ.nodes.map fun n => (n.key, .ref n.ai))
  lo : (σ.nd == sysModules) = false
  nds : ∀ n ∈ σ.nodes, NdIn knd cN news n
  rdy : ∀ r ks, σ.rdy = some (r, ks) → ∃ vs ep, (r, listOf vs.toArray ep) ∈ news ∧ KA knd vs ks
  nodup : σ.foot.Nodup
variable {knd cS cN} {news news' : Led} {σ σ' : Srt K} {n : Nd K}
theorem NdIn.mono (h : NdIn knd cN news n) (hs : ∀ p ∈ news, p.1 ∈ n.foot → p ∈ news') : NdIn knd cN news' n := by
  obtain ⟨⟨v, t, hv, h1⟩, h2, vs, ep, h3, ka⟩ := h
  exact ⟨⟨v, t, hv, hs _ h1 (by simp [Nd.foot])⟩, hs _ h2 (by simp [Nd.foot]), vs, ep, hs _ h3 (by simp [Nd.foot]), ka⟩
theorem mem_foot_node {a : Addr} (hn : n ∈ σ.nodes) (ha : a ∈ n.foot) : a ∈ σ.foot := by
  unfold Srt.foot
  simp only [List.mem_cons, List.mem_append, List.mem_flatMap]
  exact .inr (.inr (.inr (.inr ⟨n, hn, ha⟩)))
theorem SIn.mono (h : SIn knd cS cN news σ) (hs : ∀ p ∈ news, p.1 ∈ σ.foot → p ∈ news') : SIn knd cS cN news' σ := by
  obtain ⟨h1, ⟨k1, k2, k3, k4, tp, tf, h2⟩, ⟨od, h3, h4⟩, h5, h6, h7, h8⟩ := h
  refine ⟨hs _ h1 (by simp [Srt.foot]), ⟨k1, k2, k3, k4, tp, tf, hs _ h2 (by simp [Srt.foot])⟩, ⟨od, hs _ h3 (by simp [Srt.foot]), h4⟩, h5, fun x hx => (h6 x hx).mono fun p hp ha => hs p hp (mem_foot_node hx ha), fun r ks e => ?_, h8⟩
  refine ex2 (h7 r ks e) fun vs ep zz => and2 zz fun h ka => ?_
  exact ⟨vs, ep, hs _ h (by unfold Srt.foot; rw [e]; simp [rdyF]), ka⟩
theorem SIn.sub (h : SIn knd cS cN news σ) (hs : ∀ p ∈ news, p ∈ news') : SIn knd cS cN news' σ := h.mono fun p hp _ => hs p hp
theorem SIn.keysNodup (h : SIn knd cS cN news σ) : (σ.nodes.map (·.key)).Nodup := by
  obtain ⟨od, _, es, ep, _, _, _, _, hn⟩ := h.n2i
  rw [List.map_map] at hn
  exact hn
structure Frm (news : Led) (F : List Addr) (news' : Led) (F' : List Addr) : Prop where
  keep : ∀ p ∈ news, p.1 ∉ F → p ∈ news'
  foot : ∀ a ∈ F', a ∈ F ∨ ∀ p ∈ news, p.1 ≠ a
theorem Frm.refl {F : List Addr} : Frm news F news F := ⟨fun _ h _ => h, fun _ h => .inl h⟩
theorem Frm.trans {F F' F'' : List Addr} {news'' : Led} (a : Frm news F news' F') (b : Frm news' F' news'' F'') : Frm news F news'' F'' := by
  refine ⟨fun p hp hF => b.keep p (a.keep p hp hF) fun hF' => ?_, fun x hx => ?_⟩
  · exact (a.foot _ hF').elim hF fun h => h p hp rfl
  · rcases b.foot x hx with h | h
    · exact a.foot x h
    · by_cases hF : x ∈ F
      · exact .inl hF
      · exact .inr fun p hp e => h p (a.keep p hp (e ▸ hF)) e
theorem Frm.off {F F' : List Addr} (a : Frm news F news' F') {x : Addr} {o : Obj} (hm : (x, o) ∈ news) (hx : x ∉ F) : (x, o) ∈ news' ∧ x ∉ F' :=
  ⟨a.keep _ hm hx, fun h => (a.foot x h).elim hx fun h => h _ hm rfl⟩
theorem Frm.more {F F' : List Addr} (a : Frm news F news' F') {news'' : Led} (h : ∀ p ∈ news', p ∈ news'') : Frm news F news'' F' := ⟨fun p hp hF => h p (a.keep p hp hF), a.foot⟩
theorem Frm.less {F F' : List Addr} {news₀ : Led} (a : Frm news F news' F') (h : ∀ p ∈ news₀, p ∈ news) : Frm news₀ F news' F' :=
  ⟨fun p hp hF => a.keep p (h p hp) hF, fun x hx => (a.foot x hx).imp id fun q p hp => q p (h p hp)⟩
theorem Frm.drop {F F' : List Addr} {I : Addr} (a : Frm news F news' F') (hI : ∀ p ∈ news, p.1 ≠ I) : Frm news F (news'.filter fun p => p.1 != I) F' :=
  ⟨fun p hp hF => List.mem_filter.mpr ⟨a.keep p hp hF, by simpa using hI p hp⟩, a.foot⟩
theorem SIn.drop {I : Addr} (S : SIn knd cS cN news σ) (hI : I ∉ σ.foot) : SIn knd cS cN (news.filter fun p => p.1 != I) σ :=
  S.mono fun p hp ha => List.mem_filter.mpr ⟨hp, by simp only [bne_iff_ne, ne_eq]; exact fun e => hI (e ▸ ha)⟩
theorem key_unique {nodes : List (Nd K)} {n n' : Nd K} (hk : (nodes.map (·.key)).Nodup) (hn : n ∈ nodes) (hn' : n' ∈ nodes) (e : n'.key = n.key) : n' = n := by
  induction nodes with
  | nil => cases hn
  | cons x r ih =>
    rw [List.map_cons, List.nodup_cons] at hk
    rcases List.mem_cons.mp hn with hq | hq
    · rcases List.mem_cons.mp hn' with hr | hr
      · rw [hq, hr]
      · exact absurd (List.mem_map.mpr ⟨n', hr, by rw [e, hq]⟩) hk.1
    · rcases List.mem_cons.mp hn' with hr | hr
      · exact absurd (List.mem_map.mpr ⟨n, hq, by rw [← e, hr]⟩) hk.1
      · exact ih hk.2 hq hr
def updN (nodes : List (Nd K)) (k : K) (f : Nd K → Nd K) : List (Nd K) := nodes.map fun n => if n.key = k then f n else n
theorem flat_sep {l : List (Nd K)} (h : (l.flatMap Nd.foot).Nodup) {n n' : Nd K} {a : Addr} (hn : n ∈ l) (hn' : n' ∈ l) (ha : a ∈ n.foot) (ha' : a ∈ n'.foot) : n = n' := by
  induction l with
  | nil => cases hn
  | cons x r ih =>
    rw [List.flatMap_cons, List.nodup_append] at h
    rcases List.mem_cons.mp hn with e | hn
    · rcases List.mem_cons.mp hn' with e' | hn'
      · rw [e, e']
      · exact absurd rfl (h.2.2 a (e ▸ ha) a (List.mem_flatMap.mpr ⟨n', hn', ha'⟩))
    · rcases List.mem_cons.mp hn' with e' | hn'
      · exact absurd rfl (h.2.2 a (e' ▸ ha') a (List.mem_flatMap.mpr ⟨n, hn, ha⟩))
      · exact ih h.2.1 hn hn'
theorem flat_one {l : List (Nd K)} (h : (l.flatMap Nd.foot).Nodup) {n : Nd K} (hn : n ∈ l) : n.foot.Nodup := by
  induction l with
  | nil => cases hn
  | cons x r ih =>
    rw [List.flatMap_cons, List.nodup_append] at h
    rcases List.mem_cons.mp hn with e | hn
    · rw [e]; exact h.1
    · exact ih h.2.1 hn
structure Sep (σ : Srt K) (n : Nd K) : Prop where
  sd : σ.self ≠ σ.dself
  sn : σ.self ≠ σ.nd
  dn : σ.dself ≠ σ.nd
  self : ∀ a ∈ n.foot, a ≠ σ.self
  dself : ∀ a ∈ n.foot, a ≠ σ.dself
  nd : ∀ a ∈ n.foot, a ≠ σ.nd
  rdy : ∀ a ∈ n.foot, ∀ r ks, σ.rdy = some (r, ks) → a ≠ r
  ad : n.ai ≠ n.di
  as : n.ai ≠ n.as
  ds : n.di ≠ n.as
theorem SIn.flat (S : SIn knd cS cN news σ) : (σ.nodes.flatMap Nd.foot).Nodup := by
  have h := S.nodup
  unfold Srt.foot at h
  rw [List.nodup_cons, List.nodup_cons, List.nodup_cons, List.nodup_append] at h
  exact h.2.2.2.2.1
theorem SIn.sep (S : SIn knd cS cN news σ) (hn : n ∈ σ.nodes) : Sep σ n := by
  have h := S.nodup
  have h' := flat_one S.flat hn
  unfold Srt.foot at h
  rw [List.nodup_cons, List.nodup_cons, List.nodup_cons, List.nodup_append] at h
  (refine and6 h fun h1 h2 h3 h4 h5 h6 => ?_; try clear h)
  have fl : ∀ a ∈ n.foot, a ∈ rdyF σ.rdy ++ σ.nodes.flatMap Nd.foot := fun a ha => List.mem_append_right _ (List.mem_flatMap.mpr ⟨n, hn, ha⟩)
  simp only [Nd.foot, List.nodup_cons, List.mem_cons, List.not_mem_nil, or_false, not_or, List.nodup_nil, and_true, not_false_eq_true] at h'
  refine ⟨fun e => h1 (by rw [e]; exact .head _), fun e => h1 (by rw [e]; exact .tail _ (.head _)), fun e => h2 (by rw [e]; exact .head _), fun a ha e => h1 (by rw [← e]; exact .tail _ (.tail _ (fl a ha))), fun a ha e => h2 (by rw [← e]; exact .tail _ (fl a ha)), fun a ha e => h3 (by rw [← e]; exact fl a ha), fun a ha r ks hr e => ?_, h'.1.1, h'.1.2, h'.2⟩
  rw [hr] at h6
  exact h6 r (by simp [rdyF]) a (List.mem_flatMap.mpr ⟨n, hn, ha⟩) e.symm
theorem foot_updN {f : Nd K → Nd K} {k : K} (h1 : ∀ x, (f x).foot = x.foot) : ({ σ with nodes := updN σ.nodes k f } : Srt K).foot = σ.foot := by
  unfold Srt.foot updN
  have e : (σ.nodes.map fun n => if n.key = k then f n else n).flatMap Nd.foot = σ.nodes.flatMap Nd.foot := by
    rw [List.flatMap_map]
    refine congrArg (List.flatMap · σ.nodes) (funext fun x => ?_)
    by_cases h : x.key = k <;> simp [h, h1]
  simp only [e]
theorem updN_keys {nodes : List (Nd K)} {f : Nd K → Nd K} {k : K} (hk : ∀ x, (f x).key = x.key) (h1 : ∀ x, (f x).foot = x.foot) : (updN nodes k f).map (fun n => (n.key, Value.ref n.ai)) = nodes.map fun n => (n.key, Value.ref n.ai) := by
  unfold updN
  rw [List.map_map]
  refine List.map_congr_left fun x _ => ?_
  have e : (f x).ai = x.ai := by have := h1 x; simp only [Nd.foot, List.cons.injEq] at this; exact this.1
  by_cases h : x.key = k <;> simp [h, hk, e]
theorem SIn.updNode (S : SIn knd cS cN news σ) (hn : n ∈ σ.nodes) {f : Nd K → Nd K} (hk : ∀ x, (f x).key = x.key) (h1 : ∀ x, (f x).foot = x.foot) {x : Addr} {o : Obj} (hx : x ∈ n.foot) (hN : NdIn knd cN (setL news x o) (f n)) :
    SIn knd cS cN (setL news x o) { σ with nodes := updN σ.nodes n.key f } := by
  have sp := S.sep hn
  refine ex6 S.dict fun k1 k2 k3 k4 tp tf h2 => ?_
  refine ex1 S.n2i fun od zz => and2 zz fun h3 h4 => ?_
  refine ⟨mem_setL_ne (Ne.symm (sp.self x hx)) S.inst, ⟨k1, k2, k3, k4, tp, tf, mem_setL_ne (Ne.symm (sp.dself x hx)) h2⟩, ⟨od, mem_setL_ne (Ne.symm (sp.nd x hx)) h3, ?_⟩, S.lo, fun y hy => ?_, fun r ks e => ?_, ?_⟩
  · show od.IsDictOf knd ((updN σ.nodes n.key f).map _)
    rw [updN_keys hk h1]; exact h4
  · (have zz := List.mem_map.mp hy; refine ex1 zz ?_; try clear zz; rintro z zz; refine and2 zz ?_; try clear zz; rintro hz rfl)
    by_cases e : z.key = n.key
    · rw [if_pos e]
      have : z = n := by
        exact key_unique S.keysNodup hn hz e
      rw [this]; exact hN
    · rw [if_neg e]
      refine (S.nds z hz).mono fun p hp ha => mem_setL_ne (fun q => e ?_) hp
      rw [flat_sep S.flat hz hn (q ▸ ha) hx]
  · refine ex2 (S.rdy r ks e) fun vs ep zz => and2 zz fun h ka => ?_
    exact ⟨vs, ep, mem_setL_ne (Ne.symm (sp.rdy x hx r ks e)) h, ka⟩
  · rw [foot_updN h1]; exact S.nodup
theorem SIn.setNi (S : SIn knd cS cN news σ) (hn : n ∈ σ.nodes) {v : Value} {t : Tok} {np' : Int} (hv : knd.is n.key v = true) {f : Nd K → Nd K} (hf : ∀ x, (f x).key = x.key ∧ (f x).foot = x.foot ∧ (f x).succ = x.succ) (hnp : (f n).np = np') :
    SIn knd cS cN (setL news n.ai (niObj cN v np' t n.di n.as)) { σ with nodes := updN σ.nodes n.key f } := by
  have sp := S.sep hn
  obtain ⟨⟨v0, t0, _, m1⟩, m2, vs, ep, m3, ka⟩ := S.nds n hn
  have hfo := (hf n).2.1
  simp only [Nd.foot, List.cons.injEq, and_true] at hfo
  refine S.updNode hn (fun x => (hf x).1) (fun x => (hf x).2.1) (by simp [Nd.foot]) ⟨⟨v, t, by rw [(hf n).1]; exact hv, ?_⟩, ?_, vs, ep, ?_, by rw [(hf n).2.2]; exact ka⟩
  · rw [hfo.1, hfo.2.1, hfo.2.2, hnp]; exact mem_setL_self m1
  · rw [hfo.2.1]; exact mem_setL_ne (Ne.symm sp.ad) m2
  · rw [hfo.2.2]; exact mem_setL_ne (Ne.symm sp.as) m3
theorem SIn.setAs (S : SIn knd cS cN news σ) (hn : n ∈ σ.nodes) {vs' : List Value} {ep' : Nat} {ks' : List K} (ka' : KA knd vs' ks') {f : Nd K → Nd K} (hf : ∀ x, (f x).key = x.key ∧ (f x).foot = x.foot ∧ (f x).np = x.np) (hs : (f n).succ = ks') :
    SIn knd cS cN (setL news n.as (W.listOf vs'.toArray ep')) { σ with nodes := updN σ.nodes n.key f } := by
  have sp := S.sep hn
  obtain ⟨⟨v0, t0, hv0, m1⟩, m2, vs, ep, m3, ka⟩ := S.nds n hn
  have hfo := (hf n).2.1
  simp only [Nd.foot, List.cons.injEq, and_true] at hfo
  refine S.updNode hn (fun x => (hf x).1) (fun x => (hf x).2.1) (by simp [Nd.foot]) ⟨⟨v0, t0, by rw [(hf n).1]; exact hv0, ?_⟩, ?_, vs', ep', ?_, by rw [hs]; exact ka'⟩
  · rw [hfo.1, hfo.2.1, hfo.2.2, (hf n).2.2]; exact mem_setL_ne sp.as m1
  · rw [hfo.2.1]; exact mem_setL_ne sp.ds m2
  · rw [hfo.2.2]; exact mem_setL_self m3
theorem setL_frm {x : Addr} {o : Obj} {F : List Addr} (hx : x ∈ F) : Frm news F (setL news x o) F := ⟨fun p hp hF => mem_setL_ne (fun e => hF (e ▸ hx)) hp, fun _ h => .inl h⟩
abbrev AN (K : Type) := List (K × Int × List K)
def Srt.abs (σ : Srt K) : AN K := σ.nodes.map fun n => (n.key, n.np, n.succ)
def aGet (α : AN K) (k : K) : AN K := if k ∈ α.map (·.1) then α else α ++ [(k, 0, [])]
def aUpd (α : AN K) (k : K) (f : Int × List K → Int × List K) : AN K := α.map fun e => if e.1 = k then (e.1, f e.2) else e
def aPred (k : K) (α : AN K) (q : K) : AN K := aUpd (aGet α q) q fun e => (e.1, e.2 ++ [k])
def aAdd (α : AN K) (k : K) (qs : List K) : AN K := qs.foldl (aPred k) (aUpd (aGet α k) k fun e => (e.1 + qs.length, e.2))
theorem abs_keys : σ.abs.map (·.1) = σ.nodes.map (·.key) := by unfold Srt.abs; rw [List.map_map]; rfl
theorem abs_updN {k : K} {f : Nd K → Nd K} {g : Int × List K → Int × List K} (hf : ∀ x, (f x).key = x.key) (hg : ∀ x ∈ σ.nodes, x.key = k → ((f x).np, (f x).succ) = g (x.np, x.succ)) : ({ σ with nodes := updN σ.nodes k f } : Srt K).abs = aUpd σ.abs k g := by
  unfold Srt.abs updN aUpd
  rw [List.map_map, List.map_map]
  refine List.map_congr_left fun x hx => ?_
  by_cases h : x.key = k
  · have := hg x hx h
    simp only [Function.comp, h, if_true]
    rw [← this, hf, h]
  · simp [h]
theorem abs_get {k : K} (h : σ' = σ ∧ k ∈ σ.nodes.map (·.key) ∨ k ∉ σ.nodes.map (·.key) ∧ ∃ n : Nd K, n.key = k ∧ n.np = 0 ∧ n.succ = [] ∧ σ' = { σ with nodes := σ.nodes ++ [n] }) : σ'.abs = aGet σ.abs k := by
  unfold aGet
  rw [abs_keys]
  rcases h with ⟨rfl, h⟩ | ⟨h, n, rfl, h2, h3, rfl⟩
  · rw [if_pos h]
  · rw [if_neg h]; simp [Srt.abs, h2, h3]
structure Got (σ : Srt K) (k : K) (σ₂ : Srt K) (n₂ : Nd K) : Prop where
  mem : n₂ ∈ σ₂.nodes
  key : n₂.key = k
  how : σ₂ = σ ∨ k ∉ σ.nodes.map (·.key) ∧ σ₂ = { σ with nodes := σ.nodes ++ [n₂] } ∧ n₂.np = 0 ∧ n₂.succ = []
structure Same (σ σ' : Srt K) : Prop where
  self : σ'.self = σ.self
  dself : σ'.dself = σ.dself
  nd : σ'.nd = σ.nd
  rdy : σ'.rdy = σ.rdy
  pas : σ'.pas = σ.pas
  fin : σ'.fin = σ.fin
theorem Same.rfl : Same σ σ := ⟨Eq.refl _, Eq.refl _, Eq.refl _, Eq.refl _, Eq.refl _, Eq.refl _⟩
theorem Same.trans {σ'' : Srt K} (a : Same σ σ') (b : Same σ' σ'') : Same σ σ'' := ⟨b.self.trans a.self, b.dself.trans a.dself, b.nd.trans a.nd, b.rdy.trans a.rdy, b.pas.trans a.pas, b.fin.trans a.fin⟩
def SuccLe (σ : Srt K) (M : Nat) : Prop := ∀ n ∈ σ.nodes, n.succ.length ≤ M
variable {σ₂ : Srt K} {n₂ : Nd K} {k : K} {news₂ : Led}
theorem Got.abs (G : Got σ k σ₂ n₂) : σ₂.abs = aGet σ.abs k := by
  refine abs_get ?_
  rcases G.how with e | ⟨e1, e2, e3, e4⟩
  · exact .inl ⟨e, by rw [← e, ← G.key]; exact List.mem_map_of_mem G.mem⟩
  · exact .inr ⟨e1, n₂, G.key, e3, e4, e2⟩
theorem Got.same (G : Got σ k σ₂ n₂) : Same σ σ₂ := by
  rcases G.how with e | ⟨_, e, _⟩
  · rw [e]; exact .rfl
  · rw [e]; exact ⟨rfl, rfl, rfl, rfl, rfl, rfl⟩
theorem Got.length (G : Got σ k σ₂ n₂) : σ₂.nodes.length ≤ σ.nodes.length + 1 := by
  rcases G.how with e | ⟨_, e, _⟩
  · rw [e]; omega
  · rw [e]; simp
theorem Got.succ (G : Got σ k σ₂ n₂) {M : Nat} (h : SuccLe σ M) : SuccLe σ₂ M := by
  rcases G.how with e | ⟨_, e, _, e4⟩
  · rw [e]; exact h
  · intro n hn
    rw [e] at hn
    rcases List.mem_append.mp hn with hn | hn
    · exact h n hn
    · rw [List.mem_singleton.mp hn, e4]; exact Nat.zero_le _
theorem updN_succ {M M' : Nat} {f : Nd K → Nd K} (h : SuccLe σ M) (hM : M ≤ M') (hf : ∀ x ∈ σ.nodes, x.key = k → (f x).succ.length ≤ M') : SuccLe ({ σ with nodes := updN σ.nodes k f } : Srt K) M' := by
  intro n hn
  obtain ⟨x, hx, rfl⟩ := List.mem_map.mp (show n ∈ σ.nodes.map _ from hn)
  by_cases e : x.key = k
  · rw [if_pos e]; exact hf x hx e
  · rw [if_neg e]; exact Nat.le_trans (h x hx) hM
theorem got_ni (S₂ : SIn knd cS cN news₂ σ₂) (G : Got σ k σ₂ n₂) {v₂ : Value} (hv₂ : knd.is n₂.key v₂ = true) (c : Int) (t : Tok) :
    ∃ σ₃, SIn knd cS cN (setL news₂ n₂.ai (niObj cN v₂ (n₂.np + c) t n₂.di n₂.as)) σ₃ ∧ σ₃.foot = σ₂.foot ∧ σ₃.abs = aUpd (aGet σ.abs k) k (fun e => (e.1 + c, e.2)) ∧ Same σ σ₃ ∧ σ₃.nodes.length ≤ σ.nodes.length + 1 ∧ ∀ M, SuccLe σ M → SuccLe σ₃ M := by
  refine ⟨_, S₂.setNi G.mem (v := v₂) (t := t) hv₂ (f := fun x => { x with np := x.np + c }) (fun _ => ⟨rfl, rfl, rfl⟩) rfl, foot_updN fun _ => rfl, ?_, ⟨G.same.self, G.same.dself, G.same.nd, G.same.rdy, G.same.pas, G.same.fin⟩, ?_, fun M h => updN_succ (G.succ h) (Nat.le_refl _) fun x hx _ => G.succ h x hx⟩
  · rw [abs_updN (f := fun x => { x with np := x.np + c }) (g := fun e => (e.1 + c, e.2)) (fun _ => rfl) (fun x _ _ => rfl), G.key, G.abs]
  · unfold updN
    rw [List.length_map]
    exact G.length
theorem got_as (S₂ : SIn knd cS cN news₂ σ₂) {q : K} (G : Got σ q σ₂ n₂) {vs₂ : List Value} (ka₂ : KA knd vs₂ n₂.succ) {v : Value} (hv : knd.is k v = true) (ep : Nat) :
    ∃ σ₃, SIn knd cS cN (setL news₂ n₂.as (W.listOf (vs₂ ++ [v]).toArray ep)) σ₃ ∧ σ₃.foot = σ₂.foot ∧ σ₃.abs = aPred k σ.abs q ∧ Same σ σ₃ ∧ σ₃.nodes.length ≤ σ.nodes.length + 1 ∧ ∀ M, SuccLe σ M → SuccLe σ₃ (M + 1) := by
  refine ⟨_, S₂.setAs G.mem (ep' := ep) (ka₂.append (KA.single hv)) (f := fun x => { x with succ := x.succ ++ [k] }) (fun _ => ⟨rfl, rfl, rfl⟩) rfl, foot_updN fun _ => rfl, ?_, ⟨G.same.self, G.same.dself, G.same.nd, G.same.rdy, G.same.pas, G.same.fin⟩, ?_, fun M h => updN_succ (G.succ h) (Nat.le_succ _) fun x hx _ => ?_⟩
  · unfold aPred
    rw [abs_updN (f := fun x => { x with succ := x.succ ++ [k] }) (g := fun e => (e.1, e.2 ++ [k])) (fun _ => rfl) (fun x _ _ => rfl), G.key, G.abs]
  · unfold updN
    rw [List.length_map]
    exact G.length
  · show (x.succ ++ [k]).length ≤ M + 1
    rw [List.length_append]
    exact Nat.succ_le_succ (G.succ h x hx)
structure SepH (σ : Srt K) : Prop where
  sd : σ.self ≠ σ.dself
  sn : σ.self ≠ σ.nd
  dn : σ.dself ≠ σ.nd
  rs : ∀ r ks, σ.rdy = some (r, ks) → r ≠ σ.self ∧ r ≠ σ.dself ∧ r ≠ σ.nd ∧ ∀ n ∈ σ.nodes, r ∉ n.foot
  ns : ∀ n ∈ σ.nodes, σ.self ∉ n.foot ∧ σ.dself ∉ n.foot ∧ σ.nd ∉ n.foot
theorem SIn.sepH (S : SIn knd cS cN news σ) : SepH σ := by
  have h := S.nodup
  unfold Srt.foot at h
  rw [List.nodup_cons, List.nodup_cons, List.nodup_cons, List.nodup_append] at h
  (refine and6 h fun h1 h2 h3 h4 h5 h6 => ?_; try clear h)
  refine ⟨fun e => h1 (by rw [e]; exact .head _), fun e => h1 (by rw [e]; exact .tail _ (.head _)), fun e => h2 (by rw [e]; exact .head _), fun r ks hr => ?_, fun n hn => ?_⟩
  · rw [hr] at h1 h2 h3 h6
    simp only [rdyF, List.singleton_append, List.mem_cons, not_or] at h1 h2 h3 h6
    exact ⟨fun e => h1.2.2.1 e.symm, fun e => h2.2.1 e.symm, fun e => h3.1 e.symm, fun n hn hx => h6 r (.inl rfl) r (List.mem_flatMap.mpr ⟨n, hn, hx⟩) rfl⟩
  · have fl : ∀ a ∈ n.foot, a ∈ rdyF σ.rdy ++ σ.nodes.flatMap Nd.foot := fun a ha => List.mem_append_right _ (List.mem_flatMap.mpr ⟨n, hn, ha⟩)
    exact ⟨fun hx => h1 (.tail _ (.tail _ (fl _ hx))), fun hx => h2 (.tail _ (fl _ hx)), fun hx => h3 (fl _ hx)⟩
theorem SIn.setD (S : SIn knd cS cN news σ) {k1 k2 k3 k4 tp tf : Tok} {pas' fin' : Int} :
    SIn knd cS cN (setL news σ.dself (dictOf (sdict w k1 k2 k3 k4 (.ref σ.nd) (rdyV σ.rdy) pas' tp fin' tf) 4)) { σ with pas := pas', fin := fin' } := by
  have sp := S.sepH
  refine ex6 S.dict fun _ _ _ _ _ _ h2 => ?_
  refine ex1 S.n2i fun od zz => and2 zz fun h3 h4 => ?_
  refine ⟨mem_setL_ne sp.sd S.inst, ⟨k1, k2, k3, k4, tp, tf, mem_setL_self h2⟩, ⟨od, mem_setL_ne (Ne.symm sp.dn) h3, h4⟩, S.lo, fun n hn => (S.nds n hn).mono fun p hp ha => mem_setL_ne (fun e => (sp.ns n hn).2.1 (e ▸ ha)) hp, fun r ks e => ?_, S.nodup⟩
  refine ex2 (S.rdy r ks e) fun vs ep zz => and2 zz fun h ka => ?_
  exact ⟨vs, ep, mem_setL_ne (sp.rs r ks e).2.1 h, ka⟩
theorem SIn.setR (S : SIn knd cS cN news σ) {rd : Addr} {ks ks' : List K} {vs' : List Value} {n' : Nat} (hr : σ.rdy = some (rd, ks)) (ka : KA knd vs' ks') :
    SIn knd cS cN (setL news rd (W.listOf vs'.toArray n')) { σ with rdy := some (rd, ks') } := by
  have sp := S.sepH
  have sr := sp.rs rd ks hr
  refine ex6 S.dict fun k1 k2 k3 k4 tp tf h2 => ?_
  refine ex1 S.n2i fun od zz => and2 zz fun h3 h4 => ?_
  refine ex2 (S.rdy rd ks hr) fun vs ep zz => and2 zz fun h _ => ?_
  rw [hr] at h2
  refine ⟨mem_setL_ne (Ne.symm sr.1) S.inst, ⟨k1, k2, k3, k4, tp, tf, mem_setL_ne (Ne.symm sr.2.1) h2⟩, ⟨od, mem_setL_ne (Ne.symm sr.2.2.1) h3, h4⟩, S.lo, fun n hn => (S.nds n hn).mono fun p hp ha => mem_setL_ne (fun e => sr.2.2.2 n hn (e ▸ ha)) hp, fun r q e => ?_, ?_⟩
  · (have zz := Prod.mk.inj (Option.some.inj e); refine and2 zz ?_; try clear zz; rintro rfl rfl)
    exact ⟨vs', n', mem_setL_self h, ka⟩
  · have hn := S.nodup
    unfold Srt.foot at hn ⊢
    rw [hr] at hn
    exact hn
theorem SIn.setRnew (S : SIn knd cS cN news σ) {rd : Addr} {ks' : List K} {vs' : List Value} {n' : Nat} {k1 k2 k3 k4 tp tf : Tok} (hr : σ.rdy = none) (ka : KA knd vs' ks') (hm : (rd, W.listOf vs'.toArray n') ∈ news) (hf : rd ∉ σ.foot) :
    SIn knd cS cN (setL news σ.dself (dictOf (sdict w k1 k2 k3 k4 (.ref σ.nd) (.ref rd) σ.pas tp σ.fin tf) 4)) { σ with rdy := some (rd, ks') } := by
  have sp := S.sepH
  refine ex6 S.dict fun _ _ _ _ _ _ h2 => ?_
  refine ex1 S.n2i fun od zz => and2 zz fun h3 h4 => ?_
  refine ⟨mem_setL_ne sp.sd S.inst, ⟨k1, k2, k3, k4, tp, tf, mem_setL_self h2⟩, ⟨od, mem_setL_ne (Ne.symm sp.dn) h3, h4⟩, S.lo, fun n hn => (S.nds n hn).mono fun p hp ha => mem_setL_ne (fun e => (sp.ns n hn).2.1 (e ▸ ha)) hp, fun r ks e => ?_, ?_⟩
  · (have zz := Prod.mk.inj (Option.some.inj e); refine and2 zz ?_; try clear zz; rintro rfl rfl)
    exact ⟨vs', n', mem_setL_ne (fun e => hf (by rw [e]; simp [Srt.foot])) hm, ka⟩
  · have hn := S.nodup
    unfold Srt.foot at hn hf ⊢
    rw [hr] at hn hf
    simp only [rdyF, List.nil_append, List.singleton_append, List.nodup_cons, List.mem_cons, not_or] at hn hf ⊢
    exact ⟨⟨hn.1.1, hn.1.2.1, fun e => hf.1 e.symm, hn.1.2.2⟩, ⟨hn.2.1.1, fun e => hf.2.1 e.symm, hn.2.1.2⟩, ⟨fun e => hf.2.2.1 e.symm, hn.2.2.1⟩, hf.2.2.2, hn.2.2.2⟩
def aOut (α : AN K) (ks : List K) : AN K := ks.foldl (fun α k => aUpd α k fun e => (-1, e.2)) α
theorem aUpd_keys {α : AN K} {k : K} {f : Int × List K → Int × List K} : (aUpd α k f).map (·.1) = α.map (·.1) := by
  unfold aUpd
  rw [List.map_map]
  exact List.map_congr_left fun x _ => by by_cases h : x.1 = k <;> simp [h]
theorem aOut_keys {ks : List K} : ∀ {α : AN K}, (aOut α ks).map (·.1) = α.map (·.1) := by
  unfold aOut
  induction ks with
  | nil => intro α; rfl
  | cons k ks ih => intro α; rw [List.foldl_cons, ih, aUpd_keys]
theorem node_np (S : SIn knd cS cN news σ) (hn : n ∈ σ.nodes) {v : Value} (hv : knd.is n.key v = true) (c : Int) (t : Tok) :
    ∃ σ₃, SIn knd cS cN (setL news n.ai (niObj cN v c t n.di n.as)) σ₃ ∧ σ₃.foot = σ.foot ∧ σ₃.abs = aUpd σ.abs n.key (fun e => (c, e.2)) ∧ Same σ σ₃ := by
  refine ⟨_, S.setNi hn (v := v) (t := t) hv (f := fun x => { x with np := c }) (fun _ => ⟨rfl, rfl, rfl⟩) rfl, foot_updN fun _ => rfl, ?_, ⟨rfl, rfl, rfl, rfl, rfl, rfl⟩⟩
  exact abs_updN (f := fun x => { x with np := c }) (g := fun e => (c, e.2)) (fun _ => rfl) (fun x _ _ => rfl)
def aNp (α : AN K) (k : K) : Int := ((α.find? fun e => e.1 = k).map (·.2.1)).getD 0
def aSucc (α : AN K) (k : K) : List K := ((α.find? fun e => e.1 = k).map (·.2.2)).getD []
def aDec (st : AN K × List K) (s : K) : AN K × List K :=
  let α' := aUpd st.1 s fun e => (e.1 - 1, e.2)
  (α', if aNp α' s = 0 then st.2 ++ [s] else st.2)
theorem aDec_eq (st : AN K × List K) (s : K) : aDec st s = (aUpd st.1 s (fun e => (e.1 - 1, e.2)), if aNp (aUpd st.1 s fun e => (e.1 - 1, e.2)) s = 0 then st.2 ++ [s] else st.2) := rfl
def aDone1 (st : AN K × List K) (k : K) : AN K × List K := (aSucc st.1 k).foldl aDec (aUpd st.1 k fun e => (-2, e.2), st.2)
def aDone (st : AN K × List K) (ks : List K) : AN K × List K := ks.foldl aDone1 st
theorem find_abs (hk : (σ.nodes.map (·.key)).Nodup) (hn : n ∈ σ.nodes) : (σ.abs.find? fun e => e.1 = n.key) = some (n.key, n.np, n.succ) := by
  unfold Srt.abs
  revert hk hn
  generalize σ.nodes = l
  intro hk hn
  induction l with
  | nil => cases hn
  | cons x r ih =>
    rw [List.map_cons, List.nodup_cons] at hk
    rw [List.map_cons, List.find?_cons]
    rcases List.mem_cons.mp hn with e | hn
    · rw [e]; simp
    · have : x.key ≠ n.key := fun e => hk.1 (List.mem_map.mpr ⟨n, hn, e.symm⟩)
      simp only [this, decide_false]
      exact ih hk.2 hn
theorem aNp_abs (S : SIn knd cS cN news σ) (hn : n ∈ σ.nodes) : aNp σ.abs n.key = n.np := by
  unfold aNp; rw [find_abs S.keysNodup hn]; rfl
theorem aSucc_abs (S : SIn knd cS cN news σ) (hn : n ∈ σ.nodes) : aSucc σ.abs n.key = n.succ := by
  unfold aSucc; rw [find_abs S.keysNodup hn]; rfl
theorem aDec_keys {st : AN K × List K} {s : K} : (aDec st s).1.map (·.1) = st.1.map (·.1) := by unfold aDec; exact aUpd_keys (α := st.1) (k := s) (f := fun e => (e.1 - 1, e.2))
theorem aDecs_keys {ss : List K} : ∀ {st : AN K × List K}, (ss.foldl aDec st).1.map (·.1) = st.1.map (·.1) := by
  induction ss with
  | nil => intro st; rfl
  | cons s ss ih => intro st; rw [List.foldl_cons, ih, aDec_keys]
theorem aDone1_keys {st : AN K × List K} {k : K} : (aDone1 st k).1.map (·.1) = st.1.map (·.1) := by
  unfold aDone1; rw [aDecs_keys, aUpd_keys]
theorem aDone_keys {ks : List K} : ∀ {st : AN K × List K}, (aDone st ks).1.map (·.1) = st.1.map (·.1) := by
  unfold aDone
  induction ks with
  | nil => intro st; rfl
  | cons s ss ih => intro st; rw [List.foldl_cons, ih, aDone1_keys]
theorem aDec_len {st : AN K × List K} {s : K} : (aDec st s).2.length ≤ st.2.length + 1 := by
  unfold aDec
  dsimp only
  split
  · simp
  · omega
theorem aDecs_len {ss : List K} : ∀ {st : AN K × List K}, (ss.foldl aDec st).2.length ≤ st.2.length + ss.length := by
  induction ss with
  | nil => intro st; simp
  | cons s ss ih =>
    intro st
    rw [List.foldl_cons]
    have := ih (st := aDec st s)
    have := aDec_len (st := st) (s := s)
    simp only [List.length_cons]
    omega
theorem aUpd_succs {α : AN K} {k : K} {f : Int × List K → Int × List K} (hf : ∀ e, (f e).2 = e.2) : (aUpd α k f).map (fun e => (e.1, e.2.2)) = α.map fun e => (e.1, e.2.2) := by
  unfold aUpd
  rw [List.map_map]
  exact List.map_congr_left fun x _ => by by_cases h : x.1 = k <;> simp [h, hf]
theorem aDecs_succs {ss : List K} : ∀ {st : AN K × List K}, (ss.foldl aDec st).1.map (fun e => (e.1, e.2.2)) = st.1.map fun e => (e.1, e.2.2) := by
  induction ss with
  | nil => intro st; rfl
  | cons s ss ih => intro st; rw [List.foldl_cons, ih]; unfold aDec; exact aUpd_succs (f := fun e => (e.1 - 1, e.2)) fun _ => rfl
theorem aDone1_succs {st : AN K × List K} {k : K} : (aDone1 st k).1.map (fun e => (e.1, e.2.2)) = st.1.map fun e => (e.1, e.2.2) := by
  unfold aDone1; rw [aDecs_succs]; exact aUpd_succs (f := fun e => (-2, e.2)) fun _ => rfl
theorem aDone_succs {ks : List K} : ∀ {st : AN K × List K}, (aDone st ks).1.map (fun e => (e.1, e.2.2)) = st.1.map fun e => (e.1, e.2.2) := by
  unfold aDone
  induction ks with
  | nil => intro st; rfl
  | cons s ss ih => intro st; rw [List.foldl_cons, ih, aDone1_succs]
theorem node_succ {α : AN K} (h : σ.abs.map (fun e => (e.1, e.2.2)) = α.map fun e => (e.1, e.2.2)) (hn : n ∈ σ.nodes) : ∃ np, (n.key, np, n.succ) ∈ α := by
  have : (n.key, n.succ) ∈ σ.abs.map fun e => (e.1, e.2.2) := by
    unfold Srt.abs
    rw [List.map_map]
    exact List.mem_map.mpr ⟨n, hn, rfl⟩
  rw [h] at this
  obtain ⟨⟨a, b, c⟩, he, e⟩ := List.mem_map.mp this
  obtain ⟨rfl, rfl⟩ := Prod.mk.inj e
  exact ⟨b, he⟩
theorem node_dec (S : SIn knd cS cN news σ) (hn : n ∈ σ.nodes) {v : Value} (hv : knd.is n.key v = true) (t : Tok) :
    ∃ σ₃, SIn knd cS cN (setL news n.ai (niObj cN v (n.np - 1) t n.di n.as)) σ₃ ∧ σ₃.foot = σ.foot ∧ σ₃.abs = aUpd σ.abs n.key (fun e => (e.1 - 1, e.2)) ∧ Same σ σ₃ ∧ aNp σ₃.abs n.key = n.np - 1 := by
  have S' := S.setNi hn (v := v) (t := t) hv (f := fun x => { x with np := x.np - 1 }) (fun _ => ⟨rfl, rfl, rfl⟩) rfl
  refine ⟨_, S', foot_updN fun _ => rfl, abs_updN (f := fun x => { x with np := x.np - 1 }) (g := fun e => (e.1 - 1, e.2)) (fun _ => rfl) (fun x _ _ => rfl), ⟨rfl, rfl, rfl, rfl, rfl, rfl⟩, ?_⟩
  have hm : ({ n with np := n.np - 1 } : Nd K) ∈ updN σ.nodes n.key (fun x => { x with np := x.np - 1 }) := by
    unfold updN
    exact List.mem_map.mpr ⟨n, hn, by rw [if_pos rfl]⟩
  exact aNp_abs S' hm
end
end
end
section
section
abbrev litObj (l : Addr) (i : Nat) : Obj := { cls := .type "list_iterator", data := .fields #[.ref l, .int i 0] }
abbrev mwObj (it : Addr) : Obj := { cls := .type "method-wrapper", data := .fields #[.builtin "list_iterator.__next__", .ref it] }
theorem li_getattr_none : typeLookup (.type "list_iterator") "__getattr__" = pure none := by rw [typeLookup_type, builtinLookup_eq_fast]; kernel_rfl
theorem li_getattribute : Slot "list_iterator" "__getattribute__" "object.__getattribute__" :=
  .of (owner := "object") (n := "__getattribute__") (by rw [typeLookup_type, builtinLookup_eq_fast]; kernel_rfl) (by decide +kernel) (by decide +kernel) (by decide +kernel)
    (by first | exact .inl (by decide +kernel) | exact .inr (by decide +kernel)) (by rw [isSubtype_type]; kernel_rfl)
theorem wd_get : Slot "wrapper_descriptor" "__get__" "wrapper_descriptor.__get__" :=
  .of (owner := "wrapper_descriptor") (n := "__get__") (by rw [typeLookup_type, builtinLookup_eq_fast]; kernel_rfl) (by decide +kernel) (by decide +kernel) (by decide +kernel)
    (by first | exact .inl (by decide +kernel) | exact .inr (by decide +kernel)) (by rw [isSubtype_type]; kernel_rfl)
theorem wd_set_none : typeLookup (.type "wrapper_descriptor") "__set__" = pure none := by rw [typeLookup_type, builtinLookup_eq_fast]; kernel_rfl
theorem wd_del_none : typeLookup (.type "wrapper_descriptor") "__delete__" = pure none := by rw [typeLookup_type, builtinLookup_eq_fast]; kernel_rfl
theorem wd_entry : entryFor table "wrapper_descriptor.__get__" = some Builtin.«wrapper_descriptor.__get__» := entryFor_of_tree (by kernel_rfl)
theorem wd_args (a b c : Value) : argsOk "wrapper_descriptor.__get__" ⟨[a, b, c], []⟩ := by unfold argsOk; kernel_rfl
theorem next_type : typeOf (.builtin "list_iterator.__next__") = pure (.type "wrapper_descriptor") := by
  show builtinType "list_iterator.__next__" = _
  rw [builtinType_eq_fast]; kernel_rfl
theorem li_sub : isSubtype (.type "list_iterator") (.type "list_iterator") = pure true := by rw [isSubtype_type]; kernel_rfl
theorem li_next_lookup : typeLookup (.type "list_iterator") "__next__" = pure (some (.builtin "list_iterator.__next__")) := slot_listiter_next.lookup
theorem meets_wd_get (it : Addr) (o : Obj) (hc : o.cls = .type "list_iterator") :
    Meets (Builtin.«wrapper_descriptor.__get__» ⟨[.builtin "list_iterator.__next__", .ref it, .type "list_iterator"], []⟩)
      (fun A R s => s.heap.get? it = some o ∧ R (.ok (.ret (.ref s.heap.objs.size))) { s with heap := s.heap.push (mwObj it) }) :=
  Meets.of_wp fun prog w A R s hs => by
    obtain ⟨hp, g, d, tk, os⟩ := s
    (refine and2 hs ?_; try clear hs; rintro hx hs)
    have hT : (⟨hp, g, d, tk, os⟩ : Shared).TypeIs (.ref it) "list_iterator" := ⟨_, hx, hc⟩
    have f1 := li_sub
    unfold Builtin.«wrapper_descriptor.__get__»
    repeat (any_goals (first | assumption | wp_step))
    rw [show (".".intercalate ("list_iterator.__next__".cutAt '.').dropLast) = "list_iterator" from by decide +kernel, li_sub]
    repeat (any_goals (first | assumption | wp_step))
    all_goals first | exact ⟨_, rfl, hs⟩ | skip
theorem meets_ga_next (it : Addr) (o : Obj) (vs : Array Value) (u : Tok) (hc : o.cls = .type "list_iterator") (hd : o.dict = none) (hdat : o.data = .fields vs) :
    Meets (Builtin.«object.__getattribute__» ⟨[.ref it, .str "__next__" u], []⟩)
      (fun A R s => s.heap.get? it = some o ∧ R (.ok (.ret (.ref s.heap.objs.size))) { s with heap := s.heap.push (mwObj it) }) :=
  Meets.of_wp fun prog w A R s hs => by
    obtain ⟨c, dct, dat, sl⟩ := o
    simp only at hc hdat hd
    subst hc hdat hd
    obtain ⟨hp, g, d, tk, os⟩ := s
    (refine and2 hs ?_; try clear hs; rintro hx hs)
    have hT : (⟨hp, g, d, tk, os⟩ : Shared).TypeIs (.ref it) "list_iterator" := ⟨_, hx, rfl⟩
    have hN : (⟨hp, g, d, tk, os⟩ : Shared).TypeIs (.builtin "list_iterator.__next__") "wrapper_descriptor" := by
      first | exact next_type | exact ⟨next_type, by decide⟩ | exact ⟨by decide, next_type⟩
    have f1 := li_next_lookup
    have f2 := next_type
    have f3 := wd_get.lookup
    have f4 := wd_set_none
    have f5 := wd_del_none
    unfold Builtin.«object.__getattribute__»
    repeat (any_goals (first | assumption | ((with_reducible show wpAny _ _ (call (Value.builtin "wrapper_descriptor.__get__") _ _) _ _ _); refine call_meets wd_get hN wd_entry (wd_args _ _ _) (meets_wd_get it _ rfl) ⟨hx, ?_⟩) | wp_step))
    exact wpAny_pure ⟨_, rfl, hs⟩
section
variable {prog : Program} {w : World} {A : Around} {E : Value → Shared → Prop} {s : Shared}
theorem getattr_next {it : Addr} {o : Obj} {vs : Array Value} {Q : Value → Shared → Prop} (hx : s.heap.get? it = some o) (hc : o.cls = .type "list_iterator") (hd : o.dict = none) (hdat : o.data = .fields vs)
    (h : Q (.ref s.heap.objs.size) { s with heap := s.heap.push (mwObj it), toks := s.toks + 1 }) : wpAny (model prog w) A (getAttr (.ref it) "__next__" true) Q E s := by
  obtain ⟨c, dct, dat, sl⟩ := o
  simp only at hc hdat hd
  subst hc hdat hd
  obtain ⟨hp, g, d, tk, os⟩ := s
  have hT : ∀ tk', (⟨hp, g, d, tk', os⟩ : Shared).TypeIs (.ref it) "list_iterator" := fun _ => ⟨_, hx, rfl⟩
  have f3 := li_getattribute.lookup
  have f4 := li_getattribute.bind (.ref it)
  have f5 := li_getattr_none
  unfold getAttr getAttrBy
  repeat (any_goals (first | assumption | exact hT _ | ((with_reducible show wpAny _ _ (call (Value.builtin "object.__getattribute__") _ _) _ _ _); refine call_meets li_getattribute (hT _) F.entry_object_getattribute (F.args_object_getattribute_2 _ _) (meets_ga_next it _ _ _ rfl rfl rfl) ⟨hx, ?_⟩) | wp_step))
  exact wpAny_pure h
end
theorem check_next (it : Addr) : checkBoundCall "list_iterator.__next__" ⟨[.ref it], []⟩ = pure () := by first | kernel_rfl | rfl
theorem quiet_next (args : Args) : (Code.builtin "list_iterator.__next__" args).quiet = true := Code.quiet_builtin _ (by decide +kernel)
section
variable {prog : Program} {w : World} {A : Around} {E : Value → Shared → Prop} {s : Shared}
theorem call_mw {mw it : Addr} {Q : Value → Shared → Prop} (ho : s.heap.get? mw = some (mwObj it))
    (h : wpAny (model prog w) A.in1 (Builtin.«list_iterator.__next__» ⟨[.ref it], []⟩) (fun fin s' => match fin with | .done (.ret v) => Q v s' | _ => False) E s) : wpAny (model prog w) A (call (.ref mw) []) Q E s := by
  refine wpAny_call (codeAny_of_tree ?_)
  show wpAny _ A.in1 (callAny (.ref mw) ⟨[], []⟩) _ _ s
  simp only [callAny]
  refine wpAny_bind (wpAny_load ho ?_)
  simp only [show (Value.type "method-wrapper" == Value.type "method" || Value.type "method-wrapper" == Value.type "builtin_function_or_method" || Value.type "method-wrapper" == Value.type "method-wrapper") = true by decide, if_true]
  show wpAny _ _ (if (Value.type "method-wrapper" != Value.type "method") = true then (do checkBoundCall "list_iterator.__next__" ⟨[.ref it], []⟩; again (.builtin "list_iterator.__next__" ⟨[.ref it], []⟩)) else _) _ _ s
  rw [if_pos (by decide)]
  refine wpAny_bind (wpAny_of_eq (a := ()) (check_next it) ?_)
  refine wpAny_pure ?_
  refine ⟨quiet_next _, codeAny_builtin entry_listiter_next (wpAny_mono h (fun fin s' hf => ?_) fun _ _ x => x)⟩
  rcases fin with (f | c)
  · cases f <;> first | exact hf | exact hf.elim
  · exact hf.elim
theorem next_item {it l : Addr} {i : Nat} {items : Array Value} {n : Nat} {x : Value} {P : Fin → Shared → Prop} (h1 : s.heap.get? it = some (litObj l i)) (h2 : s.heap.get? l = some (W.listOf items n)) (hx : items[i]? = some x)
    (h : ∀ h', Heap.SameBut it s.heap h' → h'.get? it = some (litObj l (i + 1)) → P (.done (.ret x)) { s with heap := h' }) : wpAny (model prog w) A (Builtin.«list_iterator.__next__» ⟨[.ref it], []⟩) P E s := by
  show wpAny _ _ (field (.ref it) 0 >>= _) _ _ s
  refine wpAny_bind (wpAny_field h1 rfl (x := .ref l) rfl ?_)
  show wpAny _ _ (if (Value.ref l == Value.none) = true then _ else _) _ _ s
  rw [if_neg (show ¬ ((Value.ref l == Value.none) = true) from Bool.false_ne_true)]
  show wpAny _ _ (field (.ref it) 1 >>= _) _ _ s
  refine wpAny_bind (wpAny_field h1 rfl (x := .int i 0) rfl ?_)
  show wpAny _ _ (seqItems? (.ref l) >>= _) _ _ s
  refine wpAny_bind (wpAny_seqItems h2 rfl ?_)
  simp only [Int.toNat_natCast, hx]
  refine wpAny_bind (wpAny_setField h1 rfl (by simp) (wpAny_pure (h _ (Heap.SameBut.update ..) ?_)))
  have e := Heap.get?_update_self (Obj.mapFields (·.setIfInBounds 1 (rawInt ((i : Int) + 1)))) h1 rfl
  rw [e]
  simp [Obj.mapFields, rawInt]
theorem next_end {it l : Addr} {i : Nat} {items : Array Value} {n : Nat} {P : Fin → Shared → Prop} (hh : A.handled = none) (h1 : s.heap.get? it = some (litObj l i)) (h2 : s.heap.get? l = some (W.listOf items n)) (hx : items[i]? = none)
    (h : ∀ hm h' e, Heap.SameBut it s.heap hm → Heap.NewExc hm h' e "StopIteration" → E (.ref e) { s with heap := h' }) : wpAny (model prog w) A (Builtin.«list_iterator.__next__» ⟨[.ref it], []⟩) P E s := by
  show wpAny _ _ (field (.ref it) 0 >>= _) _ _ s
  refine wpAny_bind (wpAny_field h1 rfl (x := .ref l) rfl ?_)
  show wpAny _ _ (if (Value.ref l == Value.none) = true then _ else _) _ _ s
  rw [if_neg (show ¬ ((Value.ref l == Value.none) = true) from Bool.false_ne_true)]
  show wpAny _ _ (field (.ref it) 1 >>= _) _ _ s
  refine wpAny_bind (wpAny_field h1 rfl (x := .int i 0) rfl ?_)
  show wpAny _ _ (seqItems? (.ref l) >>= _) _ _ s
  refine wpAny_bind (wpAny_seqItems h2 rfl ?_)
  simp only [Int.toNat_natCast, hx]
  refine wpAny_bind (wpAny_rule (wpAny_bind (wpAny_setField h1 rfl (by simp) ?_)))
  show wpAny _ _ (newExc (.type "StopIteration") [] >>= _) _ _ _
  refine wpAny_bind ?_
  simp only [newExc, newTuple]
  refine wpAny_bind (wpAny_newObj_type ?_ (by size_fits))
  refine wpAny_bind (m := firstArgMember _ _) (wpAny_of_eq (a := Value.none) (by first | rfl | (simp only [firstArgMember]; rfl)) ?_)
  refine wpAny_newObj_type (wpAny_raiseNew_none hh (h (s.heap.update it (Obj.mapFields fun x => x.setIfInBounds 0 Value.none)) _ _ (Heap.SameBut.update ..) ⟨?_, ?_, ?_⟩)) (by size_fits)
  · exact fun b o hb => Heap.get?_push_of_some _ (Heap.get?_push_of_some _ hb)
  · exact Heap.get?_none_of_le (by simp)
  · exact ⟨_, _, Heap.get?_push_size _ rfl, rfl, rfl⟩
end
end
end
section
section
section
variable {M : Model} {A : Around} {E : Value → Shared → Prop} {s : Shared}
theorem looks_newW {base : Heap} {env : Env} {outer : List Env} {L e : Addr} {oe : Obj} {vs : Array Value} {a0 : Value} {Q : Unit → Shared → Prop}
    (hfr : A.frames = some (env :: outer)) (hl : s.heap.FunFrames base (env :: outer)) (hf : env.frame = some L)
    (he : s.heap.get? e = some oe) (hkb : base.StaysIn s.heap) (hen : base.get? e = none) (hd : oe.data = .fields vs) (h1 : vs[1]? = some .none) (h0 : vs[0]? = some a0)
    (hQ : ∀ h', Heap.HeldW base (env :: outer) e oe.cls a0 L h' → s.heap.UpToSlots h' → Q () { s with heap := h' }) : wpAny M A (noteFrame (.ref e) env) Q E s := by
  unfold noteFrame
  simp only [hf]
  refine wpAny_bind (wpAny_field he hd h1 ?_)
  rw [if_neg (by decide)]
  refine wpAny_entryW hfr hl hf he hkb hen hd (Array.getElem?_eq_some_iff.mp h1).1 h0 fun h' hN => ?_
  (refine and4 hN fun k1 k2 k3 k4 => ?_; try clear hN)
  exact hQ h' ⟨k1, hen, k2, k3⟩ k4
end
section
variable {prog : Program} {w : World} {A₀ : Around} {E : Value → Shared → Prop} {s' : Shared} {base g g₀ h : Heap} {outer : List Env} {L a e : Addr} {m : Str → Option Value} {name : Str} {scope : Scope} {cd : Value}
  {b₀ : Stmt} {suite : List Stmt} {pos np : Pos} {rest : List ExceptHandler} {Q : Flow → Shared → Prop} {news : List (Addr × Obj)} {KF : Frag}
  {p : Program} {loose : List Str} {mean : ExcName → Option Value} {mg mb : Str → Option Value} {x : Str} {X T' : String}
theorem caught_here (K : Below A₀ base outer g) (F : Fr g L h m) (N : News g L h news) (hx : Heap.NewExc h s'.heap e X) (XB : KF.In base) (TB : Top p loose mean mg mb base)
    (D : KtsDicts (outer.filterMap (·.frame)) g) (T0 : KtsTurn (outer.filterMap (·.frame)) g₀ g)
    (ex : nsIn KF mainGlobals x = some none) (hv : bootBuiltins x = some (.type T')) (hn' : x ≠ "__name__")
    (hexc : isSubtype (.type T') (.type "BaseException") = pure true) (hnt : isSubtype (.type ((Manifest.find? T').elim "type" fun y => y.metatype)) (.type "tuple") = pure false) (hsub : isSubtype (.type X) (.type T') = pure true)
    (k : ∀ h' g', KtsTurn (outer.filterMap (·.frame)) g₀ g' → Fr g' L h' m → News g' L h' news → Below A₀ base outer g' → KF.In g' → Top p loose mean mg mb g' → KtsDicts (outer.filterMap (·.frame)) g' →
      wpAny (model prog w) ((A₀.deeper (envOf name scope L a cd)).mark (some (.ref e))) (execs (b₀ :: suite) (envOf name scope L a cd)) Q E { s' with heap := h' })
    (hk : autoParam (scope.kind = .function) autoA) (hxk : autoParam ((envOf name scope L a cd).kindOf x = some .globalImplicit) autoA) (hd : autoParam ((x == ("__debug__" : Str)) = false) autoC)
    (hE : PassesOwnAt (model prog w) ((A₀.deeper (envOf name scope L a cd)).mark (some (.ref e))) (A₀.deeper (envOf name scope L a cd)) (envOf name scope L a cd) E := by passes_own) :
    wpAny (model prog w) (A₀.deeper (envOf name scope L a cd)) (noteFrame (.ref e) (envOf name scope L a cd))
      (fun _ s₂ => wpAny (model prog w) (A₀.deeper (envOf name scope L a cd)) (setFlight (.ref e) none) (fun _ s₃ =>
        wpAny (model prog w) (A₀.deeper (envOf name scope L a cd)) (handleBy (.ref e) (envOf name scope L a cd) (.ExceptHandler (some (.Name x np)) none (b₀ :: suite) pos :: rest)) Q E s₃) E s₂) E s' := by
  have K' := K.push (name := name) (a := a) (cd := cd) F hk
  have hin : ∀ env ∈ (envOf name scope L a cd :: outer), ∀ b, env.frame = some b → b ∈ (envOf name scope L a cd :: outer).filterMap (·.frame) := fun env he b hb => List.mem_filterMap.mpr ⟨env, he, hb⟩
  have hBG : ∀ b o, h.get? b = some o → b ∉ (envOf name scope L a cd :: outer).filterMap (·.frame) → (hideAll h ((envOf name scope L a cd :: outer).filterMap (·.frame))).get? b = some o := fun b o q nm => hideAll_get _ q nm
  have hl : ∀ q ∈ news, (hideAll h ((envOf name scope L a cd :: outer).filterMap (·.frame))).get? q.1 = some q.2 := fun q hq => by
    refine hideAll_get _ (N q hq).1 fun hm => ?_
    refine ex1 (List.mem_filterMap.mp hm) fun env zz => and2 zz fun he hf => ?_
    rcases List.mem_cons.mp he with rfl | he
    · exact (N q hq).2.1 (Option.some.inj hf).symm
    · refine ex1 ((K.frames.mem (List.mem_filterMap.mpr ⟨env, he, hf⟩)).2) fun o zz => and2 zz fun ho _ => ?_
      rw [(N q hq).2.2] at ho; cases ho
  refine ex2 hx.there fun ob tp zz => and3 zz fun he hcls hdd => ?_
  have hen : (hideAll h ((envOf name scope L a cd :: outer).filterMap (·.frame))).get? e = none := by
    cases q : (hideAll h ((envOf name scope L a cd :: outer).filterMap (·.frame))).get? e with
    | none => rfl
    | some o => have := of_hideAll _ q; rw [hx.new] at this; cases this
  have hL : (hideAll h ((envOf name scope L a cd :: outer).filterMap (·.frame))).get? L = none := hideAll_none _ (List.mem_filterMap.mpr ⟨_, List.mem_cons_self, rfl⟩)
  have hsm : h.UpToSlots s'.heap := Heap.UpToSlots.of_keeps hx.keeps
  refine looks_newW (base := hideAll h ((envOf name scope L a cd :: outer).filterMap (·.frame))) (a0 := tp) (Around.frames_deeper K.stack) ((funFrames_hide K'.frames hin).of_keeps fun b o hb _ => ⟨o, hx.keeps b o hb, rfl⟩) rfl he (fun b o hb => hx.keeps b o (of_hideAll _ hb)) hen hdd rfl rfl fun h₄ hheld₄ hsm₄ => ?_
  rw [hcls] at hheld₄
  refine wpAny_landsW hheld₄ fun h₅ hheld hsm₅' => ?_
  have hsm₅ := hsm₄.trans hsm₅'
  refine ex1 (kts_ground (name := name) (scope := scope) (a := a) (cd := cd) K F hBG hheld.1 (hsm.trans hsm₅)) fun g₅ zz => and3 zz fun T₅ F₅ K₅ => ?_
  have X₅ : KF.In g₅ := XB.keeps K₅.stays
  have P₅ : TopRead p loose mg mb g₅ := topRead_of (TB.keeps K₅.stays)
  refine ex1 hheld.there fun ob' zz => and2 zz fun hob hobc => ?_
  refine wpAny_handleBy_builtin (X := X) (T := T') (b := true) hexc hnt hsub (name_B F₅ X₅ P₅ ex hv hn' ⟨rfl, ⟨ob', hob, hobc⟩, ?_⟩ hk hxk hd)
  refine lands_againW hheld fun h₆ hfl₆ hsm₆ => ?_
  refine ex1 (kts_ground (name := name) (scope := scope) (a := a) (cd := cd) K F hBG hfl₆.1 ((hsm.trans hsm₅).trans hsm₆)) fun g₆ zz => and3 zz fun T₆ F₆ K₆ => ?_
  have Nl : News g₆ L h₆ news := fun q hq => ⟨hfl₆.1 _ _ (hl q hq), (N q hq).2.1, T₆.none_ _ (N q hq).2.2⟩
  have X₆ : KF.In g₆ := XB.keeps K₆.stays
  have P₆ : Top p loose mean mg mb g₆ := TB.keeps K₆.stays
  have D₆ : KtsDicts (outer.filterMap (·.frame)) g₆ := D.turn T₆
  exact wpAny_passesOwnAt hE (k h₆ g₆ (T0.trans T₆) F₆ Nl K₆ X₆ P₆ D₆)
end
end
end
section
section
abbrev frs (l : List Env) : List Addr := l.filterMap (·.frame)
def LeaveT (A₀ : Around) (base : Heap) (env : Env) (outer : List Env) (h₀ : Heap) (L : Addr) (m : Str → Option Value) (g : Heap) (R : Result → Shared → Prop) (v : Value) (s' : Shared) : Prop :=
  ∃ g' L' m' news', KtsTurn (frs (env :: outer)) g g' ∧ Fr g' L' s'.heap m' ∧ News g' L' s'.heap news' ∧
    ∀ h₀', KtsTurn (frs outer) h₀ h₀' → Fr h₀' L s'.heap m → News h₀' L s'.heap news' → Below A₀ base outer h₀' → KtsDicts (frs outer) h₀' → R (.ok (.ret v)) s'
section
variable {prog : Program} {w : World} {A₀ A : Around} {s : Shared} {base h₀ : Heap} {env : Env} {outer : List Env} {L : Addr} {m : Str → Option Value} {news : Led} {K : Frag} {p : Program} {loose : List Str} {mean : ExcName → Option Value} {mg mb : Str → Option Value}
    {R : Result → Shared → Prop} {name qual : Str} {params : Arguments} {body : List Stmt} {scope : Scope} {dV kV doc pm cdv ct oc : Value} {an od : Option Addr} {osl : Array (Option Value)} {f : Addr} {args : Args} {binds : List (Str × Value)}
theorem frs_mem {b : Addr} (hf : env.frame = some L) (hm : b ∈ frs (env :: outer)) : b = L ∨ b ∈ frs outer := by
  obtain ⟨e, he, h⟩ := List.mem_filterMap.mp hm
  rcases List.mem_cons.mp he with rfl | he
  · exact .inl (Option.some.inj (h.symm.trans hf))
  · exact .inr (List.mem_filterMap.mpr ⟨e, he, h⟩)
theorem leaveT (B : Below A₀ base outer h₀) (F : Fr h₀ L s.heap m) (N : News h₀ L s.heap news) (hA : A.frames = some (env :: outer)) (hf : env.frame = some L) (hke : env.scope.kind = .function) (D : KtsDicts (frs outer) h₀) :
    KtsDicts (frs (env :: outer)) (hideAll s.heap (news.map (·.1))) ∧ ∀ v s', LeaveT A₀ base env outer h₀ L m (hideAll s.heap (news.map (·.1))) R v s' → R (.ok (.ret v)) s' := by
  refine and4 (groundX (R := R) B F N hA hf hke) fun FG BG st _ => ?_
  refine ex3 FG.ns fun oL es ep zz => and4 zz fun hLg hLd hLk hLf => ?_
  have nL₀ : h₀.get? L = none := kts_self F
  refine ⟨fun b hb => ?_, fun v s' hl => ?_⟩
  · rcases frs_mem hf hb with rfl | hb
    · exact ⟨oL, es, ep, hLg, hLd⟩
    · refine ex3 (D b hb) fun o es' n' zz => and2 zz fun ho' hd' => ?_
      exact ⟨o, es', n', st b o ho', hd'⟩
  · (refine ex4 hl fun g' L' m' news' zz => and4 zz fun T' F' N' k => ?_; try clear hl)
    refine ex1 (T'.up hLg) fun sl hs => ?_
    obtain ⟨T₁, S₁⟩ := kts_turn_at (h := s'.heap) (fs := frs outer) (g := h₀)
      (fun b hb => by
        refine and2 (B.frames.mem hb) fun _ zz => ex1 zz fun o zz => and2 zz fun ho' _ => ?_
        exact ⟨o, ho'⟩)
      (fun b o e nmem => F'.keep b o (T'.other b o (st b o e) (fun q => by
        rcases frs_mem hf q with z | z
        · rw [z, nL₀] at e
          cases e
        · exact nmem z)))
      (fun b o e hm => by
        refine ex1 (T'.up (st b o e)) fun sl' hs' => ?_
        exact ⟨sl', F'.keep _ _ hs'⟩)
    have B₃ : Below A₀ base outer (ktsHeap s'.heap (frs outer) h₀) := ⟨B.stack, fun b o e => T₁.other b o (B.stays b o e) (fun hm => by
      rw [(B.frames.mem hm).1] at e
      cases e), B.frames.of_keeps fun b o e _ => by
      refine ex1 (T₁.up e) fun sl' hs' => ?_
      exact ⟨_, hs', rfl⟩⟩
    refine k _ T₁ ⟨⟨_, es, ep, F'.keep _ _ hs, hLd, hLk, hLf⟩, S₁, by rw [T₁.size]; exact F.above⟩ (fun p hp => ⟨(N' p hp).1, fun q => ?_, ?_⟩) B₃ (D.turn T₁)
    · have := (N' p hp).2.2; rw [q, hs] at this; cases this
    · refine T₁.none_ _ ?_
      cases q : h₀.get? p.1 with
      | none => rfl
      | some o =>
        refine ex1 (T'.up (st _ _ q)) fun sl' hs' => ?_
        have := (N' p hp).2.2
        rw [hs'] at this
        cases this
theorem code_defT (B : Below A₀ base outer h₀) (F : Fr h₀ L s.heap m) (X₀ : K.In h₀) (N : News h₀ L s.heap news) (T : Top p loose mean mg mb h₀) (D : KtsDicts (frs outer) h₀) (hA : A.frames = some (env :: outer)) (hf : env.frame = some L) (hke : env.scope.kind = .function)
    (ho : K.lookup f = some ⟨oc, od, .func (fnOf name qual params body scope dV kV doc pm an cdv ct), osl⟩) (hcd : codeIn K cdv qual = true) (hroom : A.depth < recursionLimit)
    (hbind : BindsTo s (fnOf name qual params body scope dV kV doc pm an cdv ct) args binds) (hloc : ∀ y ∈ binds, scope.names.lookup y.1 = some .local)
    (h : ∀ g L' h₁, Fr h₀ L g m → Fr g L' h₁ (fun y => binds.reverse.lookup y) → News g L' h₁ news → Below A base (env :: outer) g → K.In g → Top p loose mean mg mb g → KtsDicts (frs (env :: outer)) g →
      wpAny (model prog w) (A.deeper (envOf qual scope L' f cdv)) (execs body (envOf qual scope L' f cdv))
        (fun fl s' => LeaveT A₀ base env outer h₀ L m g R (match fl with | .ret v => v | _ => .none) s')
        (fun e s' => wpAny (model prog w) (A.deeper (envOf qual scope L' f cdv)) (leaving (envOf qual scope L' f cdv) e) (fun _ s'' => R (.error e) s'') (fun e' s'' => R (.error e') s'') s')
        { s with heap := h₁, toks := s.toks + binds.length })
    (hco : scope.isCoroutine = false) (hgen : scope.isGenerator = false) (hk : scope.kind = .function)
    (hcell : ∀ x ∈ scope.names, x.2 ≠ .cell) : codeAny (model prog w) A (.call (.ref f) args) R s := by
  have X := X₀.keeps F.keep
  refine and4 (groundX (R := R) B F N hA hf hke) fun FG BG st _ => ?_
  refine and2 (leaveT (R := R) B F N hA hf hke D) fun DG lv => ?_
  refine codeAny_call_def (fd := fnOf name qual params body scope dV kV doc pm an cdv ct) (body := body) (binds := binds) hroom (X _ _ ho) rfl (T.nolimit.keeps F.keep) (codeRec_of X hcd) rfl hbind hcell hloc (fun h₁ hns hk₁ => ?_) hco hgen hk
  exact wpAny_mono (h _ s.heap.objs.size h₁ FG ⟨hns, fun b o e => hk₁ b o (of_hideAll _ e), Nat.le_of_eq (hideAll_size _ _)⟩
    (fun p hp => ⟨hk₁ _ _ (N p hp).1, Nat.ne_of_lt (Heap.lt_size (N p hp).1), hideAll_none _ (List.mem_map_of_mem hp)⟩) BG (X₀.keeps st) (T.keeps st) DG) (fun fl s' hl => lv _ _ hl) fun _ _ y => y
end
end
end
section
section
structure StopIf : Prop where
  x : True
structure StopEx : Prop where
  x : True
structure Fm (K : Type) where
  nd : Nd K
  v : Value
  mw : Addr
  it : Addr
  p : Nat
structure Fc (K : Type) where
  a1 : Addr
  a2 : Addr
  a3 : Addr
  a4 : Addr
  st : List (Fm K)
  seen : K → Bool
section
variable {K : Type} [DecidableEq K]
def Fm.foot (f : Fm K) : List Addr := [f.mw, f.it]
def Fc.foot (c : Fc K) : List Addr := c.a1 :: c.a2 :: c.a3 :: c.a4 :: c.st.flatMap Fm.foot
def unseen (nodes : List (Nd K)) (seen : K → Bool) : List (Nd K) := nodes.filter fun n => !seen n.key
def wk (n : Nd K) : Nat := n.succ.length + 1
def Fc.todo (c : Fc K) (nodes : List (Nd K)) : Nat := ((unseen nodes c.seen).map wk).sum + (c.st.map fun f => f.nd.succ.length - f.p).sum
end
section
variable {prog : Program} {w : World} {K : Type} [DecidableEq K] (knd : KeyKind prog w K) (cS cN : Addr)
structure FcIn (news₀ l : Led) (σ : Srt K) (c : Fc K) : Prop where
  sin : SIn knd cS cN l σ
  stk : ∃ e, (c.a1, W.listOf (c.st.map (·.v)).toArray e) ∈ l
  its : ∃ e, (c.a2, W.listOf (c.st.map fun f => Value.ref f.mw).toArray e) ∈ l
  sen : ∃ so n, (c.a3, so) ∈ l ∧ so.SetObjOf knd c.seen n ∧ n + (unseen σ.nodes c.seen).length = σ.nodes.length
  pos : ∃ od kvs, (c.a4, od) ∈ l ∧ od.IsDictOf knd kvs ∧ kvs.map (·.1) = c.st.map (·.nd.key)
  lo : (c.a4 == sysModules) = false
  frs : ∀ f ∈ c.st, f.nd ∈ σ.nodes ∧ knd.is f.nd.key f.v = true ∧ (f.mw, mwObj f.it) ∈ l ∧ (f.it, litObj f.nd.as f.p) ∈ l
  foot : c.foot.Nodup
  sep : ∀ x ∈ c.foot, x ∉ σ.foot
  old : ∀ p ∈ news₀, p ∈ l ∧ p.1 ∉ c.foot
variable {knd cS cN} {news₀ l l' : Led} {σ : Srt K} {c : Fc K}
theorem FcIn.sub (h : FcIn knd cS cN news₀ l σ c) (hs : ∀ p ∈ l, p ∈ l') : FcIn knd cS cN news₀ l' σ c := by
  refine ex1 h.stk fun e1 h1 => ?_
  refine ex1 h.its fun e2 h2 => ?_
  refine ex2 h.sen fun so n zz => and3 zz fun h3 h4 h5 => ?_
  refine ex2 h.pos fun od kvs zz => and3 zz fun h6 h7 h8 => ?_
  exact ⟨h.sin.sub hs, ⟨e1, hs _ h1⟩, ⟨e2, hs _ h2⟩, ⟨so, n, hs _ h3, h4, h5⟩, ⟨od, kvs, hs _ h6, h7, h8⟩, h.lo, fun f hf => ⟨(h.frs f hf).1, (h.frs f hf).2.1, hs _ (h.frs f hf).2.2.1, hs _ (h.frs f hf).2.2.2⟩, h.foot, h.sep, fun p hp => ⟨hs _ (h.old p hp).1, (h.old p hp).2⟩⟩
theorem mem_fc_foot {f : Fm K} {x : Addr} (hf : f ∈ c.st) (hx : x ∈ f.foot) : x ∈ c.foot := by
  unfold Fc.foot
  exact .tail _ (.tail _ (.tail _ (.tail _ (List.mem_flatMap.mpr ⟨f, hf, hx⟩))))
structure FcSep (c : Fc K) : Prop where
  n12 : c.a1 ≠ c.a2
  n13 : c.a1 ≠ c.a3
  n14 : c.a1 ≠ c.a4
  n23 : c.a2 ≠ c.a3
  n24 : c.a2 ≠ c.a4
  n34 : c.a3 ≠ c.a4
  f1 : ∀ f ∈ c.st, ∀ x ∈ f.foot, x ≠ c.a1
  f2 : ∀ f ∈ c.st, ∀ x ∈ f.foot, x ≠ c.a2
  f3 : ∀ f ∈ c.st, ∀ x ∈ f.foot, x ≠ c.a3
  f4 : ∀ f ∈ c.st, ∀ x ∈ f.foot, x ≠ c.a4
theorem fc_sep (h : c.foot.Nodup) : FcSep c := by
  unfold Fc.foot at h
  simp only [List.nodup_cons, List.mem_cons, not_or] at h
  obtain ⟨⟨h12, h13, h14, h1⟩, ⟨h23, h24, h2⟩, ⟨h34, h3⟩, h4, _⟩ := h
  have fl : ∀ f ∈ c.st, ∀ x ∈ f.foot, x ∈ c.st.flatMap Fm.foot := fun f hf x hx => List.mem_flatMap.mpr ⟨f, hf, hx⟩
  exact ⟨h12, h13, h14, h23, h24, h34, fun f hf x hx e => h1 (e ▸ fl f hf x hx), fun f hf x hx e => h2 (e ▸ fl f hf x hx), fun f hf x hx e => h3 (e ▸ fl f hf x hx), fun f hf x hx e => h4 (e ▸ fl f hf x hx)⟩
theorem unseen_add {nodes : List (Nd K)} {seen : K → Bool} {n : Nd K} (hk : (nodes.map (·.key)).Nodup) (hn : n ∈ nodes) (hs : seen n.key = false) (g : Nd K → Nat) :
    ((unseen nodes fun k => seen k || decide (k = n.key)).map g).sum + g n = ((unseen nodes seen).map g).sum ∧ (unseen nodes fun k => seen k || decide (k = n.key)).length + 1 = (unseen nodes seen).length := by
  unfold unseen
  induction nodes with
  | nil => cases hn
  | cons x r ih =>
    rw [List.map_cons, List.nodup_cons] at hk
    rcases List.mem_cons.mp hn with rfl | hn
    · have hr : (r.filter fun y => !(seen y.key || decide (y.key = n.key))) = r.filter fun y => !seen y.key := by
        refine List.filter_congr fun y hy => ?_
        have : y.key ≠ n.key := fun e => hk.1 (by rw [← e]; exact List.mem_map_of_mem hy)
        simp [this]
      simp only [List.filter_cons, hs, Bool.false_or, decide_true, Bool.not_true, Bool.false_eq_true, if_false, Bool.not_false, if_true, hr, List.map_cons, List.sum_cons, List.length_cons]
      exact ⟨by omega, trivial⟩
    · have hx : x.key ≠ n.key := fun e => hk.1 (by rw [e]; exact List.mem_map_of_mem hn)
      refine and2 (ih hk.2 hn) fun u1 u2 => ?_
      by_cases hsx : seen x.key = true
      · simp only [List.filter_cons, hsx, Bool.true_or, Bool.not_true, Bool.false_eq_true, if_false]
        exact ⟨u1, u2⟩
      · have hsx : seen x.key = false := by simpa using hsx
        simp only [List.filter_cons, hsx, hx, decide_false, Bool.or_false, Bool.not_false, if_true, List.map_cons, List.sum_cons, List.length_cons]
        dsimp only at u1 u2
        exact ⟨by omega, by omega⟩
def Fc.push (c : Fc K) (f : Fm K) : Fc K := { c with st := c.st ++ [f], seen := fun k => c.seen k || decide (k = f.nd.key) }
def Fc.adv (c : Fc K) (st : List (Fm K)) (f : Fm K) : Fc K := { c with st := st ++ [{ f with p := f.p + 1 }] }
def Fc.pop (c : Fc K) (st : List (Fm K)) : Fc K := { c with st := st }
theorem FcIn.push (h : FcIn knd cS cN news₀ l σ c) {f : Fm K} (hn : f.nd ∈ σ.nodes) (hv : knd.is f.nd.key f.v = true) (hs : c.seen f.nd.key = false) {e1 e2 : Nat} {so od : Obj} {k : Nat} {kvs : List (K × Value)}
    (m1 : (c.a1, W.listOf (c.st.map (·.v) ++ [f.v]).toArray e1) ∈ l') (m2 : (c.a2, W.listOf ((c.st.map fun f => Value.ref f.mw) ++ [Value.ref f.mw]).toArray e2) ∈ l') (m3 : (c.a3, so) ∈ l') (s3 : so.SetObjOf knd (fun k' => c.seen k' || decide (k' = f.nd.key)) (k + 1)) (hk : k + (unseen σ.nodes c.seen).length = σ.nodes.length)
    (m4 : (c.a4, od) ∈ l') (s4 : od.IsDictOf knd kvs) (k4 : kvs.map (·.1) = c.st.map (·.nd.key) ++ [f.nd.key]) (m5 : (f.mw, mwObj f.it) ∈ l') (m6 : (f.it, litObj f.nd.as f.p) ∈ l')
    (n5 : ∀ p ∈ l, p.1 ≠ f.mw) (n6 : ∀ p ∈ l, p.1 ≠ f.it) (n56 : f.mw ≠ f.it) (sF : ∀ x ∈ σ.foot, ∃ o, (x, o) ∈ l)
    (keep : ∀ p ∈ l, p.1 ≠ c.a1 → p.1 ≠ c.a2 → p.1 ≠ c.a3 → p.1 ≠ c.a4 → p ∈ l') : FcIn knd cS cN news₀ l' σ (c.push f) := by
  have sp := fc_sep h.foot
  refine ex1 h.stk fun _ h1 => ?_
  refine ex1 h.its fun _ h2 => ?_
  refine ex2 h.sen fun _ _ zz => and2 zz fun h3 _ => ?_
  refine ex2 h.pos fun _ _ zz => and2 zz fun h4 _ => ?_
  have old : ∀ x ∈ c.foot, ∃ o, (x, o) ∈ l := fun x hx => by
    unfold Fc.foot at hx
    simp only [List.mem_cons, List.mem_flatMap] at hx
    rcases hx with rfl | rfl | rfl | rfl | ⟨g, hg, hx⟩
    · exact ⟨_, h1⟩
    · exact ⟨_, h2⟩
    · exact ⟨_, h3⟩
    · exact ⟨_, h4⟩
    · have := h.frs g hg
      simp only [Fm.foot, List.mem_cons, List.not_mem_nil, or_false] at hx
      rcases hx with rfl | rfl
      · exact ⟨_, this.2.2.1⟩
      · exact ⟨_, this.2.2.2⟩
  have hf : (c.push f).foot = c.foot ++ f.foot := by simp [Fc.push, Fc.foot, List.flatMap_append]
  have sf : ∀ x ∈ σ.foot, x ≠ c.a1 ∧ x ≠ c.a2 ∧ x ≠ c.a3 ∧ x ≠ c.a4 := fun x hx =>
    ⟨fun e => h.sep c.a1 (by simp [Fc.foot]) (e ▸ hx), fun e => h.sep c.a2 (by simp [Fc.foot]) (e ▸ hx), fun e => h.sep c.a3 (by simp [Fc.foot]) (e ▸ hx), fun e => h.sep c.a4 (by simp [Fc.foot]) (e ▸ hx)⟩
  have un := unseen_add h.sin.keysNodup hn hs wk
  refine ⟨h.sin.mono fun p hp ha => keep p hp (sf _ ha).1 (sf _ ha).2.1 (sf _ ha).2.2.1 (sf _ ha).2.2.2, ⟨e1, by simpa [Fc.push] using m1⟩, ⟨e2, by simpa [Fc.push] using m2⟩, ⟨so, k + 1, m3, s3, ?_⟩, ⟨od, kvs, m4, s4, by simpa [Fc.push] using k4⟩, h.lo, ?_, ?_, ?_, ?_⟩
  · show k + 1 + (unseen σ.nodes fun k' => c.seen k' || decide (k' = f.nd.key)).length = _
    omega
  · intro g hg
    rcases List.mem_append.mp (show g ∈ c.st ++ [f] from hg) with hg | hg
    · have := h.frs g hg
      exact ⟨this.1, this.2.1, keep _ this.2.2.1 (sp.f1 g hg _ (by simp [Fm.foot])) (sp.f2 g hg _ (by simp [Fm.foot])) (sp.f3 g hg _ (by simp [Fm.foot])) (sp.f4 g hg _ (by simp [Fm.foot])),
        keep _ this.2.2.2 (sp.f1 g hg _ (by simp [Fm.foot])) (sp.f2 g hg _ (by simp [Fm.foot])) (sp.f3 g hg _ (by simp [Fm.foot])) (sp.f4 g hg _ (by simp [Fm.foot]))⟩
    · rw [List.mem_singleton.mp hg]
      exact ⟨hn, hv, m5, m6⟩
  · rw [hf, List.nodup_append]
    refine ⟨h.foot, by simp [Fm.foot, n56], fun x hx y hy e => ?_⟩
    refine ex1 (old x hx) fun o ho => ?_
    simp only [Fm.foot, List.mem_cons, List.not_mem_nil, or_false] at hy
    rcases hy with rfl | rfl
    · exact n5 _ ho e
    · exact n6 _ ho e
  · intro x hx
    rw [hf] at hx
    rcases List.mem_append.mp hx with hx | hx
    · exact h.sep x hx
    · intro hσ
      refine ex1 (sF x hσ) fun o ho => ?_
      simp only [Fm.foot, List.mem_cons, List.not_mem_nil, or_false] at hx
      rcases hx with rfl | rfl
      · exact n5 _ ho rfl
      · exact n6 _ ho rfl
  · intro p hp
    refine and2 (h.old p hp) fun q1 q2 => ?_
    have d : ∀ x ∈ c.foot, p.1 ≠ x := fun x hx e => q2 (e ▸ hx)
    refine ⟨keep p q1 (d _ (by simp [Fc.foot])) (d _ (by simp [Fc.foot])) (d _ (by simp [Fc.foot])) (d _ (by simp [Fc.foot])), ?_⟩
    rw [hf]
    intro hx
    rcases List.mem_append.mp hx with hx | hx
    · exact q2 hx
    · simp only [Fm.foot, List.mem_cons, List.not_mem_nil, or_false] at hx
      rcases hx with e | e
      · exact n5 _ q1 e
      · exact n6 _ q1 e
theorem FcIn.adv (h : FcIn knd cS cN news₀ l σ c) {st : List (Fm K)} {f : Fm K} (hst : c.st = st ++ [f]) (m : (f.it, litObj f.nd.as (f.p + 1)) ∈ l') (keep : ∀ p ∈ l, p.1 ≠ f.it → p ∈ l') : FcIn knd cS cN news₀ l' σ (c.adv st f) := by
  have sp := fc_sep h.foot
  have hfm : f ∈ c.st := by rw [hst]; simp
  have hff : (c.adv st f).foot = c.foot := by simp [Fc.adv, Fc.foot, hst, Fm.foot]
  have hit : f.it ∈ c.foot := mem_fc_foot hfm (by simp [Fm.foot])
  refine ex1 h.stk fun e1 h1 => ?_
  refine ex1 h.its fun e2 h2 => ?_
  refine ex2 h.sen fun so n zz => and3 zz fun h3 h4 h5 => ?_
  refine ex2 h.pos fun od kvs zz => and3 zz fun h6 h7 h8 => ?_
  have q1 := sp.f1 f hfm f.it (by simp [Fm.foot])
  have q2 := sp.f2 f hfm f.it (by simp [Fm.foot])
  have q3 := sp.f3 f hfm f.it (by simp [Fm.foot])
  have q4 := sp.f4 f hfm f.it (by simp [Fm.foot])
  have hnd := h.foot
  unfold Fc.foot at hnd
  simp only [List.nodup_cons] at hnd
  have hnd := hnd.2.2.2.2
  rw [hst, List.flatMap_append, List.nodup_append] at hnd
  have q5 : f.mw ≠ f.it := by have := hnd.2.1; simp [Fm.foot] at this; exact this
  refine ⟨h.sin.mono fun p hp ha => keep p hp fun e => h.sep _ hit (e ▸ ha), ⟨e1, ?_⟩, ⟨e2, ?_⟩, ⟨so, n, keep _ h3 (Ne.symm q3), h4, h5⟩, ⟨od, kvs, keep _ h6 (Ne.symm q4), h7, ?_⟩, h.lo, ?_, by rw [hff]; exact h.foot, by rw [hff]; exact h.sep, fun p hp => ⟨keep p (h.old p hp).1 fun e => (h.old p hp).2 (e ▸ hit), by rw [hff]; exact (h.old p hp).2⟩⟩
  · have := keep _ h1 (Ne.symm q1)
    rw [hst] at this
    simpa [Fc.adv] using this
  · have := keep _ h2 (Ne.symm q2)
    rw [hst] at this
    simpa [Fc.adv] using this
  · rw [h8, hst]; simp [Fc.adv]
  · intro g hg
    rcases List.mem_append.mp (show g ∈ st ++ [_] from hg) with hg | hg
    · have := h.frs g (by rw [hst]; exact List.mem_append_left _ hg)
      have ne : ∀ x ∈ g.foot, x ≠ f.it := fun x hx => hnd.2.2 x (List.mem_flatMap.mpr ⟨g, hg, hx⟩) f.it (by simp [Fm.foot])
      exact ⟨this.1, this.2.1, keep _ this.2.2.1 (ne _ (by simp [Fm.foot])), keep _ this.2.2.2 (ne _ (by simp [Fm.foot]))⟩
    · rw [List.mem_singleton.mp hg]
      have := h.frs f hfm
      exact ⟨this.1, this.2.1, keep _ this.2.2.1 q5, m⟩
theorem FcIn.pop (h : FcIn knd cS cN news₀ l σ c) {st : List (Fm K)} {f : Fm K} (hst : c.st = st ++ [f]) {e1 e2 : Nat} {od : Obj} {kvs : List (K × Value)}
    (m1 : (c.a1, W.listOf (st.map (·.v)).toArray e1) ∈ l') (m2 : (c.a2, W.listOf (st.map fun f => Value.ref f.mw).toArray e2) ∈ l') (m4 : (c.a4, od) ∈ l') (s4 : od.IsDictOf knd kvs) (k4 : kvs.map (·.1) = st.map (·.nd.key))
    (keep : ∀ p ∈ l, p.1 ≠ c.a1 → p.1 ≠ c.a2 → p.1 ≠ c.a4 → p.1 ≠ f.it → p.1 ≠ f.mw → p ∈ l') : FcIn knd cS cN news₀ l' σ (c.pop st) := by
  have sp := fc_sep h.foot
  have hfm : f ∈ c.st := by rw [hst]; simp
  refine ex2 h.sen fun so n zz => and3 zz fun h3 h4 h5 => ?_
  have hnd := h.foot
  unfold Fc.foot at hnd
  simp only [List.nodup_cons] at hnd
  have hnd := hnd.2.2.2.2
  rw [hst, List.flatMap_append, List.nodup_append] at hnd
  have sub : ∀ x ∈ (c.pop st).foot, x ∈ c.foot := fun x hx => by
    have : c.foot = (c.pop st).foot ++ f.foot := by simp [Fc.pop, Fc.foot, hst, List.flatMap_append]
    rw [this]; exact List.mem_append_left _ hx
  have sf : ∀ x ∈ σ.foot, x ≠ c.a1 ∧ x ≠ c.a2 ∧ x ≠ c.a4 ∧ x ≠ f.it ∧ x ≠ f.mw := fun x hx =>
    ⟨fun e => h.sep c.a1 (by simp [Fc.foot]) (e ▸ hx), fun e => h.sep c.a2 (by simp [Fc.foot]) (e ▸ hx), fun e => h.sep c.a4 (by simp [Fc.foot]) (e ▸ hx), fun e => h.sep f.it (mem_fc_foot hfm (by simp [Fm.foot])) (e ▸ hx), fun e => h.sep f.mw (mem_fc_foot hfm (by simp [Fm.foot])) (e ▸ hx)⟩
  refine ⟨h.sin.mono fun p hp ha => keep p hp (sf _ ha).1 (sf _ ha).2.1 (sf _ ha).2.2.1 (sf _ ha).2.2.2.1 (sf _ ha).2.2.2.2, ⟨e1, m1⟩, ⟨e2, m2⟩, ⟨so, n, keep _ h3 (Ne.symm sp.n13) (Ne.symm sp.n23) sp.n34 (Ne.symm (sp.f3 f hfm _ (by simp [Fm.foot]))) (Ne.symm (sp.f3 f hfm _ (by simp [Fm.foot]))), h4, h5⟩, ⟨od, kvs, m4, s4, k4⟩, h.lo, ?_, ?_, fun x hx => h.sep x (sub x hx), fun p hp => ?_⟩
  · intro g hg
    have hg' : g ∈ st := hg
    have hgc : g ∈ c.st := by rw [hst]; exact List.mem_append_left _ hg'
    have := h.frs g hgc
    have ne : ∀ x ∈ g.foot, ∀ y ∈ f.foot, x ≠ y := fun x hx y hy => hnd.2.2 x (List.mem_flatMap.mpr ⟨g, hg', hx⟩) y (by simpa using hy)
    have i1 : f.it ∈ f.foot := by simp [Fm.foot]
    have i2 : f.mw ∈ f.foot := by simp [Fm.foot]
    have j1 : g.it ∈ g.foot := by simp [Fm.foot]
    have j2 : g.mw ∈ g.foot := by simp [Fm.foot]
    exact ⟨this.1, this.2.1, keep _ this.2.2.1 (sp.f1 g hgc _ j2) (sp.f2 g hgc _ j2) (sp.f4 g hgc _ j2) (ne _ j2 _ i1) (ne _ j2 _ i2), keep _ this.2.2.2 (sp.f1 g hgc _ j1) (sp.f2 g hgc _ j1) (sp.f4 g hgc _ j1) (ne _ j1 _ i1) (ne _ j1 _ i2)⟩
  · have := h.foot
    have e : c.foot = (c.pop st).foot ++ f.foot := by simp [Fc.pop, Fc.foot, hst, List.flatMap_append]
    rw [e, List.nodup_append] at this
    exact this.1
  · refine and2 (h.old p hp) fun q1 q2 => ?_
    have d : ∀ x ∈ c.foot, p.1 ≠ x := fun x hx e => q2 (e ▸ hx)
    exact ⟨keep p q1 (d _ (by simp [Fc.foot])) (d _ (by simp [Fc.foot])) (d _ (by simp [Fc.foot])) (d _ (mem_fc_foot hfm (by simp [Fm.foot]))) (d _ (mem_fc_foot hfm (by simp [Fm.foot]))), fun hx => q2 (sub _ hx)⟩
theorem SIn.footG (S : SIn knd cS cN l σ) {a : Addr} (ha : a ∈ σ.foot) : ∃ o, (a, o) ∈ l := by
  unfold Srt.foot at ha
  simp only [List.mem_cons, List.mem_append, List.mem_flatMap] at ha
  refine ex6 S.dict fun k1 k2 k3 k4 tp tf h2 => ?_
  refine ex1 S.n2i fun od zz => and2 zz fun h3 h4 => ?_
  rcases ha with rfl | rfl | rfl | ha | ⟨n, hn, ha⟩
  · exact ⟨_, S.inst⟩
  · exact ⟨_, h2⟩
  · exact ⟨_, h3⟩
  · cases hr : σ.rdy with
    | none => rw [hr] at ha; cases ha
    | some q =>
      obtain ⟨r, ks⟩ := q
      rw [hr] at ha
      simp only [rdyF, List.mem_singleton] at ha
      refine ex2 (S.rdy r ks hr) fun vs ep zz => and2 zz fun h _ => ?_
      exact ⟨_, ha ▸ h⟩
  · obtain ⟨⟨v, t, _, m1⟩, m2, vs, ep, m3, _⟩ := S.nds n hn
    simp only [Nd.foot, List.mem_cons, List.not_mem_nil, or_false] at ha
    rcases ha with rfl | rfl | rfl
    · exact ⟨_, m1⟩
    · exact ⟨_, m2⟩
    · exact ⟨_, m3⟩
theorem fc_init {a1 a2 a3 a4 : Addr} {o3 o4 : Obj} (S : SIn knd cS cN l σ) (l1 : AllLt a1 l) (l2 : AllLt a2 l) (l3 : AllLt a3 l) (l4 : AllLt a4 l) (h12 : a1 < a2) (h13 : a1 < a3) (h14 : a1 < a4) (h23 : a2 < a3) (h24 : a2 < a4) (h34 : a3 < a4)
    (s3 : o3.SetObjOf knd (fun _ => false) 0) (s4 : o4.IsDictOf knd []) (lo : (a4 == sysModules) = false) :
    FcIn knd cS cN l ((a4, o4) :: (a3, o3) :: (a2, W.listOf #[] 0) :: (a1, W.listOf #[] 0) :: l) σ ⟨a1, a2, a3, a4, [], fun _ => false⟩ := by
  have sp : ∀ p ∈ l, p.1 ∉ ({ a1 := a1, a2 := a2, a3 := a3, a4 := a4, st := [], seen := fun _ => false } : Fc K).foot := fun p hp hx => by
    simp only [Fc.foot, List.flatMap_nil, List.mem_cons, List.not_mem_nil, or_false] at hx
    rcases hx with e | e | e | e
    · exact ne_of_allLt l1 p hp e
    · exact ne_of_allLt l2 p hp e
    · exact ne_of_allLt l3 p hp e
    · exact ne_of_allLt l4 p hp e
  refine ⟨S.sub fun p hp => by simp [hp], ⟨0, by simp⟩, ⟨0, by simp⟩, ⟨o3, 0, by simp, s3, ?_⟩, ⟨o4, [], by simp, s4, rfl⟩, lo, fun f hf => (by cases hf), ?_, fun x hx hσ => ?_, fun p hp => ⟨by simp [hp], sp p hp⟩⟩
  · unfold unseen; simp
  · simp only [Fc.foot, List.flatMap_nil, List.nodup_cons, List.mem_cons, List.not_mem_nil, or_false, not_or, List.nodup_nil, and_true, not_false_eq_true]
    exact ⟨⟨Nat.ne_of_lt h12, Nat.ne_of_lt h13, Nat.ne_of_lt h14⟩, ⟨Nat.ne_of_lt h23, Nat.ne_of_lt h24⟩, Nat.ne_of_lt h34⟩
  · refine ex1 (S.footG hσ) fun o ho => ?_
    exact sp _ ho hx
theorem FcIn.base {news₁ : Led} (h : FcIn knd cS cN news₀ l σ c) (hs : ∀ p ∈ l, p.1 ∈ c.foot ∨ p.1 ∈ σ.foot → p ∈ l') (ho : ∀ p ∈ news₁, p ∈ l' ∧ p.1 ∉ c.foot) : FcIn knd cS cN news₁ l' σ c := by
  refine ex1 h.stk fun e1 h1 => ?_
  refine ex1 h.its fun e2 h2 => ?_
  refine ex2 h.sen fun so n zz => and3 zz fun h3 h4 h5 => ?_
  refine ex2 h.pos fun od kvs zz => and3 zz fun h6 h7 h8 => ?_
  exact ⟨h.sin.mono fun p hp ha => hs p hp (.inr ha), ⟨e1, hs _ h1 (.inl (by simp [Fc.foot]))⟩, ⟨e2, hs _ h2 (.inl (by simp [Fc.foot]))⟩, ⟨so, n, hs _ h3 (.inl (by simp [Fc.foot])), h4, h5⟩, ⟨od, kvs, hs _ h6 (.inl (by simp [Fc.foot])), h7, h8⟩, h.lo,
    fun f hf => ⟨(h.frs f hf).1, (h.frs f hf).2.1, hs _ (h.frs f hf).2.2.1 (.inl (mem_fc_foot hf (by simp [Fm.foot]))), hs _ (h.frs f hf).2.2.2 (.inl (mem_fc_foot hf (by simp [Fm.foot])))⟩, h.foot, h.sep, ho⟩
def Vars (m : Str → Option Value) (σ : Srt K) (c : Fc K) : Prop :=
  m "n2i" = some (.ref σ.nd) ∧ m "stack" = some (.ref c.a1) ∧ m "itstack" = some (.ref c.a2) ∧ m "seen" = some (.ref c.a3) ∧ m "node2stacki" = some (.ref c.a4)
theorem nodup_le {α : Type} [DecidableEq α] : ∀ {l l' : List α}, l.Nodup → (∀ x ∈ l, x ∈ l') → l.length ≤ l'.length
  | [], _, _, _ => Nat.zero_le _
  | x :: r, l', hn, hs => by
    rw [List.nodup_cons] at hn
    have hx : x ∈ l' := hs x (.head _)
    have : r.length ≤ (l'.erase x).length := nodup_le hn.2 fun y hy => (List.mem_erase_of_ne (fun (e : y = x) => hn.1 (e ▸ hy))).mpr (hs y (.tail _ hy))
    rw [List.length_erase_of_mem hx] at this
    have hp : 0 < l'.length := List.length_pos_of_mem hx
    rw [List.length_cons]
    omega
theorem FcIn.len (h : FcIn knd cS cN news₀ l σ c) : c.st.length ≤ σ.nodes.length := by
  (refine ex2 h.pos ?_; rintro od kvs zz; refine and3 zz ?_; try clear zz; rintro _ ⟨_, _, _, _, _, _, hn⟩ e)
  rw [e] at hn
  have := nodup_le hn (l' := σ.nodes.map (·.key)) fun x hx => by
    (have zz := List.mem_map.mp hx; refine ex1 zz ?_; try clear zz; rintro f zz; refine and2 zz ?_; try clear zz; rintro hf rfl)
    exact List.mem_map_of_mem (h.frs f hf).1
  simpa using this
end
section
variable {prog : Program} {w : World} {A : Around} {E : Value → Shared → Prop} {s : Shared} {h₀ : Heap} {L sa : Addr} {news : Led} {so : Obj} {K : Type} [DecidableEq K] [BEq K] [LawfulBEq K] {knd : KeyKind prog w K} {S : K → Bool} {n : Nat} {k : K} {key : Value} {b : Bool} {m : Str → Option Value}
end
end
end
section
section
section
variable {prog : Program} {w : World} {A : Around} {E : Value → Shared → Prop} {s : Shared} {h₀ : Heap} {L l it mw D : Addr} {m : Str → Option Value} {news : Led} {items : Array Value} {n i : Nat}
theorem iter_listN {Q : Value → Shared → Prop} (F : Fr h₀ L s.heap m) (N : News h₀ L s.heap news) (hm : (l, W.listOf items n) ∈ news)
    (h : ∀ I h', Fr h₀ L h' m → News h₀ L h' ((I, litObj l 0) :: news) → (∀ p ∈ news, p.1 < I) → Q (.ref I) { s with heap := h' }) :
    wpAny (model prog w) A (call (.builtin "iter") [.ref l]) Q E s := by
  refine call_function_entry (by decide +kernel) (by decide +kernel) kdk_entry_iter (kdk_args_iter _) ?_
  unfold Builtin.«iter»
  refine wpAny_bind (m := someArgs "iter" 1 2 _) (wpAny_of_eq (a := [Value.ref l]) (by first | rfl | kernel_rfl!) ?_)
  show wpAny _ _ (pyIter (.ref l) >>= _) _ _ _
  refine wpAny_bind (wpAny_pyIter_list (items := items) ⟨_, (N _ hm).1, rfl, n, rfl⟩ ?_)
  exact wpAny_pure ⟨_, rfl, h _ _ (F.push _) (News.push F N _ rfl) fun q hq => Heap.lt_size (N q hq).1⟩
theorem nextattr_N {Q : Value → Shared → Prop} (F : Fr h₀ L s.heap m) (N : News h₀ L s.heap news) (hm : (it, litObj l i) ∈ news)
    (h : ∀ I h', Fr h₀ L h' m → News h₀ L h' ((I, mwObj it) :: news) → (∀ p ∈ news, p.1 < I) → Q (.ref I) { s with heap := h', toks := s.toks + 1 }) :
    wpAny (model prog w) A (getAttr (.ref it) "__next__" true) Q E s :=
  getattr_next (N _ hm).1 rfl rfl rfl (h _ _ (F.push _) (News.push F N _ rfl) fun q hq => Heap.lt_size (N q hq).1)
theorem item_lastN {value slice : PySem.Expr} {vs : List Value} {v : Value} {u : Tok} {Q : Value → Shared → Prop} (N : News h₀ L s.heap news) (hm : (l, W.listOf (vs ++ [v]).toArray n) ∈ news) (h : Q v s)
    (hs : autoParam (subscripted slice false (.ref l) (.int (-1) u) = operate [.ref l, .int (-1) u] (getItem (.ref l) (.int (-1) u))) autoE) :
    wpAny (model prog w) A (subscriptTail value slice (.ref l) (.int (-1) u)) Q E s := by
  refine kde_neg (vs := vs ++ [v]) (j := vs.length) (v := v) ⟨_, (N _ hm).1, rfl, n, rfl⟩ (by decide) (by decide) ?_ (by simp) h hs
  rw [List.length_append, List.length_singleton]
  unfold seqIndex?
  have e1 : (-1 : Int) < 0 := by decide
  simp only [e1, if_true]
  have e2 : ((-1 : Int) + ((vs.length + 1 : Nat) : Int)) = vs.length := by push_cast; omega
  first
  | (rw [e2]; simp; omega)
  | (rw [e2]; simp)
  | (simp; try omega)
theorem mw_item {x : Value} {Q : Value → Shared → Prop} (F : Fr h₀ L s.heap m) (N : News h₀ L s.heap news) (hn : (news.map (·.1)).Nodup) (hm1 : (mw, mwObj it) ∈ news) (hm2 : (it, litObj l i) ∈ news) (hm3 : (l, W.listOf items n) ∈ news) (hx : items[i]? = some x)
    (h : ∀ h', Fr h₀ L h' m → News h₀ L h' (setL news it (litObj l (i + 1))) → Q x { s with heap := h' }) : wpAny (model prog w) A (call (.ref mw) []) Q E s := by
  refine call_mw (N _ hm1).1 (next_item (N _ hm2).1 (N _ hm3).1 hx fun h' hs ho => ?_)
  have z := N _ hm2
  exact h h' (F.change hs z.2.1 z.2.2) (by
    (have zz := (updF_setL hn hm2).split; refine ex2 zz ?_; try clear zz; rintro pre post zz; refine and4 zz ?_; try clear zz; rintro rfl hg a b)
    rw [show setL (pre ++ (it, litObj l i) :: post) it (litObj l (i + 1)) = _ from hg _]
    exact N.setIn a b hs ho)
theorem mw_end {Q : Value → Shared → Prop} (hh : A.handled = none) (F : Fr h₀ L s.heap m) (N : News h₀ L s.heap news) (hm1 : (mw, mwObj it) ∈ news) (hm2 : (it, litObj l i) ∈ news) (hm3 : (l, W.listOf items n) ∈ news) (hx : items[i]? = none)
    (h : ∀ hm h' e, Fr h₀ L hm m → News h₀ L hm (news.filter fun p => p.1 != it) → Heap.NewExc hm h' e "StopIteration" → E (.ref e) { s with heap := h' }) : wpAny (model prog w) A (call (.ref mw) []) Q E s := by
  refine call_mw (N _ hm1).1 (next_end hh (N _ hm2).1 (N _ hm3).1 hx fun hm h' e hs hx => ?_)
  have z := N _ hm2
  refine h hm h' e (F.change hs z.2.1 z.2.2) (fun p hp => ?_) hx
  have hp' := List.mem_filter.mp hp
  have hne : p.1 ≠ it := by simpa using hp'.2
  exact ⟨(hs.2 p.1 hne).trans (N p hp'.1).1, (N p hp'.1).2⟩
theorem pop_lastN {p : List Value} {y : Value} {Q : Value → Shared → Prop} {news' : Led} (F : Fr h₀ L s.heap m) (N : News h₀ L s.heap news) (U : Upd D (W.listOf (p ++ [y]).toArray n) (W.listOf p.toArray (n + 1)) news news') (hz : p.length ≤ 1000000)
    (h : ∀ h', Fr h₀ L h' m → News h₀ L h' news' → Q y { s with heap := h' }) : wpAny (model prog w) A (call (.builtin "list.pop") [.ref D]) Q E s :=
  kl_pop (p := p) (y := y) F N (by simpa using kpa_last y p) U (by rw [sizeLine_eq]; simp; omega) h
end
end
end
section
section
theorem fc_mid {g h : Heap} {L : Addr} {l : Led} {a I J : Addr} {oa o1 o2 o3 : Obj} (N : News g L h ((J, o1) :: (I, o2) :: setL l a o3)) (nd : (l.map (·.1)).Nodup) (ha : (a, oa) ∈ l) (hI : AllLt I l) (hJ : AllLt J l) (hIJ : I < J) :
    (((J, o1) :: (I, o2) :: setL l a o3).map (·.1)).Nodup ∧ (J, o1) ∈ (J, o1) :: (I, o2) :: setL l a o3 ∧ (I, o2) ∈ (J, o1) :: (I, o2) :: setL l a o3 ∧ (a, o3) ∈ (J, o1) :: (I, o2) :: setL l a o3 ∧ (∀ p ∈ l, p.1 ≠ a → p ∈ (J, o1) :: (I, o2) :: setL l a o3) ∧ (∀ p ∈ l, p.1 ≠ I ∧ p.1 ≠ J) ∧ J ≠ I := by
  have nI := ne_of_allLt hI
  have nJ := ne_of_allLt hJ
  refine ⟨?_, .head _, .tail _ (.head _), .tail _ (.tail _ (mem_setL_self ha)), fun p hp hne => .tail _ (.tail _ (mem_setL_ne hne hp)), fun p hp => ⟨nI p hp, nJ p hp⟩, fun e => by rw [e] at hIJ; exact Nat.lt_irrefl _ hIJ⟩
  rw [List.map_cons, List.map_cons, setL_keys, List.nodup_cons, List.nodup_cons]
  refine ⟨fun h => ?_, fun h => ?_, nd⟩
  · rcases List.mem_cons.mp h with e | h
    · have e' : J = I := e
      rw [e'] at hIJ; exact Nat.lt_irrefl _ hIJ
    · obtain ⟨p, hp, e⟩ := List.mem_map.mp h
      exact nJ p hp e
  · obtain ⟨p, hp, e⟩ := List.mem_map.mp h
    exact nI p hp e
theorem stored_fresh {K : Type} [DecidableEq K] {kvs : List (K × Value)} {k : K} {v : Value} (h : k ∉ kvs.map (·.1)) : stored kvs k v = kvs ++ [(k, v)] := by
  unfold stored
  rw [if_neg]
  simp only [List.any_eq_true, decide_eq_true_eq]
  rintro ⟨x, hx, e⟩
  exact h (List.mem_map.mpr ⟨x, hx, e⟩)
section
variable {prog : Program} {w : World} {K : Type} [DecidableEq K] {knd : KeyKind prog w K} {cS cN : Addr} {news₀ l l₃ : Led} {σ : Srt K} {c : Fc K} {n : Nd K} {v x : Value} {so so' o' od : Obj} {kvs : List (K × Value)} {ns e1 e2 e3 e4 : Nat} {I J : Addr}
theorem fc_push4 (h : FcIn knd cS cN news₀ l σ c) (nd₃ : (l₃.map (·.1)).Nodup) (hn : n ∈ σ.nodes) (hv : knd.is n.key v = true) (hs : c.seen n.key = false)
    (q1 : (c.a1, W.listOf (c.st.map (·.v)).toArray e1) ∈ l) (q3 : (c.a3, so) ∈ l) (q4 : (c.a4, od) ∈ l) (s3 : so'.SetObjOf knd (fun k' => c.seen k' || decide (k' = n.key)) (ns + 1)) (c3 : ns + (unseen σ.nodes c.seen).length = σ.nodes.length)
    (y2 : (J, mwObj I) ∈ l₃) (y3 : (I, litObj n.as 0) ∈ l₃) (y4 : (c.a2, W.listOf ((c.st.map fun f => Value.ref f.mw) ++ [Value.ref J]).toArray e3) ∈ l₃) (y5 : ∀ p ∈ setL l c.a3 so', p.1 ≠ c.a2 → p ∈ l₃) (y6 : ∀ p ∈ setL l c.a3 so', p.1 ≠ I ∧ p.1 ≠ J) (y7 : J ≠ I)
    (k4 : kvs.map (·.1) = c.st.map (·.nd.key)) (hk : n.key ∉ kvs.map (·.1)) (d4 : o'.IsDictOf knd (stored kvs n.key x)) :
    FcIn knd cS cN news₀ (setL (setL l₃ c.a4 o') c.a1 (W.listOf (c.st.map (·.v) ++ [v]).toArray e4)) σ (c.push ⟨n, v, J, I, 0⟩) ∧ ((setL (setL l₃ c.a4 o') c.a1 (W.listOf (c.st.map (·.v) ++ [v]).toArray e4)).map (·.1)).Nodup ∧ (c.push ⟨n, v, J, I, 0⟩).todo σ.nodes + 1 = c.todo σ.nodes := by
  have sp := fc_sep h.foot
  obtain ⟨n12, n13, n14, n23, n24, n34, _, _, _, _⟩ := id sp
  have K₂ : ∀ p ∈ l, p.1 ≠ c.a3 → p ∈ setL l c.a3 so' := fun p hp hne => mem_setL_ne hne hp
  have q3' : (c.a3, so') ∈ setL l c.a3 so' := mem_setL_self q3
  have q1' := K₂ _ q1 n13
  have q4' := K₂ _ q4 (Ne.symm n34)
  have q1₃ := y5 _ q1' n12
  have q4₃ := y5 _ q4' (Ne.symm n24)
  have all : ∀ p ∈ l, p.1 ≠ I ∧ p.1 ≠ J := fun p hp => by
    by_cases e : p.1 = c.a3
    · rw [e]; exact y6 _ q3'
    · exact y6 _ (K₂ p hp e)
  refine ⟨h.push hn hv hs (e1 := e4) (e2 := e3) (so := so') (od := o') (k := ns) (kvs := stored kvs n.key x) ?_ ?_ ?_ s3 c3 ?_ d4 ?_ ?_ ?_ (fun p hp => (all p hp).2) (fun p hp => (all p hp).1) y7 (fun x hx => h.sin.footG hx) ?_, ?_, ?_⟩
  · exact mem_setL_self (mem_setL_ne n14 q1₃)
  · exact mem_setL_ne (Ne.symm n12) (mem_setL_ne n24 y4)
  · exact mem_setL_ne (Ne.symm n13) (mem_setL_ne n34 (y5 _ q3' (Ne.symm n23)))
  · exact mem_setL_ne (Ne.symm n14) (mem_setL_self q4₃)
  · rw [stored_fresh hk, List.map_append, k4]; rfl
  · exact mem_setL_ne (Ne.symm (y6 _ q1').2) (mem_setL_ne (Ne.symm (y6 _ q4').2) y2)
  · exact mem_setL_ne (Ne.symm (y6 _ q1').1) (mem_setL_ne (Ne.symm (y6 _ q4').1) y3)
  · intro p hp h1 h2 h3 h4
    exact mem_setL_ne h1 (mem_setL_ne h4 (y5 _ (K₂ p hp h3) h2))
  · rw [setL_keys, setL_keys]; exact nd₃
  · have un := (unseen_add h.sin.keysNodup hn hs wk).1
    unfold Fc.todo Fc.push
    simp only [List.map_append, List.sum_append, List.map_cons, List.map_nil, List.sum_cons, List.sum_nil]
    have e : wk n = n.succ.length + 1 := rfl
    omega
end
end
section
section
variable {prog : Program} {w : World} {A : Around} {E : Value → Shared → Prop} {s : Shared}
theorem callWith_mw {pos : Pos} {mw it : Addr} {env : Env} {Q : Value → Shared → Prop} (ho : s.heap.get? mw = some (mwObj it)) (h : wpAny (model prog w) A (call (.ref mw) []) Q E s) : wpAny (model prog w) A (callWith pos (.ref mw) [] (backTo pos (starEach [] env)) []) Q E s := by
  unfold callWith
  refine wpAny_bind (wpAny_holding ?_)
  refine evalArgs_nil3 ?_
  refine wpAny_bind (wpAny_standAt ?_)
  refine wpAny_bind (m := keeperOf (.ref mw)) ?_
  unfold keeperOf
  refine wpAny_bind (wpAny_load ho ?_)
  simp only [show (Value.type "method-wrapper" != Value.type "method") = true by decide, show (Value.type "method-wrapper" == Value.type "builtin_function_or_method" || Value.type "method-wrapper" == Value.type "method-wrapper") = true by decide, if_true]
  refine wpAny_pure ?_
  exact wpAny_bind (wpAny_mono h (fun r s₂ hr => wpAny_bind (wpAny_holding (wpAny_point (wpAny_pure hr)))) fun _ _ x => x)
end
end
section
section
variable {prog : Program} {w : World} {K : Type} [DecidableEq K] {knd : KeyKind prog w K} {cS cN : Addr} {news₀ l : Led} {σ : Srt K} {c : Fc K} {st : List (Fm K)} {f : Fm K} {rank : K → Nat}
theorem fc_adv4 (h : FcIn knd cS cN news₀ l σ c) (hst : c.st = st ++ [f]) (hp : f.p < f.nd.succ.length) (hit : (f.it, litObj f.nd.as f.p) ∈ l) :
    FcIn knd cS cN news₀ (setL l f.it (litObj f.nd.as (f.p + 1))) σ (c.adv st f) ∧ (c.adv st f).todo σ.nodes + 1 = c.todo σ.nodes := by
  refine ⟨h.adv hst (mem_setL_self hit) fun p hp hne => mem_setL_ne hne hp, ?_⟩
  unfold Fc.todo Fc.adv
  rw [hst]
  simp only [List.map_append, List.sum_append, List.map_cons, List.map_nil, List.sum_cons, List.sum_nil]
  omega
theorem fc_rank (rk : (c.st.map fun f => rank f.nd.key).Pairwise (· < ·)) (hst : c.st = st ++ [f]) :
    ((c.adv st f).st.map fun f => rank f.nd.key).Pairwise (· < ·) ∧ (∀ k, rank f.nd.key < rank k → ∀ g ∈ (c.adv st f).st, rank g.nd.key < rank k) ∧ ((c.pop st).st.map fun f => rank f.nd.key).Pairwise (· < ·) := by
  rw [hst, List.map_append, List.pairwise_append] at rk
  obtain ⟨r1, r2, r3⟩ := rk
  refine ⟨?_, fun k hk g hg => ?_, r1⟩
  · show ((st ++ [_]).map _).Pairwise _
    rw [List.map_append, List.pairwise_append]
    exact ⟨r1, by simp, r3⟩
  · rcases List.mem_append.mp (show g ∈ st ++ [_] from hg) with hg | hg
    · exact Nat.lt_trans (r3 _ (List.mem_map_of_mem hg) _ (by simp)) hk
    · rw [List.mem_singleton.mp hg]; exact hk
theorem fc_pop4 (h : FcIn knd cS cN news₀ l σ c) (hst : c.st = st ++ [f]) (hp : ¬ f.p < f.nd.succ.length) {lf : Led} {e1 e2 : Nat} {o1 o2 : Obj} {od' : Obj} {kvs : List (K × Value)} (hlf : lf = l.filter fun p => p.1 != f.it)
    (q1 : (c.a1, o1) ∈ lf) (q2 : (c.a2, o2) ∈ lf) {od : Obj} (q4 : (c.a4, od) ∈ lf)
    (k4 : kvs.map (·.1) = c.st.map (·.nd.key)) (hkn : (c.st.map (·.nd.key)).Nodup) (d4 : od'.IsDictOf knd (without kvs f.nd.key)) :
    FcIn knd cS cN news₀ (setL (setL (setL lf c.a1 (W.listOf (st.map (·.v)).toArray e1)) c.a4 od') c.a2 (W.listOf (st.map fun f => Value.ref f.mw).toArray e2)) σ (c.pop st) ∧ (c.pop st).todo σ.nodes = c.todo σ.nodes ∧ (c.pop st).st.length + 1 = c.st.length := by
  have sp := fc_sep h.foot
  obtain ⟨n12, n13, n14, n23, n24, n34, _, _, _, _⟩ := id sp
  refine ⟨h.pop hst (e1 := e1) (e2 := e2) (od := od') (kvs := without kvs f.nd.key) ?_ ?_ ?_ d4 ?_ ?_, ?_, ?_⟩
  · exact mem_setL_ne n12 (mem_setL_ne n14 (mem_setL_self q1))
  · exact mem_setL_self (mem_setL_ne n24 (mem_setL_ne (Ne.symm n12) q2))
  · exact mem_setL_ne (Ne.symm n24) (mem_setL_self (mem_setL_ne (Ne.symm n14) q4))
  · rw [hst, List.map_append, List.nodup_append] at hkn
    unfold without
    have e : (kvs.filter fun kv => decide (kv.1 ≠ f.nd.key)).map (·.1) = (kvs.map (·.1)).filter fun k => decide (k ≠ f.nd.key) := by rw [List.filter_map]; rfl
    rw [e, k4, hst, List.map_append, List.filter_append]
    have e1 : (st.map (·.nd.key)).filter (fun k => decide (k ≠ f.nd.key)) = st.map (·.nd.key) := List.filter_eq_self.mpr fun k hk => by
      have := hkn.2.2 k hk f.nd.key (by simp)
      simpa using this
    rw [e1]; simp
  · intro p hp h1 h2 h4 h5 h6
    refine mem_setL_ne h2 (mem_setL_ne h4 (mem_setL_ne h1 ?_))
    rw [hlf]
    exact List.mem_filter.mpr ⟨hp, by simpa using h5⟩
  · unfold Fc.todo Fc.pop
    rw [hst]
    simp only [List.map_append, List.sum_append, List.map_cons, List.map_nil, List.sum_cons, List.sum_nil]
    omega
  · rw [hst]; simp [Fc.pop]
end
end
section
theorem valueAt_mem {K : Type} [DecidableEq K] {kvs : List (K × Value)} {k : K} (h : k ∈ kvs.map (·.1)) : (valueAt kvs k).isSome = true := by
  unfold valueAt
  rw [Option.isSome_map, List.find?_isSome]
  obtain ⟨x, hx, e⟩ := List.mem_map.mp h
  exact ⟨x, hx, by simpa using e⟩
end
end
section
section
section
variable {α β K : Type} [DecidableEq K] {prog : Program} {w : World} {A : Around} {Γ : Gm} {e : PySem.Expr} {R : Rp α} {S : Rp β} {a : α} {b : β} {x attr : Str} {px pos apos : Pos} {knd : KeyKind prog w K}
theorem ev_attr (h : Ev prog w A Γ e R a) (k : ∀ env s Z v, Cx Γ env s Z → R.rel a (hid Z s.heap) v → ∀ Q : Value → Shared → Prop, (∀ r s', Kp s s' → S.rel b (hid Z s'.heap) r → Q r s') → wpAny (model prog w) A (getAttr v attr true) Q NoExc s)
    (he : autoParam (∀ env, eval (.Attribute e attr pos) env = (do
      let o ← eval e env
      standAt pos.atName
      let r ← holding [o] (getAttr o attr true)
      letTemporaryGo e o r
      pure r)) autoF) : Ev prog w A Γ (.Attribute e attr pos) S b := fun env s Z c =>
  Attribute_any_ (h.then c fun v s₁ k₁ c₁ hv => k env s₁ Z v c₁ hv _ fun r s' k₂ hr => ⟨k₁.tr k₂, hr⟩) (he env)
def RVals (knd : KeyKind prog w K) (R : Rp α) : Rp (Addr × List α) := ⟨fun x P v => v = .ref x.1 ∧ ∃ o kvs, P x.1 o ∧ o.IsDictOf knd kvs ∧ A2 (fun y u => R.rel y P u) x.2 (kvs.map (·.2)),
  by rintro xs P P' v hs ⟨e, o, kvs, h1, h2, h3⟩; exact ⟨e, o, kvs, hs _ _ h1, h2, h3.imp fun _ _ h => R.mono hs h⟩⟩
theorem evi_values {d : Addr} {xs : List α} (hh : A.handled = none) (h : Ev prog w A Γ e (RVals knd R) (d, xs)) (lo : (d == sysModules) = false) (hline : (apos.endLine == pos.line) = true)
    (hbase : autoParam (∀ env, attributeBase e "values" env (eval e env) = eval e env) autoB) : EvI prog w A Γ (.Call (.Attribute e "values" apos) [] [] pos) (.Name x px) (ItR R) xs := fun env s Z c => by
  refine Call_method0 (hbase env) hline (h.then c fun v s₁ k₁ c₁ hv => ?_)
  (refine and2 hv ?_; try clear hv; rintro rfl zz; refine ex2 zz ?_; try clear zz; rintro o kvs zz; refine and3 zz ?_; try clear zz; rintro ⟨hdZ, ho⟩ hd ha)
  have hD : s₁.heap.DictOf knd d kvs := Heap.dictOf_iff.mpr ⟨o, ho, hd⟩
  refine ⟨"dict", "dict.values", PySem.F.plainAttrs_dict, PySem.F.slot_dict_values, PySem.F.type_dict_values, hD.typeIs, fun q hq => by cases hq; exact hD.mapOf.noDict _ rfl, ?_⟩
  refine callWith_builtin rfl (evalArgs_nil3 ?_)
  refine call_meetsIn PySem.F.slot_dict_values hD.typeIs PySem.F.entry_dict_values (PySem.F.args_dict_values_1 _) (meets_dict_values knd d lo) ⟨⟨kvs, hD⟩, ?_⟩
  refine ex1 hD.dictAt fun ep hat => ?_
  have hk2 : Kp s₁ { s₁ with heap := s₁.heap.push { cls := .type "dict_values", data := .fields #[.ref d] } } := .push
  have hat2 : (s₁.heap.push { cls := .type "dict_values", data := .fields #[.ref d] }).DictAt knd d kvs ep := hat.push _
  refine wpAny_pyIter_values (kvs := kvs) (ep := ep) (v := s₁.heap.objs.size) (d := d) (knd := knd) ⟨_, Heap.get?_push_size _ rfl, rfl, rfl⟩ hat2 ?_
  have hlt : d < (s₁.heap.push { cls := .type "dict_values", data := .fields #[.ref d] }).objs.size := get_lt (hk2.get ho)
  have W := Walks.dictValues (prog := prog) (w := w) (knd := knd) hh (s₁.heap.push { cls := .type "dict_values", data := .fields #[.ref d] }).objs.size d (Nat.ne_of_lt hlt) kvs ep
  have esz : kvs.length = xs.length := by rw [ha.length, List.length_map]
  have c₂ := c₁.keeps hk2
  rw [← esz]
  refine ⟨_, _, _, _, _, _, rfl, Src.ofWalks W (fun i h st b hb => by rw [List.mem_singleton.mp hb]; refine ex1 st.1 fun o zz => and2 zz fun ho _ => ?_; exact ⟨o, ho⟩), ⟨⟨_, Heap.get?_push_size _ rfl, rfl, rfl⟩, hat2.push _⟩, ?_, ?_, (k₁.tr hk2).tr .push, ?_⟩
  · intro b hb
    simp only [List.mem_cons, List.not_mem_nil, or_false] at hb
    rcases hb with rfl | rfl
    · exact ⟨⟨_, Heap.get?_push_size _ rfl⟩, fresh_not c₂ (Nat.le_refl _)⟩
    · exact ⟨⟨o, Heap.get?_push_of_some _ (hk2.get ho)⟩, hdZ⟩
  · intro b hb
    rw [List.mem_singleton.mp hb]
    cases q : s.heap.get? (s₁.heap.push { cls := .type "dict_values", data := .fields #[.ref d] }).objs.size with
    | none => rfl
    | some o => exact absurd (get_lt (hk2.get (k₁.get q))) (Nat.lt_irrefl _)
  · rintro i v h y hy ⟨kk, hP⟩
    refine ex1 (ha.get' hy) fun u zz => and2 zz fun hu hr => ?_
    have : u = v := by
      rw [List.getElem?_map, hP] at hu; exact (Option.some.inj hu).symm
    subst this
    exact R.mono (fun b o q => ⟨fun m => (List.mem_append.mp m).elim (fun m => by have := get_lt (hk2.get q.2); rw [List.mem_singleton.mp m] at this; exact Nat.lt_irrefl _ this) q.1, Heap.get?_push_of_some _ (hk2.get q.2)⟩) hr
def RKey (knd : KeyKind prog w K) : Rp K := ⟨fun k _ v => knd.is k v = true, fun _ h => h⟩
def RNd (knd : KeyKind prog w K) (cN : Addr) : Rp (Nd K) := ⟨fun n P v => v = .ref n.ai ∧ (∃ kv t, knd.is n.key kv = true ∧ P n.ai (niObj cN kv n.np t n.di n.as)) ∧ P n.di (dictOf [] 0),
  by rintro n P P' v hs ⟨e, ⟨kv, t, h1, h2⟩, h3⟩; exact ⟨e, ⟨kv, t, h1, hs _ _ h2⟩, hs _ _ h3⟩⟩
end
end
end
section
section
section
variable {α β γ : Type} {prog : Program} {w : World} {A : Around} {Γ : Gm} {R : Rp β}
def AccX (R : Rp β) (D : Addr) (Z' : List Addr) (ys : List β) (h : Heap) : Prop := ∃ vs n, h.get? D = some (W.listOf vs.toArray n) ∧ A2 (fun b u => R.rel b (hid Z' h) u) ys vs
theorem accX_stab (D : Addr) (Z' : List Addr) (ys : List β) (h h' : Heap) (hk : ∀ b o, (b = D ∨ b ∉ Z') → h.get? b = some o → h'.get? b = some o) (x : AccX R D Z' ys h) : AccX R D Z' ys h' := by
  obtain ⟨vs, n, hl, ha⟩ := x
  exact ⟨vs, n, hk D _ (.inl rfl) hl, ha.imp fun a u y => R.mono (fun b o z => ⟨z.1, hk b o (.inr z.1) z.2⟩) y⟩
theorem accX_has (D : Addr) (Z' : List Addr) (ys : List β) (h : Heap) (x : AccX R D Z' ys h) : ∃ o, h.get? D = some o := by
  obtain ⟨vs, n, ho, _⟩ := x; exact ⟨_, ho⟩
theorem accX_nil (D : Addr) (Z' : List Addr) (h : Heap) (e : h.get? D = some { cls := .type "list", dict := none, data := .seq ([] : List Value).toArray }) : AccX R D Z' [] h := ⟨[], 0, e, trivial⟩
theorem emit_listX {Γ' : Gm} {cenv : Env} {oc : List (Str × Addr)} {s₁ : Shared} {Z' : List Addr} {D : Addr} {ys : List β} {elt : PySem.Expr} {b : β} (he : Ev prog w A Γ' elt R b) (cx : Cx Γ' cenv s₁ Z') (fo : FOk cenv oc s₁) (hD : D ∈ Z') (hDF : D ∉ Fms cenv oc) (hac : AccX R D Z' ys s₁.heap) (hl : (ys ++ [b]).length ≤ sizeLine) {Mv : List Addr} (hMv : D ∈ Mv) :
    wpAny (model prog w) A (do let _ ← call (.builtin "list.append") [.ref D, ← eval elt cenv]) (fun _ s₂ => KB Mv s₁ s₂ ∧ FOk cenv oc s₂ ∧ AccX R D Z' (ys ++ [b]) s₂.heap) NoExc s₁ := by
  refine wpAny_bind (he.then cx fun v s₂ k₂ cx₂ hv => ?_)
  refine ex2 (accX_stab D Z' ys _ _ (fun b o _ e => k₂.get e) hac) fun vs n zz => and2 zz fun hL hA => ?_
  have hlen := hA.length
  refine wpAny_bind (append_at (its := vs.toArray) hL (fun h' hs' hL' => wpAny_pure ?_) (by rw [List.size_toArray, ← hlen]; rw [List.length_append] at hl; exact Nat.le_trans (Nat.le_add_right _ _) hl))
  have hk : ∀ b o, b ≠ D → s₂.heap.get? b = some o → h'.get? b = some o := fun b o hb e => hs'.extBut b o hb e
  refine ⟨(k₂.kb (Mv := Mv)).trans ⟨h', _, rfl, fun b o hb e => hk b o (fun q => hb (q ▸ hMv)) e⟩, ⟨?_, fun n a hm => ?_⟩, vs ++ [v], n + 1, ?_, ?_⟩
  · refine ex1 fo.ns fun m hm => ?_
    exact ⟨m, hm.at' fun o e => hk _ o (fun q => hDF (q ▸ .head _)) (k₂.get e)⟩
  · refine ex2 (fo.ce n a hm) fun u o zz => and2 zz fun ho hd => ?_
    exact ⟨u, o, hk _ o (fun q => hDF (q ▸ .tail _ (List.mem_map.mpr ⟨_, hm, rfl⟩))) (k₂.get ho), hd⟩
  · rw [List.push_toArray] at hL'; exact hL'
  · have up : ∀ b o, hid Z' s₂.heap b o → hid Z' h' b o := fun b o x => ⟨x.1, hk b o (fun q => x.1 (q ▸ hD)) x.2⟩
    exact (hA.imp fun a u y => R.mono up y).snoc (R.mono up hv)
variable {elt target iter : PySem.Expr} {ifs : List PySem.Expr} {scope : Scope} {pos : Pos} {env : Env} {s : Shared} {Z : List Addr} {xs : List α} {It : α → Kn → Value → Heap → Prop} {own : α → List Vb} {tn : List Str} {p : α → Bool} {f : α → β}
theorem listcompX (c : Cx Γ env s Z) (hh : A.handled = none) (hi : EvI prog w A Γ iter target It xs) (st : Stat Γ scope) (hb : BndOk scope target It own tn)
    (hts : ∀ x ∈ xs, Ets prog w A (Γc Γ scope (own x)) ifs (p x)) (hel : ∀ x ∈ xs, p x = true → Ev prog w A (Γc Γ scope (own x)) elt R (f x)) (hlen : xs.length ≤ sizeLine) (hs : autoParam (∀ env x, foldedSetIterable iter env x = pure x) autoD) :
    wpAny (model prog w) A (eval (.ListComp elt [⟨target, iter, ifs, 0⟩] scope pos) env) (fun v s' => Kp s s' ∧ ∃ D vs n, v = .ref D ∧ s.heap.get? D = none ∧ s'.heap.get? D = some (W.listOf vs.toArray n) ∧ A2 (fun b u => R.rel b (hid Z s'.heap) u) ((xs.filter p).map f) vs) NoExc s := by
  show wpAny (model prog w) A (comprehension (.ListComp elt [⟨target, iter, ifs, 0⟩] scope pos) scope env (firstIterPos [⟨target, iter, ifs, 0⟩] pos) (newList []) false (eval iter env) none) _ NoExc s
  refine comp_core (use := none) (f := fun x => [f x]) (AccS := AccX R) (p := p) rfl hs newList_acc rfl (fun I D cenv => shape_list elt target iter ifs scope pos (.ref I) (.ref D) cenv) (fun I D cenv R s h0 h => codeAny_compStart_list h0 h) (fun _ _ _ => rfl) (fun _ _ _ => rfl) (fun _ _ _ => rfl) c hh hi st hb hts ?_ accX_nil accX_has accX_stab ?_ ?_
  · intro x hx hp D cenv oc s₁ Z' ys O fo hF hD hDF cx rb hac hl
    exact emit_listX (hel x hx hp) cx fo hD hDF hac hl (.head _)
  · rw [flat_filter, List.length_map]
    exact Nat.le_trans (List.length_filter_le _ _) hlen
  · intro D C m s₅ Z' k hD hC hDC hCZ hDZ hZ hZ' hn hac
    rw [flat_filter] at hac
    (refine ex2 hac fun vs n zz => and2 zz fun ho ha => ?_; try clear hac)
    refine ⟨m, hn, fun h' hs' => ⟨?_, D, vs, n, rfl, hD, hs'.extBut D _ hDC ho, ha.imp fun a u y => R.mono (fun b o z => ⟨fun q => z.1 (hZ b q), hs'.extBut b o (fun q => z.1 (q ▸ hCZ)) z.2⟩) y⟩⟩
    (refine ex2 k ?_; try clear k; rintro h5 t5 zz; refine and2 zz ?_; try clear zz; rintro rfl k5)
    exact ⟨h', t5, rfl, fun b o e => hs'.extBut b o (fun q => by rw [q, hC] at e; cases e) (k5 b o e)⟩
end
end
end
section
section
section
variable {Γ : Gm} {env : Env} {res : List Res} {Hd Z : List Addr} {s s' : Shared}
theorem At.call {r : Res} {fs : List Addr} {h₀' : Heap} (a : At Γ env (r :: res) Hd Z s) (r' : Res)
    (hs' : ∃ h tk, s' = { s with heap := h, toks := tk })
    (hk : ∀ b o, b ≠ env.locals → b ∉ fs → b ∉ r.foot → s.heap.get? b = some o → s'.heap.get? b = some o)
    (hfs : ∀ b ∈ fs, b ∈ Hd ∧ ∃ o, s'.heap.get? b = some o)
    (hL : ∀ m, Fr Γ.h₀ Γ.L s.heap m → Fr h₀' Γ.L s'.heap m)
    (g₀' : h₀'.Ns mainGlobals Γ.mg) (b₀' : h₀'.Ns builtinsNs Γ.mb) (z₀' : ∀ b, Γ.h₀.get? b = none → h₀'.get? b = none)
    (hf : ∀ b ∈ r'.foot, b ∈ r.foot ∨ s.heap.get? b = none) (hP : r'.P (hid (Hd ++ turned r r' Z) s'.heap) s'.heap) :
    (∀ z ∈ turned r r' Z, z ∈ Z ∨ s.heap.get? z = none) ∧ At { Γ with h₀ := h₀' } env (r' :: res) Hd (turned r r' Z) s' := by
  refine and2 (a.rs r List.mem_cons_self) fun hrP hr => ?_
  have hex := r'.ex hP
  refine and2 (List.pairwise_cons.mp a.rp) fun hap hrp => ?_
  have nfs : ∀ b ∈ Z, b ∉ fs := fun b hb q => a.hz b (hfs b q).1 hb
  have memZ : ∀ b, b ∈ turned r r' Z → b ∈ r'.foot ∨ (b ∈ Z ∧ b ∉ r.foot) := fun b hb => (List.mem_append.mp hb).imp id fun q => ⟨(List.mem_filter.mp q).1, by simpa using (List.mem_filter.mp q).2⟩
  have inZ : ∀ b ∈ Z, b ∉ r.foot → b ∈ turned r r' Z := fun b hb hn => List.mem_append_right _ (List.mem_filter.mpr ⟨hb, by simpa using hn⟩)
  have up : ∀ b o, hid (Hd ++ Z) s.heap b o → hid (Hd ++ turned r r' Z) s'.heap b o := fun b o y => by
    have nr : b ∉ r.foot := fun q => y.1 (List.mem_append_right _ (hr b q).1)
    refine ⟨fun q => ?_, hk b o (fun e => y.1 (List.mem_append_right _ (e ▸ a.lz))) (fun q => y.1 (List.mem_append_left _ (hfs b q).1)) nr y.2⟩
    rcases List.mem_append.mp q with q | q
    · exact y.1 (List.mem_append_left _ q)
    · rcases memZ b q with q | q
      · rcases hf b q with q | q
        · exact nr q
        · have := y.2; rw [q] at this; cases this
      · exact y.1 (List.mem_append_right _ q.1)
  refine ex1 a.cx.fr fun m₀ F₀ => ?_
  have F' := hL m₀ F₀
  have kF : ∀ b o, h₀'.get? b = some o → s'.heap.get? b = some o := F'.keep
  have hcL : ∀ n c, env.cells.lookup n = some c → c ≠ env.locals := fun n c h => by
    refine and2 (a.cz n c h) fun _ zz => ex1 zz fun v hv => ?_
    exact ns_ne_cell (a.loc ▸ F₀.ns) hv
  have hc : ∀ n c, env.cells.lookup n = some c → c ∉ r.foot := fun n c h q => (hr c q).2.2 n c h rfl
  have kc : ∀ n c o, env.cells.lookup n = some c → s.heap.get? c = some o → s'.heap.get? c = some o := fun n c o h e => hk c o (hcL n c h) (nfs c (a.cz n c h).1) (hc n c h) e
  have hLr : env.locals ∉ r.foot := fun q => (hr _ q).2.1 rfl
  have old' : ∀ b o, s.heap.get? b = some o → b ∉ r.foot → b ∉ r'.foot := fun b o e nr q => (hf b q).elim nr fun q => by rw [q] at e; cases e
  have sees : ∀ x v, SeesV env s x v → SeesV env s' x v := fun x v h => by
    rcases h with ⟨h1, m, h2, h3⟩ | ⟨h1, h2, c, h3, o, h4, h5⟩
    · have := hL m ⟨a.loc ▸ h2, F₀.keep, F₀.above⟩
      exact .inl ⟨h1, m, a.loc ▸ this.ns, h3⟩
    · exact .inr ⟨h1, h2, c, h3, o, kc x c o h3 h4, h5⟩
  have f₀ : ∀ b, s.heap.get? b = none → Γ.h₀.get? b = none := fun b hb => by
    cases e : Γ.h₀.get? b with
    | none => rfl
    | some o => have := F₀.keep b o e; rw [hb] at this; cases this
  have hL' : ∃ o, s'.heap.get? env.locals = some o := by refine ex3 F'.ns fun o _ _ zz => and2 zz fun ho _ => ?_; exact ⟨o, a.loc ▸ ho⟩
  refine ⟨fun z hz => (memZ z hz).elim (fun q => (hf z q).imp (fun q => (hr z q).1) id) fun q => .inl q.1, ⟨⟨a.cx.fn, a.cx.gl, a.cx.bl, g₀'.at' fun o e => kF _ o e, b₀'.at' fun o e => kF _ o e, ⟨m₀, F'⟩, a.cx.gk, fun x hx => ?_, fun z hz => ?_, fun vb hv => ?_, fun vb hv => ?_⟩, a.mv, a.loc, g₀', b₀', inZ _ a.lz hLr, fun b hb q => ?_, fun b hb => z₀' b ?_, fun n c h => ?_, a.ap, fun r2 hr2 => ?_, ?_⟩⟩
  · refine and2 (a.cx.ck x hx) fun h1 zz => ex1 zz fun c zz => and2 zz fun h2 zz => ex1 zz fun o h3 => ?_
    exact ⟨h1, c, h2, o, kc x c o h2 h3⟩
  · have keep : ∀ z, z ∈ Hd ++ Z → z ∉ r.foot → ∃ o, s'.heap.get? z = some o := fun z hz hn => by
      refine ex1 (a.cx.zl z hz) fun o ho => ?_
      by_cases h1 : z = env.locals
      · rw [h1]; exact hL'
      by_cases h2 : z ∈ fs
      · exact (hfs z h2).2
      exact ⟨o, hk z o h1 h2 hn ho⟩
    rcases List.mem_append.mp hz with q | q
    · exact keep z (List.mem_append_left _ q) fun q' => a.hz z q (hr z q').1
    · rcases memZ z q with q | q
      · exact hex z q
      · exact keep z (List.mem_append_right _ q.1) q.2
  · refine ex1 (a.cx.vis vb hv) fun v zz => and2 zz fun h1 h2 => ?_
    exact ⟨v, sees _ _ h1, vb.R.mono up h2⟩
  · have hv' : vb ∈ Γ.mvars := hv
    rw [a.mv] at hv'; cases hv'
  · rcases memZ b q with q | q
    · rcases hf b q with q | q
      · exact a.hz b hb (hr b q).1
      · refine ex1 (a.cx.zl b (List.mem_append_left _ hb)) fun o ho => ?_; rw [q] at ho; cases ho
    · exact a.hz b hb q.1
  · rcases memZ b hb with q | q
    · exact (hf b q).elim (fun q => a.z₀ b (hr b q).1) (f₀ b)
    · exact a.z₀ b q.1
  · refine and2 (a.cz n c h) fun h1 zz => ex2 zz fun v o zz => and2 zz fun ho hd => ?_
    exact ⟨inZ c h1 (hc n c h), v, o, kc n c o h ho, hd⟩
  · rcases List.mem_cons.mp hr2 with rfl | hr2
    · refine ⟨hP, fun b hb => ⟨List.mem_append_left _ hb, fun e => ?_, fun n c h e => ?_⟩⟩
      · refine ex1 (a.cx.zl _ (List.mem_append_right _ a.lz)) fun o ho => ?_
        exact old' _ o ho hLr (e ▸ hb)
      · refine and2 (a.cz n c h) fun _ zz => ex2 zz fun v o zz => and2 zz fun ho _ => ?_
        exact old' _ o ho (hc n c h) (e ▸ hb)
    · refine and2 (a.rs r2 (List.mem_cons_of_mem _ hr2)) fun h1 h2 => ?_
      have nr : ∀ b ∈ r2.foot, b ∉ r.foot := fun b hb q => hap r2 hr2 b q hb
      exact ⟨r2.stab up (fun b hb o e => hk b o (h2 b hb).2.1 (nfs b (h2 b hb).1) (nr b hb) e) h1, fun b hb => ⟨inZ b (h2 b hb).1 (nr b hb), (h2 b hb).2⟩⟩
  · refine List.pairwise_cons.mpr ⟨fun r2 hr2 b hb hb' => ?_, hrp⟩
    refine and2 (a.rs r2 (List.mem_cons_of_mem _ hr2)) fun h1 h2 => ?_
    refine ex1 (a.cx.zl b (List.mem_append_right _ (h2 b hb').1)) fun o ho => ?_
    exact old' b o ho (fun q => hap r2 hr2 b q hb') hb
def Nil : Res := ⟨[], fun _ _ => True, fun _ _ _ => trivial, fun _ _ h => (nomatch h)⟩
theorem At.addNil (a : At Γ env res Hd Z s) : At Γ env (Nil :: res) Hd Z s :=
  ⟨a.cx, a.mv, a.loc, a.g₀, a.b₀, a.lz, a.hz, a.z₀, a.cz, a.ap, fun r hr => by
    rcases List.mem_cons.mp hr with rfl | hr
    · exact ⟨trivial, fun _ h => (nomatch h)⟩
    · exact a.rs r hr, List.pairwise_cons.mpr ⟨fun _ _ _ h => (nomatch h), a.rp⟩⟩
def ledger (h₀ : Heap) (L : Addr) (h : Heap) : Led := (List.range h.objs.size).filterMap fun b => match h.get? b with
  | some o => if b ≠ L ∧ h₀.get? b = none then some (b, o) else none
  | none => none
theorem mem_ledger {h₀ h : Heap} {L b : Addr} {o : Obj} : (b, o) ∈ ledger h₀ L h ↔ h.get? b = some o ∧ b ≠ L ∧ h₀.get? b = none := by
  unfold ledger
  rw [List.mem_filterMap]
  constructor
  · rintro ⟨c, hc, e⟩
    cases q : h.get? c with
    | none => rw [q] at e; cases e
    | some o' =>
      rw [q] at e
      dsimp only at e
      by_cases h1 : c ≠ L ∧ h₀.get? c = none
      · rw [if_pos h1] at e
        (have zz := Prod.mk.inj (Option.some.inj e); refine and2 zz ?_; try clear zz; rintro rfl rfl)
        exact ⟨q, h1⟩
      · rw [if_neg h1] at e; cases e
  · rintro ⟨h1, h2⟩
    refine ⟨b, List.mem_range.mpr (get_lt h1), ?_⟩
    rw [h1]
    dsimp only
    rw [if_pos h2]
theorem ledger_news {h₀ h : Heap} {L : Addr} : News h₀ L h (ledger h₀ L h) := fun p hp => mem_ledger.mp (show (p.1, p.2) ∈ _ from hp)
end
section
variable {prog : Program} {w : World} {K : Type} [DecidableEq K] (knd : KeyKind prog w K) (cS cN : Addr)
def SrtR (σ : Srt K) : Res where
  foot := σ.foot
  P := fun _ h => ∃ l, SIn knd cS cN l σ ∧ ∀ p ∈ l, h.get? p.1 = some p.2 ∧ p.1 ∈ σ.foot
  stab := by
    rintro K K' h h' _ hk ⟨l, S, hl⟩
    exact ⟨l, S, fun p hp => ⟨hk p.1 (hl p hp).2 _ (hl p hp).1, (hl p hp).2⟩⟩
  ex := by
    rintro K h ⟨l, S, hl⟩ b hb
    obtain ⟨o, ho⟩ := S.footG hb
    exact ⟨o, (hl _ ho).1⟩
variable {knd cS cN} {σ σ' : Srt K} {Γ : Gm} {env : Env} {res : List Res} {Hd Z : List Addr} {s s' : Shared}
theorem At.srt (a : At Γ env (SrtR knd cS cN σ :: res) Hd Z s) : SIn knd cS cN (ledger Γ.h₀ Γ.L s.heap) σ := by
  obtain ⟨⟨l, S, hl⟩, hf⟩ := a.rs _ List.mem_cons_self
  refine S.sub fun p hp => ?_
  obtain ⟨h1, h2⟩ := hl p hp
  obtain ⟨q1, q2, _⟩ := hf p.1 h2
  exact mem_ledger.mpr ⟨h1, a.loc ▸ q2, a.z₀ _ q1⟩
theorem At.method (a : At Γ env (SrtR knd cS cN σ :: res) Hd Z s) {h' : Heap} {tk : Nat} {l : Led} (hL : ∀ m, Fr Γ.h₀ Γ.L s.heap m → Fr Γ.h₀ Γ.L h' m) (N : News Γ.h₀ Γ.L h' l) (S : SIn knd cS cN l σ') (fr : Frm (ledger Γ.h₀ Γ.L s.heap) σ.foot l σ'.foot) :
    ∃ Z', Stp Z s Z' { s with heap := h', toks := tk } ∧ At Γ env (SrtR knd cS cN σ' :: res) Hd Z' { s with heap := h', toks := tk } ∧ (∀ z ∈ Z', z ∈ σ'.foot ∨ z ∈ Z) := by
  refine ex1 a.cx.fr fun m₀ F₀ => ?_
  have hr := (a.rs _ List.mem_cons_self).2
  have keep : ∀ b o, b ≠ env.locals → b ∉ σ.foot → s.heap.get? b = some o → h'.get? b = some o := fun b o h1 h2 e => by
    cases q : Γ.h₀.get? b with
    | none => exact (N _ (fr.keep (b, o) (mem_ledger.mpr ⟨e, fun z => h1 (by rw [a.loc]; exact z), q⟩) h2)).1
    | some o' =>
      have := F₀.keep b o' q
      rw [e] at this; cases this
      exact (hL m₀ F₀).keep b o q
  have hf : ∀ b ∈ σ'.foot, b ∈ σ.foot ∨ s.heap.get? b = none := fun b hb => by
    refine ex1 (S.footG hb) fun o ho => ?_
    refine and3 (N _ ho) fun n1 n2 n3 => ?_
    rcases fr.foot b hb with q | q
    · exact .inl q
    · right
      cases e : s.heap.get? b with
      | none => rfl
      | some o' => exact absurd rfl (q (b, o') (mem_ledger.mpr ⟨e, n2, n3⟩))
  refine and2 (a.call (fs := []) (h₀' := Γ.h₀) (s' := { s with heap := h', toks := tk }) (SrtR knd cS cN σ') ⟨h', tk, rfl⟩ (fun b o h1 _ h2 e => keep b o h1 h2 e) (fun _ h => (nomatch h)) hL a.g₀ a.b₀ (fun _ h => h) hf ⟨l.filter fun p => decide (p.1 ∈ σ'.foot), S.mono fun p hp ha => List.mem_filter.mpr ⟨hp, by simpa using ha⟩, fun p hp => ⟨(N p (List.mem_filter.mp hp).1).1, by simpa using (List.mem_filter.mp hp).2⟩⟩) fun hz a' => ?_
  refine ⟨_, ⟨⟨h', tk, rfl, fun b o hb e => keep b o (fun q => hb (q ▸ a.lz)) (fun q => hb (hr b q).1) e⟩, hz⟩, a', fun z hz => ?_⟩
  rcases List.mem_append.mp hz with q | q
  · exact .inl q
  · exact .inr (List.mem_filter.mp q).1
end
end
end
section
section
theorem ns_uniq {h : Heap} {L : Addr} {m m' : Str → Option Value} (a : h.Ns L m) (b : h.Ns L m') : m = m' := by
  obtain ⟨o, es, ep, ho, hd, hk, hm⟩ := a
  obtain ⟨o', es', ep', ho', hd', hk', hm'⟩ := b
  rw [ho] at ho'; cases ho'
  rw [hd] at hd'; cases hd'
  funext y
  rw [← hm y, ← hm' y]
section
variable (prog : Program) (w : World) (A : Around) (env : Env)
def ES {α : Type} (Γ : Gm) (res : List Res) (e : PySem.Expr) (R : Rp α) (a : α) (Pr : List Res → Prop) : Prop :=
  ∀ Hd Z s, At Γ env res Hd Z s → wpAny (model prog w) A (eval e env) (fun v s' => ∃ res' Z', Pr res' ∧ Stp Z s Z' s' ∧ At Γ env res' Hd Z' s' ∧ R.rel a (hid (Hd ++ Z') s'.heap) v) NoExc s
def TS (Γ : Gm) (res : List Res) (e : PySem.Expr) (b : Bool) (Pr : List Res → Prop) : Prop :=
  ∀ Hd Z s, At Γ env res Hd Z s → wpAny (model prog w) A (isTrue e env (eval e env)) (fun r s' => r = b ∧ ∃ res' Z', Pr res' ∧ Stp Z s Z' s' ∧ At Γ env res' Hd Z' s') NoExc s
end
section
variable {mg mb : Str → Option Value} {scope : Scope} {h₀ : Heap} {vbs mv : List Vb} {α β : Type} {prog : Program} {w : World} {A : Around} {env : Env} {Γ : Gm} {res res' : List Res} {e e₁ e₂ : PySem.Expr} {R : Rp α} {S : Rp β} {a : α} {x : Str} {px pos p p' : Pos} {body orelse : List Stmt} {P : Gm → List Res → Prop} {Pr Pr' : List Res → Prop}
theorem Stp.up {Hd Z Z' : List Addr} {s s' : Shared} (k : Stp Z s Z' s') : ∀ b o, hid (Hd ++ Z) s.heap b o → hid (Hd ++ Z') s'.heap b o := fun b o q => by
  refine ⟨fun m => ?_, k.1.get (fun m => q.1 (List.mem_append_right _ m)) q.2⟩
  rcases List.mem_append.mp m with m | m
  · exact q.1 (List.mem_append_left _ m)
  · rcases k.2 b m with m | m
    · exact q.1 (List.mem_append_right _ m)
    · have := q.2; rw [m] at this; cases this
theorem ts_bool {b : Bool} (h : ES prog w A env Γ res e RBool b Pr) (he : autoParam (∀ env whole, isTrue e env whole = (do let v ← whole; standAt e.pos; holding [v] (truthy v))) autoD) : TS prog w A env Γ res e b Pr := fun Hd Z s at_ => by
  rw [he]
  refine wpAny_bind (wpAny_mono (h Hd Z s at_) (fun v s₁ q => ?_) fun _ _ x => x)
  (refine ex2 q fun r' Z' zz => and4 zz fun hP st at' hv => ?_; try clear q)
  cases (show v = .bool b from hv)
  exact wpAny_bind (wpAny_standAt (wpAny_holding (wpAny_truthy_bool ⟨rfl, r', Z', hP, st, at'⟩)))
def RTupX (R : Rp α) : Rp (List α) := ⟨fun xs P v => ∃ l n vs, v = .ref l ∧ P l { cls := .type "tuple", data := .seq vs.toArray n } ∧ A2 (fun a u => R.rel a P u) xs vs,
  by rintro xs P P' v hs ⟨l, n, vs, e, hl, ha⟩; exact ⟨l, n, vs, e, hs _ _ hl, ha.imp fun _ _ h => R.mono hs h⟩⟩
theorem hs_setS (H : Ini mg mb scope h₀ vbs Γ) (h : ES prog w A env Γ res e R a Pr) (hx : Kd env x) (hsw : autoParam (swapsWith e (some (.Name x px)) pos.line env = pure false) autoA) :
    HS prog w A env Γ res (.Assign [.Name x px] e pos) fun Γ' res'' => Ini mg mb scope h₀ (put vbs x R a) Γ' ∧ Pr res'' := fun Hd Z s at_ => by
  refine wpAny_Assign_Name (wpAny_mono (h Hd Z s at_) (fun v s₁ q => ?_) fun _ _ x => x) hsw
  (refine ex2 q fun r₁ Z₁ zz => and4 zz fun hP₁ st₁ at₁ hv => ?_; try clear q)
  exact at₁.store hv hx.k hx.cd fun s' st' at' => ⟨rfl, _, _, Z₁, ⟨H.put x R a, hP₁⟩, ⟨rfl, rfl⟩, st₁.trans st', at'⟩
theorem hs_exprS (h : ES prog w A env Γ res e RIs .none Pr) (hi : autoParam (interactive env = false) autoA) (hv : autoParam (swapsWith e none pos.line env = pure false) autoA) :
    HS prog w A env Γ res (.Expr e pos) fun Γ' res'' => Γ' = Γ ∧ Pr res'' := fun Hd Z s at_ => by
  refine wpAny_Expr (wpAny_mono (h Hd Z s at_) (fun v s₁ q => ?_) fun _ _ x => x) hi hv
  (refine ex2 q fun r₁ Z₁ zz => and4 zz fun hP₁ st₁ at₁ hv => ?_; try clear q)
  cases (show v = .none from hv)
  exact ⟨rfl, Γ, r₁, Z₁, ⟨rfl, hP₁⟩, ⟨rfl, rfl⟩, st₁, at₁⟩
end
end
end
section
section
section
variable {prog : Program} {w : World} {A : Around} {E : Value → Shared → Prop} {s : Shared} {a : Addr}
theorem star_list {o : Obj} {vs : List Value} {n : Nat} {Q : List Value → Shared → Prop} (ho : s.heap.get? a = some o) (hc : o.cls = .type "list") (hd : o.data = .seq vs.toArray n) (hz : vs.length ≤ 100000) (h : ∀ s', Kp s s' → Q vs s') : StarOf (model prog w) A E (.ref a) Q s := by
  have hT' : s.TypeIs (.ref a) "list" := ⟨o, ho, hc⟩
  have z : wpAny (model prog w) A (collect (.ref a)) Q E s :=
    wpAny_collect_seq a (.inl rfl) ho hc hd (fun h' hk => h { s with heap := h' } ⟨h', s.toks, rfl, hk⟩) (by rw [List.size_toArray, sizeLine_eq]; omega)
  unfold StarOf notIterableAtAll
  exact wpAny_bind (wpAny_specialOf hT' PySem.F.slot_list_iter.lookup (wpAny_pure ⟨rfl, z⟩))
end
section
variable {prog : Program} {w : World} {K : Type} [DecidableEq K] {knd : KeyKind prog w K} {cS cN : Addr} {σ' : Srt K} {Γ : Gm} {env : Env} {res : List Res} {Hd Z : List Addr} {s : Shared}
theorem At.fresh (a : At Γ env res Hd Z s) {h' : Heap} {tk : Nat} {l : Led} (hL : ∀ m, Fr Γ.h₀ Γ.L s.heap m → Fr Γ.h₀ Γ.L h' m) (N : News Γ.h₀ Γ.L h' l) (S : SIn knd cS cN l σ') (sub : ∀ p ∈ ledger Γ.h₀ Γ.L s.heap, p ∈ l) (new : ∀ a ∈ σ'.foot, ∀ p ∈ ledger Γ.h₀ Γ.L s.heap, p.1 ≠ a) :
    ∃ Z', Stp Z s Z' { s with heap := h', toks := tk } ∧ At Γ env (SrtR knd cS cN σ' :: res) Hd Z' { s with heap := h', toks := tk } := by
  refine ex1 a.cx.fr fun m₀ F₀ => ?_
  have keep : ∀ b o, b ≠ env.locals → s.heap.get? b = some o → h'.get? b = some o := fun b o h1 e => by
    cases q : Γ.h₀.get? b with
    | none => exact (N _ (sub (b, o) (mem_ledger.mpr ⟨e, fun z => h1 (by rw [a.loc]; exact z), q⟩))).1
    | some o' =>
      have := F₀.keep b o' q
      rw [e] at this; cases this
      exact (hL m₀ F₀).keep b o q
  have hf : ∀ b ∈ σ'.foot, b ∈ ([] : List Addr) ∨ s.heap.get? b = none := fun b hb => by
    refine ex1 (S.footG hb) fun o ho => ?_
    refine and3 (N _ ho) fun n1 n2 n3 => ?_
    right
    cases e : s.heap.get? b with
    | none => rfl
    | some o' => exact absurd rfl (new b hb (b, o') (mem_ledger.mpr ⟨e, n2, n3⟩))
  refine and2 (a.addNil.call (fs := []) (h₀' := Γ.h₀) (s' := { s with heap := h', toks := tk }) (SrtR knd cS cN σ') ⟨h', tk, rfl⟩ (fun b o h1 _ _ e => keep b o h1 e) (fun _ h => (nomatch h)) hL a.g₀ a.b₀ (fun _ h => h) hf ⟨l.filter fun p => decide (p.1 ∈ σ'.foot), S.mono fun p hp ha => List.mem_filter.mpr ⟨hp, by simpa using ha⟩, fun p hp => ⟨(N p (List.mem_filter.mp hp).1).1, by simpa using (List.mem_filter.mp hp).2⟩⟩) fun hz a' => ?_
  exact ⟨_, ⟨⟨h', tk, rfl, fun b o hb e => keep b o (fun q => hb (q ▸ a.lz)) e⟩, hz⟩, a'⟩
end
end
end
section
section
section
variable {prog : Program} {w : World} {A : Around} {s : Shared} {K : Frag} {h₀ : Heap} {p : Program} {loose : List Str} {mean : ExcName → Option Value} {mg mb : Str → Option Value} {f : Addr} {name qual : Str} {params : Arguments} {body : List Stmt} {scope : Scope} {dV kV doc pm cdv ct oc : Value} {an od : Option Addr} {osl : Array (Option Value)}
  {binds : List (Str × Value)} {vals : List Value} {vars : List Vb} {Z : List Addr} {Q : Value → Shared → Prop}
theorem pfn_go (X : K.In h₀) (T : Top p loose mean mg mb h₀) (hx : ∀ b o, h₀.get? b = some o → s.heap.get? b = some o) (ho : K.lookup f = some ⟨oc, od, .func (fnOf name qual params body scope dV kV doc pm an cdv ct), osl⟩) (hcd : codeIn K cdv qual = true) (hroom : A.depth < recursionLimit)
    (hbind : bindArgs (fnOf name qual params body scope dV kV doc pm an cdv ct) ⟨vals, []⟩ = pure binds)
    (hkind : ∀ n, ∀ x ∈ binds, scope.names.lookup x.1 = some .local ∨ (scope.names.lookup x.1 = some .cell ∧ ((cellsFrom n scope.names []).lookup x.1).isSome = true))
    (hk : scope.kind = .function) (hnd : ((cellsFrom 0 scope.names []).map (·.1)).Nodup) (hcdn : ∀ y ∈ scope.names, (y.1 == ("__classdict__" : Str)) = false) (hZ : ∀ z ∈ Z, ∃ o, s.heap.get? z = some o)
    (hvars : ∀ L, ∀ vb ∈ vars, ∃ v, bound (callEnvC (fnOf name qual params body scope dV kV doc pm an cdv ct) L f).kindOf binds vb.x v ∧ vb.R.rel vb.a (hid Z s.heap) v)
    (h : ∀ L Γ Z' s₁, Ini mg mb scope s.heap vars Γ → Γ.L = L → Kp s s₁ → (∀ z ∈ Z', s.heap.get? z = none) → At Γ (callEnvC (fnOf name qual params body scope dV kV doc pm an cdv ct) L f) [] Z Z' s₁ →
      wpAny (model prog w) (A.deeper (callEnvC (fnOf name qual params body scope dV kV doc pm an cdv ct) L f)) (execs body (callEnvC (fnOf name qual params body scope dV kV doc pm an cdv ct) L f)) (fun fl s' => ∃ v, fl = .ret v ∧ Q v s') NoExc s₁)
    (hco : scope.isCoroutine = false) (hgen : scope.isGenerator = false) :
    wpAny (model prog w) A (call (.ref f) vals) Q NoExc s := by
  have Xs : K.In s.heap := X.keeps hx
  refine wpAny_call (codeAny_call_cells (fd := fnOf name qual params body scope dV kV doc pm an cdv ct) hroom (Xs _ _ ho) rfl (T.nolimit.keeps hx) (codeRec_of Xs hcd) rfl hbind rfl (hkind _) (fun s₁ x => ?_) hco hgen hk)
  have at_ := at_entry (fd := fnOf name qual params body scope dV kV doc pm an cdv ct) rfl rfl hk hnd (T.g.at' fun o e => hx _ o e) (T.b.at' fun o e => hx _ o e) hcdn hZ hvars x
  refine wpAny_mono (h s.heap.objs.size _ _ _ ⟨rfl, rfl, rfl, rfl, rfl, fun _ h => h⟩ rfl x.done (fun z hz => at_.z₀ z hz) at_) (fun fl s' q => ?_) fun _ _ q => q.elim
  (refine ex1 q ?_; try clear q; rintro v zz; refine and2 zz ?_; try clear zz; rintro rfl hQ)
  exact hQ
end
end
end
section
section
section
variable {prog : Program} {w : World} {A : Around} {E : Value → Shared → Prop} {s : Shared} {K : Frag} {x f C : Addr} {ox : Obj} {es : List DictEntry} {n : Nat} {name : Str} {expr : Bool} {Q : Value → Shared → Prop} {env : Env} {pos : Pos}
theorem bound_push (X : K.In s.heap) (I : InstAt s.heap x ox C (some (dictOf es n))) (hg : plainGet K C name = true) (hh : hasDictIn K C = true) (ha : findIn K (.ref C) name = some (some (.ref f))) (hf : isFn K (.ref f) = true)
    (hgf : specialIn K (.ref f) "__get__" = some (some (.builtin "function.__get__"))) (ht : takesIn K (.ref f) = some false) (hc : copiedNames.contains name = false) (hl : getL name es = some none)
    (h : Q (.ref s.heap.objs.size) { s with heap := s.heap.push (methodObj (.ref f) (.ref x)), toks := s.toks + 1 }) : wpAny (model prog w) A (getAttr (.ref x) name expr) Q E s :=
  get_bind X I (plainGet_of hg).1 (findObj_fn hh ha hgf ht hc (by show lookIn name (dictOf es n) = _; rw [lookIn_dict, hl])) (plainGet_of hg).2
    (wpAny_call (fn_get (s := { s with toks := s.toks + 1 }) X (beq_iff_eq.mp hf) (handed_on rfl h)))
theorem callWith_MS {q : Addr} {self : Value} {e : PySem.Expr} {rest : List PySem.Expr} {first : List Value} (hf : fnIn K f = true) (h : wpAny (model prog w) A (spliced (backTo pos (starEach (e :: rest) env))) (fun vs s₁ => MethP K q f self s₁.heap ∧ wpAny (model prog w) A (call (.ref q) (first ++ vs)) Q E s₁) E s)
    (he : starEach (e :: rest) env = (false, eval e env) :: starEach rest env) (hst : (backTo pos (starEach rest env)).any (·.1) = true) :
    wpAny (model prog w) A (callWith pos (.ref q) first (backTo pos (starEach (e :: rest) env)) []) Q E s := by
  rw [he] at h ⊢
  exact ks_call (by show (false || (backTo pos (starEach rest env)).any (·.1)) = true; rw [hst]; rfl) (keeps_M hf) (evalArgs_plain h)
end
end
end
section
section
section
variable {α β γ : Type} {prog : Program} {w : World} {A : Around} {Γ : Gm} {R : Rp β}
variable {elt t₀ i₀ t₁ i₁ : PySem.Expr} {scope : Scope} {pos : Pos} {xs : List α} {ys : α → List γ} {It₀ : α → Kn → Value → Heap → Prop} {It₁ : γ → Kn → Value → Heap → Prop} {own₀ : α → List Vb} {own₁ : γ → List Vb} {tn₀ tn₁ : List Str} {f : α → γ → β}
theorem listcomp2_use {env : Env} {s : Shared} {Z : List Addr} {use : Option (Value → Sem Unit)} {Q : Value → Shared → Prop} (c : Cx Γ env s Z) (hh : A.handled = none) (hi₀ : EvI prog w A Γ i₀ t₀ It₀ xs) (st : Stat Γ scope) (hb₀ : BndOk scope t₀ It₀ own₀ tn₀) (hi₁ : ∀ x ∈ xs, EvI prog w A (Γc Γ scope (own₀ x)) i₁ t₁ It₁ (ys x)) (hb₁ : BndOk scope t₁ It₁ own₁ tn₁)
    (hdis : ∀ x, ∀ vb ∈ own₀ x, vb.x ∉ tn₁ ∧ scope.names.lookup vb.x = some .local) (hel : ∀ x ∈ xs, ∀ y ∈ ys x, Ev prog w A (Γc Γ scope (own₁ y ++ own₀ x)) elt R (f x y)) (hlen : (xs.flatMap fun x => (ys x).map (f x)).length ≤ sizeLine)
    (hs₀ : ∀ env x, foldedSetIterable i₀ env x = pure x) (hs₁ : ∀ env x, foldedSetIterable i₁ env x = pure x)
    (hRR : ∀ D C m s₅ Z', Kp s s₅ → s.heap.get? D = none → s.heap.get? C = none → D ≠ C → C ∈ Z' → D ∈ Z' → (∀ z ∈ Z, z ∈ Z') → (∀ z ∈ Z', z ∈ Z ∨ s.heap.get? z = none) → s₅.heap.Ns C m → AccL R D Z' (xs.flatMap fun x => (ys x).map (f x)) s₅.heap → compPost (model prog w) A NoExc use Q (.ref D) C (.ok .next) s₅) :
    wpAny (model prog w) A (comprehension (.ListComp elt [⟨t₀, i₀, [], 0⟩, ⟨t₁, i₁, [], 0⟩] scope pos) scope env (firstIterPos [⟨t₀, i₀, [], 0⟩, ⟨t₁, i₁, [], 0⟩] pos) (newList []) false (eval i₀ env) use) Q NoExc s := by
  refine comp_core (f := fun x => (ys x).map (f x)) (AccS := AccL R) (p := fun _ => true) rfl hs₀ newList_acc rfl (fun I D cenv => shape_list0 elt t₀ i₀ t₁ i₁ [] [] scope pos (.ref I) (.ref D) cenv) (fun I D cenv R s h0 h => codeAny_compStart_list h0 h) (fun _ _ _ => rfl) (fun _ _ _ => rfl) (fun _ _ _ => rfl) c hh hi₀ st hb₀ (fun _ _ => ets_nil) ?_ accL_nil accL_has accL_stab (by simpa using hlen) ?_
  · intro x hx _ D cenv oc s₁ Z' zs O fo hF hD hDF cx rb hac hl
    refine wpAny_bind (wpAny_mono (hi₁ x hx cenv s₁ Z' cx) (fun v s₂ h₂ => wpAny_bind (wpAny_standAt (wpAny_bind (wpAny_of_eq (hs₁ cenv v) (wpAny_bind (wpAny_holding (wpAny_mono h₂ (fun it s₃ h₃ => ?_) fun _ _ x => x))))))) fun _ _ x => x)
    (refine ex6 h₃ ?_; try clear h₃; rintro I fp wr P Md St zz; refine and7 zz ?_; try clear zz; rintro rfl W hst hfp hwr k₃ hit)
    refine wpAny_bind (wpAny_runOwn (h := none) ?_)
    show codeAny _ A _ _ _
    have hex3 : ∀ z ∈ Z', ∃ o, s₃.heap.get? z = some o := fun z hz => (cx.zl z hz).imp fun o e => k₃.get e
    have hwZ : ∀ b ∈ wr, b ∉ Z' := fun b hb q => by refine ex1 (cx.zl b q) fun o ho => ?_; rw [hwr b hb] at ho; cases ho
    have fo₃ : FOk cenv oc s₃ := ⟨fo.ns.imp fun m hm => hm.at' fun o e => k₃.get e, fun n a hm => (fo.ce n a hm).imp fun v hv => hv.keeps fun b o e => k₃.get e⟩
    have ac₃ : AccL R D Z' zs s₃.heap := accL_stab D Z' zs _ _ (fun b o _ e => k₃.get e) hac
    have sub' : ∀ b, b ∈ (D :: (Fms cenv oc ++ wr)) ++ Z' ↔ b ∈ wr ++ Z' := fun b => by
      simp only [List.mem_append, List.mem_cons]
      constructor
      · rintro ((q | q | q) | q)
        · exact .inr (q ▸ hD)
        · exact .inr (hF b q)
        · exact .inl q
        · exact .inr q
      · rintro (q | q)
        · exact .inl (.inr (.inr q))
        · exact .inr q
    have hfpZ : ∀ b ∈ Fms cenv oc, b ∉ wr := fun b hb q => hwZ b q (hF b hb)
    have kin : ∀ s', KB (D :: (Fms cenv oc ++ wr)) s₃ s' → ∀ b o, hid (wr ++ Z') s₃.heap b o → hid (wr ++ Z') s'.heap b o := fun s' k b o x => ⟨x.1, k.get (fun q => x.1 ((sub' b).mp (List.mem_append_left _ q))) x.2⟩
    have loop : codeAny (model prog w) A (.compLoop (.ListComp elt [⟨t₀, i₀, [], 0⟩, ⟨t₁, i₁, [], 0⟩] scope pos) 1 (.ref I) (.ref D) cenv) (fun r s' => match r with | .ok f' => wpAny (model prog w) A (pure ()) (fun _ s₂ => KB (D :: Fms cenv oc) s₁ s₂ ∧ FOk cenv oc s₂ ∧ AccL R D Z' (zs ++ (ys x).map (f x)) s₂.heap) NoExc s' | .error e => cameBackBy (model prog w) A cenv NoExc e s') s₃ := by
      refine cloop_go (It := fun y v h => It₁ y (hid (wr ++ Z') s₃.heap) v h) (FO := fun s' => FOk cenv oc s' ∧ ∀ vb ∈ own₀ x, ∃ u, SeesV cenv s' vb.x u ∧ vb.R.rel vb.a (hid (wr ++ Z') s₃.heap) u) (On := fun y s' => ∀ vb ∈ own₁ y, ∃ u, SeesV cenv s' vb.x u ∧ vb.R.rel vb.a (hid (wr ++ Z') s₃.heap) u) (D := D) (Fm := Fms cenv oc) (Z := wr ++ Z') (AccS := fun us h => AccL R D (wr ++ Z') us h) (ys0 := zs) (p := fun _ => true) (f := fun y => [f x y]) (Γ' := fun y => Γc Γ scope (own₁ y ++ own₀ x))
        (shape_list1 elt t₀ i₀ t₁ i₁ [] [] scope pos (.ref I) (.ref D) cenv) rfl rfl rfl W.t hst hit ⟨fo₃, fun vb hv => ?_⟩ ?_ ?_ ?_ W.ex ?_ (fun _ _ => ets_nil) ?_ ?_ ?_ ?_ (fun b hb q => (hfp b q).2 (hF b hb)) (fun q => (hfp D q).2 hD) ?_
      · refine ex1 (cx.vis vb (List.mem_append_left _ hv)) fun u zz => and2 zz fun h1 h2 => ?_
        exact ⟨u, h1.keeps k₃, vb.R.mono (fun b o z => ⟨fun q => (List.mem_append.mp q).elim (fun q => by have := z.2; rw [hwr b q] at this; cases this) z.1, k₃.get z.2⟩) h2⟩
      · rintro s' s'' k ⟨F, hv⟩
        have nd : ∀ b ∈ Fms cenv oc, b ∉ D :: wr := fun b hb q => (List.mem_cons.mp q).elim (fun q => hDF (q ▸ hb)) fun q => hfpZ b hb q
        refine ⟨⟨?_, fun n a hm => ?_⟩, fun vb hv' => ?_⟩
        · refine ex1 F.ns fun m hm => ?_; exact ⟨m, hm.at' fun o e => k.get (nd _ (.head _)) e⟩
        · refine ex2 (F.ce n a hm) fun v o zz => and2 zz fun ho hd => ?_
          exact ⟨v, o, k.get (nd _ (.tail _ (List.mem_map.mpr ⟨_, hm, rfl⟩))) ho, hd⟩
        · refine ex1 (hv vb hv') fun u zz => and2 zz fun h1 h2 => ?_
          rcases h1 with ⟨h1, m', h3, h4⟩ | ⟨h1, _⟩
          · exact ⟨u, .inl ⟨h1, m', h3.at' fun o e => k.get (nd _ (.head _)) e, h4⟩, h2⟩
          · rw [O.kd _ _ (hdis x vb hv').2 (by decide)] at h1
            rcases h1 with q | q <;> cases q
      · rintro s' y v hy ⟨F, hv⟩ hi
        refine wpAny_mono (hb₁ prog w A cenv oc _ s' y v O F hi hh) (fun _ s'' h => ⟨h.1, ⟨h.2.1, fun vb hv' => ?_⟩, h.2.2.1⟩) fun _ _ x => x
        refine ex1 (hv vb hv') fun u zz => and2 zz fun h1 h2 => ?_
        exact ⟨u, h.2.2.2 _ u (hdis x vb hv').1 h1, h2⟩
      · intro y s' s'' k on vb hv
        refine ex1 (on vb hv) fun u zz => and2 zz fun h1 h2 => ?_
        exact ⟨u, h1.keeps k, h2⟩
      · rintro y s' hy ⟨F, hv⟩ on k hw ⟨us, hac'⟩
        refine rb s' (own₁ y ++ own₀ x) wr ((k₃.kb (Mv := D :: (Fms cenv oc ++ wr))).trans k) hwr (accL_has _ _ _ _ hac') hw F fun vb hv' => ?_
        rcases List.mem_append.mp hv' with hv' | hv'
        · refine ex1 (on vb hv') fun u zz => and2 zz fun h1 h2 => ?_
          exact ⟨u, h1, vb.R.mono (kin s' k) h2⟩
        · refine ex1 (hv vb hv') fun u zz => and2 zz fun h1 h2 => ?_
          exact ⟨u, h1, vb.R.mono (kin s' k) h2⟩
      · rintro y us s' hy _ ⟨F, hv⟩ on k cx' hac' hl'
        refine wpAny_mono (emit_list (Mv := [D]) (hel x hx y hy) cx' F (List.mem_append_right _ hD) hDF hac' hl' (.head _)) (fun _ s'' h => ⟨h.1.mono fun b q => by rw [List.mem_singleton.mp q]; exact .head _, ⟨h.2.1, fun vb hv' => ?_⟩, h.2.2⟩) fun _ _ x => x
        refine ex1 (hv vb hv') fun u zz => and2 zz fun h1 h2 => ?_
        rcases h1 with ⟨h1, m', h3, h4⟩ | ⟨h1, _⟩
        · exact ⟨u, .inl ⟨h1, m', h3.at' fun o e => h.1.get (fun q => hDF (by rw [← List.mem_singleton.mp q]; exact .head _)) e, h4⟩, h2⟩
        · rw [O.kd _ _ (hdis x vb hv').2 (by decide)] at h1
          rcases h1 with q | q <;> cases q
      · intro us s' s'' k hac'
        exact accL_stab D (wr ++ Z') _ _ _ (fun b o hb e => k.get (fun q => (hb.elim (fun q' => (List.mem_append.mp q).elim (fun q => hDF (q' ▸ q)) fun q => hwZ _ q (q' ▸ hD)) fun q' => q' ((sub' b).mp (List.mem_append_left _ (.tail _ q))))) e) hac'
      · (refine ex1 hac fun vs zz => and2 zz fun hL hA => ?_; try clear hac)
        exact ⟨vs, hL.at fun o e => k₃.get e, hA.imp fun a u y => R.mono (fun b o z => ⟨fun q => (List.mem_append.mp q).elim (fun q => by have := z.2; rw [hwr b q] at this; cases this) z.1, k₃.get z.2⟩) y⟩
      · rw [flat_all]; exact hl
      · intro s' k F hac'
        rw [flat_all] at hac'
        refine wpAny_pure ⟨((k₃.kb (Mv := D :: (Fms cenv oc ++ wr))).trans k).less fun b q => ?_, F.1, ?_⟩
        · rcases List.mem_cons.mp q with q | q
          · exact .inl (q ▸ .head _)
          · exact (List.mem_append.mp q).elim (fun q => .inl (.tail _ q)) fun q => .inr (hwr b q)
        · (refine ex1 hac' fun vs zz => and2 zz fun hL hA => ?_; try clear hac')
          exact ⟨vs, hL, hA.imp fun a u y => R.mono (fun b o (z : hid (wr ++ Z') s'.heap b o) => (⟨fun q => z.1 (List.mem_append_right _ q), z.2⟩ : hid Z' s'.heap b o)) y⟩
    exact start_second loop (W.self 0 _ _ _ hst loop)
  · intro D C m s₅ Z' h1 h2 h3 h4 h5 h6 h7 h8 h9 h10
    simp only [if_true] at h10
    exact hRR D C m s₅ Z' h1 h2 h3 h4 h5 h6 h7 h8 h9 h10
def CU {τ : Type} (prog : Program) (w : World) (A : Around) (Γ : Gm) (comp : Env → Option (Value → Sem Unit) → Sem Value) (T : Rp τ) (a : τ) : Prop :=
  ∀ env s Z use (Q : Value → Shared → Prop), Cx Γ env s Z →
    (∀ (D C : Addr) (m : Str → Option Value) (s₅ : Shared) (Z' : List Addr), Kp s s₅ → s.heap.get? D = none → s.heap.get? C = none → D ≠ C → C ∈ Z' → D ∈ Z' → (∀ z ∈ Z, z ∈ Z') → (∀ z ∈ Z', z ∈ Z ∨ s.heap.get? z = none) → s₅.heap.Ns C m →
      (∀ (Zq : List Addr) (h' : Heap), D ∉ Zq → (∀ b o, b ≠ C → s₅.heap.get? b = some o → h'.get? b = some o) → (∀ z ∈ Zq, z ∈ Z') → T.rel a (hid Zq h') (.ref D)) → compPost (model prog w) A NoExc use Q (.ref D) C (.ok .next) s₅) →
    wpAny (model prog w) A (comp env use) Q NoExc s
section
variable {τ : Type} {T : Rp τ} {a : τ} {comp : Env → Option (Value → Sem Unit) → Sem Value} {e : PySem.Expr}
theorem ev_cu (h : CU prog w A Γ comp T a) (he : ∀ env, eval e env = comp env none) : Ev prog w A Γ e T a := fun env s Z c => by
  rw [he]
  refine h env s Z none _ c ?_
  intro D C m s₅ Z' k hD hC hDC hCZ hDZ hZ hZ' hn hac
  refine ⟨m, hn, fun h' hs' => ⟨?_, hac Z h' (fun q => ?_) (fun b o hb e => hs'.extBut b o hb e) hZ⟩⟩
  · (refine ex2 k ?_; try clear k; rintro h5 t5 zz; refine and2 zz ?_; try clear zz; rintro rfl k5)
    exact ⟨h', t5, rfl, fun b o e => hs'.extBut b o (fun q => by rw [q, hC] at e; cases e) (k5 b o e)⟩
  · refine ex1 (c.zl D q) fun o ho => ?_; rw [hD] at ho; cases ho
theorem hs_cu {mg mb : Str → Option Value} {scope : Scope} {h₀ : Heap} {vbs mv : List Vb} {env : Env} {res : List Res} {x : Str} {px spos : Pos} (H : Ini mg mb scope h₀ vbs Γ) (h : CU prog w A (Γ.rd mv) comp T a) (hx : Kd env x) (hm : ∀ vb ∈ mv, Rd Γ res vb)
    (hsw : swapsWith e (some (.Name x px)) spos.line env = pure true) (hu : ∀ use, evalThenUse e env use = (do let _ ← comp env (some use); pure ())) :
    HS prog w A env Γ res (.Assign [.Name x px] e spos) fun Γ' res' => Ini mg mb scope h₀ (put vbs x T a) Γ' ∧ res' = res := by
  refine hs_imp (P := fun Γ' res' => Γ' = Γ.set x T a ∧ res' = res) (fun Hd Z s at_ => ?_) fun Γ' r q => ⟨by rw [q.1]; exact H.put x T a, q.2⟩
  rw [exec_Assign_Name_used _ _ _ _ hsw, hu]
  refine wpAny_bind (wpAny_standAt (wpAny_bind (wpAny_bind ?_)))
  refine (wpAny_mono (Q := fun _ s' => ∃ Γ' res' Z', (Γ' = Γ.set x T a ∧ res' = res) ∧ (Γ'.h₀ = Γ.h₀ ∧ Γ'.L = Γ.L) ∧ Stp Z s Z' s' ∧ At Γ' env res' Hd Z' s') (h env s _ (some (assign (.Name x px) env)) _ (at_.read hm) ?_) (fun _ s' q => wpAny_pure (wpAny_pure ⟨rfl, q⟩)) fun _ _ e => e)
  intro D C m s₅ Z' k hD hC hDC hCZ hDZ hZ hZ' hn hac
  show wpAny _ A (assign (.Name x px) env (.ref D)) _ _ _
  have hCe : ∀ b ∈ [C], ∃ o, s₅.heap.get? b = some o := fun b hb => by rw [List.mem_singleton.mp hb]; (refine ex3 hn fun o _ _ zz => and2 zz fun ho _ => ?_; try clear hn); exact ⟨o, ho⟩
  have at₅ : At Γ env res ([C] ++ Hd) Z s₅ := at_.hide k (fun b hb => by rw [List.mem_singleton.mp hb]; exact hC) hCe
  have hr : T.rel a (hid (([C] ++ Hd) ++ Z) s₅.heap) (.ref D) := by
    refine hac _ _ (fun q => ?_) (fun b o _ e => e) fun z hz => ?_
    · rw [List.append_assoc] at q
      rcases List.mem_append.mp q with q | q
      · exact hDC (List.mem_singleton.mp q)
      · refine ex1 (at_.cx.zl D q) fun o ho => ?_; rw [hD] at ho; cases ho
    · rw [List.append_assoc] at hz
      rcases List.mem_append.mp hz with q | q
      · rw [List.mem_singleton.mp q]; exact hCZ
      · exact hZ z q
  refine wpAny_assign_Name (at₅.store hr hx.k hx.cd fun s' st' at' => ?_)
  have hC' : C ∉ Z := at'.hz C (List.mem_append_left _ (.head _))
  refine ⟨m, hn.at' fun o e => st'.1.get hC' e, fun h' hs' => ⟨_, _, Z, ⟨rfl, rfl⟩, ⟨rfl, rfl⟩, ⟨?_, fun z hz => .inl hz⟩, ?_⟩⟩
  · have k' := (k.stp.trans st').1
    (refine ex2 k' ?_; try clear k'; rintro h1 t1 zz; refine and2 zz ?_; try clear zz; rintro rfl kk)
    exact ⟨h', t1, rfl, fun b o hb e => hs'.extBut b o (fun q => by rw [q, hC] at e; cases e) (kk b o hb e)⟩
  · have h₀C : Γ.h₀.get? C = none := by
      cases e : Γ.h₀.get? C with
      | none => rfl
      | some o => refine ex1 at_.cx.fr fun m F => ?_; have := F.keep C o e; rw [hC] at this; cases this
    refine At.drop (wr := [C]) at' (fun b hb q => ?_) (fun b hb => by rw [List.mem_singleton.mp hb]; exact h₀C) ⟨h', s'.toks, rfl, fun b o hb e => hs'.extBut b o (fun q => hb (by rw [q]; exact .head _)) e⟩
    rw [List.mem_singleton.mp hb] at q
    refine ex1 (at_.cx.zl C (List.mem_append_left _ q)) fun o ho => ?_; rw [hC] at ho; cases ho
end
def lc2 (elt t₀ i₀ t₁ i₁ : PySem.Expr) (scope : Scope) (pos : Pos) (env : Env) (use : Option (Value → Sem Unit)) : Sem Value := comprehension (.ListComp elt [⟨t₀, i₀, [], 0⟩, ⟨t₁, i₁, [], 0⟩] scope pos) scope env (firstIterPos [⟨t₀, i₀, [], 0⟩, ⟨t₁, i₁, [], 0⟩] pos) (newList []) false (eval i₀ env) use
theorem cu_list2 (hh : A.handled = none) (hi₀ : EvI prog w A Γ i₀ t₀ It₀ xs) (st : Stat Γ scope) (hb₀ : BndOk scope t₀ It₀ own₀ tn₀) (hi₁ : ∀ x ∈ xs, EvI prog w A (Γc Γ scope (own₀ x)) i₁ t₁ It₁ (ys x)) (hb₁ : BndOk scope t₁ It₁ own₁ tn₁)
    (hdis : ∀ x, ∀ vb ∈ own₀ x, vb.x ∉ tn₁ ∧ scope.names.lookup vb.x = some .local) (hel : ∀ x ∈ xs, ∀ y ∈ ys x, Ev prog w A (Γc Γ scope (own₁ y ++ own₀ x)) elt R (f x y)) (hlen : (xs.flatMap fun x => (ys x).map (f x)).length ≤ sizeLine)
    (hs₀ : autoParam (∀ env x, foldedSetIterable i₀ env x = pure x) autoD) (hs₁ : autoParam (∀ env x, foldedSetIterable i₁ env x = pure x) autoD) :
    CU prog w A Γ (lc2 elt t₀ i₀ t₁ i₁ scope pos) (RList R) (xs.flatMap fun x => (ys x).map (f x)) := by
  intro env s Z use Q c hRR
  refine listcomp2_use c hh hi₀ st hb₀ hi₁ hb₁ hdis hel hlen hs₀ hs₁ ?_
  intro D C m s₅ Z' k hD hC hDC hCZ hDZ hZ hZ' hn hac
  exact hRR D C m s₅ Z' k hD hC hDC hCZ hDZ hZ hZ' hn fun Zq h' q1 q2 q3 => accL_rel hac q1 q2 hDC hCZ q3
end
section
variable {α β γ : Type} {prog : Program} {w : World} {A : Around} {Γ : Gm} {R : Rp β}
variable {elt target iter : PySem.Expr} {ifs : List PySem.Expr} {scope : Scope} {pos : Pos} {xs : List α} {It : α → Kn → Value → Heap → Prop} {own : α → List Vb} {tn : List Str} {p : α → Bool} {f : α → β}
end
end
end
section
section
section
variable {α β : Type} {prog : Program} {w : World} {A : Around} {Γ : Gm} {e target iter : PySem.Expr} {ifs : List PySem.Expr} {rest : List Comprehension} {scope : Scope} {pos : Pos} {env : Env} {s : Shared} {Z : List Addr} {accO : Obj} {newAcc : Sem Value}
  {emit : Addr → Env → Sem Unit} {xs : List α} {It : α → Kn → Value → Heap → Prop} {own : α → List Vb} {tn : List Str} {p : α → Bool} {f : α → List β} {AccS : Addr → List Addr → List β → Heap → Prop} {use : Option (Value → Sem Unit)} {Q : Value → Shared → Prop}
end
section
variable {α β γ K : Type} [DecidableEq K]
def DR (R : Rp α) (P : Kn) : List (K × α) → List (K × Value) → Prop
  | [], [] => True
  | p :: xs, q :: kvs => (q.1 = p.1 ∧ R.rel p.2 P q.2) ∧ DR R P xs kvs
  | _, _ => False
variable {R : Rp α} {P P' : Kn}
theorem DR.imp (hs : ∀ b o, P b o → P' b o) : ∀ {xs : List (K × α)} {kvs : List (K × Value)}, DR R P xs kvs → DR R P' xs kvs
  | [], [], _ => trivial
  | _ :: _, _ :: _, h => ⟨⟨h.1.1, R.mono hs h.1.2⟩, DR.imp hs h.2⟩
  | [], _ :: _, h => h.elim
  | _ :: _, [], h => h.elim
theorem DR.keys : ∀ {xs : List (K × α)} {kvs : List (K × Value)}, DR R P xs kvs → kvs.map (·.1) = xs.map (·.1)
  | [], [], _ => rfl
  | _ :: _, _ :: _, h => by rw [List.map_cons, List.map_cons, h.1.1, DR.keys h.2]
  | [], _ :: _, h => h.elim
  | _ :: _, [], h => h.elim
theorem DR.length {xs : List (K × α)} {kvs : List (K × Value)} (h : DR R P xs kvs) : kvs.length = xs.length := by
  have := congrArg List.length h.keys
  rwa [List.length_map, List.length_map] at this
theorem DR.snoc {k : K} {a : α} {v : Value} (hv : R.rel a P v) : ∀ {xs : List (K × α)} {kvs : List (K × Value)}, DR R P xs kvs → DR R P (xs ++ [(k, a)]) (kvs ++ [(k, v)])
  | [], [], _ => ⟨⟨rfl, hv⟩, trivial⟩
  | _ :: _, _ :: _, h => ⟨h.1, DR.snoc hv h.2⟩
  | [], _ :: _, h => h.elim
  | _ :: _, [], h => h.elim
theorem DR.get : ∀ {xs : List (K × α)} {kvs : List (K × Value)}, DR R P xs kvs → ∀ {i : Nat} {p : K × α}, xs[i]? = some p → ∃ v, kvs[i]? = some (p.1, v) ∧ R.rel p.2 P v
  | [], [], _, _, _, e => by cases e
  | p :: xs, q :: kvs, h, i, r, e => by
    cases i with
    | zero => cases e; exact ⟨q.2, by rw [← h.1.1]; rfl, h.1.2⟩
    | succ i => exact DR.get h.2 (i := i) e
  | [], _ :: _, h, _, _, _ => h.elim
  | _ :: _, [], h, _, _, _ => h.elim
def dget (xs : List (K × α)) (k : K) : Option α := (xs.find? fun p => decide (p.1 = k)).map (·.2)
theorem DR.find {k : K} : ∀ {xs : List (K × α)} {kvs : List (K × Value)}, DR R P xs kvs → (dget xs k = none ∧ valueAt kvs k = none) ∨ ∃ a v, dget xs k = some a ∧ valueAt kvs k = some v ∧ R.rel a P v
  | [], [], _ => .inl ⟨rfl, rfl⟩
  | p :: xs, q :: kvs, h => by
    unfold dget valueAt
    rw [List.find?_cons, List.find?_cons, h.1.1]
    by_cases e : p.1 = k
    · simp only [e, decide_true]; exact .inr ⟨_, _, rfl, rfl, h.1.2⟩
    · simp only [e, decide_false]; exact DR.find h.2
  | [], _ :: _, h => h.elim
  | _ :: _, [], h => h.elim
def dput (xs : List (K × α)) (k : K) (a : α) : List (K × α) := if xs.any (fun p => decide (p.1 = k)) then xs.map (fun p => if p.1 = k then (p.1, a) else p) else xs ++ [(k, a)]
theorem DR.any {k : K} : ∀ {xs : List (K × α)} {kvs : List (K × Value)}, DR R P xs kvs → kvs.any (fun p => decide (p.1 = k)) = xs.any fun p => decide (p.1 = k)
  | [], [], _ => rfl
  | _ :: _, _ :: _, h => by rw [List.any_cons, List.any_cons, h.1.1, DR.any h.2]
  | [], _ :: _, h => h.elim
  | _ :: _, [], h => h.elim
theorem DR.map {k : K} {a : α} {v : Value} (hv : R.rel a P v) : ∀ {xs : List (K × α)} {kvs : List (K × Value)}, DR R P xs kvs → DR R P (xs.map fun p => if p.1 = k then (p.1, a) else p) (kvs.map fun p => if p.1 = k then (p.1, v) else p)
  | [], [], _ => trivial
  | p :: xs, q :: kvs, h => by
    refine ⟨?_, DR.map hv h.2⟩
    dsimp only
    rw [h.1.1]
    by_cases e : p.1 = k
    · rw [if_pos e, if_pos e]; exact ⟨rfl, hv⟩
    · rw [if_neg e, if_neg e]; exact h.1
  | [], _ :: _, h => h.elim
  | _ :: _, [], h => h.elim
theorem DR.put {k : K} {a : α} {v : Value} {xs : List (K × α)} {kvs : List (K × Value)} (h : DR R P xs kvs) (hv : R.rel a P v) : DR R P (dput xs k a) (stored kvs k v) := by
  unfold dput stored
  rw [h.any]
  split
  · exact h.map hv
  · exact h.snoc hv
theorem dput_len {xs : List (K × α)} {k : K} {a : α} : (dput xs k a).length ≤ xs.length + 1 := by
  unfold dput
  split
  · rw [List.length_map]; omega
  · rw [List.length_append]; exact Nat.le_refl _
theorem dput_new {xs : List (K × α)} {k : K} {a : α} (h : k ∉ xs.map (·.1)) : dput xs k a = xs ++ [(k, a)] := by
  unfold dput
  rw [if_neg]
  intro q
  obtain ⟨p, hp, e⟩ := List.any_eq_true.mp q
  exact h (List.mem_map.mpr ⟨p, hp, of_decide_eq_true e⟩)
def dputs (xs : List (K × α)) : List (K × α) := xs.foldl (fun acc p => dput acc p.1 p.2) []
theorem dputs_snoc (xs : List (K × α)) (p : K × α) : dputs (xs ++ [p]) = dput (dputs xs) p.1 p.2 := by unfold dputs; rw [List.foldl_append]; rfl
theorem dputs_len (xs : List (K × α)) : (dputs xs).length ≤ xs.length := by
  unfold dputs
  have key : ∀ (l acc : List (K × α)), (l.foldl (fun acc p => dput acc p.1 p.2) acc).length ≤ acc.length + l.length := by
    intro l
    induction l with
    | nil => intro acc; exact Nat.le_refl _
    | cons p r ih => intro acc; rw [List.foldl_cons, List.length_cons]; have := ih (dput acc p.1 p.2); have := dput_len (xs := acc) (k := p.1) (a := p.2); omega
  simpa using key xs []
theorem dputs_eq {xs : List (K × α)} (h : (xs.map (·.1)).Nodup) : dputs xs = xs := by
  have key : ∀ (l acc : List (K × α)), ((acc ++ l).map (·.1)).Nodup → l.foldl (fun acc p => dput acc p.1 p.2) acc = acc ++ l := by
    intro l
    induction l with
    | nil => intro acc _; simp
    | cons p r ih =>
      intro acc hn
      rw [List.foldl_cons, dput_new, ih]
      · simp
      · rwa [List.append_assoc]
      · rw [List.map_append, List.nodup_append] at hn
        exact fun q => hn.2.2 _ q _ (by simp) rfl
  exact (key xs [] (by simpa using h)).trans (List.nil_append _)
end
section
variable {α β γ K : Type} [DecidableEq K] {prog : Program} {w : World} {knd : KeyKind prog w K} {A : Around} {Γ : Gm} {R : Rp α} {S : Rp K} {e e₁ e₂ : PySem.Expr} {pos apos : Pos}
def RDict (knd : KeyKind prog w K) (R : Rp α) : Rp (List (K × α)) := ⟨fun xs P v => ∃ d o kvs, v = .ref d ∧ P d o ∧ (d == sysModules) = false ∧ o.IsDictOf knd kvs ∧ DR R P xs kvs,
  by rintro xs P P' v hs ⟨d, o, kvs, e, h1, h2, h3, h4⟩; exact ⟨d, o, kvs, e, hs _ _ h1, h2, h3, h4.imp hs⟩⟩
theorem ev_ditem {xs : List (K × α)} {k : K} {y : α} (hK : ∀ {k : K} {P : Kn} {v : Value}, S.rel k P v → knd.is k v = true) (h₁ : Ev prog w A Γ e₁ (RDict knd R) xs) (h₂ : Ev prog w A Γ e₂ S k) (hy : dget xs k = some y) : Ev prog w A Γ (.Subscript e₁ e₂ pos) R y :=
  sub2 h₁ h₂ (fun env s Z u v c hu hv => by
    (refine ex3 hu ?_; try clear hu; rintro d o kvs zz; refine and5 zz ?_; try clear zz; rintro rfl ho _ hd hr)
    have hD : s.heap.DictOf knd d kvs := Heap.dictOf_iff.mpr ⟨o, ho.2, hd⟩
    refine ⟨hD.typeIs, ?_⟩
    rcases hr.find (k := k) with ⟨q, _⟩ | ⟨a, v', q1, q2, q3⟩
    · rw [hy] at q; cases q
    · rw [hy] at q1; cases q1
      exact wpAny_getItem_of (hK hv) hD.mapOf q2 ⟨.tok, q3⟩) slot_dict_getitem.lookup
def AccD (knd : KeyKind prog w K) (R : Rp α) (D : Addr) (Z' : List Addr) (ys : List (K × α)) (h : Heap) : Prop := ∃ kvs, h.DictOf knd D kvs ∧ DR R (hid Z' h) (dputs ys) kvs
theorem accD_stab (D : Addr) (Z' : List Addr) (ys : List (K × α)) (h h' : Heap) (hk : ∀ b o, (b = D ∨ b ∉ Z') → h.get? b = some o → h'.get? b = some o) (x : AccD knd R D Z' ys h) : AccD knd R D Z' ys h' := by
  obtain ⟨kvs, hl, ha⟩ := x
  obtain ⟨o, ho, hd⟩ := Heap.dictOf_iff.mp hl
  exact ⟨kvs, Heap.dictOf_iff.mpr ⟨o, hk D o (.inl rfl) ho, hd⟩, ha.imp fun b o z => ⟨z.1, hk b o (.inr z.1) z.2⟩⟩
theorem accD_has (D : Addr) (Z' : List Addr) (ys : List (K × α)) (h : Heap) (x : AccD knd R D Z' ys h) : ∃ o, h.get? D = some o := by
  obtain ⟨kvs, hl, _⟩ := x
  obtain ⟨o, ho, _⟩ := Heap.dictOf_iff.mp hl
  exact ⟨o, ho⟩
theorem accD_nil (D : Addr) (Z' : List Addr) (h : Heap) (e : h.get? D = some { cls := .type "dict", dict := none, data := .dict #[] }) : AccD knd R D Z' [] h :=
  ⟨[], Heap.dictOf_iff.mpr ⟨_, e, ((Heap.dictOf_iff.mp (Heap.DictOf.new (knd := knd) ({ objs := #[] } : Heap))).imp fun o ho => ho).elim fun o ho => by
    have : o = { cls := .type "dict", data := .dict #[] } := Option.some.inj (ho.1.symm.trans (Heap.get?_push_size _ rfl))
    exact this ▸ ho.2⟩, trivial⟩
theorem newDict_acc (Q : Value → Shared → Prop) (s : Shared) (h : Q (.ref s.heap.objs.size) { s with heap := s.heap.push { cls := .type "dict", dict := none, data := .dict #[] } }) : wpAny (model prog w) A newDict Q NoExc s := wpAny_newObj_type h
theorem emit_dict {Γ' : Gm} {cenv : Env} {oc : List (Str × Addr)} {s₁ : Shared} {Z' : List Addr} {D : Addr} {ys : List (K × α)} {kx vx : PySem.Expr} {k : K} {b : α} {p : Pos} (hK : ∀ {k : K} {P : Kn} {v : Value}, S.rel k P v → knd.is k v = true) (hk : Ev prog w A Γ' kx S k) (he : Ev prog w A Γ' vx R b) (cx : Cx Γ' cenv s₁ Z') (fo : FOk cenv oc s₁) (hD : D ∈ Z') (hDF : D ∉ Fms cenv oc) (hac : AccD knd R D Z' ys s₁.heap) (hl : (ys ++ [(k, b)]).length ≤ sizeLine) {Mv : List Addr} (hMv : D ∈ Mv) :
    wpAny (model prog w) A (do
            let kv ← eval kx cenv
            let vv ← holding [kv] (eval vx cenv)
            standAt p
            holding [kv, vv] (dictSet D kv vv)) (fun _ s₂ => KB Mv s₁ s₂ ∧ FOk cenv oc s₂ ∧ AccD knd R D Z' (ys ++ [(k, b)]) s₂.heap) NoExc s₁ := by
  refine wpAny_bind (hk.then cx fun kv s₂ k₂ cx₂ hkv => wpAny_bind (wpAny_holding (he.then cx₂ fun v s₃ k₃ cx₃ hv => wpAny_bind (wpAny_standAt (wpAny_holding ?_)))))
  refine ex1 (accD_stab D Z' ys _ _ (fun b o _ e => k₃.get (k₂.get e)) hac) fun kvs zz => and2 zz fun hL hA => ?_
  have hlen := hA.length
  have hdl := dputs_len ys
  refine wpAny_dictSet_pairs (hK hkv) hL (fun h' hL' hs' => ?_) (by rw [List.length_append] at hl; simp only [List.length_cons, List.length_nil] at hl; omega)
  have hk' : ∀ b o, b ≠ D → s₃.heap.get? b = some o → h'.get? b = some o := fun b o hb e => hs'.extBut b o hb e
  refine ⟨((k₂.tr k₃).kb (Mv := Mv)).trans ⟨h', _, rfl, fun b o hb e => hk' b o (fun q => hb (q ▸ hMv)) e⟩, ⟨?_, fun n a hm => ?_⟩, _, hL', ?_⟩
  · refine ex1 fo.ns fun m hm => ?_
    exact ⟨m, hm.at' fun o e => hk' _ o (fun q => hDF (q ▸ .head _)) (k₃.get (k₂.get e))⟩
  · refine ex2 (fo.ce n a hm) fun u o zz => and2 zz fun ho hd => ?_
    exact ⟨u, o, hk' _ o (fun q => hDF (q ▸ .tail _ (List.mem_map.mpr ⟨_, hm, rfl⟩))) (k₃.get (k₂.get ho)), hd⟩
  · have up : ∀ b o, hid Z' s₃.heap b o → hid Z' h' b o := fun b o x => ⟨x.1, hk' b o (fun q => x.1 (q ▸ hD)) x.2⟩
    rw [dputs_snoc]
    exact (hA.imp up).put (R.mono up hv)
variable {kx vx target iter : PySem.Expr} {ifs : List PySem.Expr} {scope : Scope} {xs : List γ} {It : γ → Kn → Value → Heap → Prop} {own : γ → List Vb} {tn : List Str} {p : γ → Bool} {f : γ → α} {kf : γ → K}
def dc1 (kx vx target iter : PySem.Expr) (ifs : List PySem.Expr) (scope : Scope) (pos : Pos) (env : Env) (use : Option (Value → Sem Unit)) : Sem Value := comprehension (.DictComp kx vx [⟨target, iter, ifs, 0⟩] scope pos) scope env (firstIterPos [⟨target, iter, ifs, 0⟩] pos) newDict false (eval iter env) use
theorem cu_dict (hK : ∀ {k : K} {P : Kn} {v : Value}, S.rel k P v → knd.is k v = true) (hl₀ : Γ.h₀.NoLimit) (hh : A.handled = none) (hi : EvI prog w A Γ iter target It xs) (st : Stat Γ scope) (hb : BndOk scope target It own tn)
    (hkx : ∀ x ∈ xs, Ev prog w A (Γc Γ scope (own x)) kx S (kf x)) (hvx : ∀ x ∈ xs, Ev prog w A (Γc Γ scope (own x)) vx R (f x)) (hlen : xs.length ≤ sizeLine) (hnd : (xs.map kf).Nodup) (hs : autoParam (∀ env x, foldedSetIterable iter env x = pure x) autoD) :
    CU prog w A Γ (dc1 kx vx target iter [] scope pos) (RDict knd R) (xs.map fun x => (kf x, f x)) := by
  intro env s Z use Q c hRR
  have efl : (xs.flatMap fun x => if (fun _ => true : γ → Bool) x = true then [(kf x, f x)] else []) = xs.map fun x => (kf x, f x) := by
    rw [flat_filter (fun _ => true), List.filter_eq_self.mpr fun _ _ => rfl]
  have low : sysModules < Γ.L := by
    refine ex1 c.fr fun m F => ?_
    exact Nat.lt_of_lt_of_le (modules_low hl₀) F.above
  refine comp_coreL (f := fun x => [(kf x, f x)]) (AccS := AccD knd R) (p := fun _ => true) rfl hs newDict_acc rfl (fun I D cenv => shape_dict kx vx target iter [] scope pos (.ref I) D cenv) (fun I D cenv R s h0 h => codeAny_compStart_dict h0 h) (fun _ _ _ => rfl) (fun _ _ _ => rfl) (fun _ _ _ => rfl) c hh hi st hb (fun _ _ => ets_nil) ?_ accD_nil accD_has accD_stab ?_ ?_
  · intro x hx _ D cenv oc s₁ Z' ys O fo hF hD hDF cx rb hac hl
    exact emit_dict hK (hkx x hx) (hvx x hx) cx fo hD hDF hac hl (.head _)
  · rw [efl, List.length_map]
    exact hlen
  · intro D C m s₅ Z' h0 h1 h2 h3 h4 h5 h6 h7 h8 h9 h10
    rw [efl] at h10
    refine hRR D C m s₅ Z' h1 h2 h3 h4 h5 h6 h7 h8 h9 fun Zq h' q1 q2 q3 => ?_
    (refine ex1 h10 fun kvs zz => and2 zz fun hd hr => ?_; try clear h10)
    refine ex1 (Heap.dictOf_iff.mp hd) fun o zz => and2 zz fun ho hd => ?_
    rw [dputs_eq (by rw [List.map_map]; exact hnd)] at hr
    refine ⟨D, o, kvs, rfl, ⟨q1, q2 D o h4 ho⟩, ?_, hd, hr.imp fun b o z => ⟨fun q => z.1 (q3 b q), q2 b o (fun q => z.1 (q ▸ h5)) z.2⟩⟩
    exact beq_eq_false_iff_ne.mpr (Ne.symm (Nat.ne_of_lt (Nat.lt_trans low h0)))
end
end
end
section
section
structure Out : Type 1 where
  β : Type
  R : Rp β
  b : β
section
variable (prog : Program) (w : World) (A : Around) (env : Env)
def EX (Γ : Gm) (res : List Res) (e : PySem.Expr) (P : Out → List Res → Prop) : Prop :=
  ∀ Hd Z s, At Γ env res Hd Z s → wpAny (model prog w) A (eval e env) (fun v s' => ∃ o res' Z', P o res' ∧ Stp Z s Z' s' ∧ At Γ env res' Hd Z' s' ∧ o.R.rel o.b (hid (Hd ++ Z') s'.heap) v) NoExc s
end
section
variable {mg mb : Str → Option Value} {scope : Scope} {h₀ : Heap} {vbs mv : List Vb} {α β γ : Type} {prog : Program} {w : World} {A : Around} {env : Env} {Γ : Gm} {res res' : List Res} {e e₁ e₂ e₃ : PySem.Expr} {R : Rp α} {S : Rp β} {a : α} {x y z : Str} {px py pz pos p p' tp tp' lp apos : Pos} {k k' : Nat} {body rest : List Stmt} {P : Out → List Res → Prop} {Pr : List Res → Prop} {PP : Gm → List Res → Prop}
theorem ex_pure (h : Ev prog w A (Γ.rd mv) e R a) (hm : ∀ vb ∈ mv, Rd Γ res vb) : EX prog w A env Γ res e fun o r => o = ⟨_, R, a⟩ ∧ r = res := fun Hd Z s at_ =>
  h.then (at_.read hm) fun v s₁ k₁ c₁ hv => ⟨_, _, Z, ⟨rfl, rfl⟩, k₁.stp, at_.keeps k₁, hv⟩
theorem ex_imp {P' : Out → List Res → Prop} (h : EX prog w A env Γ res e P) (k : ∀ o r, P o r → P' o r) : EX prog w A env Γ res e P' := fun Hd Z s at_ =>
  wpAny_mono (h Hd Z s at_) (fun v s' ⟨o, r, Z', h1, h2⟩ => ⟨o, r, Z', k _ _ h1, h2⟩) fun _ _ x => x
theorem At.add' {r : Res} {Hd Z : List Addr} {s s' : Shared} (a : At Γ env res Hd Z s) (k : Kp s s') (hf : ∀ b ∈ r.foot, s.heap.get? b = none) (hP : r.P (hid (Hd ++ (r.foot ++ Z)) s'.heap) s'.heap) : Stp Z s (r.foot ++ Z) s' ∧ At Γ env (r :: res) Hd (r.foot ++ Z) s' :=
  ⟨⟨k.kb, fun z hz => (List.mem_append.mp hz).elim (fun q => .inr (hf z q)) .inl⟩, a.add k r hf hP⟩
theorem hs_setX (H : Ini mg mb scope h₀ vbs Γ) (h : EX prog w A env Γ res e P) (hx : Kd env x) (hsw : autoParam (swapsWith e (some (.Name x px)) pos.line env = pure false) autoA) :
    HS prog w A env Γ res (.Assign [.Name x px] e pos) fun Γ' r => ∃ o, Ini mg mb scope h₀ (put vbs x o.R o.b) Γ' ∧ P o r := fun Hd Z s at_ => by
  refine wpAny_Assign_Name (wpAny_mono (h Hd Z s at_) (fun v s₁ q => ?_) fun _ _ x => x) hsw
  obtain ⟨o, r, Z₁, hP, st₁, at₁, hv⟩ := q
  exact at₁.store (R := o.R) (b := o.b) hv hx.k hx.cd fun s' st' at' => ⟨rfl, _, _, _, ⟨o, H.put x _ _, hP⟩, ⟨rfl, rfl⟩, st₁.trans st', at'⟩
theorem disp2 {P₂ : Out → Out → List Res → Prop} {Hd Z : List Addr} {s : Shared} {Q : Value → Shared → Prop} (at_ : At Γ env res Hd Z s) (h₁ : EX prog w A env Γ res e₁ P) (h₂ : ∀ o r, P o r → EX prog w A env Γ r e₂ (P₂ o))
    (q : ∀ o₁ o₂ r Z' T u v s', P₂ o₁ o₂ r → Stp Z s Z' s' → At Γ env r Hd Z' s' → s'.heap.IsTuple T #[u, v] → o₁.R.rel o₁.b (hid (Hd ++ Z') s'.heap) u → o₂.R.rel o₂.b (hid (Hd ++ Z') s'.heap) v → Q (.ref T) s')
    (hs : autoParam (starEach [e₁, e₂] env = [(false, eval e₁ env), (false, eval e₂ env)]) autoA) : wpAny (model prog w) A (eval (.Tuple [e₁, e₂] k tp) env) Q NoExc s := by
  refine Tuple_ ?_
  rw [hs]
  refine spliced_cons (wpAny_mono (h₁ Hd Z s at_) (fun u s₁ q₁ => ?_) fun _ _ x => x)
  obtain ⟨o₁, r₁, Z₁, hP₁, st₁, at₁, hu⟩ := q₁
  refine spliced_cons (wpAny_mono (h₂ o₁ r₁ hP₁ Hd Z₁ s₁ at₁) (fun v s₂ q₂ => spliced_nil ?_) fun _ _ x => x)
  obtain ⟨o₂, r₂, Z₂, hP₂, st₂, at₂, hv⟩ := q₂
  refine wpAny_newObj_type ?_ (by show 2 ≤ sizeLine; rw [sizeLine_eq]; omega)
  exact q o₁ o₂ r₂ Z₂ _ u v _ hP₂ ((st₁.trans st₂).trans Kp.push.stp) (at₂.keeps .push) ⟨_, Heap.get?_push_size _ rfl, rfl, 0, rfl⟩ (o₁.R.mono (hid_keeps .push) (o₁.R.mono st₂.up hu)) (o₂.R.mono (hid_keeps .push) hv)
theorem hs_pairX {P₂ : Out → Out → List Res → Prop} (hh : A.handled = none) (H : Ini mg mb scope h₀ vbs Γ) (h₁ : EX prog w A env Γ res e₁ P) (h₂ : ∀ o r, P o r → EX prog w A env Γ r e₂ (P₂ o)) (hx : Kd env x) (hy : Kd env y)
    (hs : autoParam (starEach [e₁, e₂] env = [(false, eval e₁ env), (false, eval e₂ env)]) autoA) (hs' : autoParam (swapsWithSole [.Tuple [.Name x px, .Name y py] k' p'] (.Tuple [e₁, e₂] k tp) pos.line env = pure false) autoA) (hw : autoParam (swappedStores [.Tuple [.Name x px, .Name y py] k' p'] (.Tuple [e₁, e₂] k tp) env = pure none) autoA) :
    HS prog w A env Γ res (.Assign [.Tuple [.Name x px, .Name y py] k' p'] (.Tuple [e₁, e₂] k tp) pos) fun Γ' r => ∃ o₁ o₂, Ini mg mb scope h₀ (put (put vbs x o₁.R o₁.b) y o₂.R o₂.b) Γ' ∧ P₂ o₁ o₂ r := fun Hd Z s at_ => by
  refine Assign_Tuple (disp2 at_ h₁ h₂ (fun o₁ o₂ r Z' T u v s₁ hP st₁ at₁ ht hu hv => ?_) hs) hs' hw
  refine wpAny_assign_Tuple hh ht rfl rfl fun h' he' => ?_
  have k₂ : Kp s₁ { s₁ with heap := h' } := ⟨h', s₁.toks, rfl, fun b o e => he' b o (Nat.ne_of_lt (get_lt e)) e⟩
  show wpAny _ _ (assignInOrder [assign (.Name x px) env, assign (.Name y py) env] [u, v]) _ _ _
  refine assignInOrder_cons (wpAny_assign_Name ((at₁.keeps k₂).store (R := o₁.R) (b := o₁.b) (o₁.R.mono (hid_keeps k₂) hu) hx.k hx.cd fun s₃ st₃ at₃ => ?_))
  refine assignInOrder_cons (wpAny_assign_Name (at₃.store (R := o₂.R) (b := o₂.b) (o₂.R.mono (k₂.stp.trans st₃).up hv) hy.k hy.cd fun s₄ st₄ at₄ => assignInOrder_nil ?_))
  exact ⟨rfl, _, _, _, ⟨o₁, o₂, (H.put x _ _).put y _ _, hP⟩, ⟨rfl, rfl⟩, ((st₁.trans k₂.stp).trans st₃).trans st₄, at₄⟩
theorem hs_pairXS {P₂ : Out → Out → List Res → Prop} (hh : A.handled = none) (H : Ini mg mb scope h₀ vbs Γ) (h₁ : EX prog w A env Γ res e₁ P) (h₂ : ∀ o r, P o r → EX prog w A env Γ r e₂ (P₂ o)) (hx : Kd env x) (hy : Kd env y)
    (hs : autoParam (starEach [e₁, e₂] env = [(false, eval e₁ env), (false, eval e₂ env)]) autoA) (hs' : autoParam (swapsWithSole [.Tuple [.Name x px, .Name y py] k' p'] (.Tuple [e₁, e₂] k tp) pos.line env = pure false) autoA) (hw : autoParam (swappedStores [.Tuple [.Name x px, .Name y py] k' p'] (.Tuple [e₁, e₂] k tp) env = pure (some [x, y])) autoA) :
    HS prog w A env Γ res (.Assign [.Tuple [.Name x px, .Name y py] k' p'] (.Tuple [e₁, e₂] k tp) pos) fun Γ' r => ∃ o₁ o₂, Ini mg mb scope h₀ (put (put vbs y o₂.R o₂.b) x o₁.R o₁.b) Γ' ∧ P₂ o₁ o₂ r := fun Hd Z s at_ => by
  refine Assign_Tuple_swapped (disp2 at_ h₁ h₂ (fun o₁ o₂ r Z' T u v s₁ hP st₁ at₁ ht hu hv => ?_) hs) hs' hw
  refine wpAny_unpackItems_tuple (items := #[u, v]) hh ht fun h' he' => ?_
  have k₂ : Kp s₁ { s₁ with heap := h' } := ⟨h', s₁.toks, rfl, fun b o e => he' b o (Nat.ne_of_lt (get_lt e)) e⟩
  show wpAny _ _ (assignInOrder [bindName env y, bindName env x] [v, u]) _ _ _
  refine assignInOrder_cons (wpAny_bindName ((at₁.keeps k₂).store (R := o₂.R) (b := o₂.b) (o₂.R.mono (hid_keeps k₂) hv) hy.k hy.cd fun s₃ st₃ at₃ => ?_))
  refine assignInOrder_cons (wpAny_bindName (at₃.store (R := o₁.R) (b := o₁.b) (o₁.R.mono (k₂.stp.trans st₃).up hu) hx.k hx.cd fun s₄ st₄ at₄ => assignInOrder_nil ?_))
  exact ⟨rfl, _, _, _, ⟨o₁, o₂, (H.put y _ _).put x _ _, hP⟩, ⟨rfl, rfl⟩, ((st₁.trans k₂.stp).trans st₃).trans st₄, at₄⟩
theorem turn_pair {q : α × β} (hh : A.handled = none) (H : Ini mg mb scope h₀ vbs Γ) (hx : Kd env x) (hy : Kd env y) (h : ∀ Γ', Ini mg mb scope h₀ (put (put vbs x R q.1) y S q.2) Γ' → HT prog w A env Γ' res body PP) : Turn prog w A env Γ res (.Tuple [.Name x px, .Name y py] k tp) (ItP R S) q body PP := fun Hd Z s v at_ hv => by
  (refine ex3 hv ?_; try clear hv; rintro T u t zz; refine and4 zz ?_; try clear zz; rintro rfl ht h1 h2)
  refine wpAny_assign_Tuple hh ht rfl rfl fun h' he' => ?_
  have k₂ : Kp s { s with heap := h' } := ⟨h', s.toks, rfl, fun b o e => he' b o (Nat.ne_of_lt (get_lt e)) e⟩
  show wpAny _ _ (assignInOrder [assign (.Name x px) env, assign (.Name y py) env] [u, t]) _ _ _
  refine assignInOrder_cons (wpAny_assign_Name ((at_.keeps k₂).store (R := R) (b := q.1) (R.mono (hid_keeps k₂) h1) hx.k hx.cd fun s₃ st₃ at₃ => ?_))
  refine assignInOrder_cons (wpAny_assign_Name (at₃.store (R := S) (b := q.2) (S.mono (k₂.stp.trans st₃).up h2) hy.k hy.cd fun s₄ st₄ at₄ => assignInOrder_nil ?_))
  exact wpAny_mono (h _ ((H.put x R q.1).put y S q.2) Hd Z s₄ at₄) (fun f s' ⟨q1, Γ', r', Z', q2, q5, q3, q4⟩ => ⟨.inl q1, Γ', r', Z', q2, q5, ((k₂.stp.trans st₃).trans st₄).trans q3, q4⟩) fun _ _ x => x
end
end
end
section
section
theorem entry_itemiter_iter : entryFor table "dict_itemiterator.__iter__" = some Builtin.«dict_keyiterator.__iter__» :=
  entryFor_alias (id' := "dict_keyiterator.__iter__") (by kernel_rfl) rfl (by decide +kernel) (by kernel_rfl)
section
variable {α β K : Type} [DecidableEq K] {prog : Program} {w : World} {knd : KeyKind prog w K} {A : Around} {Γ : Gm} {R : Rp α} {S : Rp K} {e e₁ e₂ : PySem.Expr} {x y : Str} {px py tp p pos apos : Pos} {kk : Nat} {E : Value → Shared → Prop} {s : Shared}
theorem pyIter_itemiter {it d : Addr} {i n ep : Nat} {ok ov : Value} {Q : Value → Shared → Prop} (hit : IsItemIter s.heap it d i n ep ok ov) (h : Q (.ref it) s) : wpAny (model prog w) A (pyIter (.ref it)) Q E s := by
  have hT : s.TypeIs (.ref it) "dict_itemiterator" := ⟨_, hit, rfl⟩
  refine wpAny_pyIter_slot hT PySem.F.slot_dict_itemiterator_iter (wpAny_call_entry PySem.F.slot_dict_itemiterator_iter hT entry_itemiter_iter ?_ (PySem.F.args_dict_itemiterator_iter_1 _))
  show wpAny _ _ (ret (.ref it)) _ _ s
  exact wpAny_pure ⟨_, rfl, "dict_itemiterator", _, hT, PySem.F.slot_dict_itemiterator_next.lookup, h⟩
theorem src_items (hh : A.handled = none) (I d : Addr) (hne : d ≠ I) (kvs : List (K × Value)) (ep : Nat) :
    Src prog w A (.Tuple [.Name x px, .Name y py] kk tp) I [I, d] [I] kvs.length (fun i v h => ∃ T k kv val, v = .ref T ∧ kvs[i]? = some (k, val) ∧ knd.is k kv = true ∧ h.IsTuple T #[kv, val])
      (fun i v h => ∃ T k kv val, v = .ref T ∧ kvs[i]? = some (k, val) ∧ knd.is k kv = true ∧ h.IsTuple T #[kv, val] ∧ IsItemIterOut h I d (i + 1) kvs.length ep kv val T ∧ h.DictAt knd d kvs ep)
      (fun i h => (∃ ok ov, IsItemIter h I d i kvs.length ep ok ov) ∧ h.DictAt knd d kvs ep) where
  t := {
    sub := fun b hb => by simp at hb; simp [hb]
    frame := fun i h h' st hk => ⟨by (refine and2 st ?_; try clear st; rintro ⟨ok, ov, a⟩ _); exact ⟨ok, ov, hk I (by simp) _ a⟩, st.2.at' fun o e => hk d (by simp) o e⟩
    item := fun i s Q E hi st hQ => by
      obtain ⟨⟨k, val⟩, hx⟩ : ∃ p, kvs[i]? = some p := ⟨kvs[i], by simp [hi]⟩
      (refine and2 st ?_; try clear st; rintro ⟨ok, ov, hit⟩ hm)
      refine wpAny_pyNext_items_item hit hm hx fun key h' hkey hout ht hsz hs' => ?_
      exact hQ _ h' s.toks ⟨_, k, key, val, rfl, hx, hkey, ⟨_, ht, rfl, 0, rfl⟩, hout, hm.at' fun o e => hs' d o hne e⟩ fun b o hb e => hs' b o (fun q => hb (by simp [q])) e
    go := fun i v s Q E hm hQ => by
      (refine ex4 hm ?_; try clear hm; rintro T k kv val zz; refine and6 zz ?_; try clear zz; rintro rfl hx hk hT hout hd)
      have hTI : T ≠ I := fun q => by
        (refine ex1 hT fun o zz => and3 zz fun ho hc _ => ?_; try clear hT)
        rw [q] at ho
        have := hout.symm.trans ho
        rw [← Option.some.inj this] at hc
        have hc' : (Value.type "dict_itemiterator") = .type "tuple" := hc
        simp at hc'
      refine wpAny_letOwnedTupleGo_items hout fun h' hit hs' => ?_
      exact hQ h' ⟨T, k, kv, val, rfl, hx, hk, hT.at fun o e => (hs'.extBut T o hTI e)⟩ ⟨⟨_, _, hit⟩, hd.extBut hs'.extBut hne⟩ fun b o hb e => hs'.extBut b o (fun q => hb (by simp [q])) e
    done := fun s Q E st hQ => by
      (refine and2 st ?_; try clear st; rintro ⟨ok, ov, hit⟩ hm)
      exact wpAny_pyNext_items_end hh hit hm (by simp) fun h' he' => hQ h' s.toks fun b o hb e => he' b o (fun q => hb (by simp [q])) e }
  self := fun i s Q E st hQ => by (refine and2 st ?_; try clear st; rintro ⟨ok, ov, hit⟩ _); exact pyIter_itemiter hit hQ
  ex := fun i h st b hb => by rw [List.mem_singleton.mp hb]; (refine and2 st ?_; try clear st; rintro ⟨ok, ov, hit⟩ _); exact ⟨_, hit⟩
theorem evi_items {xs : List (K × α)} (hK : ∀ {k : K} {P : Kn} {v : Value}, knd.is k v = true → S.rel k P v) (hh : A.handled = none) (h : Ev prog w A Γ e (RDict knd R) xs) (hline : (apos.endLine == pos.line) = true)
    (hbase : autoParam (∀ env, attributeBase e "items" env (eval e env) = eval e env) autoB) : EvI prog w A Γ (.Call (.Attribute e "items" apos) [] [] pos) (.Tuple [.Name x px, .Name y py] kk tp) (ItP S R) xs := fun env s Z c => by
  refine Call_method0 (hbase env) hline (h.then c fun v s₁ k₁ c₁ hv => ?_)
  (refine ex3 hv ?_; try clear hv; rintro d o kvs zz; refine and5 zz ?_; try clear zz; rintro rfl ⟨hdZ, ho⟩ lo hd ha)
  have hD : s₁.heap.DictOf knd d kvs := Heap.dictOf_iff.mpr ⟨o, ho, hd⟩
  refine ⟨"dict", "dict.items", PySem.F.plainAttrs_dict, PySem.F.slot_dict_items, PySem.F.type_dict_items, hD.typeIs, fun q hq => by cases hq; exact hD.mapOf.noDict _ rfl, ?_⟩
  refine callWith_builtin rfl (evalArgs_nil3 ?_)
  refine call_meetsIn PySem.F.slot_dict_items hD.typeIs PySem.F.entry_dict_items (PySem.F.args_dict_items_1 _) (meets_dict_items knd d lo) ⟨⟨kvs, hD⟩, ?_⟩
  refine ex1 hD.dictAt fun ep hat => ?_
  have hk2 : Kp s₁ { s₁ with heap := s₁.heap.push { cls := .type "dict_items", data := .fields #[.ref d] } } := .push
  have hat2 : (s₁.heap.push { cls := .type "dict_items", data := .fields #[.ref d] }).DictAt knd d kvs ep := hat.push _
  refine wpAny_pyIter_items (kvs := kvs) (ep := ep) (v := s₁.heap.objs.size) (d := d) (knd := knd) ⟨_, Heap.get?_push_size _ rfl, rfl, rfl⟩ hat2 ?_
  have hlt : d < (s₁.heap.push { cls := .type "dict_items", data := .fields #[.ref d] }).objs.size := get_lt (hk2.get ho)
  have W := src_items (prog := prog) (w := w) (knd := knd) (x := x) (y := y) (px := px) (py := py) (kk := kk) (tp := tp) hh (s₁.heap.push { cls := .type "dict_items", data := .fields #[.ref d] }).objs.size d (Nat.ne_of_lt hlt) kvs ep
  have c₂ := c₁.keeps hk2
  rw [← ha.length]
  refine ⟨_, _, _, _, _, _, rfl, W, ⟨⟨_, _, Heap.get?_push_size _ rfl⟩, hat2.push _⟩, ?_, ?_, (k₁.tr hk2).tr .push, ?_⟩
  · intro b hb
    simp only [List.mem_cons, List.not_mem_nil, or_false] at hb
    rcases hb with rfl | rfl
    · exact ⟨⟨_, Heap.get?_push_size _ rfl⟩, fresh_not c₂ (Nat.le_refl _)⟩
    · exact ⟨⟨o, Heap.get?_push_of_some _ (hk2.get ho)⟩, hdZ⟩
  · intro b hb
    rw [List.mem_singleton.mp hb]
    cases q : s.heap.get? (s₁.heap.push { cls := .type "dict_items", data := .fields #[.ref d] }).objs.size with
    | none => rfl
    | some o => exact absurd (get_lt (hk2.get (k₁.get q))) (Nat.lt_irrefl _)
  · rintro i v h q hq ⟨T, k, kv, val, rfl, hx, hkk, hT⟩
    refine ex1 (ha.get hq) fun u zz => and2 zz fun hu hr => ?_
    rw [hx] at hu
    refine and2 (Prod.mk.inj (Option.some.inj hu)) fun e1 e2 => ?_
    subst e1 e2
    exact ⟨T, kv, val, rfl, hT, hK hkk, R.mono (fun b o q => ⟨fun m => (List.mem_append.mp m).elim (fun m => by have := get_lt (hk2.get q.2); rw [List.mem_singleton.mp m] at this; exact Nat.lt_irrefl _ this) q.1, Heap.get?_push_of_some _ (hk2.get q.2)⟩) hr⟩
theorem evi_rev {β : Type} {T : Rp β} {xs : List β} (hh : A.handled = none) (hf : BFn Γ "reversed" (.type "reversed")) (he : Ev prog w A Γ e (RList T) xs) (hs : autoParam (∀ env, starEach [e] env = [(false, eval e env)]) autoB) : EvI prog w A Γ (.Call (.Name "reversed" p) [e] [] pos) (.Name x px) (ItR T) xs.reverse := fun env s Z c => by
  refine Call_Name (trees := backTo pos [(false, eval e env)]) (by rw [hs]) ((ev_bfn hf).then c fun f s₁ k₁ c₁ hf => ?_)
  cases hf
  refine PyProof.Rows.callWith_type rfl (evalArgs_plain (spliced_cons (he.then c₁ fun v s₂ k₂ c₂ hv => spliced_nil ?_)))
  (have zz := rlist_is hv; refine ex2 zz ?_; try clear zz; rintro l vs zz; refine and4 zz ?_; try clear zz; rintro rfl hl hL ha)
  have hlt : l < s₂.heap.objs.size := by (refine ex1 hL fun o zz => and2 zz fun ho _ => ?_; try clear hL); exact get_lt ho
  have esz : vs.toArray.size = xs.reverse.length := by rw [List.length_reverse, List.size_toArray, ha.length]
  refine call_reversed_list hL ?_
  have hI : (s₂.heap.push (revObj l ((vs.toArray.size : Int) - 1))).IsRevIter s₂.heap.objs.size l ((vs.toArray.size : Int) - 1) := ⟨_, Heap.get?_push_size _ rfl, rfl, rfl⟩
  refine wpAny_pyIter_revIter hI ?_
  have W := Walks.listRev (prog := prog) (w := w) (A := A) hh s₂.heap.objs.size l (Nat.ne_of_lt hlt) vs.toArray
  rw [← esz]
  refine ⟨_, _, _, _, _, _, rfl, Src.ofWalks W (fun i h st b hb => by rw [List.mem_singleton.mp hb]; (refine and3 st ?_; try clear st; rintro _ ⟨o, ho, _⟩ _); exact ⟨o, ho⟩), ⟨Nat.zero_le _, by rw [show ((0 : Nat) : Int) = 0 from rfl, Int.sub_zero]; exact hI, hL.push _⟩, ?_, ?_, (k₁.tr k₂).tr .push, ?_⟩
  · intro b hb
    simp only [List.mem_cons, List.not_mem_nil, or_false] at hb
    rcases hb with rfl | rfl
    · exact ⟨⟨_, Heap.get?_push_size _ rfl⟩, fresh_not c₂ (Nat.le_refl _)⟩
    · (refine ex1 hL fun o zz => and2 zz fun ho _ => ?_; try clear hL); exact ⟨⟨o, Heap.get?_push_of_some _ ho⟩, hl⟩
  · intro b hb
    rw [List.mem_singleton.mp hb]
    cases q : s.heap.get? s₂.heap.objs.size with
    | none => rfl
    | some o => exact absurd (get_lt ((k₁.tr k₂).get q)) (Nat.lt_irrefl _)
  · rintro i v h q hq hP
    have hi : i < xs.length := by have := (List.getElem?_eq_some_iff.mp hq).1; rwa [List.length_reverse] at this
    rw [List.getElem?_reverse hi] at hq
    refine ex1 (ha.get' hq) fun u zz => and2 zz fun hu hr => ?_
    have hvl : vs.toArray.size = xs.length := by rw [List.size_toArray, ha.length]
    rw [hvl, List.getElem?_toArray, hu] at hP
    cases hP
    exact T.mono (fun b o q => ⟨fun m => (List.mem_append.mp m).elim (fun m => by have := get_lt q.2; rw [List.mem_singleton.mp m] at this; exact Nat.lt_irrefl _ this) q.1, Heap.get?_push_of_some _ q.2⟩) hr
end
end
end
section
section
def chars (x : Str) : List Str := x.cps.toList.map fun c => ⟨#[c]⟩
theorem chars_get {x : Str} {i : Nat} {y : Str} (h : (chars x)[i]? = some y) : ∃ c, x.cps[i]? = some c ∧ y = ⟨#[c]⟩ := by
  unfold chars at h
  rw [List.getElem?_map] at h
  cases q : x.cps.toList[i]? with
  | none => rw [q] at h; cases h
  | some c => rw [q] at h; exact ⟨c, by rw [← q]; simp, (Option.some.inj h).symm⟩
section
variable {α β : Type} {prog : Program} {w : World} {A : Around} {Γ : Gm} {e e₁ e₂ : PySem.Expr} {pos p apos px : Pos} {x y z : Str}
theorem ev_sitem {i : Int} (h₁ : Ev prog w A Γ e₁ RStr x) (h₂ : Ev prog w A Γ e₂ RInt i) (h0 : 0 ≤ i) (hi : i < 1000) (hc : (chars x)[i.toNat]? = some z) : Ev prog w A Γ (.Subscript e₁ e₂ pos) RStr z :=
  sub2 (cls := "str") h₁ h₂ (fun env s Z u v c ⟨t, hu⟩ ⟨t', hv⟩ => by
    subst hu hv
    (have zz := chars_get hc; refine ex1 zz ?_; try clear zz; rintro k zz; refine and2 zz ?_; try clear zz; rintro hk rfl)
    have hlt : i.toNat < x.cps.size := (Array.getElem?_eq_some_iff.mp hk).1
    have hl : x.length = x.cps.size := rfl
    refine ⟨typeIs_str _ _ _, P.getItem_str (c := k) (by simp; omega) ?_ ⟨.tok, _, rfl⟩⟩
    have : seqIndex? i x.length = some i.toNat := by
      unfold seqIndex?
      simp only [hl]
      split <;> simp <;> omega
    rw [this]; exact hk) F.slot_str_getitem.lookup
theorem et_eqs (h₁ : Ev prog w A Γ e₁ RStr x) (h₂ : Ev prog w A Γ e₂ RStr y) (hm : autoParam (behindInMarks .Eq e₂ = false) autoE) : Et prog w A Γ (.Compare e₁ [.Eq] [e₂] pos) (decide (x = y)) :=
  cmp2 h₁.r h₂.r (fun Q s u v ⟨t, hu⟩ ⟨t', hv⟩ q => by
    subst hu hv
    refine PyProof.Rows.eq_str ?_
    rw [show (x == y) = decide (x = y) by by_cases h : x = y <;> simp [h]]
    exact q _ .rfl') hm
theorem ev_adds (h₁ : Ev prog w A Γ e₁ RStr x) (h₂ : Ev prog w A Γ e₂ RStr y) (hl : x.length + y.length ≤ sizeLine) : Ev prog w A Γ (.BinOp e₁ .Add e₂ pos) RStr (x ++ y) :=
  bin2 h₁.r h₂.r fun env s Z u v c ⟨t, hu⟩ ⟨t', hv⟩ => by
    subst hu hv
    exact PyProof.Rows.add_str (fun t' k => ⟨.tok, _, rfl⟩) hl
theorem evi_str (hh : A.handled = none) (ha : x.cps.all (· < 128) = true) (h : Ev prog w A Γ e RStr x) : EvI prog w A Γ e (.Name y px) (ItR RStr) (chars x) := fun env s Z c => by
  refine h.then c fun v s₁ k₁ c₁ ⟨t, hv⟩ => ?_
  subst hv
  have W := Walks.strAscii (prog := prog) (w := w) hh s₁.heap.objs.size x t
  have hsz : x.cps.size = (chars x).length := by simp [chars]
  rw [hsz] at W
  refine wpAny_pyIter_ascii ha ⟨_, _, _, _, _, _, rfl, Src.ofWalks W (fun i h st b hb => by rw [List.mem_singleton.mp hb]; (refine ex1 st fun o zz => and2 zz fun ho _ => ?_; try clear st); exact ⟨o, ho⟩), ⟨_, Heap.get?_push_size _ rfl, rfl, rfl⟩, ?_, ?_, k₁.tr .push, ?_⟩
  · intro b hb
    rw [List.mem_singleton.mp hb]
    exact ⟨⟨_, Heap.get?_push_size _ rfl⟩, fresh_not c₁ (Nat.le_refl _)⟩
  · intro b hb
    rw [List.mem_singleton.mp hb]
    cases q : s.heap.get? s₁.heap.objs.size with
    | none => rfl
    | some o => exact absurd (get_lt (k₁.get q)) (Nat.lt_irrefl _)
  · rintro i v h y hy ⟨c', u, hc', rfl⟩
    (have zz := chars_get hy; refine ex1 zz ?_; try clear zz; rintro k zz; refine and2 zz ?_; try clear zz; rintro hk rfl)
    rw [hk] at hc'
    cases hc'
    exact ⟨u, rfl⟩
end
end
end
section
section
section
open Builtin Builtin.Str Builtin._codecs
theorem enc_fold : ∀ (l : List Nat) (a : Array UInt8), l.foldl (fun acc y => acc ++ (asciiCodec.bytesOf y).toArray) a = a ++ (l.map (·.toUInt8)).toArray
  | [], a => by simp
  | c :: r, a => by
    rw [List.foldl_cons, enc_fold r]
    simp [asciiCodec]
theorem forIn_two {β : Type} {body : Nat → β → Sem (ForInStep β)} {n : Nat} {s0 s1 : β} (h0 : body 0 s0 = pure (.yield s1)) (h1 : n ≠ 0 → body 1 s1 = pure (.done s1)) : forIn (List.range' 0 (n + 1)) s0 body = pure s1 := by
  rw [List.range'_succ, List.forIn_cons, h0, pure_bind]
  cases n with
  | zero => rfl
  | succ m =>
    show forIn (List.range' (0 + 1) (m + 1)) s1 body = pure s1
    rw [List.range'_succ, List.forIn_cons, show (0 + 1 : Nat) = 1 from rfl, h1 (by omega), pure_bind]
theorem enc_narrow (id : String) (self : Value) (x : Str) (h : ∀ c ∈ x.cps.toList, c < 128) (hl : x.length ≤ sizeLine) : encodeNarrow id asciiCodec none self x = pure (x.cps.map (·.toUInt8)) := by
  unfold encodeNarrow
  dsimp only
  rw [Std.Legacy.Range.forIn_eq_forIn_range']
  have hs : (Std.Legacy.Range.mk 0 x.length 1 (by decide)).size = x.length := by simp [Std.Legacy.Range.size]
  rw [hs]
  have hsz : x.cps.size = x.length := rfl
  cases hn : x.length with
  | zero =>
    have : x.cps = #[] := Array.eq_empty_of_size_eq_zero hn
    rw [this]
    show pure _ >>= _ = _
    rw [pure_bind]; simp
  | succ n =>
    rw [hn] at hsz
    have h0 : x.cps[0]? = some (x.cps[0]'(by omega)) := Array.getElem?_eq_getElem (by omega)
    have hb : (!asciiCodec.bad (x.cps[0]'(by omega))) = true := by
      have := h (x.cps[0]'(by omega)) (by simp)
      simp [asciiCodec]; omega
    have hz : ¬ ((#[] : Array UInt8).size > sizeLine) := by simp
    have hf : (x.cps.extract 0 x.cps.size).findIdx? asciiCodec.bad = none := by
      rw [Array.findIdx?_eq_none_iff]
      intro c hc
      have := h c (by simpa using hc)
      simp [asciiCodec]; omega
    have e1 : 0 + x.cps.extract.size = n + 1 := by simp [hsz]
    have e2 : Array.foldl (fun acc y => acc ++ (asciiCodec.bytesOf y).toArray) #[] x.cps.extract.extract = x.cps.map (·.toUInt8) := by
      rw [← Array.foldl_toList, enc_fold]
      apply Array.ext'; simp
    have hz2 : ¬ ((x.cps.map (·.toUInt8)).size > sizeLine) := by rw [Array.size_map, hsz]; omega
    have h1 : x.cps[n + 1]? = none := Array.getElem?_eq_none (by omega)
    rw [forIn_two (s1 := (n + 1, x.cps.map (·.toUInt8), ({} : Faults))) ?g0 ?g1, pure_bind]
    case g0 =>
      refine (if_neg hz).trans ?_
      dsimp only
      rw [h0]
      refine (if_pos hb).trans ?_
      rw [hf]
      show pure (ForInStep.yield (0 + x.cps.extract.size, Array.foldl (fun acc y => acc ++ (asciiCodec.bytesOf y).toArray) #[] x.cps.extract.extract, ({} : Faults))) = _
      rw [e1, e2]
    case g1 =>
      intro _
      refine (if_neg hz2).trans ?_
      dsimp only
      rw [h1]
theorem enc_road (id : String) (self : Value) (x : Str) (h : ∀ c ∈ x.cps.toList, c < 128) (hl : x.length ≤ sizeLine) : encodeRoad id self x (Str.ofString "ascii") none = mkBytes (x.cps.map (·.toUInt8)) := by
  have e : encodeRoad id self x (Str.ofString "ascii") none = (do mkBytes (← encodeNarrow id asciiCodec none self x)) := by
    first | rfl | (unfold encodeRoad; rfl) | (unfold encodeRoad; simp only []; rfl)
  rw [e, enc_narrow id self x h hl, pure_bind]
theorem enc_tree (x : Str) (t u : Tok) : «str.encode» ⟨[.str x t, .str (Str.ofString "ascii") u], []⟩ = (do ret (← encodeRoad "str.encode" (.str x t) x (Str.ofString "ascii") none)) := by kernel_rfl
theorem call_encode {prog : Program} {w : World} {A : Around} {E : Value → Shared → Prop} {s : Shared} {x : Str} {t u : Tok} {Q : Value → Shared → Prop} (h : ∀ c ∈ x.cps.toList, c < 128) (hl : x.length ≤ sizeLine) (q : ∀ t' k, Q (.bytes (x.cps.map (·.toUInt8)) t') { s with toks := k }) :
    wpAny (model prog w) A (call (.builtin "str.encode") [.str x t, .str (Str.ofString "ascii") u]) Q E s := by
  refine wpAny_call_entry PySem.F.slot_str_encode (typeIs_str _ _ _) PySem.F.entry_str_encode ?_ (PySem.F.args_str_encode_2 _ _)
  rw [enc_tree, enc_road _ _ _ h hl]
  refine wpAny_bind (wpAny_mkBytes ?_ (by rw [Array.size_map]; exact hl))
  exact wpAny_pure ⟨_, rfl, q _ _⟩
end
def leS (a b : Str) : Bool := !ltCps b.cps.toList a.cps.toList
theorem leS_iff {a b : Str} : leS a b = true ↔ a.cps.toList ≤ b.cps.toList := by
  unfold leS
  rw [ltCps_eq]
  simp
theorem leS_anti {a b : Str} (h : leS a b = true) (h' : leS b a = true) : a = b := by
  have := List.le_antisymm (leS_iff.mp h) (leS_iff.mp h')
  cases a; cases b
  simpa using this
theorem leS_trans {a b c : Str} (h : leS a b = true) (h' : leS b c = true) : leS a c = true := leS_iff.mpr (List.le_trans (leS_iff.mp h) (leS_iff.mp h'))
theorem leS_total (a b : Str) : (leS a b || leS b a) = true := by
  rw [Bool.or_eq_true, leS_iff, leS_iff]
  exact List.le_total _ _
theorem rising_pw : ∀ (l : List Str) (p : Str), risingS p l = true → (p :: l).Pairwise fun a b => leS a b = true
  | [], p, _ => by simp
  | x :: r, p, h => by
    have h' : (leS p x && risingS x r) = true := h
    rw [Bool.and_eq_true] at h'
    have ih := rising_pw r x h'.2
    refine List.pairwise_cons.mpr ⟨fun y hy => ?_, ih⟩
    rcases List.mem_cons.mp hy with rfl | hy
    · exact h'.1
    · exact leS_trans h'.1 ((List.pairwise_cons.mp ih).1 y hy)
def sortS (xs : List Str) : List Str := xs.mergeSort leS
theorem sortS_of {xs ys : List Str} (hp : ys.Perm xs) (hs : ys.Pairwise fun a b => leS a b = true) : ys = sortS xs :=
  List.Perm.eq_of_pairwise (fun a b _ _ h h' => leS_anti h h') hs (List.pairwise_mergeSort (le := leS) (fun _ _ _ h h' => leS_trans h h') leS_total xs) (hp.trans (List.mergeSort_perm xs leS).symm)
theorem sortS_rising {xs ys : List Str} (hp : ys.Perm xs) (hs : sortedS ys = true) : ys = sortS xs := by
  refine sortS_of hp ?_
  cases ys with
  | nil => exact .nil
  | cons p r => exact rising_pw r p hs
theorem strs_of {P : Kn} : ∀ {xs : List Str} {vs : List Value}, A2 (fun a u => RStr.rel a P u) xs vs → StrsAre vs xs
  | [], [], _ => .nil
  | _ :: _, _ :: _, h => by obtain ⟨t, rfl⟩ := h.1; exact .cons _ _ (strs_of h.2)
  | [], _ :: _, h => h.elim
  | _ :: _, [], h => h.elim
theorem of_strs {P : Kn} : ∀ {xs : List Str} {vs : List Value}, StrsAre vs xs → A2 (fun a u => RStr.rel a P u) xs vs
  | _, _, .nil => trivial
  | _, _, .cons n t h => ⟨⟨t, rfl⟩, of_strs h⟩
section
variable {α β : Type} {prog : Program} {w : World} {A : Around} {Γ : Gm} {e e₁ e₂ : PySem.Expr} {pos p apos px : Pos} {x y z : Str} {R : Rp α} {S : Rp β} {a : α} {b : β}
theorem ev_sortedS {xs : List Str} (hf : BFn Γ "sorted" (.builtin "sorted")) (he : Er prog w A Γ e (RList RStr) xs) (hl : xs.length < 64) (hs : autoParam (∀ env, starEach [e] env = [(false, eval e env)]) autoB) : Ev prog w A Γ (.Call (.Name "sorted" p) [e] [] pos) (RList RStr) (sortS xs) :=
  call1 hf he (fun env s Z v c hv => by
    (have zz := rlist_is hv; refine ex2 zz ?_; try clear zz; rintro l vs zz; refine and4 zz ?_; try clear zz; rintro rfl _ hL ha)
    refine sorted_strs hL (strs_of ha) (by rw [← ha.length]; exact hl) fun out ss' h1 h2 h3 => ?_
    refine ex1 (sortedAll_at s.heap vs out) fun ep he => ?_
    exact ⟨⟨_, s.toks, rfl, fun _ _ q => sortedAll_old q⟩, is_rlist (fresh_not c (Nat.le_succ _)) (vs := out.toList) ⟨_, he, rfl, ep, by simp [seqObj]⟩ (sortS_rising h2 h3 ▸ of_strs h1)⟩) hs
open PySem.SeqAt in
theorem eq_LS {xs ys : List Str} {s : Shared} {u v : Value} {Q : Value → Shared → Prop} (hu : (RList RStr).rel xs (hid [] s.heap) u) (hv : (RList RStr).rel ys (hid [] s.heap) v) (hun : A.units < cLine) (q : Q (.bool (decide (xs = ys))) s) : wpAny (model prog w) A (compareOp .Eq u v) Q NoExc s := by
  (have zz := rlist_is hu; refine ex2 zz ?_; try clear zz; rintro l vs zz; refine and4 zz ?_; try clear zz; rintro rfl _ hL ha)
  (have zz := rlist_is hv; refine ex2 zz ?_; try clear zz; rintro l' vs' zz; refine and4 zz ?_; try clear zz; rintro rfl _ hL' ha')
  have h1 := ha.length
  have h2 := ha'.length
  by_cases hl : xs.length = ys.length
  · refine eq_listAt (e := fun j => decide (xs[j]? = ys[j]?)) hL hL' (by simp only [List.size_toArray]; omega) hun (fun j j1 j2 => ?_) ?_
    · simp only [List.size_toArray] at j1 j2
      refine ex1 (ha.get (i := j) (v := vs[j]) (List.getElem?_eq_getElem j1)) fun x zz => and2 zz fun hx zz => ex1 zz fun t e1 => ?_
      refine ex1 (ha'.get (i := j) (v := vs'[j]) (List.getElem?_eq_getElem j2)) fun y zz => and2 zz fun hy zz => ex1 zz fun t' e3 => ?_
      have : EqAt A.in1 s vs[j] vs'[j] (x == y) := by rw [e1, e3]; exact EqAt.str_str x t y t'
      have e5 : (x == y) = decide (xs[j]? = ys[j]?) := by
        rw [hx, hy]; by_cases h : x = y <;> simp [h]
      rw [← e5]
      simpa using this
    · have e : ((List.range vs.toArray.size).all fun j => decide (xs[j]? = ys[j]?)) = decide (xs = ys) := by
        rw [Bool.eq_iff_iff, List.all_eq_true, decide_eq_true_eq]
        simp only [List.size_toArray, List.mem_range, decide_eq_true_eq]
        constructor
        · intro h
          refine List.ext_getElem? fun j => ?_
          by_cases hj : j < vs.length
          · exact h j hj
          · rw [List.getElem?_eq_none (by omega), List.getElem?_eq_none (by omega)]
        · rintro rfl j _; rfl
      rw [e]; exact q
  · refine eq_list_lengthsAt hL hL' (by simp only [List.size_toArray]; simpa using (by omega : vs.length ≠ vs'.length)) hun ?_
    have : decide (xs = ys) = false := decide_eq_false fun e => hl (by rw [e])
    rw [this] at q; exact q
theorem ev_eqLS {xs ys : List Str} (h₁ : Er prog w A Γ e₁ (RList RStr) xs) (h₂ : Er prog w A Γ e₂ (RList RStr) ys) (hu : A.units < cLine) (hm : autoParam (behindInMarks .Eq e₂ = false) autoE) : Ev prog w A Γ (.Compare e₁ [.Eq] [e₂] pos) RBool (decide (xs = ys)) :=
  cmp2v h₁ h₂ (fun Q s u v hu' hv q => eq_LS hu' hv hu (q _ .rfl')) hm
theorem ev_listS (hh : A.handled = none) (hf : BFn Γ "list" (.type "list")) (he : Ev prog w A Γ e RStr x) (hl : x.length ≤ sizeLine) (hs : autoParam (∀ env, starEach [e] env = [(false, eval e env)]) autoB) : Ev prog w A Γ (.Call (.Name "list" p) [e] [] pos) (RList RStr) (chars x) :=
  callT1 hf he.r (fun env s Z v c hv => by
    (refine ex1 hv ?_; try clear hv; rintro t rfl)
    refine call_list_str hh x t (hn := hl) fun h' tk acc' c' hk hS' hacc => ?_
    refine ⟨⟨h', tk, rfl, hk⟩, is_rlist (fresh_not c (Nat.le_refl _)) (vs := acc'.toList) ⟨_, hS', rfl, c', by simp⟩ (of_strs ?_)⟩
    have hc : CarriedAll acc'.toList ((signs x).map .str) := carriedAll_of_get _ _ (by simp [hacc.1, signs]) fun j v hv => by
      (have zz := hacc.2 j v (by simpa using hv); refine ex2 zz ?_; try clear zz; rintro c u zz; refine and2 zz ?_; try clear zz; rintro hc rfl)
      exact ⟨.str ⟨#[c]⟩, by simp [signs, hc], .str _ _⟩
    have e : signs x = chars x := by simp [signs, chars]
    rw [← e]
    exact StrsAre.of_carried hc) hs
theorem ev_smeth {name : Str} {id : String} (hp : Slot "str" name id) (ht : typeOf (.builtin id) = pure (.type "method_descriptor")) (h : Ev prog w A Γ e RStr x) (h₁ : Ev prog w A Γ e₁ R a)
    (k : ∀ env s Z t u, Cx Γ env s Z → R.rel a (hid Z s.heap) u → wpAny (model prog w) A (call (.builtin id) [.str x t, u]) (fun r s' => Kp s s' ∧ S.rel b (hid Z s'.heap) r) NoExc s) (hline : (apos.endLine == pos.line) = true)
    (hbase : autoParam (∀ env, attributeBase e name env (eval e env) = eval e env) autoB) (hs : autoParam (∀ env, starEach [e₁] env = [(false, eval e₁ env)]) autoB) :
    Ev prog w A Γ (.Call (.Attribute e name apos) [e₁] [] pos) S b := fun env s Z c => by
  refine Call_method1 (hbase env) (hs env) hline (h.then c fun v s₁ k₁ c₁ ⟨t, hv⟩ => ?_)
  subst hv
  refine ⟨"str", id, PySem.F.plainAttrs_str, hp, ht, typeIs_str _ _ _, fun q hq => (nomatch hq), ?_⟩
  refine callWith_builtin rfl (evalArgs_plain (spliced_cons (h₁.then c₁ fun u s₂ k₂ c₂ hu => spliced_nil ?_)))
  exact wpAny_mono (k env s₂ Z t u c₂ hu) (fun r s₃ q => ⟨(k₁.tr k₂).tr q.1, q.2⟩) fun _ _ x => x
theorem ev_join {xs : List Str} (h : Ev prog w A Γ e RStr x) (h₁ : Ev prog w A Γ e₁ (RList RStr) xs) (hl : (xs.map (·.length)).sum + xs.length * x.length ≤ 16777216) (hline : (apos.endLine == pos.line) = true) (hbase : autoParam (∀ env, attributeBase e "join" env (eval e env) = eval e env) autoB) (hs : autoParam (∀ env, starEach [e₁] env = [(false, eval e₁ env)]) autoB) :
    Ev prog w A Γ (.Call (.Attribute e "join" apos) [e₁] [] pos) RStr (Txt.join x xs) :=
  ev_smeth PySem.F.slot_str_join PySem.F.type_str_join h h₁ (fun env s Z t u c hu => by
    obtain ⟨l, vs, rfl, _, hL, ha⟩ := rlist_is hu
    exact join_list hL (by simpa using strs_of ha) hl fun t' k => ⟨.tok, _, rfl⟩) hline hbase hs
theorem ev_lstrip (h : Ev prog w A Γ e RStr x) (h₁ : Ev prog w A Γ e₁ RStr y) (hl : x.length ≤ sizeLine) (hline : (apos.endLine == pos.line) = true) (hbase : autoParam (∀ env, attributeBase e "lstrip" env (eval e env) = eval e env) autoB) (hs : autoParam (∀ env, starEach [e₁] env = [(false, eval e₁ env)]) autoB) :
    Ev prog w A Γ (.Call (.Attribute e "lstrip" apos) [e₁] [] pos) RStr (Txt.lstripChars x y) :=
  ev_smeth PySem.F.slot_str_lstrip PySem.F.type_str_lstrip h h₁ (fun env s Z t u c hu => by
    obtain ⟨t', rfl⟩ := hu
    exact PySem.SC.lstripChars (fun t' k => ⟨.tok, _, rfl⟩) hl) hline hbase hs
theorem ev_encode (h : Ev prog w A Γ e RStr x) (h₁ : Ev prog w A Γ e₁ RStr "ascii") (hx : ∀ c ∈ x.cps.toList, c < 128) (hl : x.length ≤ sizeLine) (hline : (apos.endLine == pos.line) = true) (hbase : autoParam (∀ env, attributeBase e "encode" env (eval e env) = eval e env) autoB) (hs : autoParam (∀ env, starEach [e₁] env = [(false, eval e₁ env)]) autoB) :
    Ev prog w A Γ (.Call (.Attribute e "encode" apos) [e₁] [] pos) RByt (x.cps.toList.map fun c : Nat => (c : Int)) :=
  ev_smeth PySem.F.slot_str_encode PySem.F.type_str_encode h h₁ (fun env s Z t u c hu => by
    obtain ⟨t', rfl⟩ := hu
    refine call_encode hx hl fun t' k => ⟨.tok, _, _, rfl, ?_⟩
    simp only [KBw.bInts, Array.toList_map, List.map_map]
    refine List.map_congr_left fun c hc => ?_
    have := hx c hc
    simp only [Function.comp]
    have e : c.toUInt8.toNat = c := by simp [Nat.toUInt8]; omega
    rw [e]) hline hbase hs
end
end
end
section
section
section
variable {α K : Type} [DecidableEq K] {prog : Program} {w : World}
def MutD (knd : KeyKind prog w K) (a : Addr) (R : Rp α) (xs : List (K × α)) : Res where
  foot := [a]
  P := fun P h => (a == sysModules) = false ∧ ∃ o kvs, h.get? a = some o ∧ o.IsDictOf knd kvs ∧ DR R P xs kvs
  stab := by
    rintro P P' h h' hP hk ⟨lo, o, kvs, ho, hd, ha⟩
    exact ⟨lo, o, kvs, hk a (by simp) _ ho, hd, ha.imp hP⟩
  ex := by
    rintro P h ⟨_, o, kvs, ho, _⟩ b hb
    rw [List.mem_singleton.mp hb]; exact ⟨o, ho⟩
end
section
variable {mg mb : Str → Option Value} {scope : Scope} {h₀ : Heap} {vbs mv : List Vb} {α β γ K : Type} [DecidableEq K] {prog : Program} {w : World} {knd : KeyKind prog w K} {A : Around} {env : Env} {Γ : Gm} {res res' : List Res} {e e₁ e₂ e₃ : PySem.Expr} {R : Rp α} {S : Rp β} {T : Rp K} {a : α} {x y z : Str} {px py pz pos p p' tp tp' lp apos : Pos} {k k' : Nat} {body rest : List Stmt} {P : Out → List Res → Prop} {Pr : List Res → Prop} {PP : Gm → List Res → Prop}
theorem At.readD {Hd Z : List Addr} {s : Shared} {d : Addr} {xs : List (K × α)} (at_ : At Γ env (MutD knd d R xs :: res) Hd Z s) (hx : Vb.mk x Value RIs (.ref d) ∈ Γ.vars) : Cx (Γ.rd [⟨x, _, RDict knd R, xs⟩]) env s (Hd ++ Z) := by
  refine ⟨at_.cx.fn, at_.cx.gl, at_.cx.bl, at_.cx.g, at_.cx.b, at_.cx.fr, at_.cx.gk, at_.cx.ck, at_.cx.zl, at_.cx.vis, fun vb hv => ?_⟩
  rw [List.mem_singleton.mp hv]
  refine ex1 (at_.cx.vis _ hx) fun v zz => and2 zz fun hs hr => ?_
  cases (show v = .ref d from hr)
  refine and2 ((at_.rs _ List.mem_cons_self).1) fun lo zz => ex2 zz fun o kvs zz => and3 zz fun ho hd ha => ?_
  exact ⟨.ref d, hs, d, o, kvs, rfl, ⟨by simp, ho⟩, lo, hd, ha.imp fun b o q => ⟨by simp, q.2⟩⟩
theorem hs_newD {lp : Pos} (knd : KeyKind prog w K) (R : Rp α) (H : Ini mg mb scope h₀ vbs Γ) (hl₀ : Γ.h₀.NoLimit) (hx : Kd env x) (hsw : autoParam (swapsWith (.Dict [] [] lp) (some (.Name x px)) pos.line env = pure false) autoA) :
    HS prog w A env Γ res (.Assign [.Name x px] (.Dict [] [] lp) pos) fun Γ' res' => ∃ d, Ini mg mb scope h₀ (put vbs x RIs (.ref d)) Γ' ∧ res' = MutD knd d R ([] : List (K × α)) :: res := fun Hd Z s at_ => by
  refine wpAny_Assign_Name (wpAny_Dict_empty ?_) hsw
  refine ex1 at_.cx.fr fun m F => ?_
  have lo : (s.heap.objs.size == sysModules) = false := F.notModules (modules_low hl₀)
  have hD : (s.heap.push { cls := .type "dict", data := .dict #[] }).DictOf knd s.heap.objs.size [] := Heap.DictOf.new (knd := knd) s.heap
  refine ex1 (Heap.dictOf_iff.mp hD) fun o zz => and2 zz fun ho hd => ?_
  refine and2 (at_.add' (r := MutD knd s.heap.objs.size R []) (s' := { s with heap := s.heap.push { cls := .type "dict", data := .dict #[] } }) .push (fun b hb => by rw [show b = s.heap.objs.size from List.mem_singleton.mp hb]; exact get_none (Nat.le_refl _)) ⟨lo, o, [], ho, hd, trivial⟩) fun st₁ at₁ => ?_
  exact at₁.store (R := RIs) (b := .ref s.heap.objs.size) rfl hx.k hx.cd fun s' st' at' => ⟨rfl, _, _, _, ⟨_, H.put x _ _, rfl⟩, ⟨rfl, rfl⟩, st₁.trans st', at'⟩
theorem hs_setD {d : Addr} {xs : List (K × α)} {q : K} (hK : ∀ {k : K} {P : Kn} {v : Value}, T.rel k P v → knd.is k v = true) (h₁ : Ev prog w A (Γ.rd [⟨x, _, RDict knd R, xs⟩]) e₁ R a) (h₂ : Ev prog w A (Γ.rd [⟨x, _, RDict knd R, xs⟩]) e₂ T q) (hxv : Vb.mk x Value RIs (.ref d) ∈ Γ.vars) (hl : xs.length ≤ sizeLine) (hd : autoParam ((x == ("__debug__" : Str)) = false) autoC)
    (hsw : autoParam (swapsWith e₁ (some (.Subscript (.Name x px) e₂ p')) pos.line env = pure false) autoA) :
    HS prog w A env Γ (MutD knd d R xs :: res) (.Assign [.Subscript (.Name x px) e₂ p'] e₁ pos) fun Γ' res' => Γ' = Γ ∧ res' = MutD knd d R (dput xs q a) :: res := fun Hd Z s at_ => by
  refine wpAny_Assign_Subscript (h₁.then (at_.readD hxv) fun v s₁ k₁ c₁ hv => ?_) hsw
  refine ex1 (c₁.vis _ hxv) fun u zz => and2 zz fun h1 h2 => ?_
  cases (show u = .ref d from h2)
  refine wpAny_Name (h1.load c₁.fn ?_) hd
  refine h₂.then c₁ fun kv s₂ k₂ c₂ hkv => ?_
  have at₂ := (at_.keeps k₁).keeps k₂
  refine and2 ((at₂.rs _ List.mem_cons_self).1) fun lo zz => ex2 zz fun o kvs zz => and3 zz fun ho hdd ha => ?_
  have hv₂ := R.mono (hid_keeps k₂) hv
  refine wpAny_setItem_pairs (hsz := by rw [ha.length]; exact hl) (hK hkv) (Heap.dictOf_iff.mpr ⟨o, ho, hdd⟩) fun h' hmm hs' => ?_
  refine ex1 (Heap.dictOf_iff.mp hmm) fun o' zz => and2 zz fun ho' hd' => ?_
  have kb : KB [d] s₂ { s₂ with heap := h', toks := s₂.toks + 1 } := ⟨h', _, rfl, fun b o hb e => hs'.extBut b o (fun q => hb (by rw [q]; exact .head _)) e⟩
  have hlz := (at₂.rs _ List.mem_cons_self).2 d (by simp [MutD])
  have hsub : ∀ b, b ∈ Hd ++ turned (MutD knd d R xs) (MutD knd d R (dput xs q a)) Z → b ∈ Hd ++ Z := fun b hb => (List.mem_append.mp hb).elim (List.mem_append_left _) fun q => List.mem_append_right _ ((List.mem_append.mp q).elim (fun q => by rw [show b = d from List.mem_singleton.mp q]; exact hlz.1) fun q => (List.mem_filter.mp q).1)
  have up : ∀ b o, hid (Hd ++ Z) s₂.heap b o → hid (Hd ++ turned (MutD knd d R xs) (MutD knd d R (dput xs q a)) Z) h' b o := fun b o y => ⟨fun q => y.1 (hsub b q), hs'.extBut b o (fun q => y.1 (List.mem_append_right _ (q ▸ hlz.1))) y.2⟩
  refine and2 (at₂.turn (s' := { s₂ with heap := h', toks := s₂.toks + 1 }) (MutD knd d R (dput xs q a)) kb (fun b hb => .inl hb) ⟨lo, o', _, ho', hd', (ha.imp up).put (R.mono up hv₂)⟩) fun st' at' => ?_
  exact ⟨rfl, Γ, _, _, ⟨rfl, rfl⟩, ⟨rfl, rfl⟩, (k₁.tr k₂).stp.trans st', at'⟩
end
end
end
section
section
section
variable {β : Type} {S : Rp β} {b : β} {r : Res} {Γ : Gm} {env : Env} {res : List Res} {Hd Z : List Addr} {s : Shared} {x : Str} {l : Addr}
theorem At.freezeG (a : At Γ env (r :: res) Hd Z s) (hf : r.foot = [l]) (hr : ∀ K : Kn, r.P K s.heap → (∀ o, s.heap.get? l = some o → K l o) → S.rel b K (.ref l)) (hx : Vb.mk x Value RIs (.ref l) ∈ Γ.vars) :
    ∃ Z', (∀ z ∈ Z', z ∈ Z) ∧ At (Γ.set x S b) env res Hd Z' s := by
  have hl := a.rs _ List.mem_cons_self
  have hlm : l ∈ r.foot := by rw [hf]; exact .head _
  refine and3 (hl.2 l hlm) fun hlz hll hlc => ?_
  have sub : ∀ b, b ∈ Hd ++ (Z.filter (· != l)) → b ∈ Hd ++ Z := fun b hb => (List.mem_append.mp hb).elim (List.mem_append_left _) fun q => List.mem_append_right _ (List.mem_filter.mp q).1
  have up : ∀ b o, hid (Hd ++ Z) s.heap b o → hid (Hd ++ (Z.filter (· != l))) s.heap b o := fun b o y => ⟨fun q => y.1 (sub b q), y.2⟩
  have keep : ∀ b ∈ Z, b ≠ l → b ∈ Z.filter (· != l) := fun b hb hne => List.mem_filter.mpr ⟨hb, by simpa using hne⟩
  refine ⟨Z.filter (· != l), fun z hz => (List.mem_filter.mp hz).1, ⟨⟨a.cx.fn, a.cx.gl, a.cx.bl, a.cx.g, a.cx.b, a.cx.fr, a.cx.gk, a.cx.ck, fun z hz => a.cx.zl z (sub z hz), fun vb hv => ?_, fun vb hv => ?_⟩, a.mv, a.loc, a.g₀, a.b₀, keep _ a.lz (Ne.symm hll), fun b hb q => a.hz b hb (List.mem_filter.mp q).1, fun b hb => a.z₀ b (List.mem_filter.mp hb).1, fun n c h => ⟨keep c (a.cz n c h).1 (Ne.symm (hlc n c h)), (a.cz n c h).2⟩, a.ap, fun r' hr' => ?_, (List.pairwise_cons.mp a.rp).2⟩⟩
  · rcases List.mem_cons.mp hv with rfl | hv
    · refine ex1 (a.cx.vis _ hx) fun v zz => and2 zz fun h1 h2 => ?_
      cases (show v = .ref l from h2)
      refine ⟨_, h1, hr _ (r.stab up (fun _ _ _ e => e) hl.1) fun o ho => ⟨fun q => ?_, ho⟩⟩
      rcases List.mem_append.mp q with q | q
      · exact a.hz l q hlz
      · have := (List.mem_filter.mp q).2; simp at this
    · refine ex1 (a.cx.vis vb (List.mem_filter.mp hv).1) fun v zz => and2 zz fun h1 h2 => ?_
      exact ⟨v, h1, vb.R.mono up h2⟩
  · have hv' : vb ∈ Γ.mvars := hv
    rw [a.mv] at hv'; cases hv'
  · refine and2 (a.rs r' (List.mem_cons_of_mem _ hr')) fun h1 h2 => ?_
    refine ⟨r'.stab up (fun _ _ _ e => e) h1, fun b hb => ⟨keep b (h2 b hb).1 fun e => ?_, (h2 b hb).2⟩⟩
    exact (List.pairwise_cons.mp a.rp).1 r' hr' l hlm (e ▸ hb)
end
section
variable {mg mb : Str → Option Value} {scope : Scope} {h₀ : Heap} {vbs mv : List Vb} {α β γ K : Type} [DecidableEq K] {prog : Program} {w : World} {knd : KeyKind prog w K} {A : Around} {env : Env} {Γ : Gm} {res res' : List Res} {e e₁ e₂ e₃ : PySem.Expr} {R : Rp α} {S : Rp β} {T : Rp K} {a : α} {c : β} {x y z : Str} {px py pz pos p p' tp tp' lp apos : Pos} {k k' : Nat} {b body rest : List Stmt} {P : Gm → List Res → Prop} {Pr : List Res → Prop} {PP : Gm → List Res → Prop}
theorem hr_freezeD {d : Addr} {xs : List (K × α)} (hx : Vb.mk x Value RIs (.ref d) ∈ Γ.vars) (h : HR prog w A env (Γ.set x (RDict knd R) xs) res b S c) : HR prog w A env Γ (MutD knd d R xs :: res) b S c := fun Hd Z s at_ => by
  refine ex1 (at_.freezeG (S := RDict knd R) (b := xs) rfl (fun K ⟨lo, o, kvs, ho, hd, ha⟩ hK => ⟨d, o, kvs, rfl, hK o ho, lo, hd, ha⟩) hx) fun Z' zz => and2 zz fun hz at' => ?_
  exact wpAny_mono (h Hd Z' s at') (fun f s' ⟨v, q1, Γ', r', Z'', q3, q4, q5⟩ => ⟨v, q1, Γ', r', Z'', Stp.trans (Z' := Z') (s' := s) ⟨.refl, fun z h => .inl (hz z h)⟩ q3, q4, q5⟩) fun _ _ x => x
theorem ex_one (h : Ev prog w A Γ e₁ R a) (hs : autoParam (starEach [e₁] env = [(false, eval e₁ env)]) autoA) : EX prog w A env Γ res (.List [e₁] lp) fun o r => ∃ l, o = ⟨Value, RIs, .ref l⟩ ∧ r = MutL l R [a] :: res := fun Hd Z s at_ => by
  refine List_ ?_
  rw [hs]
  refine spliced_cons (h.then at_.cx fun u s₁ k₁ c₁ hu => spliced_nil (wpAny_newObj_type ?_))
  have at₁ := at_.keeps k₁
  refine and2 (at₁.add' (r := MutL s₁.heap.objs.size R [a]) (s' := { s₁ with heap := s₁.heap.push { cls := .type "list", dict := none, data := .seq ([u] : List Value).toArray } }) .push (fun b hb => by rw [show b = s₁.heap.objs.size from List.mem_singleton.mp hb]; exact get_none (Nat.le_refl _)) ⟨[u], 0, Heap.get?_push_size _ rfl, R.mono (fun b o q => ⟨fun q' => (List.mem_append.mp q').elim (fun y => q.1 (List.mem_append_left _ y)) fun y => (List.mem_append.mp y).elim (fun y => by rw [show b = s₁.heap.objs.size from List.mem_singleton.mp y] at q; exact absurd (get_lt q.2) (Nat.lt_irrefl _)) fun y => q.1 (List.mem_append_right _ y), Heap.get?_push_of_some _ q.2⟩) hu, trivial⟩) fun st at₂ => ?_
  exact ⟨⟨Value, RIs, .ref s₁.heap.objs.size⟩, _, _, ⟨_, rfl, rfl⟩, k₁.stp.trans st, at₂, rfl⟩
theorem es_last {l : Addr} {xs : List α} (hx : Vb.mk x Value RIs (.ref l) ∈ Γ.vars) (h₂ : Ev prog w A Γ e₂ RInt (-1)) (hy : xs.getLast? = some a) (hl : xs.length ≤ sizeLine) (hd : autoParam ((x == ("__debug__" : Str)) = false) autoC)
    (hs : autoParam (∀ u, subscripted e₂ false (.ref l) (.int (-1) u) = operate [.ref l, .int (-1) u] (getItem (.ref l) (.int (-1) u))) autoF) : ES prog w A env Γ (MutL l R xs :: res) (.Subscript (.Name x px) e₂ pos) R a (· = MutL l R xs :: res) := fun Hd Z s at_ => by
  refine ex1 (at_.cx.vis _ hx) fun u zz => and2 zz fun h1 h2 => ?_
  cases (show u = .ref l from h2)
  refine Subscript_ (wpAny_Name (h1.load at_.cx.fn ?_) hd)
  refine h₂.then at_.cx fun v s₂ k₂ c₂ hv => ?_
  (refine ex1 hv ?_; try clear hv; rintro t rfl)
  have at₂ := at_.keeps k₂
  refine ex2 ((at₂.rs _ List.mem_cons_self).1) fun vs n zz => and2 zz fun ho ha => ?_
  have hL : s₂.heap.IsList l vs.toArray := ⟨_, ho, rfl, n, rfl⟩
  have hlen := ha.length
  have hg : xs[xs.length - 1]? = some a := by rw [← List.getLast?_eq_getElem?]; exact hy
  refine ex1 (ha.get' hg) fun v zz => and2 zz fun hv hr => ?_
  have hne : 0 < vs.length := by have := (List.getElem?_eq_some_iff.mp hg).1; omega
  rw [hlen] at hv
  refine kde_neg (vs := vs) (j := vs.length - 1) (v := v) hL (by decide) (by decide) ?_ (by simpa using hv) ?_ (hs t)
  · unfold seqIndex?
    have e1 : (-1 : Int) < 0 := by decide
    simp only [e1, if_true]
    have e2 : ((-1 : Int) + ((vs.length : Nat) : Int)) = ((vs.length - 1 : Nat) : Int) := by omega
    rw [e2]
    simp
    try omega
  · exact ⟨_, Z, rfl, k₂.stp, at₂, hr⟩
end
end
end
section
section
section
variable {prog : Program} {w : World} {A : Around} {E : Value → Shared → Prop} {s : Shared} {a : Addr}
theorem star_tup {o : Obj} {vs : List Value} {n : Nat} {Q : List Value → Shared → Prop} (ho : s.heap.get? a = some o) (hc : o.cls = .type "tuple") (hd : o.data = .seq vs.toArray n) (hz : vs.length ≤ 100000) (h : ∀ s', Kp s s' → Q vs s') : StarOf (model prog w) A E (.ref a) Q s := by
  have hT' : s.TypeIs (.ref a) "tuple" := ⟨o, ho, hc⟩
  have z : wpAny (model prog w) A (collect (.ref a)) Q E s :=
    wpAny_collect_seq a (.inr rfl) ho hc hd (fun h' hk => h { s with heap := h' } ⟨h', s.toks, rfl, hk⟩) (by rw [List.size_toArray, sizeLine_eq]; omega)
  unfold StarOf notIterableAtAll
  exact wpAny_bind (wpAny_specialOf hT' PySem.F.slot_tuple_iter.lookup (wpAny_pure ⟨rfl, z⟩))
theorem sorted_tupS {o : Obj} {vs : List Value} {ss : List Str} {n : Nat} {Q : Value → Shared → Prop} (ho : s.heap.get? a = some o) (hc : o.cls = .type "tuple") (hd : o.data = .seq vs.toArray n) (hS : StrsAre vs ss) (h64 : vs.length < 64)
    (h : ∀ D h' out e, (∀ b o, s.heap.get? b = some o → h'.get? b = some o) → s.heap.get? D = none → h'.get? D = some (seqObj "list" (out : List Value).toArray e) → StrsAre out (sortS ss) → Q (.ref D) { s with heap := h' }) :
    wpAny (model prog w) A (call (.builtin "sorted") [.ref a]) Q E s := by
  refine Calls.call_function_entry kind_sorted plain_sorted entry_sorted (args_sorted1 _) ?_
  unfold Builtin.«sorted»
  refine wpAny_bind (m := checkCount "sorted" 1 1 _) (wpAny_pure ?_)
  refine wpAny_bind (wpAny_collect_seq a (.inr rfl) ho hc hd (fun h₁ hk₁ => ?_) (by rw [List.size_toArray, sizeLine_eq]; omega))
  refine wpAny_bind (wpAny_newList ?_)
  have hoL : (h₁.push (seqObj "list" vs.toArray 0)).get? h₁.objs.size = some (seqObj "list" vs.toArray 0) := Heap.get?_push_size _ rfl
  show wpAny _ _ _ _ _ { s with heap := h₁.push (seqObj "list" vs.toArray 0) }
  refine wpAny_bind (wpAny_holding (wpAny_call_entry slot_list_sort ⟨_, hoL, rfl⟩ entry_list_sort (list_sort_treeK strKind_oneLt hoL hS.keysOf (fun v₁ v₂ rest e => keyKind_strs (by rw [← e]; exact hS)) h64 fun st' a1 a2 => ⟨_, rfl, ?_⟩) (args_list_sort _)))
  refine ex1 (sorted_out_str hS a1 a2) fun ss' zz => and3 zz fun b1 b2 b3 => ?_
  refine ex1 (sortedHeap_at (out := (arrOf st').map (·.2)) hoL) fun e he => ?_
  have hsz : s.heap.get? h₁.objs.size = none := by
    cases q : s.heap.get? h₁.objs.size with
    | none => rfl
    | some o' => exact absurd (get_lt (hk₁ _ _ q)) (Nat.lt_irrefl _)
  refine wpAny_pure ⟨_, rfl, h _ _ _ e (fun b o' hb => ?_) hsz (by rw [Array.toArray_toList]; exact he) (sortS_rising b2 b3 ▸ b1)⟩
  have hlt := get_lt (hk₁ b o' hb)
  rw [sortedHeap_old (Nat.ne_of_lt hlt) (by rw [size_push']; exact Nat.lt_succ_of_lt hlt), Heap.get?_push_ne _ _ _ (Nat.ne_of_lt hlt)]
  exact hk₁ b o' hb
end
section
variable {mg mb : Str → Option Value} {scope : Scope} {h₀ : Heap} {vbs mv : List Vb} {α β γ K : Type} [DecidableEq K] {prog : Program} {w : World} {knd : KeyKind prog w K} {A : Around} {env : Env} {Γ : Gm} {res res' : List Res} {e e₁ e₂ e₃ test : PySem.Expr} {R : Rp α} {S : Rp β} {T : Rp K} {a : α} {x y z : Str} {px py pz pos p p' tp tp' lp apos : Pos} {k k' : Nat} {body rest : List Stmt} {P : Gm → List Res → Prop} {Pr : List Res → Prop}
theorem ev_sortedT {xs : List Str} (hf : BFn Γ "sorted" (.builtin "sorted")) (he : Ev prog w A Γ e (RTupX RStr) xs) (hl : xs.length < 64) (hs : autoParam (∀ env, starEach [e] env = [(false, eval e env)]) autoB) : Ev prog w A Γ (.Call (.Name "sorted" p) [e] [] pos) (RList RStr) (sortS xs) :=
  call1 hf he.r (fun env s Z v c hv => by
    (refine ex3 hv ?_; try clear hv; rintro l n vs zz; refine and3 zz ?_; try clear zz; rintro rfl ⟨_, ho⟩ ha)
    refine sorted_tupS ho rfl rfl (strs_of ha) (by rw [← ha.length]; exact hl) fun D h' out ep hk hD ho' hS => ?_
    refine ⟨⟨h', s.toks, rfl, hk⟩, is_rlist (fun q => ?_) (vs := out) ⟨_, ho', rfl, ep, rfl⟩ (of_strs hS)⟩
    refine ex1 (c.zl D q) fun o hz => ?_
    rw [hD] at hz; cases hz) hs
theorem ev_dget2 {xs : List (K × α)} {q : K} (f : Flat R) (hK : ∀ {k : K} {P : Kn} {v : Value}, T.rel k P v → knd.is k v = true) (h₁ : Er prog w A Γ e₁ (RDict knd R) xs) (h₂ : Ev prog w A Γ e₂ T q) (h₃ : Ev prog w A Γ e₃ R a) (hline : (apos.endLine == pos.line) = true)
    (hbase : autoParam (∀ env, attributeBase e₁ "get" env (eval e₁ env) = eval e₁ env) autoB) (hs : autoParam (∀ env, starEach [e₂, e₃] env = [(false, eval e₂ env), (false, eval e₃ env)]) autoB) :
    Ev prog w A Γ (.Call (.Attribute e₁ "get" apos) [e₂, e₃] [] pos) R ((dget xs q).getD a) := fun env s Z c => by
  refine Call_method2 (hbase env) (hs env) hline (h₁.then c fun v s₁ k₁ c₁ hv => ?_)
  (refine ex3 hv ?_; try clear hv; rintro d o kvs zz; refine and5 zz ?_; try clear zz; rintro rfl ⟨_, ho⟩ lo hd ha)
  have hD : s₁.heap.DictOf knd d kvs := Heap.dictOf_iff.mpr ⟨o, ho, hd⟩
  refine ⟨"dict", "dict.get", PySem.F.plainAttrs_dict, PySem.F.slot_dict_get, PySem.F.type_dict_get, hD.typeIs, fun q hq => by cases hq; exact hD.mapOf.noDict _ rfl, ?_⟩
  refine callWith_builtin rfl (evalArgs_plain (spliced_cons (h₂.then c₁ fun kv s₂ k₂ c₂ hkv => spliced_cons (h₃.then c₂ fun dv s₃ k₃ c₃ hdv => spliced_nil ?_))))
  have hD₃ : s₃.heap.DictOf knd d kvs := Heap.dictOf_iff.mpr ⟨o, (k₂.tr k₃).get ho, hd⟩
  refine call_meetsIn PySem.F.slot_dict_get hD₃.typeIs PySem.F.entry_dict_get (PySem.F.args_dict_get_3 _ _ _) (meets_dict_get_default knd d (hK hkv) lo dv) ⟨_, hD₃.mapOf, ?_⟩
  have kp : Kp s { s₃ with toks := s₃.toks + 1 } := ((k₁.tr k₂).tr k₃).tr .tok
  rcases ha.find (k := q) with ⟨e1, e2⟩ | ⟨b, v, e1, e2, hr⟩
  · rw [e1, e2]; exact ⟨kp, f.f hdv⟩
  · rw [e1, e2]; exact ⟨kp, f.f hr⟩
theorem hs_whileS (Inv : Nat → Gm → List Res → Prop) (n : Nat) (h0 : Inv n Γ res)
    (turn : ∀ n Γ' res', Inv n Γ' res' → ∃ c Pr, TS prog w A env Γ' res' test c Pr ∧ (c = true → ∀ r, Pr r → HT prog w A env Γ' r body fun Γ'' res'' => ∃ m, m < n ∧ Inv m Γ'' res'') ∧ (c = false → ∀ r, Pr r → P Γ' r)) : HS prog w A env Γ res (.While test body [] pos) P := fun Hd Z s at_ => by
  refine while_inv (fun n s' => ∃ Γ' res' Z', Inv n Γ' res' ∧ (Γ'.h₀ = Γ.h₀ ∧ Γ'.L = Γ.L) ∧ Stp Z s Z' s' ∧ At Γ' env res' Hd Z' s') n ⟨Γ, res, Z, h0, ⟨rfl, rfl⟩, .refl, at_⟩ ?_
  rintro n s₁ ⟨Γ₁, r₁, Z₁, hI, ⟨e1, e2⟩, st₁, at₁⟩
  refine ex2 (turn n Γ₁ r₁ hI) fun c Pr zz => and3 zz fun hc ht hf => ?_
  refine wpAny_mono (hc Hd Z₁ s₁ at₁) (fun b s₂ q => ?_) fun _ _ q => q
  (refine and2 q ?_; try clear q; rintro rfl zz; refine ex2 zz ?_; try clear zz; rintro r₂ Z₂ zz; refine and3 zz ?_; try clear zz; rintro hPr st₂ at₂)
  cases b with
  | true =>
    simp only [if_true]
    refine wpAny_mono (ht rfl r₂ hPr Hd Z₂ s₂ at₂) (fun f s₃ h₃ => ?_) fun _ _ q => q
    (refine and2 h₃ ?_; try clear h₃; rintro rfl zz; obtain ⟨Γ₃, r₃, Z₃, ⟨m, hm, hI₃⟩, ⟨q1, q2⟩, st₃, at₃⟩ := zz)
    exact ⟨m, hm, Γ₃, r₃, Z₃, hI₃, ⟨q1.trans e1, q2.trans e2⟩, (st₁.trans st₂).trans st₃, at₃⟩
  | false =>
    simp only [Bool.false_eq_true, if_false]
    exact wpAny_execs_nil ⟨rfl, Γ₁, r₂, Z₂, hf rfl r₂ hPr, ⟨e1, e2⟩, st₁.trans st₂, at₂⟩
end
end
end
section
section
def pairI (c : Int) : List Int := [65 + c / 16, 65 + c % 16]
def stripA (l : List Int) : List Int := l.dropWhile fun c => c == 65
def lettersOf (cs : List Int) : List Int := stripA (cs.reverse.flatMap pairI)
theorem lstrip_list (x : Str) : (Txt.lstripChars x "A").cps.toList = x.cps.toList.dropWhile fun c => c == 65 := by
  have e : (fun c => ("A" : Str).cps.contains c) = fun c : Nat => c == 65 := by
    funext c
    have : ("A" : Str).cps = #[65] := by decide
    rw [this]
    by_cases h : c = 65 <;> simp [h]
  unfold Txt.lstripChars
  rw [PyProof.Rows.stripBy_eq]
  unfold Builtin.Str.strSub stripLo stripHi
  have e' : ("A" : Str).cps.contains = fun c : Nat => c == 65 := e
  rw [e']
  simp only [if_true, Bool.false_eq_true, if_false]
  have key : ∀ (l : List Nat) (p : Nat → Bool), l.drop (l.takeWhile p).length = l.dropWhile p := by
    intro l p
    induction l with
    | nil => rfl
    | cons a r ih =>
      rw [List.takeWhile_cons, List.dropWhile_cons]
      cases p a <;> simp [ih]
  rw [← key]
  simp only [Str.length, Array.toList_extract, List.extract_eq_take_drop]
  exact List.take_of_length_le (by rw [List.length_drop, Array.length_toList]; exact Nat.le_refl _)
theorem join_list0 : ∀ xs : List Str, (Txt.join "" xs).cps.toList = xs.flatMap fun s => s.cps.toList := by
  intro xs
  have e : Txt.join "" xs = PySem.Str.join "" xs := StrLaws.glued_eq_join _ _
  rw [e]
  have z : ("" : Str).cps.toList = [] := by decide
  induction xs with
  | nil => rfl
  | cons a r ih =>
    cases r with
    | nil => simp [PySem.Str.join]
    | cons b t =>
      have : PySem.Str.join "" (a :: b :: t) = a ++ "" ++ PySem.Str.join "" (b :: t) := rfl
      rw [this, PySem.Str.cps_append, Array.toList_append, PySem.Str.cps_append, Array.toList_append, z, List.append_nil, List.flatMap_cons]
      rw [ih (StrLaws.glued_eq_join _ _)]
theorem ap_small {c : Nat} (h : c < 256) : stripA (pairI c) = ap c := by
  by_cases h0 : c = 0
  · subst h0; rw [ap_zero]; decide
  · by_cases h1 : c < 16
    · rw [ap_pos h0, show c / 16 = 0 by omega, ap_zero]
      unfold stripA pairI
      have e1 : (65 : Int) + (c : Int) / 16 = 65 := by omega
      have e2 : ¬ (65 : Int) + (c : Int) % 16 = 65 := by omega
      rw [e1]
      simp [List.dropWhile_cons]
      omega
    · rw [ap_pos h0, ap_pos (by omega : c / 16 ≠ 0), show c / 16 / 16 = 0 by omega, ap_zero]
      unfold stripA pairI
      have e2 : ¬ (65 : Int) + (c : Int) / 16 = 65 := by omega
      rw [List.dropWhile_cons, if_neg (by simpa using e2)]
      simp
      omega
theorem ap_step {x y : Nat} (h : x ≠ 0) (hy : y < 16) : ap (x * 16 + y) = ap x ++ [65 + (y : Int)] := by
  rw [ap_pos (by omega), show (x * 16 + y) / 16 = x by omega, show (x * 16 + y) % 16 = y by omega]
theorem ap_more {n c : Nat} (hn : n ≠ 0) (h : c < 256) : ap (n * 256 + c) = ap n ++ pairI c := by
  rw [show n * 256 + c = (n * 16 + c / 16) * 16 + c % 16 by omega, ap_step (by omega) (by omega), ap_step hn (by omega), List.append_assoc]
  rfl
def val256 (l : List Int) : Nat := l.foldl (fun a c => a * 256 + c.toNat) 0
theorem ap_nil {n : Nat} : ap n = [] ↔ n = 0 := by
  constructor
  · intro h
    by_cases q : n = 0
    · exact q
    · rw [ap_pos q] at h
      have := congrArg List.length h
      simp at this
  · rintro rfl; exact ap_zero
theorem strip_snoc {F : List Int} {a c : Nat} (h : stripA F = ap a) (hc : c < 256) : stripA (F ++ pairI c) = ap (a * 256 + c) := by
  unfold stripA at *
  rw [List.dropWhile_append, h]
  by_cases q : a = 0
  · subst q
    rw [ap_zero]
    simp only [List.isEmpty_nil, if_true, Nat.zero_mul, Nat.zero_add]
    exact ap_small hc
  · rw [if_neg (by rw [List.isEmpty_iff, ap_nil]; exact q), ap_more q hc]
theorem strip_go : ∀ (l : List Int) (a : Nat) (F : List Int), stripA F = ap a → (∀ c ∈ l, 0 ≤ c ∧ c < 256) → stripA (F ++ l.flatMap pairI) = ap (l.foldl (fun a c => a * 256 + c.toNat) a)
  | [], a, F, h, _ => by simpa using h
  | c :: r, a, F, h, hc => by
    have h1 := hc c (.head _)
    have e : c = (c.toNat : Int) := by omega
    have := strip_go r (a * 256 + c.toNat) (F ++ pairI c) (by rw [e, Int.toNat_natCast]; exact strip_snoc h (by omega)) fun x hx => hc x (.tail _ hx)
    rw [List.flatMap_cons, ← List.append_assoc]
    exact this
theorem strip_val {l : List Int} (h : ∀ c ∈ l, 0 ≤ c ∧ c < 256) : stripA (l.flatMap pairI) = ap (val256 l) := by
  have := strip_go l 0 [] (by rw [ap_zero]; rfl) h
  unfold val256
  simpa using this
def numOf (cs : List Int) : Int := cs.foldr (fun c a => c + 256 * a) 0
theorem val_num : ∀ {cs : List Int}, (∀ c ∈ cs, 0 ≤ c ∧ c < 256) → ((val256 cs.reverse : Nat) : Int) = numOf cs
  | [], _ => rfl
  | c :: r, h => by
    have h1 := h c (.head _)
    have ih := val_num (cs := r) fun x hx => h x (.tail _ hx)
    unfold val256 at *
    rw [List.reverse_cons, List.foldl_append]
    show (((_ * 256 + c.toNat : Nat)) : Int) = c + 256 * numOf r
    rw [← ih]
    push_cast
    omega
theorem letters_ap {cs : List Int} (h : ∀ c ∈ cs, 0 ≤ c ∧ c < 256) : ap (numOf cs).natAbs = lettersOf cs := by
  unfold lettersOf
  rw [strip_val fun c hc => h c (List.mem_reverse.mp hc)]
  rw [← val_num h]
  rfl
theorem ap_ge {n k : Nat} (h : 16 ^ k ≤ n) : k + 1 ≤ (ap n).length := by
  induction k generalizing n with
  | zero =>
    have : n ≠ 0 := by rw [Nat.pow_zero] at h; omega
    rw [ap_pos this, List.length_append]; simp
  | succ k ih =>
    have : n ≠ 0 := by have := Nat.pow_pos (n := k + 1) (show 0 < 16 by decide); omega
    rw [ap_pos this, List.length_append]
    have h2 : 16 ^ k ≤ n / 16 := by
      rw [Nat.le_div_iff_mul_le (by decide)]
      rw [Nat.pow_succ] at h; exact h
    have := ih h2
    simp only [List.length_cons, List.length_nil]
    omega
theorem ap_half {n k : Nat} (h1 : 256 ^ k ≤ n) (h2 : n < 256 ^ (k + 1)) : ((ap n).length + 1) / 2 = k + 1 := by
  have e1 : 256 ^ k = 16 ^ (2 * k) := by rw [show (256 : Nat) = 16 ^ 2 by decide, ← Nat.pow_mul]
  have e2 : 256 ^ (k + 1) = 16 ^ (2 * (k + 1)) := by rw [show (256 : Nat) = 16 ^ 2 by decide, ← Nat.pow_mul]
  rw [e1] at h1
  rw [e2] at h2
  have := ap_ge h1
  have := ap_len h2
  omega
end
end
section
section
section
variable {K : Type} [DecidableEq K] {α : AN K} {k x y : K} {f : Int × List K → Int × List K}
theorem find_upd : (aUpd α k f).find? (fun e => decide (e.1 = x)) = (α.find? fun e => decide (e.1 = x)).map fun e => if e.1 = k then (e.1, f e.2) else e := by
  unfold aUpd
  induction α with
  | nil => rfl
  | cons e r ih =>
    rw [List.map_cons, List.find?_cons, List.find?_cons]
    have h1 : (if e.1 = k then (e.1, f e.2) else e).1 = e.1 := by split <;> rfl
    rw [h1]
    by_cases h : e.1 = x
    · simp [h]
    · simp only [h, decide_false]; exact ih
theorem find_key {e : K × Int × List K} (h : (α.find? fun e => decide (e.1 = x)) = some e) : e.1 = x ∧ e ∈ α := ⟨by simpa using List.find?_some h, List.mem_of_find?_eq_some h⟩
theorem find_has (h : x ∈ α.map (·.1)) : ∃ e, (α.find? fun e => decide (e.1 = x)) = some e := by
  obtain ⟨e, he, rfl⟩ := List.mem_map.mp h
  cases q : α.find? fun e' => decide (e'.1 = e.1) with
  | some e' => exact ⟨e', rfl⟩
  | none => exact absurd (List.find?_eq_none.mp q e he) (by simp)
theorem find_no (h : x ∉ α.map (·.1)) : (α.find? fun e => decide (e.1 = x)) = none := List.find?_eq_none.mpr fun e he => by simpa using fun q => h (List.mem_map.mpr ⟨e, he, q⟩)
theorem aNp_upd (h : k ∈ α.map (·.1)) : aNp (aUpd α k f) x = if x = k then (f (aNp α k, aSucc α k)).1 else aNp α x := by
  unfold aNp aSucc
  rw [find_upd]
  by_cases e : x = k
  · subst e
    refine ex1 (find_has h) fun e he => ?_
    rw [he, if_pos rfl]
    simp [(find_key he).1]
  · rw [if_neg e]
    cases q : α.find? fun e => decide (e.1 = x) with
    | none => rfl
    | some e' => simp [(find_key q).1, e]
theorem aSucc_upd (h : k ∈ α.map (·.1)) : aSucc (aUpd α k f) x = if x = k then (f (aNp α k, aSucc α k)).2 else aSucc α x := by
  unfold aNp aSucc
  rw [find_upd]
  by_cases e : x = k
  · subst e
    refine ex1 (find_has h) fun e he => ?_
    rw [he, if_pos rfl]
    simp [(find_key he).1]
  · rw [if_neg e]
    cases q : α.find? fun e => decide (e.1 = x) with
    | none => rfl
    | some e' => simp [(find_key q).1, e]
theorem find_get : (aGet α k).find? (fun e => decide (e.1 = x)) = if x = k ∧ k ∉ α.map (·.1) then some (k, 0, []) else α.find? fun e => decide (e.1 = x) := by
  unfold aGet
  by_cases h : k ∈ α.map (·.1)
  · rw [if_pos h, if_neg fun q => q.2 h]
  · rw [if_neg h, List.find?_append]
    by_cases e : x = k
    · subst e
      rw [if_pos ⟨rfl, h⟩, find_no h]; simp
    · rw [if_neg fun q => e q.1]
      cases α.find? fun e => decide (e.1 = x) with
      | some e' => rfl
      | none => simp [Ne.symm e]
theorem aNp_get : aNp (aGet α k) x = aNp α x := by
  unfold aNp
  rw [find_get]
  by_cases h : x = k ∧ k ∉ α.map (·.1)
  · rw [if_pos h, find_no (h.1 ▸ h.2)]; rfl
  · rw [if_neg h]
theorem aSucc_get : aSucc (aGet α k) x = aSucc α x := by
  unfold aSucc
  rw [find_get]
  by_cases h : x = k ∧ k ∉ α.map (·.1)
  · rw [if_pos h, find_no (h.1 ▸ h.2)]; rfl
  · rw [if_neg h]
theorem aGet_keys : x ∈ (aGet α k).map (·.1) ↔ x = k ∨ x ∈ α.map (·.1) := by
  unfold aGet
  by_cases h : k ∈ α.map (·.1)
  · rw [if_pos h]; exact ⟨.inr, fun q => q.elim (fun e => e ▸ h) id⟩
  · rw [if_neg h, List.map_append, List.mem_append]; simp [or_comm]
theorem aGet_nodup (h : (α.map (·.1)).Nodup) : ((aGet α k).map (·.1)).Nodup := by
  unfold aGet
  by_cases q : k ∈ α.map (·.1)
  · rw [if_pos q]; exact h
  · rw [if_neg q, List.map_append, List.nodup_append]
    refine ⟨h, by simp, fun a ha b hb e => q ?_⟩
    rw [List.map_singleton, List.mem_singleton] at hb
    rw [← show b = k from hb, ← e]; exact ha
theorem pred_keys {q : K} : x ∈ (aPred k α q).map (·.1) ↔ x = q ∨ x ∈ α.map (·.1) := by unfold aPred; rw [aUpd_keys]; exact aGet_keys
theorem aNp_pred {q : K} : aNp (aPred k α q) x = aNp α x := by
  unfold aPred
  rw [aNp_upd (aGet_keys.mpr (.inl rfl))]
  split
  · rename_i h; rw [h, aNp_get]
  · exact aNp_get
theorem aSucc_pred {q : K} : aSucc (aPred k α q) x = aSucc α x ++ if x = q then [k] else [] := by
  unfold aPred
  rw [aSucc_upd (aGet_keys.mpr (.inl rfl))]
  split
  · rename_i h; rw [h, aSucc_get]
  · rw [aSucc_get, List.append_nil]
theorem preds_all : ∀ (qs : List K) (α : AN K), (∀ x, x ∈ (qs.foldl (aPred k) α).map (·.1) ↔ x ∈ qs ∨ x ∈ α.map (·.1)) ∧ ((α.map (·.1)).Nodup → ((qs.foldl (aPred k) α).map (·.1)).Nodup) ∧ (∀ x, aNp (qs.foldl (aPred k) α) x = aNp α x) ∧ ∀ x, aSucc (qs.foldl (aPred k) α) x = aSucc α x ++ List.replicate (qs.count x) k
  | [], α => ⟨fun x => by simp, fun h => h, fun x => rfl, fun x => by simp⟩
  | q :: qs, α => by
    refine and4 (preds_all qs (aPred k α q)) fun h1 h2 h3 h4 => ?_
    rw [List.foldl_cons]
    refine ⟨fun x => ?_, fun h => h2 ?_, fun x => (h3 x).trans aNp_pred, fun x => ?_⟩
    · rw [h1, pred_keys, List.mem_cons, or_left_comm, or_assoc]
    · unfold aPred; rw [aUpd_keys]; exact aGet_nodup h
    · rw [h4, aSucc_pred, List.append_assoc]
      congr 1
      rw [List.count_cons]
      by_cases e : x = q
      · subst e; simp [List.replicate_succ]
      · simp [e, Ne.symm e]
theorem add_all {qs : List K} : (∀ x, x ∈ (aAdd α k qs).map (·.1) ↔ x = k ∨ x ∈ qs ∨ x ∈ α.map (·.1)) ∧ ((α.map (·.1)).Nodup → ((aAdd α k qs).map (·.1)).Nodup) ∧ (∀ x, aNp (aAdd α k qs) x = aNp α x + if x = k then (qs.length : Int) else 0) ∧ ∀ x, aSucc (aAdd α k qs) x = aSucc α x ++ List.replicate (qs.count x) k := by
  unfold aAdd
  refine and4 (preds_all (k := k) qs (aUpd (aGet α k) k fun e => (e.1 + qs.length, e.2))) fun h1 h2 h3 h4 => ?_
  have hk : k ∈ (aGet α k).map (·.1) := aGet_keys.mpr (.inl rfl)
  refine ⟨fun x => ?_, fun h => h2 ?_, fun x => ?_, fun x => ?_⟩
  · rw [h1, aUpd_keys, aGet_keys, or_left_comm]
  · rw [aUpd_keys]; exact aGet_nodup h
  · rw [h3, aNp_upd hk]
    split
    · rename_i h; rw [h, aNp_get]
    · rw [aNp_get, Int.add_zero]
  · rw [h4, aSucc_upd hk]
    congr 1
    split
    · rename_i h; rw [h, aSucc_get]
    · exact aSucc_get
structure Bld (α : AN K) (pl : K → List K) : Prop where
  nd : (α.map (·.1)).Nodup
  np : ∀ x, aNp α x = (pl x).length
  su : ∀ x y, (aSucc α x).count y = (pl y).count x
  ks : ∀ y, ∀ x ∈ pl y, x ∈ α.map (·.1) ∧ y ∈ α.map (·.1)
theorem Bld.nil : Bld ([] : AN K) fun _ => [] := ⟨by simp, fun _ => rfl, fun _ _ => rfl, fun _ _ h => (nomatch h)⟩
theorem Bld.add {pl : K → List K} (B : Bld α pl) (k : K) (qs : List K) : Bld (aAdd α k qs) fun y => if y = k then pl y ++ qs else pl y := by
  refine and4 (add_all (α := α) (k := k) (qs := qs)) fun h1 h2 h3 h4 => ?_
  refine ⟨h2 B.nd, fun x => ?_, fun x y => ?_, fun y x hx => ?_⟩
  · rw [h3, B.np]
    by_cases e : x = k
    · simp [e]
    · simp [e]
  · rw [h4, List.count_append, B.su, List.count_replicate]
    by_cases e : y = k
    · subst e; simp
    · simp [e, Ne.symm e]
  · rw [h1, h1]
    by_cases e : y = k
    · subst e
      rw [if_pos rfl] at hx
      rcases List.mem_append.mp hx with q | q
      · have := B.ks y x q; exact ⟨.inr (.inr this.1), .inl rfl⟩
      · exact ⟨.inr (.inl q), .inl rfl⟩
    · rw [if_neg e] at hx
      have := B.ks y x hx
      exact ⟨.inr (.inr this.1), .inr (.inr this.2)⟩
structure Go (α : AN K) (pl : K → List K) (D O rs : List K) : Prop where
  nd : (α.map (·.1)).Nodup
  su : ∀ x y, (aSucc α x).count y = (pl y).count x
  ks : ∀ y, ∀ x ∈ pl y, x ∈ α.map (·.1) ∧ y ∈ α.map (·.1)
  np : ∀ y ∈ α.map (·.1), y ∉ O → aNp α y = (pl y).countP fun x => !decide (x ∈ D)
  out : ∀ y ∈ O, y ∉ D → aNp α y = -1
  dO : ∀ y ∈ D, y ∈ O
  oK : ∀ y ∈ O, y ∈ α.map (·.1)
  rd : ∀ y, y ∈ rs ↔ y ∈ α.map (·.1) ∧ y ∉ O ∧ ∀ x ∈ pl y, x ∈ D
  rn : rs.Nodup
  cl : ∀ y ∈ O, ∀ x ∈ pl y, x ∈ D
theorem Bld.go {pl : K → List K} (B : Bld α pl) : Go α pl [] [] ((α.filter fun e => e.2.1 == 0).map (·.1)) := by
  have hf : ∀ e ∈ α, aNp α e.1 = e.2.1 := fun e he => by
    have nd := B.nd
    unfold aNp
    have : (α.find? fun e' => decide (e'.1 = e.1)) = some e := by
      clear B
      induction α with
      | nil => cases he
      | cons a r ih =>
        rw [List.map_cons, List.nodup_cons] at nd
        rw [List.find?_cons]
        rcases List.mem_cons.mp he with rfl | he
        · simp
        · have : a.1 ≠ e.1 := fun q => nd.1 (List.mem_map.mpr ⟨e, he, q.symm⟩)
          simp only [this, decide_false]
          exact ih he nd.2
    rw [this]; rfl
  refine ⟨B.nd, B.su, B.ks, fun y hy _ => ?_, fun _ h => (nomatch h), fun _ h => (nomatch h), fun _ h => (nomatch h), fun y => ?_, B.nd.sublist (List.Sublist.map _ List.filter_sublist), fun _ h => (nomatch h)⟩
  · rw [B.np, List.countP_eq_length.mpr (by simp)]
  · have np0 : (∀ x ∈ pl y, x ∈ ([] : List K)) ↔ aNp α y = 0 := by
      rw [B.np]
      cases pl y with
      | nil => simp
      | cons a r =>
        constructor
        · intro h; exact (nomatch h a (.head _))
        · intro h; rw [List.length_cons] at h; omega
    rw [np0, List.mem_map]
    constructor
    · rintro ⟨e, he, rfl⟩
      refine and2 (List.mem_filter.mp he) fun h1 h2 => ?_
      exact ⟨List.mem_map.mpr ⟨e, h1, rfl⟩, by simp, by rw [hf e h1]; simpa using h2⟩
    · rintro ⟨h1, _, h3⟩
      (have zz := List.mem_map.mp h1; refine ex1 zz ?_; try clear zz; rintro e zz; refine and2 zz ?_; try clear zz; rintro he rfl)
      exact ⟨e, List.mem_filter.mpr ⟨he, by rw [hf e he] at h3; simp [h3]⟩, rfl⟩
variable {pl : K → List K} {D O rs : List K}
theorem out_all : ∀ (ks : List K) (α : AN K), (∀ k ∈ ks, k ∈ α.map (·.1)) → (∀ x, aNp (aOut α ks) x = if x ∈ ks then -1 else aNp α x) ∧ ∀ x, aSucc (aOut α ks) x = aSucc α x
  | [], α, _ => ⟨fun x => by simp [aOut], fun x => rfl⟩
  | k :: ks, α, h => by
    have hk := h k (.head _)
    refine and2 (out_all ks (aUpd α k fun e => (-1, e.2)) fun q hq => by rw [aUpd_keys]; exact h q (.tail _ hq)) fun h1 h2 => ?_
    refine ⟨fun x => ?_, fun x => ?_⟩
    · have e : aOut α (k :: ks) = aOut (aUpd α k fun e => (-1, e.2)) ks := rfl
      rw [e, h1, aNp_upd hk]
      by_cases q : x ∈ ks
      · simp [q]
      · by_cases q' : x = k <;> simp [q, q']
    · have e : aOut α (k :: ks) = aOut (aUpd α k fun e => (-1, e.2)) ks := rfl
      rw [e, h2, aSucc_upd hk]
      split
      · rename_i q; rw [q]
      · rfl
theorem Go.ready (G : Go α pl D O rs) : Go (aOut α rs) pl D (O ++ rs) [] := by
  refine and2 (out_all rs α fun k hk => ((G.rd k).mp hk).1) fun h1 h2 => ?_
  refine ⟨by rw [aOut_keys]; exact G.nd, fun x y => by rw [h2]; exact G.su x y, fun y x hx => by rw [aOut_keys]; exact G.ks y x hx, fun y hy hn => ?_, fun y hy hd => ?_, fun y hy => List.mem_append_left _ (G.dO y hy), fun y hy => ?_, fun y => ?_, List.nodup_nil, fun y hy => ?_⟩
  · rw [aOut_keys] at hy
    rw [h1, if_neg fun q => hn (List.mem_append_right _ q)]
    exact G.np y hy fun q => hn (List.mem_append_left _ q)
  · rw [h1]
    by_cases q : y ∈ rs
    · rw [if_pos q]
    · rw [if_neg q]; exact G.out y ((List.mem_append.mp hy).resolve_right q) hd
  · rw [aOut_keys]
    exact (List.mem_append.mp hy).elim (G.oK y) fun q => ((G.rd y).mp q).1
  · rw [aOut_keys]
    refine ⟨fun h => (nomatch h), fun ⟨a, b, c⟩ => absurd (List.mem_append_right _ ((G.rd y).mpr ⟨a, fun q => b (List.mem_append_left _ q), c⟩)) b⟩
  · exact (List.mem_append.mp hy).elim (G.cl y) fun q => ((G.rd y).mp q).2.2
theorem decs_all : ∀ (ss : List K) (st : AN K × List K), (∀ s ∈ ss, s ∈ st.1.map (·.1)) → (∀ x, aSucc (ss.foldl aDec st).1 x = aSucc st.1 x) ∧ (∀ x, aNp (ss.foldl aDec st).1 x = aNp st.1 x - ss.count x) ∧
    ((∀ s ∈ ss, s ∉ st.2) → (∀ s ∈ ss, (ss.count s : Int) ≤ aNp st.1 s) → st.2.Nodup → (ss.foldl aDec st).2.Nodup ∧ ∀ x, x ∈ (ss.foldl aDec st).2 ↔ x ∈ st.2 ∨ (x ∈ ss ∧ aNp st.1 x = ss.count x))
  | [], st, _ => ⟨fun x => rfl, fun x => by simp, fun _ _ h => ⟨h, fun x => by simp⟩⟩
  | s :: ss, st, h => by
    have hs := h s (.head _)
    refine and3 (decs_all ss (aDec st s) fun q hq => by rw [aDec_keys]; exact h q (.tail _ hq)) fun h1 h2 h3 => ?_
    have hnp : ∀ x, aNp (aDec st s).1 x = aNp st.1 x - if x = s then 1 else 0 := fun x => by
      show aNp (aUpd st.1 s fun e => (e.1 - 1, e.2)) x = _
      rw [aNp_upd hs]
      split
      · rename_i q; rw [q]
      · simp
    rw [List.foldl_cons]
    refine ⟨fun x => ?_, fun x => ?_, fun c1 c2 c3 => ?_⟩
    · rw [h1]
      show aSucc (aUpd st.1 s fun e => (e.1 - 1, e.2)) x = _
      rw [aSucc_upd hs]
      split
      · rename_i q; rw [q]
      · rfl
    · rw [h2, hnp, List.count_cons]
      by_cases e : x = s
      · subst e; simp; omega
      · simp [e, Ne.symm e]
    · have e2 : (aDec st s).2 = if aNp st.1 s - 1 = 0 then st.2 ++ [s] else st.2 := by
        have : aNp (aUpd st.1 s fun e => (e.1 - 1, e.2)) s = aNp st.1 s - 1 := by rw [aNp_upd hs, if_pos rfl]
        rw [aDec_eq, this]
      have c2s := c2 s (.head _)
      rw [List.count_cons_self] at c2s
      have cnt : ∀ x ∈ ss, ((ss.count x : Nat) : Int) ≤ aNp (aDec st s).1 x := fun x hx => by
        have := c2 x (.tail _ hx)
        rw [hnp, List.count_cons] at *
        by_cases e : x = s
        · subst e; simp at this ⊢; omega
        · simp [e, Ne.symm e] at this ⊢; omega
      have hin : s ∈ ss → 1 ≤ ss.count s := fun q => List.count_pos_iff.mpr q
      have hA : ∀ x ∈ ss, x ∉ (aDec st s).2 := fun x hx q => by
        rw [e2] at q
        have nx := c1 x (.tail _ hx)
        by_cases q' : aNp st.1 s - 1 = 0
        · rw [if_pos q'] at q
          rcases List.mem_append.mp q with q | q
          · exact nx q
          · rw [List.mem_singleton.mp q] at hx
            have := hin hx; omega
        · rw [if_neg q'] at q; exact nx q
      have hB : (aDec st s).2.Nodup := by
        rw [e2]
        by_cases q' : aNp st.1 s - 1 = 0
        · rw [if_pos q']
          exact List.nodup_append.mpr ⟨c3, by simp, fun a ha b hb e => c1 s (.head _) (by rw [← List.mem_singleton.mp hb, ← e]; exact ha)⟩
        · rw [if_neg q']; exact c3
      refine and2 (h3 hA cnt hB) fun n1 n2 => ?_
      refine ⟨n1, fun x => ?_⟩
      rw [n2, hnp, e2, List.mem_cons, List.count_cons]
      by_cases e : x = s
      · subst e
        simp only [beq_self_eq_true, if_true]
        by_cases q : aNp st.1 x - 1 = 0
        · rw [if_pos q]
          have : x ∉ ss := fun q' => by have := hin q'; omega
          have z : ss.count x = 0 := List.count_eq_zero.mpr this
          simp only [List.mem_append, List.mem_singleton, or_true, true_or, true_and, true_iff]
          right
          omega
        · rw [if_neg q]
          constructor
          · rintro (a | ⟨a, b⟩)
            · exact .inl a
            · exact .inr ⟨.inl trivial, by omega⟩
          · rintro (a | ⟨_, b⟩)
            · exact .inl a
            · by_cases q' : x ∈ ss
              · exact .inr ⟨q', by omega⟩
              · have z : ss.count x = 0 := List.count_eq_zero.mpr q'
                omega
      · have e' : (s == x) = false := by simpa using Ne.symm e
        simp only [e, e', if_false, false_or, Int.sub_zero, Nat.add_zero, Bool.false_eq_true]
        by_cases q : aNp st.1 s - 1 = 0
        · rw [if_pos q, List.mem_append, List.mem_singleton]
          simp [e]
        · rw [if_neg q]
theorem allin {l D : List K} : (∀ x ∈ l, x ∈ D) ↔ l.countP (fun x => !decide (x ∈ D)) = 0 := by
  rw [List.countP_eq_zero]
  refine ⟨fun h a ha => by simp [h a ha], fun h a ha => ?_⟩
  have := h a ha
  by_cases q : a ∈ D
  · exact q
  · simp [q] at this
theorem countP_done {l : List K} (hk : k ∉ D) : l.countP (fun x => !decide (x ∈ D ++ [k])) + l.count k = l.countP fun x => !decide (x ∈ D) := by
  induction l with
  | nil => rfl
  | cons a r ih =>
    rw [List.countP_cons, List.countP_cons, List.count_cons]
    by_cases e : a = k
    · subst e; simp [hk] at ih ⊢; omega
    · simp [e] at ih ⊢; omega
theorem Go.done (G : Go α pl D O rs) (hk : k ∈ O) (hd : k ∉ D) : Go (aDone1 (α, rs) k).1 pl (D ++ [k]) O (aDone1 (α, rs) k).2 := by
  have hkK := G.oK k hk
  have hsu : ∀ y, y ∈ aSucc α k ↔ k ∈ pl y := fun y => by rw [← List.count_pos_iff, G.su, List.count_pos_iff]
  have hsK : ∀ s ∈ aSucc α k, s ∈ (aUpd α k fun e => (-2, e.2)).map (·.1) := fun s hs => by rw [aUpd_keys]; exact (G.ks s k ((hsu s).mp hs)).2
  have hsO : ∀ s ∈ aSucc α k, s ∉ O := fun s hs q => hd (G.cl s q k ((hsu s).mp hs))
  refine and3 (decs_all (aSucc α k) (aUpd α k fun e => (-2, e.2), rs) hsK) fun h1 h2 h3 => ?_
  have hnp : ∀ x, aNp (aUpd α k fun e => (-2, e.2)) x = if x = k then -2 else aNp α x := fun x => aNp_upd hkK
  have hsu' : ∀ x, aSucc (aUpd α k fun e => (-2, e.2)) x = aSucc α x := fun x => by
    rw [aSucc_upd hkK]; split
    · rename_i q; rw [q]
    · rfl
  have nek : ∀ s ∈ aSucc α k, s ≠ k := fun s hs e => hsO s hs (e ▸ hk)
  have hle : ∀ s ∈ aSucc α k, ((aSucc α k).count s : Int) ≤ aNp (aUpd α k fun e => (-2, e.2)) s := fun s hs => by
    rw [hnp, if_neg (nek s hs), G.np s ((G.ks s k ((hsu s).mp hs)).2) (hsO s hs), G.su, ← countP_done (k := k) hd]
    omega
  refine and2 (h3 (fun s hs q => hd (((G.rd s).mp q).2.2 k ((hsu s).mp hs))) hle G.rn) fun n1 n2 => ?_
  have e1 : (aDone1 (α, rs) k).1 = ((aSucc α k).foldl aDec (aUpd α k fun e => (-2, e.2), rs)).1 := rfl
  have e2 : (aDone1 (α, rs) k).2 = ((aSucc α k).foldl aDec (aUpd α k fun e => (-2, e.2), rs)).2 := rfl
  have ek : (aDone1 (α, rs) k).1.map (·.1) = α.map (·.1) := aDone1_keys
  refine ⟨by rw [ek]; exact G.nd, fun x y => ?_, fun y x hx => by rw [ek]; exact G.ks y x hx, fun y hy hn => ?_, fun y hy hn => ?_, fun y hy => ?_, fun y hy => by rw [ek]; exact G.oK y hy, fun y => ?_, by rw [e2]; exact n1, fun y hy x hx => List.mem_append_left _ (G.cl y hy x hx)⟩
  · rw [e1, h1, hsu']; exact G.su x y
  · rw [ek] at hy
    rw [e1, h2, hnp, if_neg (fun e : y = k => hn (e ▸ hk)), G.np y hy hn, G.su, ← countP_done (k := k) (l := pl y) hd]
    omega
  · have hnd : y ∉ D := fun q => hn (List.mem_append_left _ q)
    have hne : y ≠ k := fun q => hn (List.mem_append_right _ (by simp [q]))
    rw [e1, h2, hnp, if_neg hne, G.out y hy hnd, List.count_eq_zero.mpr fun q => hsO y q hy]
    rfl
  · rcases List.mem_append.mp hy with q | q
    · exact G.dO y q
    · rw [List.mem_singleton.mp q]; exact hk
  · rw [e2, n2, ek]
    have cz : (∀ x ∈ pl y, x ∈ D ++ [k]) ↔ (pl y).countP (fun x => !decide (x ∈ D ++ [k])) = 0 := allin
    have cz' : (∀ x ∈ pl y, x ∈ D) ↔ (pl y).countP (fun x => !decide (x ∈ D)) = 0 := allin
    have cd := countP_done (k := k) (l := pl y) hd
    rw [cz, G.rd, cz', hsu]
    dsimp only
    rw [hnp]
    constructor
    · rintro (⟨a, b, c⟩ | ⟨a, b⟩)
      · exact ⟨a, b, by omega⟩
      · have hy := (hsu y).mpr a
        have hyK := (G.ks y k a).2
        rw [if_neg (nek y hy), G.np y hyK (hsO y hy), G.su] at b
        exact ⟨hyK, hsO y hy, by omega⟩
    · rintro ⟨a, b, c⟩
      by_cases q : k ∈ pl y
      · refine .inr ⟨q, ?_⟩
        rw [if_neg (fun e : y = k => b (e ▸ hk)), G.np y a b, G.su]
        omega
      · have : (pl y).count k = 0 := List.count_eq_zero.mpr q
        exact .inl ⟨a, b, by omega⟩
end
end
end
section
section
section
variable {K : Type} [DecidableEq K]
theorem find_nd : ∀ {α : AN K}, (α.map (·.1)).Nodup → ∀ e ∈ α, (α.find? fun e' => decide (e'.1 = e.1)) = some e
  | [], _, e, he => (nomatch he)
  | a :: r, nd, e, he => by
    rw [List.map_cons, List.nodup_cons] at nd
    rw [List.find?_cons]
    rcases List.mem_cons.mp he with rfl | he
    · simp
    · have : a.1 ≠ e.1 := fun q => nd.1 (List.mem_map.mpr ⟨e, he, q.symm⟩)
      simp only [this, decide_false]
      exact find_nd nd.2 e he
theorem succ_at {α : AN K} (nd : (α.map (·.1)).Nodup) {e : K × Int × List K} (he : e ∈ α) : aSucc α e.1 = e.2.2 := by
  unfold aSucc; rw [find_nd nd e he]; rfl
theorem nodup_leK : ∀ {l m : List K}, l.Nodup → (∀ x ∈ l, x ∈ m) → l.length ≤ m.length
  | [], _, _, _ => Nat.zero_le _
  | a :: l, m, h, hs => by
    rw [List.nodup_cons] at h
    have h1 := nodup_leK (l := l) (m := m.erase a) h.2 fun x hx => (List.mem_erase_of_ne (show x ≠ a from fun e => h.1 (by rw [← e]; exact hx))).mpr (hs x (.tail _ hx))
    have h2 := List.length_erase_of_mem (hs a (.head _))
    have h3 : 0 < m.length := List.length_pos_of_mem (hs a (.head _))
    rw [List.length_cons]; omega
def gAbs (kvs : List (K × List K)) (α : AN K) : AN K := kvs.foldl (fun α p => aAdd α p.1 p.2) α
def rowsLen (kvs : List (K × List K)) : Nat := (kvs.map fun p => p.2.length).sum
structure GTold (kvs : List (K × List K)) (α : AN K) (pl : K → List K) : Prop where
  b : Bld α pl
  me : ∀ y x, x ∈ pl y ↔ ∃ row, (y, row) ∈ kvs ∧ x ∈ row
  ks : ∀ k, k ∈ α.map (·.1) ↔ (∃ row, (k, row) ∈ kvs) ∨ ∃ p ∈ kvs, k ∈ p.2
  sl : ∀ x, (aSucc α x).length ≤ rowsLen kvs
theorem GTold.snoc {kvs : List (K × List K)} {α : AN K} {pl : K → List K} (T : GTold kvs α pl) (k : K) (row : List K) : GTold (kvs ++ [(k, row)]) (aAdd α k row) fun y => if y = k then pl y ++ row else pl y := by
  refine and4 (add_all (α := α) (k := k) (qs := row)) fun h1 h2 h3 h4 => ?_
  refine ⟨T.b.add k row, fun y x => ?_, fun z => ?_, fun x => ?_⟩
  · by_cases e : y = k
    · subst e
      rw [if_pos rfl, List.mem_append, T.me]
      constructor
      · rintro (⟨r, q1, q2⟩ | q)
        · exact ⟨r, List.mem_append_left _ q1, q2⟩
        · exact ⟨row, List.mem_append_right _ (.head _), q⟩
      · rintro ⟨r, q1, q2⟩
        rcases List.mem_append.mp q1 with q1 | q1
        · exact .inl ⟨r, q1, q2⟩
        · rw [List.mem_singleton] at q1; cases q1; exact .inr q2
    · rw [if_neg e, T.me]
      constructor
      · rintro ⟨r, q1, q2⟩; exact ⟨r, List.mem_append_left _ q1, q2⟩
      · rintro ⟨r, q1, q2⟩
        rcases List.mem_append.mp q1 with q1 | q1
        · exact ⟨r, q1, q2⟩
        · rw [List.mem_singleton] at q1; cases q1; exact absurd rfl e
  · rw [h1, T.ks]
    constructor
    · rintro (rfl | q | ⟨r, q⟩ | ⟨p, q1, q2⟩)
      · exact .inl ⟨row, List.mem_append_right _ (.head _)⟩
      · exact .inr ⟨_, List.mem_append_right _ (.head _), q⟩
      · exact .inl ⟨r, List.mem_append_left _ q⟩
      · exact .inr ⟨p, List.mem_append_left _ q1, q2⟩
    · rintro (⟨r, q⟩ | ⟨p, q1, q2⟩)
      · rcases List.mem_append.mp q with q | q
        · exact .inr (.inr (.inl ⟨r, q⟩))
        · rw [List.mem_singleton] at q; cases q; exact .inl rfl
      · rcases List.mem_append.mp q1 with q1 | q1
        · exact .inr (.inr (.inr ⟨p, q1, q2⟩))
        · rw [List.mem_singleton] at q1; cases q1; exact .inr (.inl q2)
  · rw [h4, List.length_append, List.length_replicate]
    have := T.sl x
    have := List.count_le_length (a := x) (l := row)
    unfold rowsLen at *
    rw [List.map_append, List.sum_append]
    simp only [List.map_cons, List.map_nil, List.sum_cons, List.sum_nil]
    omega
theorem gtold (kvs : List (K × List K)) : ∃ pl, GTold kvs (gAbs kvs []) pl := by
  have key : ∀ (l l₀ : List (K × List K)) (α : AN K) pl, GTold l₀ α pl → ∃ pl', GTold (l₀ ++ l) (gAbs l α) pl' := by
    intro l
    induction l with
    | nil => intro l₀ α pl T; exact ⟨pl, by rw [List.append_nil]; exact T⟩
    | cons p r ih =>
      intro l₀ α pl T
      obtain ⟨pl', T'⟩ := ih _ _ _ (T.snoc p.1 p.2)
      refine ⟨pl', ?_⟩
      rw [List.append_assoc] at T'
      exact T'
  exact key kvs [] [] _ ⟨Bld.nil, fun y x => ⟨fun h => (nomatch h), fun ⟨_, h, _⟩ => (nomatch h)⟩, fun k => ⟨fun h => (nomatch h), fun h => h.elim (fun ⟨_, h⟩ => (nomatch h)) fun ⟨_, h, _⟩ => (nomatch h)⟩, fun x => Nat.le_refl _⟩
theorem GTold.rank {kvs : List (K × List K)} {α : AN K} {pl : K → List K} (T : GTold kvs α pl) {rank : K → Nat} (h : ∀ p ∈ kvs, ∀ x ∈ p.2, rank x < rank p.1) : ∀ e ∈ α, ∀ k ∈ e.2.2, k ∈ α.map (·.1) ∧ rank e.1 < rank k := by
  intro e he k hk
  have hc : k ∈ aSucc α e.1 := by rw [succ_at T.b.nd he]; exact hk
  rw [← List.count_pos_iff, T.b.su, List.count_pos_iff] at hc
  refine ⟨(T.b.ks k e.1 hc).2, ?_⟩
  obtain ⟨row, h1, h2⟩ := (T.me k e.1).mp hc
  exact h _ h1 _ h2
structure Run (ks : List K) (nd : K → List K) (pl : K → List K) (α : AN K) (D O rs Wt : List K) : Prop where
  go : Go α pl D O rs
  on : O.Nodup
  keys : ∀ y, y ∈ α.map (·.1) ↔ y ∈ ks
  need : ∀ y ∈ ks, ∀ x, x ∈ pl y ↔ x ∈ nd y
  w : ∀ y, y ∈ Wt ↔ y ∈ O ∧ y ∉ D
  wn : Wt.Nodup
  sl : ∀ x, (aSucc α x).length ≤ 1000
variable {ks : List K} {nd : K → List K} {pl : K → List K} {α : AN K} {D O rs Wt : List K}
theorem aDone1_succ {α : AN K} {rs : List K} {k x : K} : aSucc (aDone1 (α, rs) k).1 x = aSucc α x := by
  have h1 := aDone1_succs (st := (α, rs)) (k := k)
  unfold aSucc
  have key : ∀ (a b : AN K), a.map (fun e => (e.1, e.2.2)) = b.map (fun e => (e.1, e.2.2)) → (a.find? fun e => decide (e.1 = x)).map (·.2.2) = (b.find? fun e => decide (e.1 = x)).map (·.2.2) := by
    intro a
    induction a with
    | nil => intro b h; cases b with
      | nil => rfl
      | cons _ _ => cases h
    | cons u r ih =>
      intro b h
      cases b with
      | nil => cases h
      | cons u' r' =>
        rw [List.map_cons, List.map_cons, List.cons.injEq, Prod.mk.injEq] at h
        rw [List.find?_cons, List.find?_cons, h.1.1]
        by_cases q : u'.1 = x
        · simp only [q, decide_true, Option.map_some]; rw [h.1.2]
        · simp only [q, decide_false]; exact ih r' h.2
  rw [key _ _ h1]
end
end
end
section
section
def cho : Nat → Nat → Int
  | _, 0 => 1
  | 0, _ + 1 => 0
  | r + 1, k + 1 => cho r k + cho r (k + 1)
theorem cho_nonneg : ∀ r k, 0 ≤ cho r k
  | 0, 0 => by decide
  | r + 1, 0 => by unfold cho; decide
  | 0, k + 1 => by unfold cho; exact Int.le_refl _
  | r + 1, k + 1 => by
    unfold cho
    have := cho_nonneg r k
    have := cho_nonneg r (k + 1)
    omega
theorem perm_sum {l m : List Int} (h : l.Perm m) : l.sum = m.sum := by
  induction h with
  | nil => rfl
  | cons x _ ih => rw [List.sum_cons, List.sum_cons, ih]
  | swap x y l => simp only [List.sum_cons]; omega
  | trans _ _ ih1 ih2 => exact ih1.trans ih2
section
variable {J : Type} [DecidableEq J]
structure Dag (js : List J) (ah : J → List J) (rk : J → Nat) : Prop where
  jn : js.Nodup
  len : js.length = 6
  mem : ∀ j ∈ js, ∀ x ∈ ah j, x ∈ js
  nd : ∀ j ∈ js, (ah j).Nodup
  lt : ∀ j ∈ js, ∀ x ∈ ah j, rk x < rk j
  le : ∀ j ∈ js, rk j < 6
  inj : ∀ x ∈ js, ∀ y ∈ js, rk x = rk y → x = y
variable {js : List J} {ah : J → List J} {rk : J → Nat}
def W (ah : J → List J) : Nat → J → Int
  | 0, j => if ah j = [] then 1 else 0
  | k + 1, j => ((ah j).map (W ah k)).sum
theorem W_nonneg : ∀ k j, 0 ≤ W ah k j
  | 0, j => by unfold W; split <;> decide
  | k + 1, j => by
    unfold W
    have : ∀ l : List J, 0 ≤ (l.map (W ah k)).sum := by
      intro l
      induction l with
      | nil => exact Int.le_refl _
      | cons a r ih => rw [List.map_cons, List.sum_cons]; have := W_nonneg k a; omega
    exact this _
theorem sum_cho {f : J → Int} {k : Nat} : ∀ (R : Nat) (l : List J), l.Nodup → (∀ x ∈ l, rk x < R) → (∀ x ∈ l, ∀ y ∈ l, rk x = rk y → x = y) → (∀ x ∈ l, f x ≤ cho (rk x) k) → (l.map f).sum ≤ cho R (k + 1)
  | 0, l, _, hl, _, _ => by
    cases l with
    | nil => exact Int.le_refl _
    | cons a r => exact absurd (hl a (.head _)) (by omega)
  | R + 1, l, hn, hl, hi, hf => by
    by_cases q : ∃ x ∈ l, rk x = R
    · (refine ex1 q fun x zz => and2 zz fun hx hr => ?_; try clear q)
      have hp := List.perm_cons_erase hx
      have hs : (l.map f).sum = f x + ((l.erase x).map f).sum := by
        rw [perm_sum (hp.map f), List.map_cons, List.sum_cons]
      have ih := sum_cho R (l.erase x) (hn.erase _) (fun y hy => by
        have hy' := List.mem_of_mem_erase hy
        have h1 := hl y hy'
        have h2 : y ≠ x := fun e => by rw [e] at hy; exact (hn.mem_erase_iff.mp hy).1 rfl
        have h3 : rk y ≠ R := fun e => h2 (hi y hy' x hx (e.trans hr.symm))
        omega) (fun y hy z hz => hi y (List.mem_of_mem_erase hy) z (List.mem_of_mem_erase hz)) fun y hy => hf y (List.mem_of_mem_erase hy)
      have := hf x hx
      rw [hr] at this
      rw [hs]
      show _ ≤ cho R k + cho R (k + 1)
      omega
    · have ih := sum_cho R l hn (fun y hy => by
        have := hl y hy
        have : rk y ≠ R := fun e => q ⟨y, hy, e⟩
        omega) hi hf
      have := cho_nonneg R k
      show _ ≤ cho R k + cho R (k + 1)
      omega
theorem Dag.W_le (D : Dag js ah rk) : ∀ k, ∀ j ∈ js, W ah k j ≤ cho (rk j) k
  | 0, j, _ => by
    have : cho (rk j) 0 = 1 := by cases rk j <;> rfl
    rw [this]
    unfold W; split <;> decide
  | k + 1, j, hj => by
    unfold W
    exact sum_cho (rk j) (ah j) (D.nd j hj) (D.lt j hj) (fun x hx y hy => D.inj x (D.mem j hj x hx) y (D.mem j hj y hy)) fun x hx => D.W_le k x (D.mem j hj x hx)
theorem cho_le {r k : Nat} (hr : r < 6) (hk : k < 6) : cho r k ≤ 10 := by
  have h : ∀ r : Fin 6, ∀ k : Fin 6, cho r.val k.val ≤ 10 := by decide
  exact h ⟨r, hr⟩ ⟨k, hk⟩
theorem Dag.W_lt (D : Dag js ah rk) {k : Nat} (hk : k < 6) {j : J} (hj : j ∈ js) : 0 ≤ W ah k j ∧ W ah k j < 256 := by
  have := D.W_le k j hj
  have := cho_le (D.le j hj) hk
  have := W_nonneg (ah := ah) k j
  omega
def done (ah : J → List J) : Nat → J → Bool
  | 0, _ => false
  | k + 1, j => (ah j).all (done ah k)
theorem done_mono : ∀ {k j}, done ah k j = true → done ah (k + 1) j = true
  | 0, j, h => by cases h
  | k + 1, j, h => by
    unfold done at h ⊢
    rw [List.all_eq_true] at h ⊢
    exact fun x hx => done_mono (h x hx)
theorem done_le {k m : Nat} {j : J} (h : done ah k j = true) (hm : k ≤ m) : done ah m j = true := by
  induction m with
  | zero => have : k = 0 := by omega
            subst this; exact h
  | succ m ih =>
    by_cases q : k = m + 1
    · subst q; exact h
    · exact done_mono (ih (by omega))
theorem Dag.done_rk (D : Dag js ah rk) : ∀ k, ∀ j ∈ js, rk j < k → done ah k j = true
  | 0, j, _, h => by omega
  | k + 1, j, hj, h => by
    unfold done
    rw [List.all_eq_true]
    exact fun x hx => D.done_rk k x (D.mem j hj x hx) (by have := D.lt j hj x hx; omega)
theorem W_zero : ∀ {k m : Nat} {j : J}, done ah k j = true → k ≤ m → W ah m j = 0
  | 0, m, j, h, _ => by cases h
  | k + 1, 0, j, h, hm => by omega
  | k + 1, m + 1, j, h, hm => by
    unfold W
    unfold done at h
    rw [List.all_eq_true] at h
    have : ∀ l : List J, (∀ x ∈ l, W ah m x = 0) → (l.map (W ah m)).sum = 0 := by
      intro l
      induction l with
      | nil => intro _; rfl
      | cons a r ih => intro hl; rw [List.map_cons, List.sum_cons, hl a (.head _), ih fun x hx => hl x (.tail _ hx)]; rfl
    exact this _ fun x hx => W_zero (h x hx) (by omega)
theorem W_succ_pos {k : Nat} {j x : J} (hx : x ∈ ah j) (h : 1 ≤ W ah k x) : 1 ≤ W ah (k + 1) j := by
  unfold W
  have : ∀ l : List J, x ∈ l → 1 ≤ (l.map (W ah k)).sum := by
    intro l
    induction l with
    | nil => intro q; cases q
    | cons a r ih =>
      intro q
      rw [List.map_cons, List.sum_cons]
      have nn : 0 ≤ (r.map (W ah k)).sum := by
        clear ih q
        induction r with
        | nil => exact Int.le_refl _
        | cons b r ih => rw [List.map_cons, List.sum_cons]; have := W_nonneg (ah := ah) k b; omega
      rcases List.mem_cons.mp q with rfl | q
      · omega
      · have := W_nonneg (ah := ah) k a; have := ih q; omega
  exact this _ hx
theorem Dag.some_way (D : Dag js ah rk) : ∀ (n : Nat), ∀ j ∈ js, rk j < n → ∃ m, 1 ≤ W ah m j
  | 0, j, _, h => by omega
  | n + 1, j, hj, h => by
    by_cases q : ah j = []
    · exact ⟨0, by unfold W; rw [if_pos q]; decide⟩
    · obtain ⟨x, hx⟩ := List.exists_mem_of_ne_nil _ q
      obtain ⟨m, hm⟩ := D.some_way n x (D.mem j hj x hx) (by have := D.lt j hj x hx; omega)
      exact ⟨m + 1, W_succ_pos hx hm⟩
theorem Dag.far_way (D : Dag js ah rk) : ∀ (k : Nat), ∀ j ∈ js, done ah k j = false → ∃ m, k ≤ m ∧ 1 ≤ W ah m j
  | 0, j, hj, _ => by
    obtain ⟨m, hm⟩ := D.some_way (rk j + 1) j hj (by omega)
    exact ⟨m, Nat.zero_le _, hm⟩
  | k + 1, j, hj, h => by
    unfold done at h
    rw [List.all_eq_false] at h
    obtain ⟨x, hx, hf⟩ := h
    obtain ⟨m, hm, hw⟩ := D.far_way k x (D.mem j hj x hx) (by simpa using hf)
    exact ⟨m + 1, by omega, W_succ_pos hx hw⟩
def rnd (js : List J) (ah : J → List J) (k : Nat) : List J := js.filter fun j => done ah (k + 1) j && !done ah k j
theorem mem_rnd {k : Nat} {j : J} : j ∈ rnd js ah k ↔ j ∈ js ∧ done ah (k + 1) j = true ∧ done ah k j = false := by
  unfold rnd; simp
theorem Dag.rnd_way (D : Dag js ah rk) {k : Nat} {j : J} (h : j ∈ rnd js ah k) : 1 ≤ W ah k j ∧ ∀ m, k < m → W ah m j = 0 := by
  obtain ⟨hj, h1, h2⟩ := mem_rnd.mp h
  obtain ⟨m, hm, hw⟩ := D.far_way k j hj h2
  by_cases q : k = m
  · subst q; exact ⟨hw, fun m hm => W_zero h1 hm⟩
  · have := W_zero h1 (show k + 1 ≤ m by omega); omega
theorem Dag.rnd_lt (D : Dag js ah rk) {k : Nat} {j : J} (h : j ∈ rnd js ah k) : k < 6 := by
  obtain ⟨hj, h1, h2⟩ := mem_rnd.mp h
  by_cases q : k < 6
  · exact q
  · have := done_le (D.done_rk 6 j hj (D.le j hj)) (show 6 ≤ k by omega)
    rw [h2] at this; cases this
theorem Dag.rnd_nil (D : Dag js ah rk) {k : Nat} (h : rnd js ah k = []) : ∀ j ∈ js, done ah k j = true := by
  have key : ∀ n, ∀ j ∈ js, rk j < n → done ah k j = true := by
    intro n
    induction n with
    | zero => intro j _ q; omega
    | succ n ih =>
      intro j hj q
      have h1 : done ah (k + 1) j = true := by
        unfold done
        rw [List.all_eq_true]
        exact fun x hx => ih x (D.mem j hj x hx) (by have := D.lt j hj x hx; omega)
      by_cases q : done ah k j = true
      · exact q
      · have : j ∈ rnd js ah k := mem_rnd.mpr ⟨hj, h1, by simpa using q⟩
        rw [h] at this; cases this
  exact fun j hj => key (rk j + 1) j hj (by omega)
theorem Dag.rnd_nil' (D : Dag js ah rk) {k m : Nat} (h : rnd js ah k = []) (hm : k ≤ m) : rnd js ah m = [] := by
  rw [List.eq_nil_iff_forall_not_mem]
  intro j hj
  obtain ⟨h1, _, h2⟩ := mem_rnd.mp hj
  have := done_le (D.rnd_nil h j h1) hm
  rw [h2] at this; cases this
end
end
end
section
section
theorem sum_add {J : Type} (f g : J → Int) : ∀ l : List J, (l.map fun x => f x + g x).sum = (l.map f).sum + (l.map g).sum
  | [] => rfl
  | a :: r => by
    have := sum_add f g r
    simp only [List.map_cons, List.sum_cons]
    omega
theorem sum_mul {J : Type} (c : Int) (f : J → Int) : ∀ l : List J, (l.map fun x => c * f x).sum = c * (l.map f).sum
  | [] => by simp
  | a :: r => by
    simp only [List.map_cons, List.sum_cons, Int.mul_add]
    rw [sum_mul c f r]
theorem sum_zero {J : Type} : ∀ l : List J, (l.map fun _ => (0 : Int)).sum = 0
  | [] => rfl
  | a :: r => by rw [List.map_cons, List.sum_cons, sum_zero r]; rfl
theorem sum_swap {J K : Type} (F : J → K → Int) (ks : List K) : ∀ js : List J, (js.map fun a => (ks.map fun b => F a b).sum).sum = (ks.map fun b => (js.map fun a => F a b).sum).sum
  | [] => by simp only [List.map_nil, List.sum_nil]; rw [sum_zero]
  | a :: r => by
    simp only [List.map_cons, List.sum_cons]
    rw [sum_swap F ks r, sum_add]
theorem sum_filter {J : Type} (p : J → Bool) (f : J → Int) : ∀ l : List J, ((l.filter p).map f).sum = (l.map fun x => if p x = true then f x else 0).sum
  | [] => rfl
  | a :: r => by
    rw [List.filter_cons]
    cases h : p a with
    | true => simp only [if_true, List.map_cons, List.sum_cons, h]; rw [sum_filter p f r]
    | false => simp only [Bool.false_eq_true, if_false, List.map_cons, List.sum_cons, h]; rw [sum_filter p f r]; omega
section
variable {J : Type} [DecidableEq J] {js : List J} {ah be : J → List J} {rk rk' : J → Nat}
theorem sum_sub {l : List J} (hn : l.Nodup) (hj : js.Nodup) (hs : ∀ x ∈ l, x ∈ js) (f : J → Int) : (l.map f).sum = (js.map fun x => if x ∈ l then f x else 0).sum := by
  have hp : l.Perm (js.filter fun x => decide (x ∈ l)) := (List.perm_ext_iff_of_nodup hn (hj.sublist List.filter_sublist)).mpr fun a => by
    rw [List.mem_filter]
    exact ⟨fun h => ⟨hs a h, by simpa using h⟩, fun h => by simpa using h.2⟩
  rw [perm_sum (hp.map f), sum_filter]
  simp only [decide_eq_true_eq]
def cc (js : List J) (ah be : J → List J) (k : Nat) : Int := (js.map fun j => W ah k j * W be 0 j).sum
theorem map_congr' {f g : J → Int} {l : List J} (h : ∀ x ∈ l, f x = g x) : (l.map f).sum = (l.map g).sum := by rw [List.map_congr_left h]
theorem conv (D : Dag js ah rk) (D' : Dag js be rk') (hE : ∀ x ∈ js, ∀ y ∈ js, x ∈ ah y ↔ y ∈ be x) : ∀ l k, (js.map fun j => W ah k j * W be l j).sum = cc js ah be (k + l)
  | 0, k => rfl
  | l + 1, k => by
    have h1 : (js.map fun j => W ah k j * W be (l + 1) j).sum = (js.map fun j => (js.map fun y => if y ∈ be j then W ah k j * W be l y else 0).sum).sum := by
      refine map_congr' fun j hj => ?_
      show W ah k j * ((be j).map (W be l)).sum = _
      rw [sum_sub (D'.nd j hj) D.jn (D'.mem j hj) (W be l), ← sum_mul]
      refine map_congr' fun y _ => ?_
      split <;> simp
    rw [h1, sum_swap]
    have h2 : (js.map fun y => (js.map fun j => if y ∈ be j then W ah k j * W be l y else 0).sum).sum = (js.map fun y => W ah (k + 1) y * W be l y).sum := by
      refine map_congr' fun y hy => ?_
      show _ = ((ah y).map (W ah k)).sum * W be l y
      rw [sum_sub (D.nd y hy) D.jn (D.mem y hy) (W ah k), Int.mul_comm, ← sum_mul]
      refine map_congr' fun x hx => ?_
      have := hE x hx y hy
      by_cases q : x ∈ ah y
      · rw [if_pos (this.mp q), if_pos q, Int.mul_comm]
      · rw [if_neg (fun e => q (this.mpr e)), if_neg q]; simp
    rw [h2, conv D D' hE l (k + 1)]
    congr 1
    omega
theorem lin {g : J → Int} {V : Nat → J → Int} : ∀ ls : List Nat, (js.map fun j => g j * numOf (ls.map fun l => V l j)).sum = numOf (ls.map fun l => (js.map fun j => g j * V l j).sum)
  | [] => by
    show (js.map fun j => g j * 0).sum = 0
    simp only [Int.mul_zero]
    exact sum_zero js
  | a :: r => by
    have e : ∀ (c : Int) (l : List Int), numOf (c :: l) = c + 256 * numOf l := fun _ _ => rfl
    simp only [List.map_cons, e]
    rw [← lin r, ← sum_mul, ← sum_add]
    refine map_congr' fun j _ => ?_
    rw [Int.mul_add]
    congr 1
    rw [← Int.mul_assoc, ← Int.mul_assoc, Int.mul_comm (g j) 256]
def nOf (ah : J → List J) (j : J) : Int := numOf ((List.range 6).map fun k => W ah k j)
theorem total_eq (D : Dag js ah rk) (D' : Dag js be rk') (hE : ∀ x ∈ js, ∀ y ∈ js, x ∈ ah y ↔ y ∈ be x) : (js.map fun j => nOf ah j * nOf be j).sum = numOf ((List.range 6).map fun k : Nat => ((k : Int) + 1) * cc js ah be k) := by
  have h1 : (js.map fun j => nOf ah j * nOf be j).sum = numOf ((List.range 6).map fun l => (js.map fun j => nOf ah j * W be l j).sum) := lin (List.range 6)
  have h2 : ∀ l, (js.map fun j => nOf ah j * W be l j).sum = numOf ((List.range 6).map fun k => cc js ah be (k + l)) := fun l => by
    have : (js.map fun j => nOf ah j * W be l j).sum = (js.map fun j => W be l j * numOf ((List.range 6).map fun k => W ah k j)).sum := map_congr' fun j _ => Int.mul_comm _ _
    rw [this, lin]
    congr 1
    refine List.map_congr_left fun k _ => ?_
    rw [← conv D D' hE l k]
    exact map_congr' fun j _ => Int.mul_comm _ _
  rw [h1]
  simp only [h2]
  have z : ∀ m, 6 ≤ m → cc js ah be m = 0 := fun m hm => by
    unfold cc
    rw [map_congr' (g := fun _ => (0 : Int)) fun j hj => by rw [W_zero (D.done_rk 6 j hj (D.le j hj)) hm, Int.zero_mul]]
    exact sum_zero js
  have r6 : List.range 6 = [0, 1, 2, 3, 4, 5] := by decide
  rw [r6]
  simp only [List.map_cons, List.map_nil, Nat.zero_add, Nat.add_zero, Nat.reduceAdd]
  rw [z 6 (by decide), z 7 (by decide), z 8 (by decide), z 9 (by decide), z 10 (by decide)]
  unfold numOf
  simp only [List.foldr_cons, List.foldr_nil]
  generalize cc js ah be 0 = c0
  generalize cc js ah be 1 = c1
  generalize cc js ah be 2 = c2
  generalize cc js ah be 3 = c3
  generalize cc js ah be 4 = c4
  generalize cc js ah be 5 = c5
  push_cast
  omega
theorem cc_filter (k : Nat) : ((js.filter fun j => decide (be j = [])).map (W ah k)).sum = cc js ah be k := by
  unfold cc
  rw [sum_filter]
  refine map_congr' fun j _ => ?_
  show _ = W ah k j * (if be j = [] then 1 else 0)
  by_cases q : be j = []
  · simp [q]
  · simp [q]
theorem cc_bound (D : Dag js ah rk) {k : Nat} (hk : k < 6) : 0 ≤ ((k : Int) + 1) * cc js ah be k ∧ ((k : Int) + 1) * cc js ah be k < 256 := by
  have h1 : cc js ah be k ≤ cho 6 (k + 1) := by
    have := sum_cho (f := fun j => W ah k j * W be 0 j) (k := k) 6 js D.jn D.le D.inj fun j hj => by
      have h1 := D.W_le k j hj
      have h2 := W_nonneg (ah := ah) k j
      show W ah k j * (if be j = [] then 1 else 0) ≤ _
      split
      · omega
      · have := cho_nonneg (rk j) k; omega
    exact this
  have h0 : 0 ≤ cc js ah be k := by
    unfold cc
    have : ∀ l : List J, 0 ≤ (l.map fun j => W ah k j * W be 0 j).sum := by
      intro l
      induction l with
      | nil => exact Int.le_refl _
      | cons a r ih =>
        rw [List.map_cons, List.sum_cons]
        have := Int.mul_nonneg (W_nonneg (ah := ah) k a) (W_nonneg (ah := be) 0 a)
        omega
    exact this js
  have hc : ∀ k : Fin 6, ((k.val : Int) + 1) * cho 6 (k.val + 1) < 256 := by decide
  have := hc ⟨k, hk⟩
  refine ⟨Int.mul_nonneg (by omega) h0, Int.lt_of_le_of_lt (Int.mul_le_mul_of_nonneg_left h1 (by omega)) this⟩
theorem Dag.digits (D : Dag js ah rk) {j : J} (hj : j ∈ js) : ∀ c ∈ (List.range 6).map fun k => W ah k j, 0 ≤ c ∧ c < 256 := fun c hc => by
  obtain ⟨k, hk, rfl⟩ := List.mem_map.mp hc
  exact D.W_lt (List.mem_range.mp hk) hj
theorem hr_base {a : Int} (h : 1 ≤ a) (h2 : a < 256) : 256 ^ 0 ≤ (a + 256 * 0).natAbs ∧ (a + 256 * 0).natAbs < 256 ^ (0 + 1) ∧ 0 ≤ a + 256 * 0 := by omega
theorem hr_step {a m : Int} {i : Nat} (ha : 0 ≤ a ∧ a < 256) (h : 256 ^ i ≤ m.natAbs ∧ m.natAbs < 256 ^ (i + 1) ∧ 0 ≤ m) : 256 ^ (i + 1) ≤ (a + 256 * m).natAbs ∧ (a + 256 * m).natAbs < 256 ^ (i + 1 + 1) ∧ 0 ≤ a + 256 * m := by
  rw [Nat.pow_succ 256 (i + 1), Nat.pow_succ 256 i] at *
  generalize 256 ^ i = P at *
  omega
theorem hr_up {a m : Int} {P : Nat} (ha : 0 ≤ a ∧ a < 256) (h : m.natAbs < P ∧ 0 ≤ m) : (a + 256 * m).natAbs < 256 * P ∧ 0 ≤ a + 256 * m := by omega
theorem hr_zero {a m : Int} (ha : a = 0) (h : m = 0) : a + 256 * m = 0 := by rw [ha, h]; rfl
theorem hr_eq {a m : Int} (h : m = 0) : a + 256 * m = a + 256 * 0 := by rw [h]
theorem hr_cong {a m m' : Int} (h : m = m') : a + 256 * m = a + 256 * m' := by rw [h]
theorem hr_half {n m : Int} {i : Nat} (e : n = m) (h : 256 ^ i ≤ m.natAbs ∧ m.natAbs < 256 ^ (i + 1) ∧ 0 ≤ m) : ((ap n.natAbs).length + 1) / 2 = i + 1 := by
  rw [e]; exact ap_half h.1 h.2.1
theorem Dag.nlen (D : Dag js ah rk) {i : Nat} {j : J} (h : j ∈ rnd js ah i) : ((ap (nOf ah j).natAbs).length + 1) / 2 = i + 1 := by
  have hi := D.rnd_lt h
  refine and2 (D.rnd_way h) fun h1 h2 => ?_
  have hj := (mem_rnd.mp h).1
  have w := fun k (hk : k < 6) => D.W_lt hk hj
  have z0 : (256 : Int) * 0 = 0 := rfl
  have e : nOf ah j = W ah 0 j + 256 * (W ah 1 j + 256 * (W ah 2 j + 256 * (W ah 3 j + 256 * (W ah 4 j + 256 * (W ah 5 j + 256 * 0))))) := rfl
  obtain rfl | rfl | rfl | rfl | rfl | rfl : i = 0 ∨ i = 1 ∨ i = 2 ∨ i = 3 ∨ i = 4 ∨ i = 5 := by clear h1 h2 w e z0 h; omega
  · exact hr_half (e.trans (hr_eq (hr_zero (h2 1 (by decide)) (hr_zero (h2 2 (by decide)) (hr_zero (h2 3 (by decide)) (hr_zero (h2 4 (by decide)) (hr_zero (h2 5 (by decide)) rfl))))))) (hr_base h1 (w 0 (by decide)).2)
  · exact hr_half (e.trans (hr_cong (hr_eq (hr_zero (h2 2 (by decide)) (hr_zero (h2 3 (by decide)) (hr_zero (h2 4 (by decide)) (hr_zero (h2 5 (by decide)) rfl))))))) (hr_step (w 0 (by decide)) (hr_base h1 (w 1 (by decide)).2))
  · exact hr_half (e.trans (hr_cong (hr_cong (hr_eq (hr_zero (h2 3 (by decide)) (hr_zero (h2 4 (by decide)) (hr_zero (h2 5 (by decide)) rfl))))))) (hr_step (w 0 (by decide)) (hr_step (w 1 (by decide)) (hr_base h1 (w 2 (by decide)).2)))
  · exact hr_half (e.trans (hr_cong (hr_cong (hr_cong (hr_eq (hr_zero (h2 4 (by decide)) (hr_zero (h2 5 (by decide)) rfl))))))) (hr_step (w 0 (by decide)) (hr_step (w 1 (by decide)) (hr_step (w 2 (by decide)) (hr_base h1 (w 3 (by decide)).2))))
  · exact hr_half (e.trans (hr_cong (hr_cong (hr_cong (hr_cong (hr_eq (hr_zero (h2 5 (by decide)) rfl))))))) (hr_step (w 0 (by decide)) (hr_step (w 1 (by decide)) (hr_step (w 2 (by decide)) (hr_step (w 3 (by decide)) (hr_base h1 (w 4 (by decide)).2)))))
  · exact hr_half e (hr_step (w 0 (by decide)) (hr_step (w 1 (by decide)) (hr_step (w 2 (by decide)) (hr_step (w 3 (by decide)) (hr_step (w 4 (by decide)) (hr_base h1 (w 5 (by decide)).2))))))
theorem Dag.n_step (D : Dag js ah rk) {j : J} (hj : j ∈ js) : nOf ah j = if ah j = [] then 1 else 256 * ((ah j).map (nOf ah)).sum := by
  have hs : ((ah j).map (nOf ah)).sum = numOf ((List.range 6).map fun k => W ah (k + 1) j) := by
    have := lin (js := ah j) (g := fun _ => 1) (V := fun k x => W ah k x) (List.range 6)
    simp only [Int.one_mul] at this
    exact this
  have h6 : W ah 6 j = 0 := W_zero (D.done_rk 6 j hj (D.le j hj)) (Nat.le_refl _)
  have e : nOf ah j = W ah 0 j + 256 * (W ah 1 j + 256 * (W ah 2 j + 256 * (W ah 3 j + 256 * (W ah 4 j + 256 * (W ah 5 j + 256 * 0))))) := rfl
  have e2 : numOf ((List.range 6).map fun k => W ah (k + 1) j) = W ah 1 j + 256 * (W ah 2 j + 256 * (W ah 3 j + 256 * (W ah 4 j + 256 * (W ah 5 j + 256 * (W ah 6 j + 256 * 0))))) := rfl
  have h0 : W ah 0 j = if ah j = [] then 1 else 0 := rfl
  split
  · rename_i q
    have hz : ∀ k, W ah (k + 1) j = 0 := fun k => by unfold W; rw [q]; rfl
    have a1 : W ah 1 j = 0 := hz 0
    have a2 : W ah 2 j = 0 := hz 1
    have a3 : W ah 3 j = 0 := hz 2
    have a4 : W ah 4 j = 0 := hz 3
    have a5 : W ah 5 j = 0 := hz 4
    rw [e, h0, if_pos q, a1, a2, a3, a4, a5]; rfl
  · rename_i q
    rw [if_neg q] at h0
    rw [hs, e2, e, h0, h6]
    exact Int.zero_add _
end
end
end
section
section
def jobs6 : List Str := chars "abcdef"
theorem jobs6_eq : jobs6 = [("a" : Str), ("b" : Str), ("c" : Str), ("d" : Str), ("e" : Str), ("f" : Str)] := by decide +kernel
def hid6 (σ : Int) : List Str := (irange 0 1 6).map fun p => jobs6.getD ((σ + p).fmod 6).toNat ""
def pairs6 (h : List Str) : List (Str × Str) := (irange 0 1 6).flatMap fun late => (irange 0 1 late.toNat).map fun early => (h.getD early.toNat "", h.getD late.toNat "")
def steps6 (h : List Str) (code : Int) : List (Str × Str) := ((enumd (pairs6 h)).filter fun p => (code.fdiv (2 ^ p.1.toNat)).fmod 2 != 0).map (·.2)
def ahOf (st : List (Str × Str)) (job : Str) : List Str := (st.filter fun p => decide (p.2 = job)).map (·.1)
def beOf (st : List (Str × Str)) (job : Str) : List Str := (st.filter fun p => decide (p.1 = job)).map (·.2)
theorem irange6 : irange 0 1 6 = [0, 1, 2, 3, 4, 5] := by decide
theorem irange_in {n : Nat} {y : Int} (h : y ∈ irange 0 1 n) : 0 ≤ y ∧ y < n := by
  obtain ⟨i, hi⟩ := List.mem_iff_getElem?.mp h
  obtain ⟨h1, rfl⟩ := irange_get hi
  omega
theorem irange_len' {a c : Int} {n : Nat} : (irange a c n).length = n := by simp [irange]
theorem hid6_perm (σ : Int) : (hid6 σ).Perm jobs6 := by
  have e : hid6 σ = hid6 (σ.fmod 6) := by
    unfold hid6
    refine List.map_congr_left fun p _ => ?_
    rw [Int.fmod_eq_emod_of_nonneg _ (by decide), Int.fmod_eq_emod_of_nonneg _ (by decide), Int.fmod_eq_emod_of_nonneg _ (by decide), Int.emod_add_emod]
  have h0 : 0 ≤ σ.fmod 6 := Int.fmod_nonneg_of_pos σ (by decide)
  have h1 : σ.fmod 6 < 6 := Int.fmod_lt_of_pos σ (by decide)
  rw [e]
  have key : ∀ i : Fin 6, (hid6 (i.val : Int)).isPerm jobs6 = true := by decide +kernel
  have := key ⟨(σ.fmod 6).toNat, by omega⟩
  have e2 : (((σ.fmod 6).toNat : Nat) : Int) = σ.fmod 6 := by omega
  dsimp only at this
  rw [e2] at this
  exact List.isPerm_iff.mp this
theorem jobs6_nodup : jobs6.Nodup := by rw [jobs6_eq]; decide +kernel
theorem jobs6_len : jobs6.length = 6 := by rw [jobs6_eq]; rfl
theorem hid6_nodup (σ : Int) : (hid6 σ).Nodup := (hid6_perm σ).nodup_iff.mpr jobs6_nodup
theorem hid6_len (σ : Int) : (hid6 σ).length = 6 := (hid6_perm σ).length_eq.trans jobs6_len
theorem mem_pairs6 {h : List Str} {x y : Str} (hm : (x, y) ∈ pairs6 h) : ∃ e l : Nat, e < l ∧ l < 6 ∧ x = h.getD e "" ∧ y = h.getD l "" := by
  unfold pairs6 at hm
  obtain ⟨l, hl, hm⟩ := List.mem_flatMap.mp hm
  obtain ⟨e, he, q⟩ := List.mem_map.mp hm
  have h1 := irange_in hl
  have h2 := irange_in he
  obtain ⟨rfl, rfl⟩ := Prod.mk.inj q
  exact ⟨e.toNat, l.toNat, by omega, by omega, rfl, rfl⟩
theorem pairs6_len {h : List Str} : (pairs6 h).length = 15 := by
  unfold pairs6
  rw [irange6]
  simp only [List.flatMap_cons, List.flatMap_nil, List.length_append, List.length_map, irange_len', List.length_nil]
  decide
theorem enumd_snd {α : Type} (l : List α) : (enumd l).map (·.2) = l := by
  unfold enumd
  rw [List.map_map]
  have : ((fun x : Int × α => x.2) ∘ fun p : α × Nat => ((p.2 : Int), p.1)) = Prod.fst := rfl
  rw [this, List.zipIdx_map_fst]
theorem steps6_sub {h : List Str} {code : Int} : (steps6 h code).Sublist (pairs6 h) := by
  unfold steps6
  have := (List.filter_sublist (l := enumd (pairs6 h)) (p := fun p => (code.fdiv (2 ^ p.1.toNat)).fmod 2 != 0)).map (·.2)
  rwa [enumd_snd] at this
theorem steps6_len {h : List Str} {code : Int} : (steps6 h code).length ≤ 15 := by
  have := (steps6_sub (h := h) (code := code)).length_le
  rwa [pairs6_len] at this
theorem getD_at {h : List Str} {i : Nat} (hi : i < h.length) : h.getD i "" = h[i] := by
  rw [List.getD_eq_getElem?_getD, List.getElem?_eq_getElem hi]; rfl
theorem pairs6_nodup {h : List Str} (hn : h.Nodup) (hl : h.length = 6) : (pairs6 h).Nodup := by
  obtain ⟨a, b, c, d, e, f, rfl⟩ : ∃ a b c d e f, h = [a, b, c, d, e, f] := by
    match h, hl with
    | [a, b, c, d, e, f], _ => exact ⟨a, b, c, d, e, f, rfl⟩
  have : pairs6 [a, b, c, d, e, f] = [(a, b), (a, c), (b, c), (a, d), (b, d), (c, d), (a, e), (b, e), (c, e), (d, e), (a, f), (b, f), (c, f), (d, f), (e, f)] := by
    unfold pairs6
    rw [irange6]
    rfl
  rw [this]
  simp only [List.nodup_cons, List.mem_cons, List.not_mem_nil, or_false, not_or] at hn
  simp [hn]
section
variable {h : List Str} {code : Int} {st : List (Str × Str)}
theorem mem_ah {x y : Str} : x ∈ ahOf st y ↔ (x, y) ∈ st := by
  unfold ahOf
  rw [List.mem_map]
  constructor
  · rintro ⟨p, hp, rfl⟩
    obtain ⟨h1, h2⟩ := List.mem_filter.mp hp
    have : p.2 = y := by simpa using h2
    rw [← this]; exact h1
  · intro hm
    exact ⟨_, List.mem_filter.mpr ⟨hm, by simp⟩, rfl⟩
theorem mem_be {x y : Str} : y ∈ beOf st x ↔ (x, y) ∈ st := by
  unfold beOf
  rw [List.mem_map]
  constructor
  · rintro ⟨p, hp, rfl⟩
    obtain ⟨h1, h2⟩ := List.mem_filter.mp hp
    have : p.1 = x := by simpa using h2
    rw [← this]; exact h1
  · intro hm
    exact ⟨_, List.mem_filter.mpr ⟨hm, by simp⟩, rfl⟩
theorem ah_nodup (hn : st.Nodup) (y : Str) : (ahOf st y).Nodup := by
  unfold ahOf
  unfold List.Nodup
  rw [List.pairwise_map]
  refine List.Pairwise.imp_of_mem (fun {p q} hp hq hne e => hne ?_) (hn.sublist List.filter_sublist)
  have h1 : p.2 = y := by simpa using (List.mem_filter.mp hp).2
  have h2 : q.2 = y := by simpa using (List.mem_filter.mp hq).2
  exact Prod.ext e (h1.trans h2.symm)
theorem be_nodup (hn : st.Nodup) (y : Str) : (beOf st y).Nodup := by
  unfold beOf
  unfold List.Nodup
  rw [List.pairwise_map]
  refine List.Pairwise.imp_of_mem (fun {p q} hp hq hne e => hne ?_) (hn.sublist List.filter_sublist)
  have h1 : p.1 = y := by simpa using (List.mem_filter.mp hp).2
  have h2 : q.1 = y := by simpa using (List.mem_filter.mp hq).2
  exact Prod.ext (h1.trans h2.symm) e
end
theorem step_idx {σ code : Int} {x y : Str} (hm : (x, y) ∈ steps6 (hid6 σ) code) : x ∈ jobs6 ∧ y ∈ jobs6 ∧ (hid6 σ).idxOf x < (hid6 σ).idxOf y := by
  obtain ⟨e, l, h1, h2, rfl, rfl⟩ := mem_pairs6 (steps6_sub.subset hm)
  have hl := hid6_len σ
  rw [getD_at (by omega), getD_at (by omega)]
  have hn := hid6_nodup σ
  rw [List.Nodup.idxOf_getElem hn, List.Nodup.idxOf_getElem hn]
  exact ⟨(hid6_perm σ).mem_iff.mp (List.getElem_mem _), (hid6_perm σ).mem_iff.mp (List.getElem_mem _), h1⟩
theorem dag_ah (σ code : Int) : Dag jobs6 (ahOf (steps6 (hid6 σ) code)) fun j => (hid6 σ).idxOf j where
  jn := jobs6_nodup
  len := jobs6_len
  mem := fun j hj x hx => (step_idx (mem_ah.mp hx)).1
  nd := fun j _ => ah_nodup ((pairs6_nodup (hid6_nodup σ) (hid6_len σ)).sublist steps6_sub) j
  lt := fun j _ x hx => (step_idx (mem_ah.mp hx)).2.2
  le := fun j hj => by
    have := List.idxOf_lt_length_iff.mpr ((hid6_perm σ).mem_iff.mpr hj)
    rwa [hid6_len] at this
  inj := fun x hx y hy e => by
    have h1 := List.idxOf_lt_length_iff.mpr ((hid6_perm σ).mem_iff.mpr hx)
    have h2 := List.idxOf_lt_length_iff.mpr ((hid6_perm σ).mem_iff.mpr hy)
    rw [← List.getElem_idxOf h1, ← List.getElem_idxOf h2]
    simp only [e]
theorem dag_be (σ code : Int) : Dag jobs6 (beOf (steps6 (hid6 σ) code)) fun j => 5 - (hid6 σ).idxOf j where
  jn := jobs6_nodup
  len := jobs6_len
  mem := fun j hj x hx => (step_idx (mem_be.mp hx)).2.1
  nd := fun j _ => be_nodup ((pairs6_nodup (hid6_nodup σ) (hid6_len σ)).sublist steps6_sub) j
  lt := fun j hj x hx => by
    have h1 := (step_idx (mem_be.mp hx)).2.2
    have h2 := (dag_ah σ code).le x (step_idx (mem_be.mp hx)).2.1
    omega
  le := fun j hj => by omega
  inj := fun x hx y hy e => by
    have h1 := (dag_ah σ code).le x hx
    have h2 := (dag_ah σ code).le y hy
    exact (dag_ah σ code).inj x hx y hy (by omega)
theorem edge_iff (σ code : Int) : ∀ x ∈ jobs6, ∀ y ∈ jobs6, x ∈ ahOf (steps6 (hid6 σ) code) y ↔ y ∈ beOf (steps6 (hid6 σ) code) x := fun x _ y _ => mem_ah.trans mem_be.symm
end
end
section
section
theorem jobs6_sorted : jobs6.Pairwise fun a b => leS a b = true := by rw [jobs6_eq]; decide +kernel
section
variable {ah : Str → List Str} {pl : Str → List Str} {α : AN Str} {i : Nat} {rs : List Str}
structure RS (ah pl : Str → List Str) (α : AN Str) (i : Nat) (rs : List Str) : Prop where
  go : ∃ D, Go α pl D D rs ∧ ∀ y, y ∈ D ↔ y ∈ jobs6 ∧ done ah i y = true
  keys : ∀ y, y ∈ α.map (·.1) ↔ y ∈ jobs6
  need : ∀ y ∈ jobs6, ∀ x, x ∈ pl y ↔ x ∈ ah y
  mem : ∀ y ∈ jobs6, ∀ x ∈ ah y, x ∈ jobs6
  sl : ∀ x, (aSucc α x).length ≤ 1000
theorem RS.mems (R : RS ah pl α i rs) (y : Str) : y ∈ rs ↔ y ∈ rnd jobs6 ah i := by
  obtain ⟨D, G, hD⟩ := R.go
  rw [G.rd, R.keys, mem_rnd]
  constructor
  · rintro ⟨h1, h2, h3⟩
    refine ⟨h1, ?_, ?_⟩
    · unfold done
      rw [List.all_eq_true]
      exact fun x hx => ((hD x).mp (h3 x ((R.need y h1 x).mpr hx))).2
    · cases q : done ah i y with
      | false => rfl
      | true => exact absurd ((hD y).mpr ⟨h1, q⟩) h2
  · rintro ⟨h1, h2, h3⟩
    refine ⟨h1, fun q => ?_, fun x hx => ?_⟩
    · have := ((hD y).mp q).2; rw [h3] at this; cases this
    · have hx' := (R.need y h1 x).mp hx
      unfold done at h2
      rw [List.all_eq_true] at h2
      exact (hD x).mpr ⟨R.mem y h1 x hx', h2 x hx'⟩
theorem RS.nodup (R : RS ah pl α i rs) : rs.Nodup := by obtain ⟨D, G, _⟩ := R.go; exact G.rn
theorem rnd_sub : (rnd jobs6 ah i).Sublist jobs6 := List.filter_sublist
theorem RS.perm (R : RS ah pl α i rs) : rs.Perm (rnd jobs6 ah i) := (List.perm_ext_iff_of_nodup R.nodup (jobs6_nodup.sublist rnd_sub)).mpr R.mems
theorem RS.sorted (R : RS ah pl α i rs) : sortS rs = rnd jobs6 ah i := (sortS_of R.perm.symm (jobs6_sorted.sublist rnd_sub)).symm
theorem RS.len (R : RS ah pl α i rs) : rs.length ≤ 6 := by
  rw [R.perm.length_eq, ← jobs6_len]; exact rnd_sub.length_le
theorem RS.readyIn (R : RS ah pl α i rs) : ∀ k ∈ rs, k ∈ α.map (·.1) := fun k hk => by obtain ⟨D, G, _⟩ := R.go; exact ((G.rd k).mp hk).1
theorem RS.empty (R : RS ah pl α i rs) : rs.isEmpty = (rnd jobs6 ah i).isEmpty := by
  rw [Bool.eq_iff_iff, List.isEmpty_iff, List.isEmpty_iff, ← List.length_eq_zero_iff, ← List.length_eq_zero_iff, R.perm.length_eq]
theorem aDone_take {st : AN Str × List Str} {qs : List Str} {n : Nat} {k : Str} (h : qs[n]? = some k) : aDone st (qs.take (n + 1)) = aDone1 (aDone st (qs.take n)) k := by
  unfold aDone
  rw [List.take_add_one, h, List.foldl_append]; rfl
theorem RS.steps (R : RS ah pl α i rs) : ∃ D, (∀ y, y ∈ D ↔ y ∈ jobs6 ∧ done ah i y = true) ∧ ∀ n ≤ rs.length, Go (aDone (aOut α rs, []) (rs.take n)).1 pl (D ++ rs.take n) (D ++ rs) (aDone (aOut α rs, []) (rs.take n)).2 ∧ (∀ y, y ∈ (aDone (aOut α rs, []) (rs.take n)).1.map (·.1) ↔ y ∈ jobs6) ∧ ∀ x, (aSucc (aDone (aOut α rs, []) (rs.take n)).1 x).length ≤ 1000 := by
  refine ex1 R.go fun D zz => and2 zz fun G hD => ?_
  refine ⟨D, hD, fun n => ?_⟩
  induction n with
  | zero =>
    intro _
    rw [List.take_zero, List.append_nil]
    refine ⟨G.ready, fun y => ?_, fun x => ?_⟩
    · show y ∈ (aOut α rs).map (·.1) ↔ _
      rw [aOut_keys]; exact R.keys y
    · show (aSucc (aOut α rs) x).length ≤ 1000
      rw [(out_all rs α R.readyIn).2]; exact R.sl x
  | succ n ih =>
    intro hn
    refine and3 (ih (by omega)) fun G' k' s' => ?_
    have hk : rs[n]? = some rs[n] := List.getElem?_eq_getElem (by omega)
    rw [aDone_take hk]
    have ht : rs.take (n + 1) = rs.take n ++ [rs[n]] := by rw [List.take_add_one, hk]; rfl
    have hkm : rs[n] ∈ rs := List.getElem_mem _
    have hnd : rs[n] ∉ D ++ rs.take n := by
      rw [List.mem_append, not_or]
      refine ⟨fun q => ((G.rd rs[n]).mp hkm).2.1 q, fun q => ?_⟩
      have := R.nodup
      rw [← List.take_append_drop n rs, List.nodup_append] at this
      exact this.2.2 _ q _ (by rw [List.drop_eq_getElem_cons (by omega)]; exact .head _) rfl
    have G2 := G'.done (k := rs[n]) (List.mem_append_right _ hkm) hnd
    rw [ht, ← List.append_assoc]
    refine ⟨G2, fun y => ?_, fun x => ?_⟩
    · rw [aDone1_keys]; exact k' y
    · rw [aDone1_succ]; exact s' x
theorem RS.next (R : RS ah pl α i rs) : RS ah pl (aDone (aOut α rs, []) rs).1 (i + 1) (aDone (aOut α rs, []) rs).2 := by
  obtain ⟨D, hD, hs⟩ := R.steps
  obtain ⟨G, k, s⟩ := hs rs.length (Nat.le_refl _)
  rw [List.take_length] at G k s
  refine ⟨⟨D ++ rs, G, fun y => ?_⟩, k, R.need, R.mem, s⟩
  rw [List.mem_append, hD, R.mems, mem_rnd]
  constructor
  · rintro (⟨h1, h2⟩ | ⟨h1, h2, _⟩)
    · exact ⟨h1, done_mono h2⟩
    · exact ⟨h1, h2⟩
  · rintro ⟨h1, h2⟩
    cases q : done ah i y with
    | true => exact .inl ⟨h1, rfl⟩
    | false => exact .inr ⟨h1, h2, rfl⟩
theorem RS.outs (R : RS ah pl α i rs) : (∀ n k, rs[n]? = some k → k ∈ (aOut α rs).map (·.1) ∧ aNp (aDone (aOut α rs, []) (rs.take n)).1 k = -1) ∧ (∀ e ∈ aOut α rs, ∀ s ∈ e.2.2, s ∈ (aOut α rs).map (·.1)) ∧ (∀ e ∈ aOut α rs, e.2.2.length ≤ 1000) ∧ ∀ n, (aDone (aOut α rs, []) (rs.take n)).2.length ≤ 1000 := by
  refine ex1 R.steps fun D zz => and2 zz fun hD hs => ?_
  refine and3 (hs 0 (Nat.zero_le _)) fun G0 k0 s0 => ?_
  rw [List.take_zero] at G0 k0 s0
  have G0' : Go (aOut α rs) pl (D ++ []) (D ++ rs) [] := G0
  refine ⟨fun n k hk => ?_, fun e he s hs' => ?_, fun e he => ?_, fun n => ?_⟩
  · have hn : n < rs.length := (List.getElem?_eq_some_iff.mp hk).1
    have hkm : k ∈ rs := List.mem_of_getElem? hk
    refine and3 (hs n (by omega)) fun G k1 s1 => ?_
    refine ⟨by rw [aOut_keys]; exact R.readyIn k hkm, G.out k (List.mem_append_right _ hkm) fun q => ?_⟩
    rcases List.mem_append.mp q with q | q
    · have h1 := ((R.mems k).mp hkm)
      have h2 := (mem_rnd.mp h1).2.2
      have := ((hD k).mp q).2
      rw [h2] at this; cases this
    · have := R.nodup
      rw [← List.take_append_drop n rs, List.nodup_append] at this
      refine this.2.2 _ q k ?_ rfl
      rw [List.drop_eq_getElem_cons hn, (List.getElem?_eq_some_iff.mp hk).2]
      exact .head _
  · rw [← succ_at G0'.nd he, ← List.count_pos_iff, G0'.su, List.count_pos_iff] at hs'
    exact (G0'.ks s e.1 hs').2
  · rw [← succ_at G0'.nd he]; exact s0 e.1
  · have key : ∀ n ≤ rs.length, (aDone (aOut α rs, []) (rs.take n)).2.length ≤ 1000 := fun n hn => by
      refine and3 (hs n hn) fun G k1 s1 => ?_
      have := nodup_leK (m := jobs6) G.rn fun y hy => (k1 y).mp ((G.rd y).mp hy).1
      rw [jobs6_len] at this
      omega
    by_cases q : n ≤ rs.length
    · exact key n q
    · have := key _ (Nat.le_refl rs.length)
      rw [List.take_length] at this
      rw [List.take_of_length_le (by omega)]
      exact this
theorem GTold.start {kvs : List (Str × List Str)} (T : GTold kvs α pl) (hk : ∀ k, k ∈ jobs6 ↔ (∃ row, (k, row) ∈ kvs) ∨ ∃ p ∈ kvs, k ∈ p.2) (hn : ∀ y ∈ jobs6, ∀ x, (∃ row, (y, row) ∈ kvs ∧ x ∈ row) ↔ x ∈ ah y) (hm : ∀ y ∈ jobs6, ∀ x ∈ ah y, x ∈ jobs6) (hl : rowsLen kvs ≤ 1000) : RS ah pl α 0 ((α.filter fun e => e.2.1 == 0).map (·.1)) :=
  ⟨⟨[], T.b.go, fun y => ⟨fun h => (nomatch h), fun ⟨_, h⟩ => (nomatch h)⟩⟩, fun y => (T.ks y).trans (hk y).symm, fun y hy x => (T.me y x).trans (hn y hy x), hm, fun x => Nat.le_trans (T.sl x) hl⟩
def rounds6 (ah : Str → List Str) : List (List Str) := ((List.range 6).map (rnd jobs6 ah)).filter fun r => !r.isEmpty
theorem rounds_at {rk : Str → Nat} (D : Dag jobs6 ah rk) {n : Nat} (h1 : ∀ k < n, rnd jobs6 ah k ≠ []) (h2 : rnd jobs6 ah n = []) : rounds6 ah = (List.range n).map (rnd jobs6 ah) := by
  have hn : n ≤ 6 := by
    by_cases q : n ≤ 6
    · exact q
    · refine ex1 (List.exists_mem_of_ne_nil _ (h1 6 (by omega))) fun j hj => ?_
      have := D.rnd_lt hj
      omega
  unfold rounds6
  have e : List.range 6 = List.range n ++ (List.range' n (6 - n)) := by
    rw [List.range_eq_range', List.range_eq_range', show (6 : Nat) = n + (6 - n) by omega, ← List.range'_append]
    simp
  rw [e, List.map_append, List.filter_append]
  have f1 : ((List.range n).map (rnd jobs6 ah)).filter (fun r => !r.isEmpty) = (List.range n).map (rnd jobs6 ah) := List.filter_eq_self.mpr fun r hr => by
    obtain ⟨k, hk, rfl⟩ := List.mem_map.mp hr
    have := h1 k (List.mem_range.mp hk)
    simp [this]
  have f2 : ((List.range' n (6 - n)).map (rnd jobs6 ah)).filter (fun r => !r.isEmpty) = [] := List.filter_eq_nil_iff.mpr fun r hr => by
    obtain ⟨k, hk, rfl⟩ := List.mem_map.mp hr
    have := D.rnd_nil' h2 (List.mem_range'_1.mp hk).1
    simp [this]
  rw [f1, f2, List.append_nil]
end
end
end
section
section
section
variable {prog : Program} {w : World} {A : Around} {E : Value → Shared → Prop} {s : Shared}
theorem go_rev {elts : List PySem.Expr} {x1 : Nat} {pos : Pos} {I l T : Addr} {i : Int} {Q : Unit → Shared → Prop} (hit : s.heap.IsRevIter I l i) (hQ : Q () s) :
    wpAny (model prog w) A (letOwnedTupleGo (.Tuple elts x1 pos) (.ref I) (.ref T)) Q E s := by
  obtain ⟨o, ho, hc, hd⟩ := hit
  unfold letOwnedTupleGo
  refine wpAny_bind (wpAny_load ho ?_)
  have e : (["enumerate", "zip", "dict_itemiterator", "dict_reverseitemiterator", "odict_iterator", "itertools.zip_longest", "itertools.pairwise"].contains "list_reverseiterator") = false := by decide
  rw [hc, hd]
  first
  | (simp only [e, Bool.false_and, Bool.false_eq_true, if_false]; exact wpAny_pure hQ)
  | (dsimp only; rw [if_neg (by rw [e]; simp)]; exact wpAny_pure hQ)
end
theorem walksU_rev {prog : Program} {w : World} {A : Around} (hh : A.handled = none) (I l : Addr) (hne : l ≠ I) (items : Array Value) (Ts : Nat → Addr) (vals : Nat → Array Value)
    (hit : ∀ j, j < items.size → items[items.size - 1 - j]? = some (.ref (Ts j))) (hTI : ∀ j, j < items.size → Ts j ≠ I) :
    WalksU prog w A I (I :: l :: (List.range items.size).map Ts) [I] items.size (fun j v => v = vals j)
      (fun j h => (j ≤ items.size ∧ h.IsRevIter I l ((items.size : Int) - 1 - (j : Int)) ∧ h.IsList l items) ∧ ∀ k, k < items.size → h.IsTuple (Ts k) (vals k))
      (fun j T h => (j < items.size ∧ T = Ts j) ∧ (j + 1 ≤ items.size ∧ h.IsRevIter I l ((items.size : Int) - 1 - ((j + 1 : Nat) : Int)) ∧ h.IsList l items) ∧ ∀ k, k < items.size → h.IsTuple (Ts k) (vals k)) where
  sub := fun b hb => by simp at hb; simp [hb]
  frame := fun i h h' st hk => ⟨(Walks.listRev (prog := prog) (w := w) hh I l hne items).frame i h h' st.1 fun b hb o e => hk b (by simp only [List.mem_cons, List.not_mem_nil, or_false] at hb; rcases hb with rfl | rfl <;> simp) o e,
    fun k hk' => (st.2 k hk').at fun o e => hk (Ts k) (List.mem_cons_of_mem _ (List.mem_cons_of_mem _ (List.mem_map.mpr ⟨k, List.mem_range.mpr hk', rfl⟩))) o e⟩
  item := fun i s Q E hi st hQ => by
    refine (Walks.listRev (prog := prog) (w := w) hh I l hne items).item i s Q E hi st.1 fun v h' tk hP st' hk => ?_
    rw [hit i hi] at hP
    cases hP
    have tup : ∀ k, k < items.size → h'.IsTuple (Ts k) (vals k) := fun k hk' => (st.2 k hk').at fun o e => hk (Ts k) o (by simpa using hTI k hk') e
    exact hQ (Ts i) (vals i) h' tk rfl (tup i hi) ⟨⟨hi, rfl⟩, st', tup⟩ hk
  go := fun _ _ _ _ _ s Q _ hm hQ => go_rev hm.2.1.2.1 (hQ s.heap hm.2 fun _ _ _ e => e)
  apart := fun j T _ hm hmem => by
    rcases List.mem_cons.mp hmem with e | e
    · exact hTI j hm.1.1 (hm.1.2 ▸ e)
    · cases e
  done := fun s Q E st hQ => (Walks.listRev (prog := prog) (w := w) hh I l hne items).done s Q E st.1 hQ
  self := fun _ _ _ _ st hQ => wpAny_pyIter_revIter st.1.2.1 hQ
section
variable {α β : Type} {prog : Program} {w : World} {A : Around} {Γ : Gm} {e : PySem.Expr} {R : Rp α} {S : Rp β} {x y : Str} {px py tp p pos : Pos} {kk : Nat}
theorem evi_revP {xs : List (α × β)} (hh : A.handled = none) (hf : BFn Γ "reversed" (.type "reversed")) (he : Ev prog w A Γ e (RList (RTup R S)) xs) (hs : autoParam (∀ env, starEach [e] env = [(false, eval e env)]) autoB) : EvI prog w A Γ (.Call (.Name "reversed" p) [e] [] pos) (.Tuple [.Name x px, .Name y py] kk tp) (ItP R S) xs.reverse := fun env s Z c => by
  refine Call_Name (trees := backTo pos [(false, eval e env)]) (by rw [hs]) ((ev_bfn hf).then c fun f s₁ k₁ c₁ hf => ?_)
  cases hf
  refine PyProof.Rows.callWith_type rfl (evalArgs_plain (spliced_cons (he.then c₁ fun v s₂ k₂ c₂ hv => spliced_nil ?_)))
  (have zz := rlist_is hv; refine ex2 zz ?_; try clear zz; rintro l vs zz; refine and4 zz ?_; try clear zz; rintro rfl hl hL ha)
  have hlt : l < s₂.heap.objs.size := by (refine ex1 hL fun o zz => and2 zz fun ho _ => ?_; try clear hL); exact get_lt ho
  have esz : vs.toArray.size = xs.length := by rw [List.size_toArray, ha.length]
  have esz' : vs.toArray.size = xs.reverse.length := by rw [List.length_reverse, esz]
  let Ts : Nat → Addr := fun j => match vs[vs.length - 1 - j]? with | some (.ref T) => T | _ => 0
  let vals : Nat → Array Value := fun j => match s₂.heap.get? (Ts j) with | some o => (match o.data with | .seq a _ => a | _ => #[]) | none => #[]
  have hT : ∀ j, j < vs.toArray.size → ∃ u w', ∃ x : α × β, xs.reverse[j]? = some x ∧ vs[vs.length - 1 - j]? = some (.ref (Ts j)) ∧ Ts j ∉ Z ∧ s₂.heap.IsTuple (Ts j) #[u, w'] ∧ vals j = #[u, w'] ∧ R.rel x.1 (hid Z s₂.heap) u ∧ S.rel x.2 (hid Z s₂.heap) w' := fun j hj => by
    have hj' : j < xs.length := esz ▸ hj
    obtain ⟨x, hx⟩ : ∃ x, xs[xs.length - 1 - j]? = some x := ⟨xs[xs.length - 1 - j]'(by omega), List.getElem?_eq_getElem _⟩
    (have zz := ha.get' hx; refine ex1 zz ?_; try clear zz; rintro v zz; refine and2 zz ?_; try clear zz; rintro hv zz; refine ex5 zz ?_; try clear zz; rintro T o n u w' zz; refine and6 zz ?_; try clear zz; rintro rfl ⟨hTz, ho⟩ hc hd h1 h2)
    have hvl : vs.length = xs.length := by have := ha.length; omega
    rw [← hvl] at hv
    have eT : Ts j = T := by show (match vs[vs.length - 1 - j]? with | some (.ref T) => T | _ => 0) = T; rw [hv]
    refine ⟨u, w', x, by rw [List.getElem?_reverse hj']; exact hx, by rw [eT]; exact hv, by rw [eT]; exact hTz, by rw [eT]; exact ⟨o, ho, hc, n, hd⟩, ?_, h1, h2⟩
    show (match s₂.heap.get? (Ts j) with | some o => (match o.data with | .seq a _ => a | _ => #[]) | none => #[]) = _
    rw [eT, ho]; simp only [hd]
  refine call_reversed_list hL ?_
  have hI : (s₂.heap.push (revObj l ((vs.toArray.size : Int) - 1))).IsRevIter s₂.heap.objs.size l ((vs.toArray.size : Int) - 1) := ⟨_, Heap.get?_push_size _ rfl, rfl, rfl⟩
  refine wpAny_pyIter_revIter hI ?_
  have W := walksU_rev (prog := prog) (w := w) (A := A) hh s₂.heap.objs.size l (Nat.ne_of_lt hlt) vs.toArray Ts vals (fun j hj => by refine ex3 (hT j hj) fun _ _ _ zz => and3 zz fun _ h _ => ?_; simpa using h) (fun j hj => by
    (have zz := hT j hj; refine ex3 zz ?_; try clear zz; rintro _ _ _ zz; refine and5 zz ?_; try clear zz; rintro _ _ _ ⟨o, ho, _⟩ _); exact Nat.ne_of_lt (get_lt ho))
  have W' := W.bound
  rw [← esz']
  refine ⟨_, _, _, _, _, _, rfl, Src.ofWalksU W' (fun i h st b hb => by rw [List.mem_singleton.mp hb]; refine ex1 st.1.2.1 fun o zz => and2 zz fun ho _ => ?_; exact ⟨o, ho⟩), ⟨⟨Nat.zero_le _, by rw [show ((0 : Nat) : Int) = 0 from rfl, Int.sub_zero]; exact hI, hL.push _⟩, ?_⟩, ?_, ?_, (k₁.tr k₂).tr .push, ?_⟩
  · intro j hj
    refine ex3 (hT j hj) fun u w' _ zz => and6 zz fun _ _ _ ht hv _ => ?_
    rw [hv]; exact ht.push _
  · intro b hb
    rcases List.mem_cons.mp hb with rfl | hb
    · exact ⟨⟨_, Heap.get?_push_size _ rfl⟩, fresh_not c₂ (Nat.le_refl _)⟩
    · rcases List.mem_cons.mp hb with rfl | hb
      · (refine ex1 hL fun o zz => and2 zz fun ho _ => ?_; try clear hL); exact ⟨⟨o, Heap.get?_push_of_some _ ho⟩, hl⟩
      · (have zz := List.mem_map.mp hb; refine ex1 zz ?_; try clear zz; rintro j zz; refine and2 zz ?_; try clear zz; rintro hj rfl)
        (have zz := hT j (List.mem_range.mp hj); refine ex3 zz ?_; try clear zz; rintro u w' _ zz; refine and5 zz ?_; try clear zz; rintro _ _ hz ⟨o, ho, _⟩ _)
        exact ⟨⟨o, Heap.get?_push_of_some _ ho⟩, hz⟩
  · intro b hb
    rw [List.mem_singleton.mp hb]
    cases q : s.heap.get? s₂.heap.objs.size with
    | none => rfl
    | some o => exact absurd (get_lt ((k₁.tr k₂).get q)) (Nat.lt_irrefl _)
  · rintro i v h y hy ⟨T, vs', rfl, ⟨hi, rfl⟩, hIT⟩
    refine ex3 (hT i hi) fun u w' x' zz => and7 zz fun hx' _ _ _ hv h1 h2 => ?_
    rw [hy] at hx'
    cases hx'
    rw [hv] at hIT
    have up : ∀ b o, hid Z s₂.heap b o → hid ([s₂.heap.objs.size] ++ Z) (s₂.heap.push (revObj l ((vs.toArray.size : Int) - 1))) b o := fun b o q => ⟨fun m => (List.mem_append.mp m).elim (fun m => by have := get_lt q.2; rw [List.mem_singleton.mp m] at this; exact Nat.lt_irrefl _ this) q.1, Heap.get?_push_of_some _ q.2⟩
    exact ⟨T, u, w', rfl, hIT, R.mono up h1, S.mono up h2⟩
end
section
variable {prog : Program} {w : World} {A : Around} {Γ : Gm} {e : PySem.Expr}
theorem et_b {b : Bool} (h₁ : Ev prog w A Γ e RBool b) (he : autoParam (∀ env whole, isTrue e env whole = (do let v ← whole; standAt e.pos; holding [v] (truthy v))) autoD) : Et prog w A Γ e b := fun env s Z c => by
  rw [he]
  refine wpAny_bind (h₁.then c fun v s₁ k₁ c₁ hv => ?_)
  cases (show v = .bool b from hv)
  exact wpAny_bind (wpAny_standAt (wpAny_holding (wpAny_truthy_bool ⟨k₁, rfl⟩)))
end
end
end
local macro_rules | `(tactic| k_lt $h:ident) => `(tactic| (replace $h := allLt_of $h; k_extra "k_lt"))
local macro_rules | `(tactic| k_lt2 $h:ident) => `(tactic| (replace $h := ltN $h; k_extra "k_lt2"))
local macro_rules | `(tactic| k_room) => `(tactic| k_extra "k_room")
local macro_rules | `(tactic| k_all) => `(tactic| k_extra "k_all")
local macro_rules | `(tactic| k_ne) => `(tactic| k_extra "k_ne")
local macro_rules | `(tactic| k_mem) => `(tactic| k_extra "k_mem")
local macro_rules | `(tactic| k_upd) => `(tactic| k_extra "k_upd")
local macro_rules | `(tactic| k_updF) => `(tactic| k_extra "k_updF")
local macro_rules | `(tactic| tb_start) => `(tactic| k_extra "tb_start")
local macro_rules | `(tactic| tb_rel) => `(tactic| k_extra "tb_rel")
local macro_rules | `(tactic| ktr_rel) => `(tactic| k_extra "ktr_rel")
local macro_rules | `(tactic| k_in) => `(tactic| k_extra "k_in")
section
section
theorem rules_Ap : True := by
  k_with_none
  (k_with "omega" => lia)
  (k_with "k_room" => ktr_room)
  (k_with "k_all" => first | exact ne_of_allLt (by assumption) | k_asm | ((with_reducible show ∀ p ∈ setL _ _ _, _); refine all_setL ?_; k_all))
  (k_with "k_ne" => first | assumption | exact Ne.symm (by assumption) | exact ne_of_lt_mem (by assumption) (by assumption) | exact ne_of_lt_mem' (by assumption) (by assumption))
  (k_with "k_mem" => first | with_reducible exact List.mem_cons_self | ((with_reducible refine' List.mem_cons_of_mem _ ?_); k_mem))
  (k_with "k_mem" => ((with_reducible refine' memG ?_); first | exact mem_setL_self (by first | with_reducible assumption | k_mem) | exact memS (by first | with_reducible assumption | k_mem) (by k_ne)))
  (k_with "k_upd" => exact upd_setL (by assumption) (by k_mem))
  (k_with "k_upd" => ((with_reducible show Upd _ _ _ (setL _ _ _) _); exact upd_setL (by first | exact setL_nodup (by assumption) | exact setL_nodup (setL_nodup (by assumption)) | exact setL_nodup (setL_nodup (setL_nodup (by assumption))) | exact setL_nodup (setL_nodup (setL_nodup (setL_nodup (by assumption))))) (by k_mem)))
  (k_with "k_updF" => exact updF_setL (by assumption) (by k_mem))
  (k_with "k_updF" => ((with_reducible show UpdF _ _ (setL _ _ _) _); exact updF_setL (by first | exact setL_nodup (by assumption) | exact setL_nodup (setL_nodup (by assumption)) | exact setL_nodup (setL_nodup (setL_nodup (by assumption))) | exact setL_nodup (setL_nodup (setL_nodup (setL_nodup (by assumption))))) (by k_mem)))
  (k_with "getMethod ref" => (k_here; (with_reducible show wpAny _ _ (getMethod (Value.ref _) (Str.ofString "get") _) _ _ _); k_dflt (refine kdg_method (knd := PySem.strKind _ _) (by k_asm) (by k_mem) (by k_asm) ?_)))
  (k_with "call builtin:dict.get" => (k_here; k_dflt (refine kdg_get1 (knd := PySem.strKind _ _) (by k_asm) (by k_mem) (by k_asm) (by k_asm) (strKind_is _ _ _ _) _ (by k_asm) ?_); (try dsimp only [Option.getD])))
  (k_with "setItem ref str" => (k_here; k_dflt (refine' kda_set (knd := PySem.strKind _ _) ?zzF ?zzN ?zzU ?zzd (strKind_is _ _ _ _) ?zzz ?_; (case zzF => k_asm); (case zzN => k_asm); (case zzU => k_updF); (case zzd => k_asm); (case zzz => k_asm)); intro zh zo zF zN zd; (try dsimp only at zN)))
  (k_with "call builtin:len" => (k_here; (with_reducible show wpAny _ _ (call (Value.builtin "len") [Value.ref _]) _ _ _); k_dflt (first | (refine' len_tupN ?zzk1 ?zzk2 ?zzk3 ?_; (case zzk1 => k_asm); (case zzk2 => k_mem); (case zzk3 => assumption)) | (refine' len_listN ?zzk1 ?zzk2 ?zzk3 ?_; (case zzk1 => k_asm); (case zzk2 => k_mem); (case zzk3 => assumption)))))
  (k_with "call builtin:list.append" => (k_here; (with_reducible show wpAny _ _ (call (Value.builtin _) [Value.ref _, _]) _ _ _); k_dflt (refine' append_K ?zzk1 ?zzk2 ?zzk3 ?_ ?zzz; (case zzk1 => k_asm); (case zzk2 => k_asm); (case zzk3 => k_upd); (case zzz => first | assumption | size_fits); k_whole); intro zh zF zN; (try k_sweep)))
  (k_with "call type:bool" => (k_here; (with_reducible show wpAny _ _ (call _ [Value.ref _]) _ _ _); k_dflt (refine' bool_listN ?zzk1 ?zzk2 ?zzk3 ?_; (case zzk1 => k_asm); (case zzk2 => k_mem); (case zzk3 => assumption))))
  (k_with "call type:tuple" => (k_here; (with_reducible show wpAny _ _ (call (Value.type _) [Value.ref _]) _ _ _); k_dflt (refine' tuple_ofListN ?zzk1 ?zzk2 ?zzk3 ?zzk4 ?_; (case zzk1 => k_asm); (case zzk2 => k_asm); (case zzk3 => k_mem); (case zzk4 => assumption); k_whole); intro D' h' F' N' l1; (try k_lt l1); (try k_sweep)))
  (k_with "call type:list" => (k_here; (with_reducible show wpAny _ _ (call (Value.type _) [Value.ref _]) _ _ _); k_dflt (refine' list_ofTupN ?zzk1 ?zzk2 ?zzk3 ?zzk4 ?_; (case zzk1 => k_asm); (case zzk2 => k_asm); (case zzk3 => k_mem); (case zzk4 => assumption); k_whole); intro D' c' h' F' N' l1; (try k_lt l1); (try k_sweep)))
  (k_with "call builtin:list.clear" => (k_here; (with_reducible show wpAny _ _ (call (Value.builtin _) [Value.ref _]) _ _ _); k_dflt (refine' clear_listN ?zzk1 ?zzk2 ?zzk3 ?zzk4 ?_; (case zzk1 => k_asm); (case zzk2 => k_asm); (case zzk3 => k_updF); (case zzk4 => assumption); k_whole); intro zh zn zF zN; (try dsimp only at zN); (try k_sweep)))
  (k_with "subscriptTail" => (k_here; (with_reducible show wpAny _ _ (subscriptTail _ _ (Value.ref _) (Value.str _ _)) _ _ _); k_dflt (refine' kda_item (knd := PySem.strKind _ _) ?zzk1 ?zzk2 ?zzk3 (strKind_is _ _ _ _) ?zzk5 ?_ ?zzk7 ?zzk8; (case zzk1 => k_asm); (case zzk2 => k_mem); (case zzk3 => k_asm); (case zzk5 => k_asm); (case zzk7 => with_unfolding_all rfl); (case zzk8 => intro _; with_unfolding_all rfl); k_whole)))
  (k_with "tb_start" => first | decide | (dsimp only [Gm.set, Gm.rd, Γc, btab]; decide))
  (k_with "tb_rel" => first | with_reducible exact List.mem_cons_self | with_reducible exact set_self | (with_reducible refine List.mem_cons_of_mem _ ?_; tb_rel) | (with_reducible refine f_mem ?_ (by dsimp only; decide); tb_rel) | (with_reducible refine set_ne ?_ (by dsimp only; decide); tb_rel) | (with_reducible refine rd_mem ?_; tb_rel) | (with_reducible refine rd_mmem ?_; tb_rel) | (with_reducible refine c_own ?_; tb_rel) | (with_reducible refine c_up ?_ (by dsimp only; decide); tb_rel) | (with_reducible refine c_mup ?_ (by dsimp only; decide); tb_rel) | (with_reducible refine ini_mem (by assumption) ?_; tb_rel))
  (k_with "ktr_rel" => first | exact forall_nil | (refine forall_cons ?_ ?_; (first | tb_rel | skip); (first | ktr_rel | skip)))
  trivial
theorem bt_of {w : World} {p : Program} {loose : List Str} {mean : ExcName → Option Value} {mg mb : Str → Option Value} {h₀ : Heap} (T : Top p loose mean mg mb h₀) : (Mine.hd.heap_1 w.params).In h₀ → PySem.Challenge.rw_mr0282_02.prog = PySem.Challenge.rw_mr0282_02.prog → Bt mg mb := by
  k_fill
  intro X _
  refine ⟨?_, fun q hq => (T.builtins q.1 (btab_boot q hq).2).trans (btab_boot q hq).1⟩
  intro q hq
  simp only [btab, List.mem_cons, List.not_mem_nil, or_false] at hq
  rcases hq with rfl | rfl | rfl | rfl | rfl | rfl | rfl | rfl | rfl | rfl | rfl <;> exact mg_none_of X T.g (by k_is)
theorem ap_spec {w : World} {p : Program} {loose : List Str} {mean : ExcName → Option Value} {mg mb : Str → Option Value} {h₀ : Heap} {A : Around} {s : Shared} {Z : List Addr} {v : Value} {n : Int}
    (T : Top p loose mean mg mb h₀) (hx : ∀ b o, h₀.get? b = some o → s.heap.get? b = some o) (hh : A.handled = none) (hd : A.depth < 900) (hZ : ∀ z ∈ Z, ∃ o, s.heap.get? z = some o) (hv : RInt.rel n (hid Z s.heap) v) (hn : n.natAbs < 16 ^ 1000) :
    (Mine.hd.heap_1 w.params).In h₀ → wpAny (model PySem.Challenge.rw_mr0282_02.prog w) A (call (.ref 148) [v]) (fun r s' => Kp s s' ∧ RByt.rel (ap n.natAbs) (hid Z s'.heap) r) NoExc s := by
  k_fill
  intro X
  have B : Bt mg mb := bt_of T X rfl
  refine' pfn_K (vars := [⟨"num", Int, RInt, n⟩]) (binds := [("num", v)]) X T hx ?ho ?hcd ?hroom ?hbind ?hkind ?hk ?hnd ?hcdn hZ ?hvars ?h ?hco ?hgen
  case ho => k_is
  case hcd => k_is
  case hroom => have : recursionLimit = 1000 := rfl; omega
  case hbind => rfl
  case hkind => intro n y hy; rw [List.mem_singleton.mp hy]; exact .inl rfl
  case hk => rfl
  case hnd => decide
  case hcdn => decide
  case hco => rfl
  case hgen => rfl
  case hvars =>
    intro L vb hv'
    rw [List.mem_singleton.mp hv']
    exact ⟨v, .inl ⟨rfl, rfl⟩, hv⟩
  case h =>
    intro L Γ H
    refine hr_cons (hs_set (mv := []) H (ev_eq ev_bytes (show _ = ([] : List Int) from rfl)) ⟨.inl rfl, by decide⟩ forall_nil) ?_
    rintro Γ₁ _ ⟨H1, rfl⟩
    refine hr_cons (hs_set (mv := []) H1 (ev_eq ev_bytes (show _ = apAll from by decide)) ⟨.inl rfl, by decide⟩ forall_nil) ?_
    rintro Γ₂ _ ⟨H2, rfl⟩
    refine hr_cons (hs_set (mv := []) H2 (ev_intf (Bt.fn B H2 (by tb_start) (by tb_start)) (ev_abs (Bt.fn B H2 (by tb_start) (by tb_start)) (ev_name (R := RInt) (a := n) (by tb_rel)))) ⟨.inl rfl, by decide⟩ forall_nil) ?_
    rintro Γ₃ _ ⟨H3, rfl⟩
    generalize hN : n.natAbs = N at *
    have hl : (ap N).length ≤ 1000 := ap_len hn
    refine hr_cons (P := fun Γ' _ => H.fam [⟨"val", _, RByt, ap N⟩] Γ') (hs_while (fun k Γ' res' => ∃ val, H.fam [⟨"num", Int, RInt, (k : Int)⟩, ⟨"val", _, RByt, val⟩, ⟨"AP", _, RByt, apAll⟩] Γ' ∧ ap k ++ val = ap N) N ⟨[], H3.sub (by ktr_rel), by simp⟩ ?_) ?_
    · rintro k Γ₄ r₄ ⟨val, H4, hap⟩
      refine ⟨_, et_int (ev_name (R := RInt) (a := (k : Int)) (by tb_rel)), fun hc => ?_, fun hc => ?_⟩
      · have hk0 : k ≠ 0 := by simpa using hc
        refine ht_cons (hs_unpackI (mv := []) H4 hh (ev_divmod (Bt.fn B H4 (by tb_start) (by tb_start)) (ev_name (R := RInt) (a := (k : Int)) (by tb_rel)) ev_int (by decide) (by decide)) ⟨.inl rfl, by decide⟩ ⟨.inl rfl, by decide⟩ forall_nil) ?_
        rintro Γ₅ r₅ ⟨H5, rfl⟩
        have e1 : (k : Int).fdiv 16 = ((k / 16 : Nat) : Int) := by rw [Int.fdiv_eq_ediv_of_nonneg _ (by decide)]; omega
        have e2 : (k : Int).fmod 16 = ((k % 16 : Nat) : Int) := by rw [Int.fmod_eq_emod_of_nonneg _ (by decide)]; omega
        rw [e1, e2] at H5
        have hlen : (ap (k / 16)).length + 1 + val.length = (ap N).length := by rw [← hap, ap_pos hk0]; simp; omega
        refine ht_cons (hs_set (mv := []) H5 (ev_addB (ev_eq (ev_cutB (ev_name (R := RByt) (a := apAll) (by tb_rel)) (ep_some (ev_name (R := RInt) (a := ((k % 16 : Nat) : Int)) (by tb_rel))) (ep_some (ev_add (ev_name (R := RInt) (a := ((k % 16 : Nat) : Int)) (by tb_rel)) ev_int)) (by decide)) (ap_cut (k % 16) (by omega))) (ev_name (R := RByt) (a := val) (by tb_rel)) (by simp only [List.length_cons, List.length_nil]; omega)) ⟨.inl rfl, by decide⟩ forall_nil) ?_
        rintro Γ₆ r₆ ⟨H6, rfl⟩
        refine ht_nil ⟨k / 16, by omega, _, H6.sub (by ktr_rel), ?_⟩
        rw [← hap, ap_pos hk0]; simp
      · have hk0 : k = 0 := by simpa using hc
        subst hk0
        rw [ap_zero, List.nil_append] at hap
        subst hap
        exact H4.sub (by ktr_rel)
    · intro Γ₄ r₄ H4
      exact hr_return (ev_name (R := RByt) (a := ap N) (by tb_rel))
end
end
section
section
theorem rules_Let : True := by
  k_with_none
  (k_with "omega" => lia)
  (k_with "k_room" => ktr_room)
  (k_with "k_all" => first | exact ne_of_allLt (by assumption) | k_asm | ((with_reducible show ∀ p ∈ setL _ _ _, _); refine all_setL ?_; k_all))
  (k_with "k_ne" => first | assumption | exact Ne.symm (by assumption) | exact ne_of_lt_mem (by assumption) (by assumption) | exact ne_of_lt_mem' (by assumption) (by assumption))
  (k_with "k_mem" => first | with_reducible exact List.mem_cons_self | ((with_reducible refine' List.mem_cons_of_mem _ ?_); k_mem))
  (k_with "k_mem" => ((with_reducible refine' memG ?_); first | exact mem_setL_self (by first | with_reducible assumption | k_mem) | exact memS (by first | with_reducible assumption | k_mem) (by k_ne)))
  (k_with "k_upd" => exact upd_setL (by assumption) (by k_mem))
  (k_with "k_upd" => ((with_reducible show Upd _ _ _ (setL _ _ _) _); exact upd_setL (by first | exact setL_nodup (by assumption) | exact setL_nodup (setL_nodup (by assumption)) | exact setL_nodup (setL_nodup (setL_nodup (by assumption))) | exact setL_nodup (setL_nodup (setL_nodup (setL_nodup (by assumption))))) (by k_mem)))
  (k_with "k_updF" => exact updF_setL (by assumption) (by k_mem))
  (k_with "k_updF" => ((with_reducible show UpdF _ _ (setL _ _ _) _); exact updF_setL (by first | exact setL_nodup (by assumption) | exact setL_nodup (setL_nodup (by assumption)) | exact setL_nodup (setL_nodup (setL_nodup (by assumption))) | exact setL_nodup (setL_nodup (setL_nodup (setL_nodup (by assumption))))) (by k_mem)))
  (k_with "getMethod ref" => (k_here; (with_reducible show wpAny _ _ (getMethod (Value.ref _) (Str.ofString "get") _) _ _ _); k_dflt (refine kdg_method (knd := PySem.strKind _ _) (by k_asm) (by k_mem) (by k_asm) ?_)))
  (k_with "call builtin:dict.get" => (k_here; k_dflt (refine kdg_get1 (knd := PySem.strKind _ _) (by k_asm) (by k_mem) (by k_asm) (by k_asm) (strKind_is _ _ _ _) _ (by k_asm) ?_); (try dsimp only [Option.getD])))
  (k_with "setItem ref str" => (k_here; k_dflt (refine' kda_set (knd := PySem.strKind _ _) ?zzF ?zzN ?zzU ?zzd (strKind_is _ _ _ _) ?zzz ?_; (case zzF => k_asm); (case zzN => k_asm); (case zzU => k_updF); (case zzd => k_asm); (case zzz => k_asm)); intro zh zo zF zN zd; (try dsimp only at zN)))
  (k_with "call builtin:len" => (k_here; (with_reducible show wpAny _ _ (call (Value.builtin "len") [Value.ref _]) _ _ _); k_dflt (first | (refine' len_tupN ?zzk1 ?zzk2 ?zzk3 ?_; (case zzk1 => k_asm); (case zzk2 => k_mem); (case zzk3 => assumption)) | (refine' len_listN ?zzk1 ?zzk2 ?zzk3 ?_; (case zzk1 => k_asm); (case zzk2 => k_mem); (case zzk3 => assumption)))))
  (k_with "call builtin:list.append" => (k_here; (with_reducible show wpAny _ _ (call (Value.builtin _) [Value.ref _, _]) _ _ _); k_dflt (refine' append_K ?zzk1 ?zzk2 ?zzk3 ?_ ?zzz; (case zzk1 => k_asm); (case zzk2 => k_asm); (case zzk3 => k_upd); (case zzz => first | assumption | size_fits); k_whole); intro zh zF zN; (try k_sweep)))
  (k_with "call type:bool" => (k_here; (with_reducible show wpAny _ _ (call _ [Value.ref _]) _ _ _); k_dflt (refine' bool_listN ?zzk1 ?zzk2 ?zzk3 ?_; (case zzk1 => k_asm); (case zzk2 => k_mem); (case zzk3 => assumption))))
  (k_with "call type:tuple" => (k_here; (with_reducible show wpAny _ _ (call (Value.type _) [Value.ref _]) _ _ _); k_dflt (refine' tuple_ofListN ?zzk1 ?zzk2 ?zzk3 ?zzk4 ?_; (case zzk1 => k_asm); (case zzk2 => k_asm); (case zzk3 => k_mem); (case zzk4 => assumption); k_whole); intro D' h' F' N' l1; (try k_lt l1); (try k_sweep)))
  (k_with "call type:list" => (k_here; (with_reducible show wpAny _ _ (call (Value.type _) [Value.ref _]) _ _ _); k_dflt (refine' list_ofTupN ?zzk1 ?zzk2 ?zzk3 ?zzk4 ?_; (case zzk1 => k_asm); (case zzk2 => k_asm); (case zzk3 => k_mem); (case zzk4 => assumption); k_whole); intro D' c' h' F' N' l1; (try k_lt l1); (try k_sweep)))
  (k_with "call builtin:list.clear" => (k_here; (with_reducible show wpAny _ _ (call (Value.builtin _) [Value.ref _]) _ _ _); k_dflt (refine' clear_listN ?zzk1 ?zzk2 ?zzk3 ?zzk4 ?_; (case zzk1 => k_asm); (case zzk2 => k_asm); (case zzk3 => k_updF); (case zzk4 => assumption); k_whole); intro zh zn zF zN; (try dsimp only at zN); (try k_sweep)))
  (k_with "subscriptTail" => (k_here; (with_reducible show wpAny _ _ (subscriptTail _ _ (Value.ref _) (Value.str _ _)) _ _ _); k_dflt (refine' kda_item (knd := PySem.strKind _ _) ?zzk1 ?zzk2 ?zzk3 (strKind_is _ _ _ _) ?zzk5 ?_ ?zzk7 ?zzk8; (case zzk1 => k_asm); (case zzk2 => k_mem); (case zzk3 => k_asm); (case zzk5 => k_asm); (case zzk7 => with_unfolding_all rfl); (case zzk8 => intro _; with_unfolding_all rfl); k_whole)))
  (k_with "tb_start" => first | decide | (dsimp only [Gm.set, Gm.rd, Γc, btab]; decide))
  (k_with "tb_rel" => first | with_reducible exact List.mem_cons_self | with_reducible exact set_self | (with_reducible refine List.mem_cons_of_mem _ ?_; tb_rel) | (with_reducible refine f_mem ?_ (by dsimp only; decide); tb_rel) | (with_reducible refine set_ne ?_ (by dsimp only; decide); tb_rel) | (with_reducible refine rd_mem ?_; tb_rel) | (with_reducible refine rd_mmem ?_; tb_rel) | (with_reducible refine c_own ?_; tb_rel) | (with_reducible refine c_up ?_ (by dsimp only; decide); tb_rel) | (with_reducible refine c_mup ?_ (by dsimp only; decide); tb_rel) | (with_reducible refine ini_mem (by assumption) ?_; tb_rel))
  (k_with "ktr_rel" => first | exact forall_nil | (refine forall_cons ?_ ?_; (first | tb_rel | skip); (first | ktr_rel | skip)))
  trivial
def letS (c : Int) : Str := ⟨#[(65 + c / 16).toNat, (65 + c % 16).toNat]⟩
def oneS (i : Int) : Str := ⟨#[(65 + i).toNat]⟩
theorem let_get {i : Int} (h : 0 ≤ i ∧ i < 16) : (chars "ABCDEFGHIJKLMNOP")[i.toNat]? = some (oneS i) := by
  have key : ∀ i : Fin 16, (chars "ABCDEFGHIJKLMNOP")[i.val]? = some (oneS (i.val : Int)) := by decide +kernel
  have := key ⟨i.toNat, by omega⟩
  dsimp only at this
  rw [this]
  have e : ((i.toNat : Nat) : Int) = i := by omega
  rw [e]
theorem let_list {cs : List Int} (h : ∀ c ∈ cs, 0 ≤ c ∧ c < 256) : ((Txt.lstripChars (Txt.join "" (cs.reverse.map letS)) "A").cps.toList.map fun c : Nat => (c : Int)) = lettersOf cs := by
  rw [lstrip_list, join_list0]
  unfold lettersOf stripA
  have e : cs.reverse.flatMap pairI = ((cs.reverse.map letS).flatMap fun s => s.cps.toList).map fun c : Nat => (c : Int) := by
    have hr : ∀ c ∈ cs.reverse, 0 ≤ c ∧ c < 256 := fun c hc => h c (List.mem_reverse.mp hc)
    revert hr
    generalize cs.reverse = l
    intro hr
    induction l with
    | nil => rfl
    | cons a r ih =>
      rw [List.flatMap_cons, List.map_cons, List.flatMap_cons, List.map_append, ← ih fun c hc => hr c (.tail _ hc)]
      congr 1
      have := hr a (.head _)
      unfold pairI letS
      simp only [List.map_cons, List.map_nil]
      congr 1
      · omega
      · congr 1; omega
  rw [e, List.dropWhile_map]
  congr 1
  refine congrArg (fun p => List.dropWhile p _) ?_
  funext c
  by_cases q : c = 65
  · subst q; rfl
  · have : ¬ ((c : Int) = 65) := by omega
    exact (beq_eq_false_iff_ne.mpr q).trans (beq_eq_false_iff_ne.mpr this).symm
theorem let_small {cs : List Int} (h : ∀ c ∈ cs, 0 ≤ c ∧ c < 256) : ∀ c ∈ (Txt.lstripChars (Txt.join "" (cs.reverse.map letS)) "A").cps.toList, c < 128 := by
  rw [lstrip_list, join_list0]
  intro c hc
  have hc := (List.dropWhile_sublist _).subset hc
  obtain ⟨s, hs, hc⟩ := List.mem_flatMap.mp hc
  obtain ⟨a, ha, rfl⟩ := List.mem_map.mp hs
  have := h a (List.mem_reverse.mp ha)
  unfold letS at hc
  simp only [List.mem_cons, List.not_mem_nil, or_false] at hc
  omega
theorem let_len {cs : List Int} : (Txt.join "" (cs.reverse.map letS)).length = 2 * cs.length := by
  have : (Txt.join "" (cs.reverse.map letS)).length = (Txt.join "" (cs.reverse.map letS)).cps.toList.length := by simp [Str.length]
  rw [this, join_list0, ← List.length_reverse (as := cs)]
  generalize cs.reverse = l
  induction l with
  | nil => rfl
  | cons a r ih =>
    rw [List.map_cons, List.flatMap_cons, List.length_append, ih, List.length_cons]
    show 2 + _ = _
    omega
theorem letters_spec {w : World} {p : Program} {loose : List Str} {mean : ExcName → Option Value} {mg mb : Str → Option Value} {h₀ : Heap} {A : Around} {s : Shared} {Z : List Addr} {v₁ : Value} {cs : List Int}
    (T : Top p loose mean mg mb h₀) (hx : ∀ b o, h₀.get? b = some o → s.heap.get? b = some o) (hh : A.handled = none) (hd : A.depth < 900) (hZ : ∀ z ∈ Z, ∃ o, s.heap.get? z = some o) (hv₁ : (RList RInt).rel cs (hid Z s.heap) v₁)
    (hl : cs.length ≤ 100) (hc : ∀ c ∈ cs, 0 ≤ c ∧ c < 256) :
    (Mine.hd.heap_1 w.params).In h₀ → wpAny (model PySem.Challenge.rw_mr0282_02.prog w) A (call (.ref 165) [v₁]) (fun r s' => Kp s s' ∧ RByt.rel (lettersOf cs) (hid Z s'.heap) r) NoExc s := by
  k_fill
  intro X
  have B : Bt mg mb := bt_of T X rfl
  have sz : sizeLine = 16777216 := rfl
  refine' pfn_K (vars := [⟨"counts", _, RList RInt, cs⟩]) (binds := [("counts", v₁)]) X T hx ?ho ?hcd ?hroom ?hbind ?hkind ?hk ?hnd ?hcdn hZ ?hvars ?h ?hco ?hgen
  case ho => k_is
  case hcd => k_is
  case hroom => have : recursionLimit = 1000 := rfl; omega
  case hbind => rfl
  case hkind => intro n y hy; simp only [List.mem_cons, List.not_mem_nil, or_false] at hy; rcases hy with rfl; exact .inl rfl
  case hk => rfl
  case hnd => decide
  case hcdn => decide
  case hco => rfl
  case hgen => rfl
  case hvars =>
    intro L vb hv'
    simp only [List.mem_cons, List.not_mem_nil, or_false] at hv'
    rcases hv' with rfl
    exact ⟨v₁, .inl ⟨rfl, rfl⟩, hv₁⟩
  case h =>
    intro L Γ H
    refine hr_cons (hs_set (mv := []) (R := RStr) (a := "ABCDEFGHIJKLMNOP") H ev_str ⟨.inr ⟨rfl, _, rfl⟩, by decide⟩ forall_nil) ?_
    rintro Γ₁ _ ⟨H1, rfl⟩
    refine hr_cons (hs_setM (mv := []) (R := RStr) (f := letS) H1 hh (evi_rev (T := RInt) (xs := cs) hh (Bt.fn B H1 (by tb_start) (by tb_start)) (ev_name (R := RList RInt) (a := cs) (by tb_rel))) (stat_of H1.cs rfl (by decide)) (bnd_local rfl) (fun c hm => ?elt) (by rw [List.length_reverse, sz]; omega) ⟨.inl rfl, by decide⟩ forall_nil rfl) ?_
    case elt =>
      have h := hc c (List.mem_reverse.mp hm)
      have e1 : c.fdiv 16 = c / 16 := Int.fdiv_eq_ediv_of_nonneg _ (by decide)
      have e2 : c.fmod 16 = c % 16 := Int.fmod_eq_emod_of_nonneg _ (by decide)
      exact ev_eq (ev_adds (ev_sitem (z := oneS (c / 16)) (ev_name (R := RStr) (a := "ABCDEFGHIJKLMNOP") (by tb_rel)) (ev_eq (ev_fdiv (ev_name (R := RInt) (a := c) (by tb_rel)) ev_int (by decide) (by decide)) e1) (by omega) (by omega) (let_get (by omega))) (ev_sitem (z := oneS (c % 16)) (ev_name (R := RStr) (a := "ABCDEFGHIJKLMNOP") (by tb_rel)) (ev_eq (ev_mod (ev_name (R := RInt) (a := c) (by tb_rel)) ev_int (by decide)) e2) (by omega) (by omega) (let_get (by omega))) (show 1 + 1 ≤ sizeLine by rw [sz]; decide)) rfl
    rintro Γ₂ _ ⟨H2, rfl⟩
    have hlen := let_len (cs := cs)
    refine hr_ret (mv := []) (ev_eq (ev_encode (ev_lstrip (ev_join (xs := cs.reverse.map letS) ev_str (ev_name (by tb_rel)) ?sum rfl) ev_str (by rw [hlen, sz]; omega) rfl) ev_str (let_small hc) ?len rfl) (let_list hc)) forall_nil
    case sum =>
      have : ((cs.reverse.map letS).map (·.length)).sum = 2 * cs.length := by
        rw [← List.length_reverse (as := cs)]
        generalize cs.reverse = l
        induction l with
        | nil => rfl
        | cons a r ih => rw [List.map_cons, List.map_cons, List.sum_cons, ih, List.length_cons]; show 2 + _ = _; omega
      rw [this]
      have z : ("" : Str).length = 0 := by decide
      rw [z]
      omega
    case len =>
      have : (Txt.lstripChars (Txt.join "" (cs.reverse.map letS)) "A").length ≤ (Txt.join "" (cs.reverse.map letS)).length := PyProof.Rows.len_lstripChars _ _
      rw [hlen] at this
      rw [sz]; omega
end
end
section
section
theorem rules_Stp : True := by
  k_with_none
  (k_with "omega" => lia)
  (k_with "k_room" => ktr_room)
  (k_with "k_all" => first | exact ne_of_allLt (by assumption) | k_asm | ((with_reducible show ∀ p ∈ setL _ _ _, _); refine all_setL ?_; k_all))
  (k_with "k_ne" => first | assumption | exact Ne.symm (by assumption) | exact ne_of_lt_mem (by assumption) (by assumption) | exact ne_of_lt_mem' (by assumption) (by assumption))
  (k_with "k_mem" => first | with_reducible exact List.mem_cons_self | ((with_reducible refine' List.mem_cons_of_mem _ ?_); k_mem))
  (k_with "k_mem" => ((with_reducible refine' memG ?_); first | exact mem_setL_self (by first | with_reducible assumption | k_mem) | exact memS (by first | with_reducible assumption | k_mem) (by k_ne)))
  (k_with "k_upd" => exact upd_setL (by assumption) (by k_mem))
  (k_with "k_upd" => ((with_reducible show Upd _ _ _ (setL _ _ _) _); exact upd_setL (by first | exact setL_nodup (by assumption) | exact setL_nodup (setL_nodup (by assumption)) | exact setL_nodup (setL_nodup (setL_nodup (by assumption))) | exact setL_nodup (setL_nodup (setL_nodup (setL_nodup (by assumption))))) (by k_mem)))
  (k_with "k_updF" => exact updF_setL (by assumption) (by k_mem))
  (k_with "k_updF" => ((with_reducible show UpdF _ _ (setL _ _ _) _); exact updF_setL (by first | exact setL_nodup (by assumption) | exact setL_nodup (setL_nodup (by assumption)) | exact setL_nodup (setL_nodup (setL_nodup (by assumption))) | exact setL_nodup (setL_nodup (setL_nodup (setL_nodup (by assumption))))) (by k_mem)))
  (k_with "getMethod ref" => (k_here; (with_reducible show wpAny _ _ (getMethod (Value.ref _) (Str.ofString "get") _) _ _ _); k_dflt (refine kdg_method (knd := PySem.strKind _ _) (by k_asm) (by k_mem) (by k_asm) ?_)))
  (k_with "call builtin:dict.get" => (k_here; k_dflt (refine kdg_get1 (knd := PySem.strKind _ _) (by k_asm) (by k_mem) (by k_asm) (by k_asm) (strKind_is _ _ _ _) _ (by k_asm) ?_); (try dsimp only [Option.getD])))
  (k_with "setItem ref str" => (k_here; k_dflt (refine' kda_set (knd := PySem.strKind _ _) ?zzF ?zzN ?zzU ?zzd (strKind_is _ _ _ _) ?zzz ?_; (case zzF => k_asm); (case zzN => k_asm); (case zzU => k_updF); (case zzd => k_asm); (case zzz => k_asm)); intro zh zo zF zN zd; (try dsimp only at zN)))
  (k_with "call builtin:len" => (k_here; (with_reducible show wpAny _ _ (call (Value.builtin "len") [Value.ref _]) _ _ _); k_dflt (first | (refine' len_tupN ?zzk1 ?zzk2 ?zzk3 ?_; (case zzk1 => k_asm); (case zzk2 => k_mem); (case zzk3 => assumption)) | (refine' len_listN ?zzk1 ?zzk2 ?zzk3 ?_; (case zzk1 => k_asm); (case zzk2 => k_mem); (case zzk3 => assumption)))))
  (k_with "call builtin:list.append" => (k_here; (with_reducible show wpAny _ _ (call (Value.builtin _) [Value.ref _, _]) _ _ _); k_dflt (refine' append_K ?zzk1 ?zzk2 ?zzk3 ?_ ?zzz; (case zzk1 => k_asm); (case zzk2 => k_asm); (case zzk3 => k_upd); (case zzz => first | assumption | size_fits); k_whole); intro zh zF zN; (try k_sweep)))
  (k_with "call type:bool" => (k_here; (with_reducible show wpAny _ _ (call _ [Value.ref _]) _ _ _); k_dflt (refine' bool_listN ?zzk1 ?zzk2 ?zzk3 ?_; (case zzk1 => k_asm); (case zzk2 => k_mem); (case zzk3 => assumption))))
  (k_with "call type:tuple" => (k_here; (with_reducible show wpAny _ _ (call (Value.type _) [Value.ref _]) _ _ _); k_dflt (refine' tuple_ofListN ?zzk1 ?zzk2 ?zzk3 ?zzk4 ?_; (case zzk1 => k_asm); (case zzk2 => k_asm); (case zzk3 => k_mem); (case zzk4 => assumption); k_whole); intro D' h' F' N' l1; (try k_lt l1); (try k_sweep)))
  (k_with "call type:list" => (k_here; (with_reducible show wpAny _ _ (call (Value.type _) [Value.ref _]) _ _ _); k_dflt (refine' list_ofTupN ?zzk1 ?zzk2 ?zzk3 ?zzk4 ?_; (case zzk1 => k_asm); (case zzk2 => k_asm); (case zzk3 => k_mem); (case zzk4 => assumption); k_whole); intro D' c' h' F' N' l1; (try k_lt l1); (try k_sweep)))
  (k_with "call builtin:list.clear" => (k_here; (with_reducible show wpAny _ _ (call (Value.builtin _) [Value.ref _]) _ _ _); k_dflt (refine' clear_listN ?zzk1 ?zzk2 ?zzk3 ?zzk4 ?_; (case zzk1 => k_asm); (case zzk2 => k_asm); (case zzk3 => k_updF); (case zzk4 => assumption); k_whole); intro zh zn zF zN; (try dsimp only at zN); (try k_sweep)))
  (k_with "subscriptTail" => (k_here; (with_reducible show wpAny _ _ (subscriptTail _ _ (Value.ref _) (Value.str _ _)) _ _ _); k_dflt (refine' kda_item (knd := PySem.strKind _ _) ?zzk1 ?zzk2 ?zzk3 (strKind_is _ _ _ _) ?zzk5 ?_ ?zzk7 ?zzk8; (case zzk1 => k_asm); (case zzk2 => k_mem); (case zzk3 => k_asm); (case zzk5 => k_asm); (case zzk7 => with_unfolding_all rfl); (case zzk8 => intro _; with_unfolding_all rfl); k_whole)))
  (k_with "tb_start" => first | decide | (dsimp only [Gm.set, Gm.rd, Γc, btab]; decide))
  (k_with "tb_rel" => first | with_reducible exact List.mem_cons_self | with_reducible exact set_self | (with_reducible refine List.mem_cons_of_mem _ ?_; tb_rel) | (with_reducible refine f_mem ?_ (by dsimp only; decide); tb_rel) | (with_reducible refine set_ne ?_ (by dsimp only; decide); tb_rel) | (with_reducible refine rd_mem ?_; tb_rel) | (with_reducible refine rd_mmem ?_; tb_rel) | (with_reducible refine c_own ?_; tb_rel) | (with_reducible refine c_up ?_ (by dsimp only; decide); tb_rel) | (with_reducible refine c_mup ?_ (by dsimp only; decide); tb_rel) | (with_reducible refine ini_mem (by assumption) ?_; tb_rel))
  (k_with "ktr_rel" => first | exact forall_nil | (refine forall_cons ?_ ?_; (first | tb_rel | skip); (first | ktr_rel | skip)))
  trivial
theorem iskS {prog : Program} {w : World} {k : Str} {P : Kn} {v : Value} (h : RStr.rel k P v) : (PySem.strKind prog w).is k v = true := by obtain ⟨t, rfl⟩ := h; exact strKind_is _ _ _ _
theorem dgetm {K α : Type} [DecidableEq K] {xs : List K} {f : K → α} {k : K} (h : k ∈ xs) : dget (xs.map fun x => (x, f x)) k = some (f k) := by
  unfold dget
  induction xs with
  | nil => cases h
  | cons a r ih =>
    rw [List.map_cons, List.find?_cons]
    by_cases e : a = k
    · subst e; simp
    · rcases List.mem_cons.mp h with q | q
      · exact absurd q.symm e
      · simp only [e, decide_false]; exact ih q
def rowN (ah : Str → List Str) (k : Nat) : List (Str × Int) := jobs6.map fun j => (j, W ah k j)
def rowsN (ah : Str → List Str) (n : Nat) : List (List (Str × Int)) := (List.range n).map (rowN ah)
theorem rowsN_succ {ah : Str → List Str} {n : Nat} : rowsN ah (n + 1) = rowsN ah n ++ [rowN ah n] := by unfold rowsN; rw [List.range_succ, List.map_append]; rfl
theorem rowsN_last {ah : Str → List Str} {n : Nat} : (rowsN ah (n + 1)).getLast? = some (rowN ah n) := by rw [rowsN_succ]; simp
theorem rowsN_len {ah : Str → List Str} {n : Nat} : (rowsN ah n).length = n := by simp [rowsN]
theorem stepped_spec {w : World} {p : Program} {loose : List Str} {mean : ExcName → Option Value} {mg mb : Str → Option Value} {h₀ : Heap} {A : Around} {s : Shared} {Z : List Addr} {v₁ : Value} {ah : Str → List Str} {kvs : List (Str × List Str)}
    (T : Top p loose mean mg mb h₀) (hx : ∀ b o, h₀.get? b = some o → s.heap.get? b = some o) (hh : A.handled = none) (hd : A.depth < 900) (hZ : ∀ z ∈ Z, ∃ o, s.heap.get? z = some o) (hv₁ : (RDict (PySem.strKind PySem.Challenge.rw_mr0282_02.prog w) (RList RStr)).rel kvs (hid Z s.heap) v₁)
    (hk : ∀ j ∈ jobs6, dget kvs j = some (ah j)) (hm : ∀ j ∈ jobs6, ∀ x ∈ ah j, x ∈ jobs6) (hl : ∀ j ∈ jobs6, (ah j).length ≤ 100) :
    (Mine.hd.heap_1 w.params).In h₀ → wpAny (model PySem.Challenge.rw_mr0282_02.prog w) A (call (.ref 160) [v₁]) (fun r s' => Kp s s' ∧ (RList (RDict (PySem.strKind PySem.Challenge.rw_mr0282_02.prog w) RInt)).rel (rowsN ah 6) (hid Z s'.heap) r) NoExc s := by
  k_fill
  intro X
  have B : Bt mg mb := bt_of T X rfl
  have sz : sizeLine = 16777216 := rfl
  refine' pfn_K (vars := [⟨"ahead", _, RDict (PySem.strKind PySem.Challenge.rw_mr0282_02.prog w) (RList RStr), kvs⟩]) (binds := [("ahead", v₁)]) X T hx ?ho ?hcd ?hroom ?hbind ?hkind ?hk ?hnd ?hcdn hZ ?hvars ?h ?hco ?hgen
  case ho => k_is
  case hcd => k_is
  case hroom => have : recursionLimit = 1000 := rfl; omega
  case hbind => rfl
  case hkind => intro n y hy; simp only [List.mem_cons, List.not_mem_nil, or_false] at hy; rcases hy with rfl; exact .inr ⟨rfl, rfl⟩
  case hk => rfl
  case hnd => decide
  case hcdn => decide
  case hco => rfl
  case hgen => rfl
  case hvars =>
    intro L vb hv'
    simp only [List.mem_cons, List.not_mem_nil, or_false] at hv'
    rcases hv' with rfl
    exact ⟨v₁, .inr ⟨rfl, rfl⟩, hv₁⟩
  case h =>
    intro L Γ H
    have ascii : (("abcdef" : Str).cps.all fun c => decide (c < 128)) = true := by decide +kernel
    have nolim : ∀ {vbs : List Vb} {Γ : Gm}, H.fam vbs Γ → (Γ.rd []).h₀.NoLimit := fun {vbs Γ} h => by have e : (Γ.rd []).h₀ = s.heap := h.h₀; rw [e]; exact (T.keeps hx).nolimit
    have hjl : (chars "abcdef").length ≤ sizeLine := by rw [show (chars "abcdef").length = 6 from jobs6_len, sz]; decide
    refine hr_cons (hs_setX H (ex_one (R := RDict (PySem.strKind PySem.Challenge.rw_mr0282_02.prog w) RInt) (a := rowN ah 0) (ev_cu (cu_dict (kf := fun j : Str => j) (f := fun j : Str => W ah 0 j) iskS (nolim H) hh (evi_str hh ascii ev_str) (stat_of H.cs rfl (by decide)) (bnd_local rfl) (fun j hj => ev_name (R := RStr) (a := j) (by tb_rel)) (fun j hj => ev_eq (ev_if (c := !(ah j).isEmpty) (x := (0 : Int)) (y := 1) (et_list (Ev.r (ev_ditem iskS (ev_name (R := RDict (PySem.strKind PySem.Challenge.rw_mr0282_02.prog w) (RList RStr)) (a := kvs) (by tb_rel)) (ev_name (R := RStr) (a := j) (by tb_rel)) (hk j hj))) (by have := hl j hj; rw [sz]; omega)) (fun _ => ev_int) (fun _ => ev_int)) ?w0) hjl (by rw [List.map_id']; exact jobs6_nodup)) (fun _ => rfl))) ⟨.inl rfl, by decide⟩) ?_
    case w0 =>
      show _ = if ah j = [] then 1 else 0
      cases q : ah j <;> simp
    rintro Γ₁ _ ⟨o, H1, l, rfl, rfl⟩
    refine hr_cons (hs_for (mv := []) (fun i Γ' r => H.fam [⟨"ahead", _, RDict (PySem.strKind PySem.Challenge.rw_mr0282_02.prog w) (RList RStr), kvs⟩, ⟨"rows", Value, RIs, .ref l⟩] Γ' ∧ r = [MutL l (RDict (PySem.strKind PySem.Challenge.rw_mr0282_02.prog w) RInt) (rowsN ah (i + 1))]) (evi_range1 (a := 5) hh (Bt.fn B H1 (by tb_start) (by tb_start)) ev_int (by decide) (by decide)) itR_mono forall_nil ⟨H1.sub (by ktr_rel), rfl⟩ ?turn) ?rest
    case rest =>
      rintro Γ₂ _ ⟨H2, rfl⟩
      refine hr_freeze (x := "rows") (by tb_rel) ?_
      exact hr_return (ev_name (R := RList (RDict (PySem.strKind PySem.Challenge.rw_mr0282_02.prog w) RInt)) (a := rowsN ah 6) set_self)
    case turn =>
      rintro i y hy Γ₂ _ ⟨H2, rfl⟩
      (have zz := irange_get hy; refine and2 zz ?_; try clear zz; rintro hi rfl)
      replace hi : i < 5 := hi
      refine turn_nameI H2 ⟨.inl rfl, by decide⟩ fun Γ₃ H3 => ?_
      refine ht_cons (hs_setS H3 (es_last (R := RDict (PySem.strKind PySem.Challenge.rw_mr0282_02.prog w) RInt) (xs := rowsN ah (i + 1)) (a := rowN ah i) (by tb_rel) (ev_neg (a := 1) ev_int) rowsN_last (by rw [rowsN_len, sz]; omega)) ⟨.inr ⟨rfl, _, rfl⟩, by decide⟩) ?_
      rintro Γ₄ _ ⟨H4, rfl⟩
      refine ht_cons (hs_append (mv := []) (R := RDict (PySem.strKind PySem.Challenge.rw_mr0282_02.prog w) RInt) (a := rowN ah (i + 1)) (ev_cu (cu_dict (kf := fun j : Str => j) (f := fun j : Str => W ah (i + 1) j) iskS (nolim H4) hh (evi_str hh ascii ev_str) (stat_of H4.cs rfl (by decide)) (bnd_local rfl) (fun j hj => ev_name (R := RStr) (a := j) (by tb_rel)) (fun j hj => ev_sum (xs := (ah j).map (W ah i)) hh (Bt.cfn (mv := []) B H4 (by tb_start) (by tb_start)) (Ev.r (ev_lmap (R := RInt) (f := W ah i) hh (evi_list hh (ev_ditem iskS (ev_name (R := RDict (PySem.strKind PySem.Challenge.rw_mr0282_02.prog w) (RList RStr)) (a := kvs) (by tb_rel)) (ev_name (R := RStr) (a := j) (by tb_rel)) (hk j hj))) (stat_c rfl (by decide)) (bnd_local rfl) (fun o ho => ev_ditem iskS (ev_name (R := RDict (PySem.strKind PySem.Challenge.rw_mr0282_02.prog w) RInt) (a := rowN ah i) (by tb_rel)) (ev_name (R := RStr) (a := o) (by tb_rel)) (dgetm (hm j hj o ho))) (by have := hl j hj; rw [sz]; omega)))) hjl (by rw [List.map_id']; exact jobs6_nodup)) (fun _ => rfl)) forall_nil (by rw [rowsN_len, sz]; omega) (by tb_rel) rfl) ?_
      rintro Γ₅ _ ⟨e5, rfl⟩
      rw [e5]
      refine ht_nil ⟨H4.sub (by ktr_rel), ?_⟩
      rw [← rowsN_succ]
end
end
section
section
theorem rules_Wys : True := by
  k_with_none
  (k_with "omega" => lia)
  (k_with "k_room" => ktr_room)
  (k_with "k_all" => first | exact ne_of_allLt (by assumption) | k_asm | ((with_reducible show ∀ p ∈ setL _ _ _, _); refine all_setL ?_; k_all))
  (k_with "k_ne" => first | assumption | exact Ne.symm (by assumption) | exact ne_of_lt_mem (by assumption) (by assumption) | exact ne_of_lt_mem' (by assumption) (by assumption))
  (k_with "k_mem" => first | with_reducible exact List.mem_cons_self | ((with_reducible refine' List.mem_cons_of_mem _ ?_); k_mem))
  (k_with "k_mem" => ((with_reducible refine' memG ?_); first | exact mem_setL_self (by first | with_reducible assumption | k_mem) | exact memS (by first | with_reducible assumption | k_mem) (by k_ne)))
  (k_with "k_upd" => exact upd_setL (by assumption) (by k_mem))
  (k_with "k_upd" => ((with_reducible show Upd _ _ _ (setL _ _ _) _); exact upd_setL (by first | exact setL_nodup (by assumption) | exact setL_nodup (setL_nodup (by assumption)) | exact setL_nodup (setL_nodup (setL_nodup (by assumption))) | exact setL_nodup (setL_nodup (setL_nodup (setL_nodup (by assumption))))) (by k_mem)))
  (k_with "k_updF" => exact updF_setL (by assumption) (by k_mem))
  (k_with "k_updF" => ((with_reducible show UpdF _ _ (setL _ _ _) _); exact updF_setL (by first | exact setL_nodup (by assumption) | exact setL_nodup (setL_nodup (by assumption)) | exact setL_nodup (setL_nodup (setL_nodup (by assumption))) | exact setL_nodup (setL_nodup (setL_nodup (setL_nodup (by assumption))))) (by k_mem)))
  (k_with "getMethod ref" => (k_here; (with_reducible show wpAny _ _ (getMethod (Value.ref _) (Str.ofString "get") _) _ _ _); k_dflt (refine kdg_method (knd := PySem.strKind _ _) (by k_asm) (by k_mem) (by k_asm) ?_)))
  (k_with "call builtin:dict.get" => (k_here; k_dflt (refine kdg_get1 (knd := PySem.strKind _ _) (by k_asm) (by k_mem) (by k_asm) (by k_asm) (strKind_is _ _ _ _) _ (by k_asm) ?_); (try dsimp only [Option.getD])))
  (k_with "setItem ref str" => (k_here; k_dflt (refine' kda_set (knd := PySem.strKind _ _) ?zzF ?zzN ?zzU ?zzd (strKind_is _ _ _ _) ?zzz ?_; (case zzF => k_asm); (case zzN => k_asm); (case zzU => k_updF); (case zzd => k_asm); (case zzz => k_asm)); intro zh zo zF zN zd; (try dsimp only at zN)))
  (k_with "call builtin:len" => (k_here; (with_reducible show wpAny _ _ (call (Value.builtin "len") [Value.ref _]) _ _ _); k_dflt (first | (refine' len_tupN ?zzk1 ?zzk2 ?zzk3 ?_; (case zzk1 => k_asm); (case zzk2 => k_mem); (case zzk3 => assumption)) | (refine' len_listN ?zzk1 ?zzk2 ?zzk3 ?_; (case zzk1 => k_asm); (case zzk2 => k_mem); (case zzk3 => assumption)))))
  (k_with "call builtin:list.append" => (k_here; (with_reducible show wpAny _ _ (call (Value.builtin _) [Value.ref _, _]) _ _ _); k_dflt (refine' append_K ?zzk1 ?zzk2 ?zzk3 ?_ ?zzz; (case zzk1 => k_asm); (case zzk2 => k_asm); (case zzk3 => k_upd); (case zzz => first | assumption | size_fits); k_whole); intro zh zF zN; (try k_sweep)))
  (k_with "call type:bool" => (k_here; (with_reducible show wpAny _ _ (call _ [Value.ref _]) _ _ _); k_dflt (refine' bool_listN ?zzk1 ?zzk2 ?zzk3 ?_; (case zzk1 => k_asm); (case zzk2 => k_mem); (case zzk3 => assumption))))
  (k_with "call type:tuple" => (k_here; (with_reducible show wpAny _ _ (call (Value.type _) [Value.ref _]) _ _ _); k_dflt (refine' tuple_ofListN ?zzk1 ?zzk2 ?zzk3 ?zzk4 ?_; (case zzk1 => k_asm); (case zzk2 => k_asm); (case zzk3 => k_mem); (case zzk4 => assumption); k_whole); intro D' h' F' N' l1; (try k_lt l1); (try k_sweep)))
  (k_with "call type:list" => (k_here; (with_reducible show wpAny _ _ (call (Value.type _) [Value.ref _]) _ _ _); k_dflt (refine' list_ofTupN ?zzk1 ?zzk2 ?zzk3 ?zzk4 ?_; (case zzk1 => k_asm); (case zzk2 => k_asm); (case zzk3 => k_mem); (case zzk4 => assumption); k_whole); intro D' c' h' F' N' l1; (try k_lt l1); (try k_sweep)))
  (k_with "call builtin:list.clear" => (k_here; (with_reducible show wpAny _ _ (call (Value.builtin _) [Value.ref _]) _ _ _); k_dflt (refine' clear_listN ?zzk1 ?zzk2 ?zzk3 ?zzk4 ?_; (case zzk1 => k_asm); (case zzk2 => k_asm); (case zzk3 => k_updF); (case zzk4 => assumption); k_whole); intro zh zn zF zN; (try dsimp only at zN); (try k_sweep)))
  (k_with "subscriptTail" => (k_here; (with_reducible show wpAny _ _ (subscriptTail _ _ (Value.ref _) (Value.str _ _)) _ _ _); k_dflt (refine' kda_item (knd := PySem.strKind _ _) ?zzk1 ?zzk2 ?zzk3 (strKind_is _ _ _ _) ?zzk5 ?_ ?zzk7 ?zzk8; (case zzk1 => k_asm); (case zzk2 => k_mem); (case zzk3 => k_asm); (case zzk5 => k_asm); (case zzk7 => with_unfolding_all rfl); (case zzk8 => intro _; with_unfolding_all rfl); k_whole)))
  (k_with "tb_start" => first | decide | (dsimp only [Gm.set, Gm.rd, Γc, btab]; decide))
  (k_with "tb_rel" => first | with_reducible exact List.mem_cons_self | with_reducible exact set_self | (with_reducible refine List.mem_cons_of_mem _ ?_; tb_rel) | (with_reducible refine f_mem ?_ (by dsimp only; decide); tb_rel) | (with_reducible refine set_ne ?_ (by dsimp only; decide); tb_rel) | (with_reducible refine rd_mem ?_; tb_rel) | (with_reducible refine rd_mmem ?_; tb_rel) | (with_reducible refine c_own ?_; tb_rel) | (with_reducible refine c_up ?_ (by dsimp only; decide); tb_rel) | (with_reducible refine c_mup ?_ (by dsimp only; decide); tb_rel) | (with_reducible refine ini_mem (by assumption) ?_; tb_rel))
  (k_with "ktr_rel" => first | exact forall_nil | (refine forall_cons ?_ ?_; (first | tb_rel | skip); (first | ktr_rel | skip)))
  trivial
def wval (ah : Str → List Str) (acc : List (Str × Int)) (j : Str) : Int := if (!(ah j).isEmpty) = true then 256 * ((ah j).map fun o => (dget acc o).getD 0).sum else 1
def waysL (ah : Str → List Str) (l : List Str) : List (Str × Int) := l.foldl (fun acc j => dput acc j (wval ah acc j)) []
theorem waysL_snoc {ah : Str → List Str} {l : List Str} {j : Str} : waysL ah (l ++ [j]) = dput (waysL ah l) j (wval ah (waysL ah l) j) := by unfold waysL; rw [List.foldl_append]; rfl
theorem waysL_len {ah : Str → List Str} : ∀ {l : List Str}, (waysL ah l).length ≤ l.length := by
  intro l
  have key : ∀ (l : List Str) (acc : List (Str × Int)), (l.foldl (fun acc j => dput acc j (wval ah acc j)) acc).length ≤ acc.length + l.length := by
    intro l
    induction l with
    | nil => intro acc; exact Nat.le_refl _
    | cons a r ih =>
      intro acc
      rw [List.foldl_cons, List.length_cons]
      have := ih (dput acc a (wval ah acc a))
      have := dput_len (xs := acc) (k := a) (a := wval ah acc a)
      omega
  have := key l []
  rw [List.length_nil, Nat.zero_add] at this
  exact this
theorem ways_spec {w : World} {p : Program} {loose : List Str} {mean : ExcName → Option Value} {mg mb : Str → Option Value} {h₀ : Heap} {A : Around} {s : Shared} {Z : List Addr} {v₁ v₂ : Value} {ah : Str → List Str} {kvs : List (Str × List Str)} {rs : List (List Str)}
    (T : Top p loose mean mg mb h₀) (hx : ∀ b o, h₀.get? b = some o → s.heap.get? b = some o) (hh : A.handled = none) (hd : A.depth < 900) (hZ : ∀ z ∈ Z, ∃ o, s.heap.get? z = some o) (hv₁ : (RList (RList RStr)).rel rs (hid Z s.heap) v₁) (hv₂ : (RDict (PySem.strKind PySem.Challenge.rw_mr0282_02.prog w) (RList RStr)).rel kvs (hid Z s.heap) v₂)
    (hk : ∀ j ∈ jobs6, dget kvs j = some (ah j)) (hl : ∀ j ∈ jobs6, (ah j).length ≤ 100) (hr : ∀ r ∈ rs, ∀ j ∈ r, j ∈ jobs6) (hrl : rs.flatten.length ≤ 100)
    (hb : ∀ pre j post, rs.flatten = pre ++ j :: post → ((ah j).map fun o => (dget (waysL ah pre) o).getD 0).sum.natAbs < 2 ^ 200) :
    (Mine.hd.heap_1 w.params).In h₀ → wpAny (model PySem.Challenge.rw_mr0282_02.prog w) A (call (.ref 170) [v₁, v₂]) (fun r s' => Kp s s' ∧ (RDict (PySem.strKind PySem.Challenge.rw_mr0282_02.prog w) RInt).rel (waysL ah rs.flatten) (hid Z s'.heap) r) NoExc s := by
  k_fill
  intro X
  have B : Bt mg mb := bt_of T X rfl
  have sz : sizeLine = 16777216 := rfl
  refine' pfn_K (vars := [⟨"rounds", _, RList (RList RStr), rs⟩, ⟨"ahead", _, RDict (PySem.strKind PySem.Challenge.rw_mr0282_02.prog w) (RList RStr), kvs⟩]) (binds := [("rounds", v₁), ("ahead", v₂)]) X T hx ?ho ?hcd ?hroom ?hbind ?hkind ?hk ?hnd ?hcdn hZ ?hvars ?h ?hco ?hgen
  case ho => k_is
  case hcd => k_is
  case hroom => have : recursionLimit = 1000 := rfl; omega
  case hbind => rfl
  case hkind => intro n y hy; simp only [List.mem_cons, List.not_mem_nil, or_false] at hy; rcases hy with rfl | rfl <;> exact .inl rfl
  case hk => rfl
  case hnd => decide
  case hcdn => decide
  case hco => rfl
  case hgen => rfl
  case hvars =>
    intro L vb hv'
    simp only [List.mem_cons, List.not_mem_nil, or_false] at hv'
    rcases hv' with rfl | rfl
    · exact ⟨v₁, .inl ⟨rfl, rfl⟩, hv₁⟩
    · exact ⟨v₂, .inl ⟨rfl, rfl⟩, hv₂⟩
  case h =>
    intro L Γ H
    have nolim : H.h₀ = H.h₀ → Γ.h₀.NoLimit := fun _ => by have e : Γ.h₀ = s.heap := H.h₀; rw [e]; exact (T.keeps hx).nolimit
    refine hr_cons (hs_newD (PySem.strKind PySem.Challenge.rw_mr0282_02.prog w) RInt H (nolim rfl) ⟨.inr ⟨rfl, _, rfl⟩, by decide⟩) ?_
    rintro Γ₁ _ ⟨d, H1, rfl⟩
    refine hr_cons (hs_for (mv := []) (fun i Γ' r => H.fam [⟨"ahead", _, RDict (PySem.strKind PySem.Challenge.rw_mr0282_02.prog w) (RList RStr), kvs⟩, ⟨"ways", Value, RIs, .ref d⟩] Γ' ∧ r = [MutD (PySem.strKind PySem.Challenge.rw_mr0282_02.prog w) d RInt (waysL ah (rs.take i).flatten)]) (evi_list hh (ev_name (R := RList (RList RStr)) (a := rs) (by tb_rel))) itR_mono forall_nil ⟨H1.sub (by ktr_rel), rfl⟩ ?turn) ?rest
    case rest =>
      rintro Γ₂ _ ⟨H2, rfl⟩
      rw [List.take_length]
      refine hr_freezeD (x := "ways") (by tb_rel) ?_
      exact hr_return (ev_name (R := RDict (PySem.strKind PySem.Challenge.rw_mr0282_02.prog w) RInt) (a := waysL ah rs.flatten) set_self)
    case turn =>
      rintro i row hi Γ₂ _ ⟨H2, rfl⟩
      have hrow : row ∈ rs := List.mem_of_getElem? hi
      refine turn_nameI H2 ⟨.inl rfl, by decide⟩ fun Γ₃ H3 => ?_
      have hfl : (rs.take (i + 1)).flatten = (rs.take i).flatten ++ row := by
        rw [List.take_add_one, hi, List.flatten_append]; simp
      refine ht_cons (hs_for (mv := []) (fun k Γ' r => H.fam [⟨"ahead", _, RDict (PySem.strKind PySem.Challenge.rw_mr0282_02.prog w) (RList RStr), kvs⟩, ⟨"ways", Value, RIs, .ref d⟩] Γ' ∧ r = [MutD (PySem.strKind PySem.Challenge.rw_mr0282_02.prog w) d RInt (waysL ah ((rs.take i).flatten ++ row.take k))]) (evi_list hh (ev_name (R := RList RStr) (a := row) (by tb_rel))) itR_mono forall_nil ⟨H3.sub (by ktr_rel), by rw [List.take_zero, List.append_nil]⟩ ?turn2) ?rest2
      case rest2 =>
        rintro Γ₄ _ ⟨H4, rfl⟩
        rw [List.take_length, ← hfl]
        exact ht_nil ⟨H4, rfl⟩
      case turn2 =>
        rintro k j hj Γ₄ _ ⟨H4, rfl⟩
        have hjr : j ∈ row := List.mem_of_getElem? hj
        have hj6 : j ∈ jobs6 := hr row hrow j hjr
        have hkl : k < row.length := (List.getElem?_eq_some_iff.mp hj).1
        have htk : row.take (k + 1) = row.take k ++ [j] := by rw [List.take_add_one, hj]; rfl
        have hsplit : rs.flatten = ((rs.take i).flatten ++ row.take k) ++ j :: (row.drop (k + 1) ++ (rs.drop (i + 1)).flatten) := by
          have e1 : rs.flatten = (rs.take (i + 1)).flatten ++ (rs.drop (i + 1)).flatten := by rw [← List.flatten_append, List.take_append_drop]
          have e2 : row = row.take k ++ j :: row.drop (k + 1) := by
            have := List.take_append_drop k row
            rw [List.drop_eq_getElem_cons hkl, (List.getElem?_eq_some_iff.mp hj).2] at this
            exact this.symm
          rw [e1, hfl]
          conv => lhs; rw [e2]
          simp
        have hbj := hb _ _ _ hsplit
        have hal : (waysL ah ((rs.take i).flatten ++ row.take k)).length ≤ 100 := by
          have h1 := waysL_len (ah := ah) (l := (rs.take i).flatten ++ row.take k)
          have h2 := congrArg List.length hsplit
          rw [List.length_append] at h2
          omega
        generalize hpre : (rs.take i).flatten ++ row.take k = pre at hbj hal ⊢
        refine turn_nameI H4 ⟨.inl rfl, by decide⟩ fun Γ₅ H5 => ?_
        refine ht_cons (hs_setD (x := "ways") (R := RInt) (T := RStr) (q := j) (a := wval ah (waysL ah pre) j) iskS
          (ev_if (c := !(ah j).isEmpty) (x := 256 * ((ah j).map fun o => (dget (waysL ah pre) o).getD 0).sum) (y := 1) (et_list (Ev.r (ev_ditem iskS (ev_name (R := RDict (PySem.strKind PySem.Challenge.rw_mr0282_02.prog w) (RList RStr)) (a := kvs) (by tb_rel)) (ev_name (R := RStr) (a := j) (by tb_rel)) (hk j hj6))) (by have := hl j hj6; rw [sz]; omega)) (fun _ => ev_mul ev_int (ev_sum (xs := (ah j).map fun o => (dget (waysL ah pre) o).getD 0) hh (Bt.fn B H5 (by tb_start) (by tb_start)) (Ev.r (ev_lmap (R := RInt) (f := fun o => (dget (waysL ah pre) o).getD 0) hh (evi_list hh (ev_ditem iskS (ev_name (R := RDict (PySem.strKind PySem.Challenge.rw_mr0282_02.prog w) (RList RStr)) (a := kvs) (by tb_rel)) (ev_name (R := RStr) (a := j) (by tb_rel)) (hk j hj6))) (stat_of H5.cs rfl (by decide)) (bnd_local rfl) (fun o ho => ev_dget2 (R := RInt) flatInt iskS (er_name (R := RDict (PySem.strKind PySem.Challenge.rw_mr0282_02.prog w) RInt) (a := waysL ah pre) (by tb_rel)) (ev_name (R := RStr) (a := o) (by tb_rel)) ev_int rfl) (by have := hl j hj6; rw [sz]; omega)))) (mulOk (by decide) hbj)) (fun _ => ev_int))
          (ev_name (R := RStr) (a := j) (by tb_rel)) (by tb_rel) (by rw [sz]; omega)) ?_
        rintro Γ₆ _ ⟨e6, rfl⟩
        rw [e6]
        refine ht_nil ⟨H5.sub (by ktr_rel), ?_⟩
        rw [htk, ← List.append_assoc, hpre, waysL_snoc]
end
end
section
section
theorem rules_Hlp : True := by
  k_with_none
  (k_with "omega" => lia)
  (k_with "k_room" => ktr_room)
  (k_with "k_all" => first | exact ne_of_allLt (by assumption) | k_asm | ((with_reducible show ∀ p ∈ setL _ _ _, _); refine all_setL ?_; k_all))
  (k_with "k_ne" => first | assumption | exact Ne.symm (by assumption) | exact ne_of_lt_mem (by assumption) (by assumption) | exact ne_of_lt_mem' (by assumption) (by assumption))
  (k_with "k_mem" => first | with_reducible exact List.mem_cons_self | ((with_reducible refine' List.mem_cons_of_mem _ ?_); k_mem))
  (k_with "k_mem" => ((with_reducible refine' memG ?_); first | exact mem_setL_self (by first | with_reducible assumption | k_mem) | exact memS (by first | with_reducible assumption | k_mem) (by k_ne)))
  (k_with "k_upd" => exact upd_setL (by assumption) (by k_mem))
  (k_with "k_upd" => ((with_reducible show Upd _ _ _ (setL _ _ _) _); exact upd_setL (by first | exact setL_nodup (by assumption) | exact setL_nodup (setL_nodup (by assumption)) | exact setL_nodup (setL_nodup (setL_nodup (by assumption))) | exact setL_nodup (setL_nodup (setL_nodup (setL_nodup (by assumption))))) (by k_mem)))
  (k_with "k_updF" => exact updF_setL (by assumption) (by k_mem))
  (k_with "k_updF" => ((with_reducible show UpdF _ _ (setL _ _ _) _); exact updF_setL (by first | exact setL_nodup (by assumption) | exact setL_nodup (setL_nodup (by assumption)) | exact setL_nodup (setL_nodup (setL_nodup (by assumption))) | exact setL_nodup (setL_nodup (setL_nodup (setL_nodup (by assumption))))) (by k_mem)))
  (k_with "getMethod ref" => (k_here; (with_reducible show wpAny _ _ (getMethod (Value.ref _) (Str.ofString "get") _) _ _ _); k_dflt (refine kdg_method (knd := PySem.strKind _ _) (by k_asm) (by k_mem) (by k_asm) ?_)))
  (k_with "call builtin:dict.get" => (k_here; k_dflt (refine kdg_get1 (knd := PySem.strKind _ _) (by k_asm) (by k_mem) (by k_asm) (by k_asm) (strKind_is _ _ _ _) _ (by k_asm) ?_); (try dsimp only [Option.getD])))
  (k_with "setItem ref str" => (k_here; k_dflt (refine' kda_set (knd := PySem.strKind _ _) ?zzF ?zzN ?zzU ?zzd (strKind_is _ _ _ _) ?zzz ?_; (case zzF => k_asm); (case zzN => k_asm); (case zzU => k_updF); (case zzd => k_asm); (case zzz => k_asm)); intro zh zo zF zN zd; (try dsimp only at zN)))
  (k_with "call builtin:len" => (k_here; (with_reducible show wpAny _ _ (call (Value.builtin "len") [Value.ref _]) _ _ _); k_dflt (first | (refine' len_tupN ?zzk1 ?zzk2 ?zzk3 ?_; (case zzk1 => k_asm); (case zzk2 => k_mem); (case zzk3 => assumption)) | (refine' len_listN ?zzk1 ?zzk2 ?zzk3 ?_; (case zzk1 => k_asm); (case zzk2 => k_mem); (case zzk3 => assumption)))))
  (k_with "call builtin:list.append" => (k_here; (with_reducible show wpAny _ _ (call (Value.builtin _) [Value.ref _, _]) _ _ _); k_dflt (refine' append_K ?zzk1 ?zzk2 ?zzk3 ?_ ?zzz; (case zzk1 => k_asm); (case zzk2 => k_asm); (case zzk3 => k_upd); (case zzz => first | assumption | size_fits); k_whole); intro zh zF zN; (try k_sweep)))
  (k_with "call type:bool" => (k_here; (with_reducible show wpAny _ _ (call _ [Value.ref _]) _ _ _); k_dflt (refine' bool_listN ?zzk1 ?zzk2 ?zzk3 ?_; (case zzk1 => k_asm); (case zzk2 => k_mem); (case zzk3 => assumption))))
  (k_with "call type:tuple" => (k_here; (with_reducible show wpAny _ _ (call (Value.type _) [Value.ref _]) _ _ _); k_dflt (refine' tuple_ofListN ?zzk1 ?zzk2 ?zzk3 ?zzk4 ?_; (case zzk1 => k_asm); (case zzk2 => k_asm); (case zzk3 => k_mem); (case zzk4 => assumption); k_whole); intro D' h' F' N' l1; (try k_lt l1); (try k_sweep)))
  (k_with "call type:list" => (k_here; (with_reducible show wpAny _ _ (call (Value.type _) [Value.ref _]) _ _ _); k_dflt (refine' list_ofTupN ?zzk1 ?zzk2 ?zzk3 ?zzk4 ?_; (case zzk1 => k_asm); (case zzk2 => k_asm); (case zzk3 => k_mem); (case zzk4 => assumption); k_whole); intro D' c' h' F' N' l1; (try k_lt l1); (try k_sweep)))
  (k_with "call builtin:list.clear" => (k_here; (with_reducible show wpAny _ _ (call (Value.builtin _) [Value.ref _]) _ _ _); k_dflt (refine' clear_listN ?zzk1 ?zzk2 ?zzk3 ?zzk4 ?_; (case zzk1 => k_asm); (case zzk2 => k_asm); (case zzk3 => k_updF); (case zzk4 => assumption); k_whole); intro zh zn zF zN; (try dsimp only at zN); (try k_sweep)))
  (k_with "subscriptTail" => (k_here; (with_reducible show wpAny _ _ (subscriptTail _ _ (Value.ref _) (Value.str _ _)) _ _ _); k_dflt (refine' kda_item (knd := PySem.strKind _ _) ?zzk1 ?zzk2 ?zzk3 (strKind_is _ _ _ _) ?zzk5 ?_ ?zzk7 ?zzk8; (case zzk1 => k_asm); (case zzk2 => k_mem); (case zzk3 => k_asm); (case zzk5 => k_asm); (case zzk7 => with_unfolding_all rfl); (case zzk8 => intro _; with_unfolding_all rfl); k_whole)))
  (k_with "tb_start" => first | decide | (dsimp only [Gm.set, Gm.rd, Γc, btab]; decide))
  (k_with "tb_rel" => first | with_reducible exact List.mem_cons_self | with_reducible exact set_self | (with_reducible refine List.mem_cons_of_mem _ ?_; tb_rel) | (with_reducible refine f_mem ?_ (by dsimp only; decide); tb_rel) | (with_reducible refine set_ne ?_ (by dsimp only; decide); tb_rel) | (with_reducible refine rd_mem ?_; tb_rel) | (with_reducible refine rd_mmem ?_; tb_rel) | (with_reducible refine c_own ?_; tb_rel) | (with_reducible refine c_up ?_ (by dsimp only; decide); tb_rel) | (with_reducible refine c_mup ?_ (by dsimp only; decide); tb_rel) | (with_reducible refine ini_mem (by assumption) ?_; tb_rel))
  (k_with "ktr_rel" => first | exact forall_nil | (refine forall_cons ?_ ?_; (first | tb_rel | skip); (first | ktr_rel | skip)))
  trivial
theorem Cx.old {Γ : Gm} {env : Env} {s : Shared} {Z : List Addr} (c : Cx Γ env s Z) : ∀ b o, Γ.h₀.get? b = some o → s.heap.get? b = some o := fun b o e => by
  obtain ⟨m, F⟩ := c.fr
  exact F.keep b o e
theorem isdef_of {K : Frag} {Γ : Gm} {f : Addr} {oc : Value} {od : Option Addr} {fd : FuncData} {osl : Array (Option Value)} (X : K.In Γ.h₀) (ho : K.lookup f = some ⟨oc, od, .func fd, osl⟩) : IsDef Γ f := fun env s Z c => ⟨_, fd, c.old _ _ (X _ _ ho), rfl⟩
section
variable {mg mb : Str → Option Value} {scope : Scope} {h₀ : Heap} {vbs mv : List Vb} {Γ : Gm}
theorem Ini.gfn {x : Str} {v : Value} (H : Ini mg mb scope h₀ vbs Γ) (e : mg x = some v) (hm : x ∈ gsOf scope) : GFn (Γ.rd mv) x v := ⟨by show x ∈ Γ.gs; rw [H.gs]; exact hm, by show Γ.mg x = _; rw [H.mg]; exact e⟩
theorem gfn0 {x : Str} {v : Value} (h : GFn (Γ.rd mv) x v) : GFn Γ x v := ⟨h.m, h.g⟩
theorem Ini.old {env : Env} {s : Shared} {Z : List Addr} (H : Ini mg mb scope h₀ vbs Γ) (c : Cx (Γ.rd mv) env s Z) : ∀ b o, h₀.get? b = some o → s.heap.get? b = some o := fun b o e => c.old b o (by show Γ.h₀.get? b = _; rw [H.h₀]; exact e)
theorem Ini.isdef {K : Frag} {f : Addr} {oc : Value} {od : Option Addr} {fd : FuncData} {osl : Array (Option Value)} (H : Ini mg mb scope h₀ vbs Γ) (X : K.In h₀) (ho : K.lookup f = some ⟨oc, od, .func fd, osl⟩) : IsDef (Γ.rd mv) f := isdef_of (K := K) (by show K.In Γ.h₀; rw [H.h₀]; exact X) ho
end
theorem small1000 {n : Nat} (h : n < 16 ^ 30) : n < 16 ^ 1000 := Nat.lt_of_lt_of_le h (Nat.pow_le_pow_right (by decide) (by decide))
theorem enumd_idx {α : Type} {l : List α} {p : Int × α} (h : p ∈ enumd l) : 0 ≤ p.1 ∧ p.1 < l.length ∧ p.2 ∈ l := by
  obtain ⟨i, hi⟩ := List.mem_iff_getElem?.mp h
  obtain ⟨h1, h2⟩ := enumd_get hi
  have := (List.getElem?_eq_some_iff.mp h1).1
  exact ⟨by omega, by omega, List.mem_of_getElem? h1⟩
end
end
section
section
theorem rules_Tld : True := by
  k_with_none
  (k_with "omega" => lia)
  (k_with "k_room" => ktr_room)
  (k_with "k_all" => first | exact ne_of_allLt (by assumption) | k_asm | ((with_reducible show ∀ p ∈ setL _ _ _, _); refine all_setL ?_; k_all))
  (k_with "k_ne" => first | assumption | exact Ne.symm (by assumption) | exact ne_of_lt_mem (by assumption) (by assumption) | exact ne_of_lt_mem' (by assumption) (by assumption))
  (k_with "k_mem" => first | with_reducible exact List.mem_cons_self | ((with_reducible refine' List.mem_cons_of_mem _ ?_); k_mem))
  (k_with "k_mem" => ((with_reducible refine' memG ?_); first | exact mem_setL_self (by first | with_reducible assumption | k_mem) | exact memS (by first | with_reducible assumption | k_mem) (by k_ne)))
  (k_with "k_upd" => exact upd_setL (by assumption) (by k_mem))
  (k_with "k_upd" => ((with_reducible show Upd _ _ _ (setL _ _ _) _); exact upd_setL (by first | exact setL_nodup (by assumption) | exact setL_nodup (setL_nodup (by assumption)) | exact setL_nodup (setL_nodup (setL_nodup (by assumption))) | exact setL_nodup (setL_nodup (setL_nodup (setL_nodup (by assumption))))) (by k_mem)))
  (k_with "k_updF" => exact updF_setL (by assumption) (by k_mem))
  (k_with "k_updF" => ((with_reducible show UpdF _ _ (setL _ _ _) _); exact updF_setL (by first | exact setL_nodup (by assumption) | exact setL_nodup (setL_nodup (by assumption)) | exact setL_nodup (setL_nodup (setL_nodup (by assumption))) | exact setL_nodup (setL_nodup (setL_nodup (setL_nodup (by assumption))))) (by k_mem)))
  (k_with "getMethod ref" => (k_here; (with_reducible show wpAny _ _ (getMethod (Value.ref _) (Str.ofString "get") _) _ _ _); k_dflt (refine kdg_method (knd := PySem.strKind _ _) (by k_asm) (by k_mem) (by k_asm) ?_)))
  (k_with "call builtin:dict.get" => (k_here; k_dflt (refine kdg_get1 (knd := PySem.strKind _ _) (by k_asm) (by k_mem) (by k_asm) (by k_asm) (strKind_is _ _ _ _) _ (by k_asm) ?_); (try dsimp only [Option.getD])))
  (k_with "setItem ref str" => (k_here; k_dflt (refine' kda_set (knd := PySem.strKind _ _) ?zzF ?zzN ?zzU ?zzd (strKind_is _ _ _ _) ?zzz ?_; (case zzF => k_asm); (case zzN => k_asm); (case zzU => k_updF); (case zzd => k_asm); (case zzz => k_asm)); intro zh zo zF zN zd; (try dsimp only at zN)))
  (k_with "call builtin:len" => (k_here; (with_reducible show wpAny _ _ (call (Value.builtin "len") [Value.ref _]) _ _ _); k_dflt (first | (refine' len_tupN ?zzk1 ?zzk2 ?zzk3 ?_; (case zzk1 => k_asm); (case zzk2 => k_mem); (case zzk3 => assumption)) | (refine' len_listN ?zzk1 ?zzk2 ?zzk3 ?_; (case zzk1 => k_asm); (case zzk2 => k_mem); (case zzk3 => assumption)))))
  (k_with "call builtin:list.append" => (k_here; (with_reducible show wpAny _ _ (call (Value.builtin _) [Value.ref _, _]) _ _ _); k_dflt (refine' append_K ?zzk1 ?zzk2 ?zzk3 ?_ ?zzz; (case zzk1 => k_asm); (case zzk2 => k_asm); (case zzk3 => k_upd); (case zzz => first | assumption | size_fits); k_whole); intro zh zF zN; (try k_sweep)))
  (k_with "call type:bool" => (k_here; (with_reducible show wpAny _ _ (call _ [Value.ref _]) _ _ _); k_dflt (refine' bool_listN ?zzk1 ?zzk2 ?zzk3 ?_; (case zzk1 => k_asm); (case zzk2 => k_mem); (case zzk3 => assumption))))
  (k_with "call type:tuple" => (k_here; (with_reducible show wpAny _ _ (call (Value.type _) [Value.ref _]) _ _ _); k_dflt (refine' tuple_ofListN ?zzk1 ?zzk2 ?zzk3 ?zzk4 ?_; (case zzk1 => k_asm); (case zzk2 => k_asm); (case zzk3 => k_mem); (case zzk4 => assumption); k_whole); intro D' h' F' N' l1; (try k_lt l1); (try k_sweep)))
  (k_with "call type:list" => (k_here; (with_reducible show wpAny _ _ (call (Value.type _) [Value.ref _]) _ _ _); k_dflt (refine' list_ofTupN ?zzk1 ?zzk2 ?zzk3 ?zzk4 ?_; (case zzk1 => k_asm); (case zzk2 => k_asm); (case zzk3 => k_mem); (case zzk4 => assumption); k_whole); intro D' c' h' F' N' l1; (try k_lt l1); (try k_sweep)))
  (k_with "call builtin:list.clear" => (k_here; (with_reducible show wpAny _ _ (call (Value.builtin _) [Value.ref _]) _ _ _); k_dflt (refine' clear_listN ?zzk1 ?zzk2 ?zzk3 ?zzk4 ?_; (case zzk1 => k_asm); (case zzk2 => k_asm); (case zzk3 => k_updF); (case zzk4 => assumption); k_whole); intro zh zn zF zN; (try dsimp only at zN); (try k_sweep)))
  (k_with "subscriptTail" => (k_here; (with_reducible show wpAny _ _ (subscriptTail _ _ (Value.ref _) (Value.str _ _)) _ _ _); k_dflt (refine' kda_item (knd := PySem.strKind _ _) ?zzk1 ?zzk2 ?zzk3 (strKind_is _ _ _ _) ?zzk5 ?_ ?zzk7 ?zzk8; (case zzk1 => k_asm); (case zzk2 => k_mem); (case zzk3 => k_asm); (case zzk5 => k_asm); (case zzk7 => with_unfolding_all rfl); (case zzk8 => intro _; with_unfolding_all rfl); k_whole)))
  (k_with "tb_start" => first | decide | (dsimp only [Gm.set, Gm.rd, Γc, btab]; decide))
  (k_with "tb_rel" => first | with_reducible exact List.mem_cons_self | with_reducible exact set_self | (with_reducible refine List.mem_cons_of_mem _ ?_; tb_rel) | (with_reducible refine f_mem ?_ (by dsimp only; decide); tb_rel) | (with_reducible refine set_ne ?_ (by dsimp only; decide); tb_rel) | (with_reducible refine rd_mem ?_; tb_rel) | (with_reducible refine rd_mmem ?_; tb_rel) | (with_reducible refine c_own ?_; tb_rel) | (with_reducible refine c_up ?_ (by dsimp only; decide); tb_rel) | (with_reducible refine c_mup ?_ (by dsimp only; decide); tb_rel) | (with_reducible refine ini_mem (by assumption) ?_; tb_rel))
  (k_with "ktr_rel" => first | exact forall_nil | (refine forall_cons ?_ ?_; (first | tb_rel | skip); (first | ktr_rel | skip)))
  trivial
theorem n_small {ah : Str → List Str} {rk : Str → Nat} (D : Dag jobs6 ah rk) {j : Str} (hj : j ∈ jobs6) : 0 ≤ nOf ah j ∧ (nOf ah j).natAbs < 16 ^ 12 := by
  have w := fun k (hk : k < 6) => D.W_lt hk hj
  have q := hr_up (w 0 (by decide)) (hr_up (w 1 (by decide)) (hr_up (w 2 (by decide)) (hr_up (w 3 (by decide)) (hr_up (w 4 (by decide)) (hr_up (P := 1) (m := 0) (w 5 (by decide)) ⟨by decide, by decide⟩)))))
  exact ⟨q.2, q.1⟩
theorem told_spec {w : World} {p : Program} {loose : List Str} {mean : ExcName → Option Value} {mg mb : Str → Option Value} {h₀ : Heap} {A : Around} {s : Shared} {Z : List Addr} {v₁ v₂ v₃ : Value} {ah : Str → List Str} {rk : Str → Nat} {kvs : List (Str × List Str)} {wv : List (Str × Int)} {rs : List (List Str)}
    (T₀ : Top p loose mean mg mb h₀) (hx : ∀ b o, h₀.get? b = some o → s.heap.get? b = some o) (hh : A.handled = none) (hd : A.depth < 800) (hu : A.units + 100 < cLine) (hZ : ∀ z ∈ Z, ∃ o, s.heap.get? z = some o) (hv₁ : (RList (RList RStr)).rel rs (hid Z s.heap) v₁) (hv₂ : (RDict (PySem.strKind PySem.Challenge.rw_mr0282_02.prog w) (RList RStr)).rel kvs (hid Z s.heap) v₂) (hv₃ : (RDict (PySem.strKind PySem.Challenge.rw_mr0282_02.prog w) RInt).rel wv (hid Z s.heap) v₃)
    (D : Dag jobs6 ah rk) (hk : ∀ j ∈ jobs6, dget kvs j = some (ah j)) (hl : ∀ j ∈ jobs6, (ah j).length ≤ 100) (hr : ∀ r ∈ rs, ∀ j ∈ r, j ∈ jobs6) (hw : ∀ j ∈ jobs6, dget wv j = some (nOf ah j))
    (hln : ∀ i r, rs[i]? = some r → ∀ j ∈ r, ((ap (nOf ah j).natAbs).length + 1) / 2 = i + 1) (hs : sortS rs.flatten = jobs6) (hrl : rs.length ≤ 100) (hfl : rs.flatten.length < 64) :
    (Mine.hd.heap_1 w.params).In h₀ → wpAny (model PySem.Challenge.rw_mr0282_02.prog w) A (call (.ref 175) [v₁, v₂, v₃]) (fun r s' => Kp s s' ∧ RBool.rel true (hid Z s'.heap) r) NoExc s := by
  k_fill
  intro X₀
  have T := T₀.keeps hx
  have X := X₀.keeps hx
  clear T₀ X₀ hx
  have B : Bt mg mb := bt_of T X rfl
  have sz : sizeLine = 16777216 := rfl
  refine' pfn_K (vars := [⟨"rounds", _, RList (RList RStr), rs⟩, ⟨"ahead", _, RDict (PySem.strKind PySem.Challenge.rw_mr0282_02.prog w) (RList RStr), kvs⟩, ⟨"ways", _, RDict (PySem.strKind PySem.Challenge.rw_mr0282_02.prog w) RInt, wv⟩]) (binds := [("rounds", v₁), ("ahead", v₂), ("ways", v₃)]) X T (fun _ _ e => e) ?ho ?hcd ?hroom ?hbind ?hkind ?hk ?hnd ?hcdn hZ ?hvars ?h ?hco ?hgen
  case ho => k_is
  case hcd => k_is
  case hroom => have : recursionLimit = 1000 := rfl; omega
  case hbind => rfl
  case hkind => intro n y hy; simp only [List.mem_cons, List.not_mem_nil, or_false] at hy; rcases hy with rfl | rfl | rfl <;> exact .inl rfl
  case hk => rfl
  case hnd => decide
  case hcdn => decide
  case hco => rfl
  case hgen => rfl
  case hvars =>
    intro L vb hv'
    simp only [List.mem_cons, List.not_mem_nil, or_false] at hv'
    rcases hv' with rfl | rfl | rfl
    · exact ⟨v₁, .inl ⟨rfl, rfl⟩, hv₁⟩
    · exact ⟨v₂, .inl ⟨rfl, rfl⟩, hv₂⟩
    · exact ⟨v₃, .inl ⟨rfl, rfl⟩, hv₃⟩
  case h =>
    intro L Γ H
    have mS : mg "_law_stepped" = some (.ref 160) := mg_of X T.g (by k_is)
    have mL : mg "_law_letters" = some (.ref 165) := mg_of X T.g (by k_is)
    have mI : mg "Int2AP" = some (.ref 148) := mg_of X T.g (by k_is)
    have DS : ∀ {vbs mv : List Vb} {Γ : Gm}, H.fam vbs Γ → IsDef (Γ.rd mv) 160 := fun {vbs mv Γ} h => by refine' h.isdef X ?ho; case ho => k_is
    have DL : ∀ {vbs mv : List Vb} {Γ : Gm}, H.fam vbs Γ → IsDef (Γ.rd mv) 165 := fun {vbs mv Γ} h => by refine' h.isdef X ?ho; case ho => k_is
    have DI : ∀ {vbs mv : List Vb} {Γ : Gm}, H.fam vbs Γ → IsDef (Γ.rd mv) 148 := fun {vbs mv Γ} h => by refine' h.isdef X ?ho; case ho => k_is
    have hdp : ∀ e : Env, (A.deeper e).depth < 900 := fun e => by show A.depth + 1 < 900; omega
    have hun : ∀ e : Env, (A.deeper e).units < cLine := fun e => by show A.units + 3 < cLine; omega
    have ascii : ("abcdef" : Str).length ≤ sizeLine := by rw [sz]; decide
    refine hr_cons (hs_set (mv := []) (R := RList (RDict (PySem.strKind PySem.Challenge.rw_mr0282_02.prog w) RInt)) (a := rowsN ah 6) H (ev_fn1 (R := RDict (PySem.strKind PySem.Challenge.rw_mr0282_02.prog w) (RList RStr)) (a := kvs) (H.gfn mS (by tb_start)) (DS H) (ev_name (by tb_rel)) (fun env s' Z' v c hv => stepped_spec T (H.old c) hh (hdp _) c.zl hv hk D.mem hl X)) ⟨.inl rfl, by decide⟩ forall_nil) ?_
    rintro Γ₁ _ ⟨H1, rfl⟩
    refine hr_cons (hs_for (mv := []) (fun i Γ' r => H.fam [⟨"rounds", _, RList (RList RStr), rs⟩, ⟨"ways", _, RDict (PySem.strKind PySem.Challenge.rw_mr0282_02.prog w) RInt, wv⟩, ⟨"rows", _, RList (RDict (PySem.strKind PySem.Challenge.rw_mr0282_02.prog w) RInt), rowsN ah 6⟩] Γ' ∧ r = []) (evi_enum (R := RList RStr) (xs := rs) hh (Bt.fn B H1 (by tb_start) (by tb_start)) (ev_name (R := RList (RList RStr)) (a := rs) (by tb_rel))) itP_mono forall_nil ⟨H1.sub (by ktr_rel), rfl⟩ ?turn) ?rest
    case rest =>
      rintro Γ₂ _ ⟨H2, rfl⟩
      have hflat : (rs.flatMap fun r => r.map fun j => j) = rs.flatten := by
        rw [← List.flatMap_id]
        congr 1
        funext r
        simp
      refine hr_ret (mv := []) (ev_eq (ev_eqLS (xs := jobs6) (ys := chars "abcdef") (Ev.r (ev_eq (ev_sortedS (xs := rs.flatten) (Bt.fn B H2 (by tb_start) (by tb_start)) (Ev.r (ev_eq (ev_cu (cu_list2 (R := RStr) (xs := rs) (ys := fun r : List Str => r) (f := fun (r : List Str) (j : Str) => j) hh (evi_list (R := RList RStr) hh (ev_name (R := RList (RList RStr)) (a := rs) (by tb_rel))) (stat_of H2.cs rfl (by decide)) (bnd_local rfl) (fun r hr' => evi_list (R := RStr) hh (ev_name (R := RList RStr) (a := r) (by tb_rel))) (bnd_local rfl) (fun r vb hvb => by rw [List.mem_singleton.mp hvb]; exact ⟨by dsimp only; decide, rfl⟩) (fun r hr' j hj => ev_name (R := RStr) (a := j) (c_own (.head _))) (by rw [hflat, sz]; omega)) (fun _ => rfl)) hflat)) hfl) hs)) (Ev.r (ev_listS hh (Bt.fn B H2 (by tb_start) (by tb_start)) ev_str ascii)) (hun _)) (by simp [jobs6])) forall_nil
    case turn =>
      rintro i ⟨pi, row⟩ hi Γ₂ _ ⟨H2, rfl⟩
      refine and2 (enumd_get hi) fun hrow hpi => ?_
      dsimp only at hrow hpi
      subst hpi
      refine turn_pair hh H2 ⟨.inl rfl, by decide⟩ ⟨.inl rfl, by decide⟩ fun Γ₃ H3 => ?_
      dsimp only at H3
      refine ht_cons (hs_for (mv := []) (fun k Γ' r => H.fam [⟨"rounds", _, RList (RList RStr), rs⟩, ⟨"ways", _, RDict (PySem.strKind PySem.Challenge.rw_mr0282_02.prog w) RInt, wv⟩, ⟨"rows", _, RList (RDict (PySem.strKind PySem.Challenge.rw_mr0282_02.prog w) RInt), rowsN ah 6⟩, ⟨"place", _, RInt, (i : Int)⟩] Γ' ∧ r = []) (evi_list hh (ev_name (R := RList RStr) (a := row) (by tb_rel))) itR_mono forall_nil ⟨H3.sub (by ktr_rel), rfl⟩ ?turn2) ?rest2
      case rest2 =>
        rintro Γ₄ _ ⟨H4, rfl⟩
        exact ht_nil ⟨H4.sub (by ktr_rel), rfl⟩
      case turn2 =>
        rintro k j hj Γ₄ _ ⟨H4, rfl⟩
        have hjr : j ∈ row := List.mem_of_getElem? hj
        have hj6 : j ∈ jobs6 := hr row (List.mem_of_getElem? hrow) j hjr
        have hns := n_small D hj6
        have hlen := hln i row hrow j hjr
        have hap : (ap (nOf ah j).natAbs).length ≤ 12 := ap_len hns.2
        refine turn_nameI H4 ⟨.inr ⟨rfl, _, rfl⟩, by decide⟩ fun Γ₅ H5 => ?_
        refine ht_cons (hs_set (mv := []) (R := RByt) (a := ap (nOf ah j).natAbs) H5 (ev_fn1 (R := RInt) (a := nOf ah j) (H5.gfn mI (by tb_start)) (DI H5) (ev_ditem iskS (ev_name (R := RDict (PySem.strKind PySem.Challenge.rw_mr0282_02.prog w) RInt) (a := wv) (by tb_rel)) (ev_name (R := RStr) (a := j) (by tb_rel)) (hw j hj6)) (fun env s' Z' v c hv => ap_spec T (H5.old c) hh (hdp _) c.zl hv (small1000 (Nat.lt_of_lt_of_le hns.2 (Nat.pow_le_pow_right (by decide) (by decide)))) X)) ⟨.inl rfl, by decide⟩ forall_nil) ?_
        rintro Γ₆ _ ⟨H6, rfl⟩
        have hmap : (rowsN ah 6).map (fun r => (dget r j).getD 0) = (List.range 6).map fun k => W ah k j := by
          unfold rowsN
          rw [List.map_map]
          refine List.map_congr_left fun k _ => ?_
          show (dget (rowN ah k) j).getD 0 = _
          unfold rowN
          rw [dgetm hj6]; rfl
        refine ht_cons (hs_if (mv := []) (c := false) (P := fun Γ' r => Γ' = Γ₆ ∧ r = []) (et_eq (et_or (a := false) (b := false) (et_eq (et_nei (ev_fdiv (ev_add (ev_lenB (Bt.fn B H6 (by tb_start) (by tb_start)) (ev_name (R := RByt) (a := ap (nOf ah j).natAbs) (by tb_rel)) (by rw [sz]; omega)) (ev_int (i := 1))) (ev_int (i := 2)) (by decide) (by decide)) (ev_add (ev_name (R := RInt) (a := (i : Int)) (by tb_rel)) (ev_int (i := 1)))) ?c1) fun _ => et_eq (et_neB (ks := ap (nOf ah j).natAbs) (ls := lettersOf ((List.range 6).map fun k => W ah k j)) (ev_name (R := RByt) (a := ap (nOf ah j).natAbs) (by tb_rel)) (ev_fn1 (R := RList RInt) (a := (List.range 6).map fun k => W ah k j) (H6.gfn mL (by tb_start)) (DL H6) (ev_eq (ev_lmap (R := RInt) (f := fun r : List (Str × Int) => (dget r j).getD 0) hh (evi_list hh (ev_name (R := RList (RDict (PySem.strKind PySem.Challenge.rw_mr0282_02.prog w) RInt)) (a := rowsN ah 6) (by tb_rel))) (stat_of H6.cs rfl (by decide)) (bnd_local rfl) (fun r hr' => ev_ditem iskS (ev_name (R := RDict (PySem.strKind PySem.Challenge.rw_mr0282_02.prog w) RInt) (a := r) (by tb_rel)) (ev_name (R := RStr) (a := j) (by tb_rel)) ?c3) (by rw [rowsN_len, sz]; decide)) hmap) (fun env s' Z' v c hv => letters_spec T (H6.old c) hh (hdp _) c.zl hv (by rw [List.length_map, List.length_range]; decide) (D.digits hj6) X))) ?c2) rfl) forall_nil (fun h => nomatch h) (fun _ => ht_nil ⟨rfl, rfl⟩)) ?_
        case c1 =>
          have e1 : ((((ap (nOf ah j).natAbs).length : Int) + 1).fdiv 2) = (i : Int) + 1 := by
            rw [Int.fdiv_eq_ediv_of_nonneg _ (by decide)]
            omega
          rw [e1]; simp
        case c2 =>
          have e2 : ap (nOf ah j).natAbs = lettersOf ((List.range 6).map fun k => W ah k j) := letters_ap (D.digits hj6)
          rw [e2]; simp
        case c3 =>
          (have zz := List.mem_map.mp hr'; refine ex1 zz ?_; try clear zz; rintro k zz; refine and2 zz ?_; try clear zz; rintro _ rfl)
          unfold rowN
          rw [dgetm hj6]; rfl
        rintro Γ₇ _ ⟨e7, rfl⟩
        rw [e7]
        exact ht_nil ⟨H6.sub (by ktr_rel), rfl⟩
end
end
section
theorem calm_GetNi_2 (M : Model) (A : Around) (E : Value → Shared → Prop) (s : Shared) : wpAny M A (pure ()) (fun _ _ => True) E s := by
  w_top off
  first
  | (walk1; fail)
  | exact wpAny_pure trivial
section
section
variable {prog : Program} {w : World} {knd : KeyKind prog w Str} {cS cN : Addr} {news : Led} {σ : Srt Str}
theorem is_val {k : Str} {v : Value} (h : (PySem.strKind prog w).is k v = true) : ∃ t, v = Value.str k t := by
  first | exact Value.isInt_shape h | exact Value.isStrOf_shape h
theorem SIn.footIn (S : SIn knd cS cN news σ) {a : Addr} (ha : a ∈ σ.foot) : ∃ o, (a, o) ∈ news := by
  unfold Srt.foot at ha
  simp only [List.mem_cons, List.mem_append, List.mem_flatMap] at ha
  refine ex6 S.dict fun k1 k2 k3 k4 tp tf h2 => ?_
  refine ex1 S.n2i fun od zz => and2 zz fun h3 h4 => ?_
  rcases ha with rfl | rfl | rfl | ha | ⟨n, hn, ha⟩
  · exact ⟨_, S.inst⟩
  · exact ⟨_, h2⟩
  · exact ⟨_, h3⟩
  · cases hr : σ.rdy with
    | none => rw [hr] at ha; cases ha
    | some q =>
      obtain ⟨r, ks⟩ := q
      rw [hr] at ha
      simp only [rdyF, List.mem_singleton] at ha
      subst ha
      refine ex2 (S.rdy _ _ hr) fun vs ep zz => and2 zz fun h _ => ?_
      exact ⟨_, h⟩
  · obtain ⟨⟨v, t, _, a1⟩, a2, vs, ep, a3, _⟩ := S.nds n hn
    simp only [Nd.foot, List.mem_cons, List.not_mem_nil, or_false] at ha
    rcases ha with rfl | rfl | rfl
    · exact ⟨_, a1⟩
    · exact ⟨_, a2⟩
    · exact ⟨_, a3⟩
theorem SIn.notFoot (S : SIn knd cS cN news σ) {x : Addr} (h : AllLt x news) : x ∉ σ.foot := fun hx => by
  obtain ⟨o, ho⟩ := S.footIn hx
  exact ne_of_allLt h _ ho rfl
theorem foot_snoc (σ : Srt Str) (n : Nd Str) : ({ σ with nodes := σ.nodes ++ [n] } : Srt Str).foot = σ.foot ++ n.foot := by
  simp [Srt.foot, List.flatMap_append]
theorem valueAt_none_iff {nodes : List (Nd Str)} {k : Str} : valueAt (nodes.map fun n => (n.key, Value.ref n.ai)) k = none ↔ k ∉ nodes.map (·.key) := by
  unfold valueAt
  rw [Option.map_eq_none_iff, List.find?_eq_none]
  simp only [List.mem_map, decide_eq_true_eq]
  constructor
  · rintro h ⟨n, hn, rfl⟩
    exact h (n.key, .ref n.ai) ⟨n, hn, rfl⟩ rfl
  · rintro h x ⟨n, hn, rfl⟩ e
    exact h ⟨n, hn, e⟩
theorem valueAt_some {nodes : List (Nd Str)} {k : Str} {v : Value} (h : valueAt (nodes.map fun n => (n.key, Value.ref n.ai)) k = some v) : ∃ n ∈ nodes, n.key = k ∧ v = .ref n.ai := by
  unfold valueAt at h
  obtain ⟨kv, hf, rfl⟩ := Option.map_eq_some_iff.mp h
  have h1 := List.find?_some hf
  have h2 := List.mem_of_find?_eq_some hf
  obtain ⟨n, hn, rfl⟩ := List.mem_map.mp h2
  exact ⟨n, hn, by simpa using h1, rfl⟩
theorem node_unique {nodes : List (Nd Str)} {n n' : Nd Str} (hk : (nodes.map (·.key)).Nodup) (hn : n ∈ nodes) (hn' : n' ∈ nodes) (e : n'.key = n.key) : n' = n := by
  induction nodes with
  | nil => cases hn
  | cons x r ih =>
    rw [List.map_cons, List.nodup_cons] at hk
    rcases List.mem_cons.mp hn with hq | hq
    · rcases List.mem_cons.mp hn' with hr | hr
      · rw [hq, hr]
      · exact absurd (List.mem_map.mpr ⟨n', hr, by rw [e, hq]⟩) hk.1
    · rcases List.mem_cons.mp hn' with hr | hr
      · exact absurd (List.mem_map.mpr ⟨n, hq, by rw [← e, hr]⟩) hk.1
      · exact ih hk.2 hq hr
theorem valueAt_of {nodes : List (Nd Str)} {n : Nd Str} (hn : n ∈ nodes) (hk : (nodes.map (·.key)).Nodup) : valueAt (nodes.map fun n => (n.key, Value.ref n.ai)) n.key = some (.ref n.ai) := by
  cases h : valueAt (nodes.map fun n => (n.key, Value.ref n.ai)) n.key with
  | none => exact absurd (List.mem_map_of_mem hn) (valueAt_none_iff.mp h)
  | some v =>
    obtain ⟨n', hn', e, rfl⟩ := valueAt_some h
    rw [node_unique hk hn hn' e]
theorem stored_new {nodes : List (Nd Str)} {k : Str} {v : Value} (h : k ∉ nodes.map (·.key)) : stored (nodes.map fun n => (n.key, Value.ref n.ai)) k v = (nodes.map fun n => (n.key, Value.ref n.ai)) ++ [(k, v)] := by
  unfold stored
  rw [if_neg]
  simp only [List.any_eq_true, List.mem_map, decide_eq_true_eq]
  rintro ⟨x, ⟨n, hn, rfl⟩, e⟩
  exact h (List.mem_map.mpr ⟨n, hn, e⟩)
theorem getni_end {k : Str} {tk : Tok} {x d l : Addr} {od o' : Obj} {t : Tok} (S : SIn knd cS cN news σ) (hk : k ∉ σ.nodes.map (·.key)) (hkey : knd.is k (Value.str k tk) = true) (hm : (σ.nd, od) ∈ news)
    (hod : o'.IsDictOf knd (stored (σ.nodes.map fun n => (n.key, Value.ref n.ai)) k (.ref x))) (h1 : AllLt d news) (h2 : AllLt x news) (h3 : AllLt l news) (hdx : d < x) (hxl : x < l) :
    SIn knd cS cN ((l, W.listOf #[] 0) :: (x, niObj cN (Value.str k tk) 0 t d l) :: (d, dictOf [] 0) :: setL news σ.nd o') { σ with nodes := σ.nodes ++ [⟨k, x, d, l, 0, []⟩] } ∧
    Frm news σ.foot ((l, W.listOf #[] 0) :: (x, niObj cN (Value.str k tk) 0 t d l) :: (d, dictOf [] 0) :: setL news σ.nd o') ({ σ with nodes := σ.nodes ++ [⟨k, x, d, l, 0, []⟩] } : Srt Str).foot := by
  have nd1 : ∀ a ∈ σ.foot, a ≠ σ.nd → ∀ o, (a, o) ∈ news → (a, o) ∈ (l, W.listOf #[] 0) :: (x, niObj cN (Value.str k tk) 0 t d l) :: (d, dictOf [] 0) :: setL news σ.nd o' := fun a _ hne o ho => .tail _ (.tail _ (.tail _ (mem_setL_ne hne ho)))
  have nf := S.nodup
  have nd2 : ∀ y ∈ σ.foot.tail.tail.tail, y ≠ σ.nd := fun y hy e => by
    unfold Srt.foot at nf hy
    simp only [List.tail_cons] at hy
    rw [List.nodup_cons, List.nodup_cons, List.nodup_cons] at nf
    exact nf.2.2.1 (e ▸ hy)
  have nfl := S.notFoot h3
  have nfx := S.notFoot h2
  have nfd := S.notFoot h1
  have ns : σ.self ≠ σ.nd := fun e => by
    unfold Srt.foot at nf; rw [List.nodup_cons] at nf; exact nf.1 (by simp [e])
  have nds : σ.dself ≠ σ.nd := fun e => by
    unfold Srt.foot at nf; rw [List.nodup_cons, List.nodup_cons] at nf; exact nf.2.1 (by simp [e])
  refine ⟨⟨nd1 _ (by simp [Srt.foot]) ns _ S.inst, ?_, ⟨o', .tail _ (.tail _ (.tail _ (mem_setL_self hm))), ?_⟩, S.lo, fun n hn => ?_, fun r ks e => ?_, ?_⟩, ⟨fun p hp hF => ?_, fun a ha => ?_⟩⟩
  · refine ex6 S.dict fun k1 k2 k3 k4 tp tf h => ?_
    exact ⟨k1, k2, k3, k4, tp, tf, nd1 _ (by simp [Srt.foot]) nds _ h⟩
  · rw [stored_new hk] at hod
    simpa using hod
  · rcases List.mem_append.mp hn with hn | hn
    · refine (S.nds n hn).mono fun p hp ha => nd1 _ (mem_foot_node hn ha) (nd2 _ ?_) _ hp
      simp only [Srt.foot, List.tail_cons, List.mem_append, List.mem_flatMap]
      exact .inr ⟨n, hn, ha⟩
    · obtain rfl := List.mem_singleton.mp hn
      exact ⟨⟨_, t, hkey, .tail _ (.head _)⟩, .tail _ (.tail _ (.head _)), [], 0, .head _, trivial⟩
  · refine ex2 (S.rdy r ks e) fun vs ep zz => and2 zz fun h ka => ?_
    refine ⟨vs, ep, nd1 r ?_ (nd2 _ ?_) _ h, ka⟩
    · unfold Srt.foot; rw [show σ.rdy = _ from e]; simp [rdyF]
    · unfold Srt.foot; rw [show σ.rdy = _ from e]; simp [rdyF]
  · rw [foot_snoc, List.nodup_append]
    refine ⟨nf, ?_, fun a ha b hb => ?_⟩
    · simp only [Nd.foot, List.nodup_cons, List.mem_cons, List.not_mem_nil, or_false, not_or, List.nodup_nil, and_true, not_false_eq_true]
      exact ⟨⟨Nat.ne_of_gt hdx, Nat.ne_of_lt hxl⟩, Nat.ne_of_lt (Nat.lt_trans hdx hxl)⟩
    · simp only [Nd.foot, List.mem_cons, List.not_mem_nil, or_false] at hb
      rintro rfl
      rcases hb with rfl | rfl | rfl
      · exact nfx ha
      · exact nfd ha
      · exact nfl ha
  · exact .tail _ (.tail _ (.tail _ (mem_setL_ne (fun e => hF (by rw [e]; simp [Srt.foot])) hp)))
  · rw [foot_snoc] at ha
    rcases List.mem_append.mp ha with ha | ha
    · exact .inl ha
    · refine .inr ?_
      simp only [Nd.foot, List.mem_cons, List.not_mem_nil, or_false] at ha
      rcases ha with rfl | rfl | rfl
      · exact ne_of_allLt h2
      · exact ne_of_allLt h1
      · exact ne_of_allLt h3
end
theorem rules_GetNi : True := by
  k_with_none
  (k_with "k_lt" => ((rename AllLt _ _ => l1); (try simp only [AllLt, allLt_setL, allLt_append, and_true] at l1); (repeat obtain ⟨_, l1⟩ := l1)))
  (k_with "k_lt2" => ((rename _ < _ => l2); (try have hmzz := allLt_mono l2 (by assumption))))
  (k_with "k_room" => ktr_room)
  (k_with "k_all" => first | exact ne_of_allLt (by assumption) | k_asm | ((with_reducible show ∀ p ∈ setL _ _ _, _); refine all_setL ?_; k_all))
  (k_with "k_ne" => first | assumption | exact Ne.symm (by assumption) | exact ne_of_lt_mem (by assumption) (by assumption) | exact ne_of_lt_mem' (by assumption) (by assumption))
  (k_with "k_mem" => first | with_reducible exact List.mem_cons_self | ((with_reducible refine' List.mem_cons_of_mem _ ?_); k_mem))
  (k_with "k_mem" => ((with_reducible refine' memG ?_); first | exact mem_setL_self (by first | with_reducible assumption | k_mem) | exact memS (by first | with_reducible assumption | k_mem) (by k_ne)))
  (k_with "k_upd" => exact upd_setL (by assumption) (by k_mem))
  (k_with "k_upd" => ((with_reducible show Upd _ _ _ (setL _ _ _) _); exact upd_setL (by first | exact setL_nodup (by assumption) | exact setL_nodup (setL_nodup (by assumption)) | exact setL_nodup (setL_nodup (setL_nodup (by assumption))) | exact setL_nodup (setL_nodup (setL_nodup (setL_nodup (by assumption))))) (by k_mem)))
  (k_with "k_updF" => exact updF_setL (by assumption) (by k_mem))
  (k_with "k_updF" => ((with_reducible show UpdF _ _ (setL _ _ _) _); exact updF_setL (by first | exact setL_nodup (by assumption) | exact setL_nodup (setL_nodup (by assumption)) | exact setL_nodup (setL_nodup (setL_nodup (by assumption))) | exact setL_nodup (setL_nodup (setL_nodup (setL_nodup (by assumption))))) (by k_mem)))
  (k_with "getMethod ref" => (k_here; (with_reducible show wpAny _ _ (getMethod (Value.ref _) (Str.ofString "get") _) _ _ _); k_dflt (refine kdg_method (knd := PySem.strKind _ _) (by k_asm) (by k_mem) (by k_asm) ?_)))
  (k_with "call builtin:dict.get" => (k_here; k_dflt (refine kdg_get1 (knd := PySem.strKind _ _) (by k_asm) (by k_mem) (by k_asm) (by k_asm) (strKind_is _ _ _ _) _ (by k_asm) ?_); (try dsimp only [Option.getD])))
  (k_with "setItem ref str" => (k_here; k_dflt (refine' kda_set (knd := PySem.strKind _ _) ?zzF ?zzN ?zzU ?zzd (strKind_is _ _ _ _) ?zzz ?_; (case zzF => k_asm); (case zzN => k_asm); (case zzU => k_updF); (case zzd => k_asm); (case zzz => k_asm)); intro zh zo zF zN zd; (try dsimp only at zN)))
  (k_with "call builtin:len" => (k_here; (with_reducible show wpAny _ _ (call (Value.builtin "len") [Value.ref _]) _ _ _); k_dflt (first | (refine' len_tupN ?zzk1 ?zzk2 ?zzk3 ?_; (case zzk1 => k_asm); (case zzk2 => k_mem); (case zzk3 => assumption)) | (refine' len_listN ?zzk1 ?zzk2 ?zzk3 ?_; (case zzk1 => k_asm); (case zzk2 => k_mem); (case zzk3 => assumption)))))
  (k_with "call builtin:list.append" => (k_here; (with_reducible show wpAny _ _ (call (Value.builtin _) [Value.ref _, _]) _ _ _); k_dflt (refine' append_K ?zzk1 ?zzk2 ?zzk3 ?_ ?zzz; (case zzk1 => k_asm); (case zzk2 => k_asm); (case zzk3 => k_upd); (case zzz => first | assumption | size_fits); k_whole); intro zh zF zN; (try k_sweep)))
  (k_with "call type:bool" => (k_here; (with_reducible show wpAny _ _ (call _ [Value.ref _]) _ _ _); k_dflt (refine' bool_listN ?zzk1 ?zzk2 ?zzk3 ?_; (case zzk1 => k_asm); (case zzk2 => k_mem); (case zzk3 => assumption))))
  (k_with "call type:tuple" => (k_here; (with_reducible show wpAny _ _ (call (Value.type _) [Value.ref _]) _ _ _); k_dflt (refine' tuple_ofListN ?zzk1 ?zzk2 ?zzk3 ?zzk4 ?_; (case zzk1 => k_asm); (case zzk2 => k_asm); (case zzk3 => k_mem); (case zzk4 => assumption); k_whole); intro D' h' F' N' l1; (try k_lt l1); (try k_sweep)))
  (k_with "call type:list" => (k_here; (with_reducible show wpAny _ _ (call (Value.type _) [Value.ref _]) _ _ _); k_dflt (refine' list_ofTupN ?zzk1 ?zzk2 ?zzk3 ?zzk4 ?_; (case zzk1 => k_asm); (case zzk2 => k_asm); (case zzk3 => k_mem); (case zzk4 => assumption); k_whole); intro D' c' h' F' N' l1; (try k_lt l1); (try k_sweep)))
  (k_with "call builtin:list.clear" => (k_here; (with_reducible show wpAny _ _ (call (Value.builtin _) [Value.ref _]) _ _ _); k_dflt (refine' clear_listN ?zzk1 ?zzk2 ?zzk3 ?zzk4 ?_; (case zzk1 => k_asm); (case zzk2 => k_asm); (case zzk3 => k_updF); (case zzk4 => assumption); k_whole); intro zh zn zF zN; (try dsimp only at zN); (try k_sweep)))
  (k_with "subscriptTail" => (k_here; (with_reducible show wpAny _ _ (subscriptTail _ _ (Value.ref _) (Value.str _ _)) _ _ _); k_dflt (refine' kda_item (knd := PySem.strKind _ _) ?zzk1 ?zzk2 ?zzk3 (strKind_is _ _ _ _) ?zzk5 ?_ ?zzk7 ?zzk8; (case zzk1 => k_asm); (case zzk2 => k_mem); (case zzk3 => k_asm); (case zzk5 => k_asm); (case zzk7 => with_unfolding_all rfl); (case zzk8 => intro _; with_unfolding_all rfl); k_whole)))
  (k_with "tb_start" => first | decide | (dsimp only [Gm.set, Gm.rd, Γc, btab]; decide))
  (k_with "tb_rel" => first | with_reducible exact List.mem_cons_self | with_reducible exact set_self | (with_reducible refine List.mem_cons_of_mem _ ?_; tb_rel) | (with_reducible refine f_mem ?_ (by dsimp only; decide); tb_rel) | (with_reducible refine set_ne ?_ (by dsimp only; decide); tb_rel) | (with_reducible refine rd_mem ?_; tb_rel) | (with_reducible refine rd_mmem ?_; tb_rel) | (with_reducible refine c_own ?_; tb_rel) | (with_reducible refine c_up ?_ (by dsimp only; decide); tb_rel) | (with_reducible refine c_mup ?_ (by dsimp only; decide); tb_rel) | (with_reducible refine ini_mem (by assumption) ?_; tb_rel))
  (k_with "ktr_rel" => first | exact forall_nil | (refine forall_cons ?_ ?_; (first | tb_rel | skip); (first | ktr_rel | skip)))
  trivial
theorem hideD {g : Prop} (T : Nat → (Str → Option Value) → Led → Prop) (k : ∀ J : Nat → (Str → Option Value) → Led → Prop, (∀ i m l, T i m l → J i m l) → (∀ i m l, J i m l → T i m l) → g) : g := k T (fun _ _ _ h => h) (fun _ _ _ h => h)
set_option maxHeartbeats 0 in
theorem getni_spec {w : World} {p : Program} {loose : List Str} {mean : ExcName → Option Value} {mg mb : Str → Option Value}
  {dp un : Nat} {gd : Option (List Code)} {cn : Str} {cs : Scope} {a : Addr} {ccd : Value} {cl : List (Str × Addr)} {outer : List Env} {A₀ : Around} {base h₀ : Heap} {L : Addr} {m : Str → Option Value} {news : Led} {s : Shared}
  {Q E : Value → Shared → Prop}
    {σ : Srt Str} {k : Str} {tkk : Tok} {self : Addr}
    (B : Below A₀ base outer h₀) (F : Fr h₀ L s.heap m) (T : Top p loose mean mg mb h₀) (hk : cs.kind = .function) (N : News h₀ L s.heap news) (hd : dp < 900) (hu : un < 9000) (S : SIn (PySem.strKind PySem.Challenge.rw_mr0282_02.prog w) 137 40 news σ) (hs : σ.self = self) (hlen : σ.nodes.length ≤ 1000000)
    (hret : ∀ h' tk' news' σ' n, Fr h₀ L h' m → News h₀ L h' news' → (news'.map (·.1)).Nodup → SIn (PySem.strKind PySem.Challenge.rw_mr0282_02.prog w) 137 40 news' σ' → Frm news σ.foot news' σ'.foot → Got σ k σ' n → Q (.ref n.ai) { s with heap := h', toks := tk' }) :
    (Mine.hd.heap_1 w.params).In h₀ → wpAny (model PySem.Challenge.rw_mr0282_02.prog w) (ktrTop dp un gd cn cs L a ccd cl outer) (call (.ref 80) [.ref self, Value.str k tkk]) Q E s := by
  k_fill
  intro X
  subst hs
  refine ex1 (news_nodup N) fun news₁ zz => and3 zz fun hnd hmm N₁ => ?_
  have S₁ := S.sub (news' := news₁) fun p hp => (hmm p).mpr hp
  have back : ∀ {news' : Led} {F' : List Addr}, Frm news₁ σ.foot news' F' → Frm news σ.foot news' F' := fun h => h.less fun p hp => (hmm p).mpr hp
  replace hret : ∀ h' tk' news' σ' n, Fr h₀ L h' m → News h₀ L h' news' → SIn (PySem.strKind PySem.Challenge.rw_mr0282_02.prog w) 137 40 news' σ' → Frm news₁ σ.foot news' σ'.foot → Got σ k σ' n → Q (.ref n.ai) { s with heap := h', toks := tk' } := by
    intro h' tk' news' σ' n F' N' S' fr G
    refine ex1 (news_nodup N') fun news₂ zz => and3 zz fun hnd₂ hmm₂ N₂ => ?_
    exact hret h' tk' news₂ σ' n F' N₂ hnd₂ (S'.sub fun p hp => (hmm₂ p).mpr hp) (back (fr.more fun p hp => (hmm₂ p).mpr hp)) G
  clear back
  have hI := S₁.inst
  refine ex6 S₁.dict fun k1 k2 k3 k4 tp tf hD => ?_
  refine ex1 S₁.n2i fun od zz => and2 zz fun hO hod => ?_
  have lo := S₁.lo
  have hsz : (σ.nodes.map fun n => (n.key, Value.ref n.ai)).length ≤ sizeLine := by rw [List.length_map, sizeLine_eq]; omega
  clear N S hmm
  refine wpAny_call ?_
  cases hv : valueAt (σ.nodes.map fun n => (n.key, Value.ref n.ai)) k with
  | none =>
    have fin : ∀ x d l o' t h' tk', Fr h₀ L h' m → News h₀ L h' ((l, W.listOf #[] 0) :: (x, niObj 40 (Value.str k tkk) 0 t d l) :: (d, dictOf [] 0) :: setL news₁ σ.nd o') → o'.IsDictOf (PySem.strKind PySem.Challenge.rw_mr0282_02.prog w) (stored (σ.nodes.map fun n => (n.key, Value.ref n.ai)) k (.ref x)) → AllLt d news₁ → AllLt x news₁ → AllLt l news₁ → d < x → x < l → Q (.ref x) { s with heap := h', toks := tk' } :=
      fun x d l o' t h' tk' F' N' a1 a2 a3 a4 a5 a6 =>
        have hE := getni_end (k := k) (tk := tkk) (t := t) S₁ (valueAt_none_iff.mp hv) (strKind_is _ _ _ _) hO a1 a2 a3 a4 a5 a6
        hret _ _ _ _ ⟨k, x, d, l, 0, []⟩ F' N' hE.1 hE.2 ⟨List.mem_append_right _ (.head _), rfl, .inr ⟨valueAt_none_iff.mp hv, rfl, rfl, rfl⟩⟩
    clear hret
    k_dflt ktr_enter
    k_steps
    exact fin _ _ _ _ _ _ _ (by assumption) (by assumption) (by assumption) (by assumption) (by assumption) (by assumption) (by assumption) (by assumption)
  | some v =>
    (have zz := valueAt_some hv; refine ex1 zz ?_; try clear zz; rintro n zz; refine and3 zz ?_; try clear zz; rintro hn hnk rfl)
    k_dflt ktr_enter
    k_steps
    exact hret _ _ _ _ _ (by assumption) (by assumption) S₁ Frm.refl ⟨hn, hnk, .inl rfl⟩
end
end
section
theorem calm_IsAct_2 (M : Model) (A : Around) (E : Value → Shared → Prop) (s : Shared) : wpAny M A (pure ()) (fun _ _ => True) E s := by
  w_top off
  first
  | (walk1; fail)
  | exact wpAny_pure trivial
section
theorem rules_IsAct : True := by
  k_with_none
  (k_with "k_lt" => ((rename AllLt _ _ => l1); (try simp only [AllLt, allLt_setL, allLt_append, and_true] at l1); (repeat obtain ⟨_, l1⟩ := l1)))
  (k_with "k_lt2" => ((rename _ < _ => l2); (try have hmzz := allLt_mono l2 (by assumption))))
  (k_with "k_room" => ktr_room)
  (k_with "k_all" => first | exact ne_of_allLt (by assumption) | k_asm | ((with_reducible show ∀ p ∈ setL _ _ _, _); refine all_setL ?_; k_all))
  (k_with "k_ne" => first | assumption | exact Ne.symm (by assumption) | exact ne_of_lt_mem (by assumption) (by assumption) | exact ne_of_lt_mem' (by assumption) (by assumption))
  (k_with "k_mem" => first | with_reducible exact List.mem_cons_self | ((with_reducible refine' List.mem_cons_of_mem _ ?_); k_mem))
  (k_with "k_mem" => ((with_reducible refine' memG ?_); first | exact mem_setL_self (by first | with_reducible assumption | k_mem) | exact memS (by first | with_reducible assumption | k_mem) (by k_ne)))
  (k_with "k_upd" => exact upd_setL (by assumption) (by k_mem))
  (k_with "k_upd" => ((with_reducible show Upd _ _ _ (setL _ _ _) _); exact upd_setL (by first | exact setL_nodup (by assumption) | exact setL_nodup (setL_nodup (by assumption)) | exact setL_nodup (setL_nodup (setL_nodup (by assumption))) | exact setL_nodup (setL_nodup (setL_nodup (setL_nodup (by assumption))))) (by k_mem)))
  (k_with "k_updF" => exact updF_setL (by assumption) (by k_mem))
  (k_with "k_updF" => ((with_reducible show UpdF _ _ (setL _ _ _) _); exact updF_setL (by first | exact setL_nodup (by assumption) | exact setL_nodup (setL_nodup (by assumption)) | exact setL_nodup (setL_nodup (setL_nodup (by assumption))) | exact setL_nodup (setL_nodup (setL_nodup (setL_nodup (by assumption))))) (by k_mem)))
  (k_with "getMethod ref" => (k_here; (with_reducible show wpAny _ _ (getMethod (Value.ref _) (Str.ofString "get") _) _ _ _); k_dflt (refine kdg_method (knd := PySem.strKind _ _) (by k_asm) (by k_mem) (by k_asm) ?_)))
  (k_with "call builtin:dict.get" => (k_here; k_dflt (refine kdg_get1 (knd := PySem.strKind _ _) (by k_asm) (by k_mem) (by k_asm) (by k_asm) (strKind_is _ _ _ _) _ (by k_asm) ?_); (try dsimp only [Option.getD])))
  (k_with "setItem ref str" => (k_here; k_dflt (refine' kda_set (knd := PySem.strKind _ _) ?zzF ?zzN ?zzU ?zzd (strKind_is _ _ _ _) ?zzz ?_; (case zzF => k_asm); (case zzN => k_asm); (case zzU => k_updF); (case zzd => k_asm); (case zzz => k_asm)); intro zh zo zF zN zd; (try dsimp only at zN)))
  (k_with "call builtin:len" => (k_here; (with_reducible show wpAny _ _ (call (Value.builtin "len") [Value.ref _]) _ _ _); k_dflt (first | (refine' len_tupN ?zzk1 ?zzk2 ?zzk3 ?_; (case zzk1 => k_asm); (case zzk2 => k_mem); (case zzk3 => assumption)) | (refine' len_listN ?zzk1 ?zzk2 ?zzk3 ?_; (case zzk1 => k_asm); (case zzk2 => k_mem); (case zzk3 => assumption)))))
  (k_with "call builtin:list.append" => (k_here; (with_reducible show wpAny _ _ (call (Value.builtin _) [Value.ref _, _]) _ _ _); k_dflt (refine' append_K ?zzk1 ?zzk2 ?zzk3 ?_ ?zzz; (case zzk1 => k_asm); (case zzk2 => k_asm); (case zzk3 => k_upd); (case zzz => first | assumption | size_fits); k_whole); intro zh zF zN; (try k_sweep)))
  (k_with "call type:bool" => (k_here; (with_reducible show wpAny _ _ (call _ [Value.ref _]) _ _ _); k_dflt (refine' bool_listN ?zzk1 ?zzk2 ?zzk3 ?_; (case zzk1 => k_asm); (case zzk2 => k_mem); (case zzk3 => assumption))))
  (k_with "call type:tuple" => (k_here; (with_reducible show wpAny _ _ (call (Value.type _) [Value.ref _]) _ _ _); k_dflt (refine' tuple_ofListN ?zzk1 ?zzk2 ?zzk3 ?zzk4 ?_; (case zzk1 => k_asm); (case zzk2 => k_asm); (case zzk3 => k_mem); (case zzk4 => assumption); k_whole); intro D' h' F' N' l1; (try k_lt l1); (try k_sweep)))
  (k_with "call type:list" => (k_here; (with_reducible show wpAny _ _ (call (Value.type _) [Value.ref _]) _ _ _); k_dflt (refine' list_ofTupN ?zzk1 ?zzk2 ?zzk3 ?zzk4 ?_; (case zzk1 => k_asm); (case zzk2 => k_asm); (case zzk3 => k_mem); (case zzk4 => assumption); k_whole); intro D' c' h' F' N' l1; (try k_lt l1); (try k_sweep)))
  (k_with "call builtin:list.clear" => (k_here; (with_reducible show wpAny _ _ (call (Value.builtin _) [Value.ref _]) _ _ _); k_dflt (refine' clear_listN ?zzk1 ?zzk2 ?zzk3 ?zzk4 ?_; (case zzk1 => k_asm); (case zzk2 => k_asm); (case zzk3 => k_updF); (case zzk4 => assumption); k_whole); intro zh zn zF zN; (try dsimp only at zN); (try k_sweep)))
  (k_with "subscriptTail" => (k_here; (with_reducible show wpAny _ _ (subscriptTail _ _ (Value.ref _) (Value.str _ _)) _ _ _); k_dflt (refine' kda_item (knd := PySem.strKind _ _) ?zzk1 ?zzk2 ?zzk3 (strKind_is _ _ _ _) ?zzk5 ?_ ?zzk7 ?zzk8; (case zzk1 => k_asm); (case zzk2 => k_mem); (case zzk3 => k_asm); (case zzk5 => k_asm); (case zzk7 => with_unfolding_all rfl); (case zzk8 => intro _; with_unfolding_all rfl); k_whole)))
  (k_with "tb_start" => first | decide | (dsimp only [Gm.set, Gm.rd, Γc, btab]; decide))
  (k_with "tb_rel" => first | with_reducible exact List.mem_cons_self | with_reducible exact set_self | (with_reducible refine List.mem_cons_of_mem _ ?_; tb_rel) | (with_reducible refine f_mem ?_ (by dsimp only; decide); tb_rel) | (with_reducible refine set_ne ?_ (by dsimp only; decide); tb_rel) | (with_reducible refine rd_mem ?_; tb_rel) | (with_reducible refine rd_mmem ?_; tb_rel) | (with_reducible refine c_own ?_; tb_rel) | (with_reducible refine c_up ?_ (by dsimp only; decide); tb_rel) | (with_reducible refine c_mup ?_ (by dsimp only; decide); tb_rel) | (with_reducible refine ini_mem (by assumption) ?_; tb_rel))
  (k_with "ktr_rel" => first | exact forall_nil | (refine forall_cons ?_ ?_; (first | tb_rel | skip); (first | ktr_rel | skip)))
  trivial
theorem isact_spec {w : World} {p : Program} {loose : List Str} {mean : ExcName → Option Value} {mg mb : Str → Option Value}
  {dp un : Nat} {gd : Option (List Code)} {cn : Str} {cs : Scope} {a : Addr} {ccd : Value} {cl : List (Str × Addr)} {outer : List Env} {A₀ : Around} {base h₀ : Heap} {L : Addr} {m : Str → Option Value} {news : Led} {s : Shared}
  {Q E : Value → Shared → Prop}
    {σ : Srt Str} {self rd : Addr} {ks : List Str}
    (B : Below A₀ base outer h₀) (F : Fr h₀ L s.heap m) (T : Top p loose mean mg mb h₀) (hk : cs.kind = .function) (N : News h₀ L s.heap news) (hd : dp < 900) (hu : un < 9000) (S : SIn (PySem.strKind PySem.Challenge.rw_mr0282_02.prog w) 137 40 news σ) (hs : σ.self = self) (hr : σ.rdy = some (rd, ks)) (hlen : ks.length ≤ 1000000)
    (hret : ∀ h' tk', Fr h₀ L h' m → News h₀ L h' news → Q (.bool (decide (σ.fin < σ.pas) || !ks.isEmpty)) { s with heap := h', toks := tk' }) :
    (Mine.hd.heap_1 w.params).In h₀ → wpAny (model PySem.Challenge.rw_mr0282_02.prog w) (ktrTop dp un gd cn cs L a ccd cl outer) (call (.ref 106) [.ref self]) Q E s := by
  k_fill
  intro X
  subst hs
  have hI := S.inst
  refine ex6 S.dict fun k1 k2 k3 k4 tp tf hD => ?_
  rw [hr] at hD
  simp only [rdyV] at hD
  refine ex2 (S.rdy _ _ hr) fun vs ep zz => and2 zz fun hR ka => ?_
  have hvl : vs.length ≤ 1000000 := by rw [ka.length]; exact hlen
  have hem : vs.isEmpty = ks.isEmpty := by
    have := ka.length
    cases vs <;> cases ks <;> first | rfl | (simp at this)
  have fin1 : σ.fin < σ.pas → ∀ h' tk', Fr h₀ L h' m → News h₀ L h' news → Q (.bool (decide (σ.fin < σ.pas))) { s with heap := h', toks := tk' } := fun e h' tk' F' N' => by
    have := hret h' tk' F' N'
    rw [decide_eq_true e, Bool.true_or] at this
    rw [decide_eq_true e]; exact this
  have fin2 : ¬ σ.fin < σ.pas → ∀ h' tk', Fr h₀ L h' m → News h₀ L h' news → Q (.bool (!vs.isEmpty)) { s with heap := h', toks := tk' } := fun e h' tk' F' N' => by
    have := hret h' tk' F' N'
    rw [decide_eq_false e, Bool.false_or] at this
    rw [hem]; exact this
  clear hret
  refine wpAny_call ?_
  k_dflt ktr_enter
  k_steps
  all_goals first | exact fin1 (by assumption) _ _ (by assumption) (by assumption) | exact fin2 (by assumption) _ _ (by assumption) (by assumption)
end
end
section
theorem calm_GetReady_2 (M : Model) (A : Around) (E : Value → Shared → Prop) (s : Shared) : wpAny M A (pure ()) (fun _ _ => True) E s := by
  w_top off
  first
  | (walk1; fail)
  | exact wpAny_pure trivial
section
theorem rules_GetReady : True := by
  k_with_none
  (k_with "k_lt" => ((rename AllLt _ _ => l1); (try simp only [AllLt, allLt_setL, allLt_append, and_true] at l1); (repeat obtain ⟨_, l1⟩ := l1)))
  (k_with "k_lt2" => ((rename _ < _ => l2); (try have hmzz := allLt_mono l2 (by assumption))))
  (k_with "k_room" => ktr_room)
  (k_with "k_all" => first | exact ne_of_allLt (by assumption) | k_asm | ((with_reducible show ∀ p ∈ setL _ _ _, _); refine all_setL ?_; k_all))
  (k_with "k_ne" => first | assumption | exact Ne.symm (by assumption) | exact ne_of_lt_mem (by assumption) (by assumption) | exact ne_of_lt_mem' (by assumption) (by assumption))
  (k_with "k_mem" => first | with_reducible exact List.mem_cons_self | ((with_reducible refine' List.mem_cons_of_mem _ ?_); k_mem))
  (k_with "k_mem" => ((with_reducible refine' memG ?_); first | exact mem_setL_self (by first | with_reducible assumption | k_mem) | exact memS (by first | with_reducible assumption | k_mem) (by k_ne)))
  (k_with "k_upd" => exact upd_setL (by assumption) (by k_mem))
  (k_with "k_upd" => ((with_reducible show Upd _ _ _ (setL _ _ _) _); exact upd_setL (by first | exact setL_nodup (by assumption) | exact setL_nodup (setL_nodup (by assumption)) | exact setL_nodup (setL_nodup (setL_nodup (by assumption))) | exact setL_nodup (setL_nodup (setL_nodup (setL_nodup (by assumption))))) (by k_mem)))
  (k_with "k_updF" => exact updF_setL (by assumption) (by k_mem))
  (k_with "k_updF" => ((with_reducible show UpdF _ _ (setL _ _ _) _); exact updF_setL (by first | exact setL_nodup (by assumption) | exact setL_nodup (setL_nodup (by assumption)) | exact setL_nodup (setL_nodup (setL_nodup (by assumption))) | exact setL_nodup (setL_nodup (setL_nodup (setL_nodup (by assumption))))) (by k_mem)))
  (k_with "getMethod ref" => (k_here; (with_reducible show wpAny _ _ (getMethod (Value.ref _) (Str.ofString "get") _) _ _ _); k_dflt (refine kdg_method (knd := PySem.strKind _ _) (by k_asm) (by k_mem) (by k_asm) ?_)))
  (k_with "call builtin:dict.get" => (k_here; k_dflt (refine kdg_get1 (knd := PySem.strKind _ _) (by k_asm) (by k_mem) (by k_asm) (by k_asm) (strKind_is _ _ _ _) _ (by k_asm) ?_); (try dsimp only [Option.getD])))
  (k_with "setItem ref str" => (k_here; k_dflt (refine' kda_set (knd := PySem.strKind _ _) ?zzF ?zzN ?zzU ?zzd (strKind_is _ _ _ _) ?zzz ?_; (case zzF => k_asm); (case zzN => k_asm); (case zzU => k_updF); (case zzd => k_asm); (case zzz => k_asm)); intro zh zo zF zN zd; (try dsimp only at zN)))
  (k_with "call builtin:len" => (k_here; (with_reducible show wpAny _ _ (call (Value.builtin "len") [Value.ref _]) _ _ _); k_dflt (first | (refine' len_tupN ?zzk1 ?zzk2 ?zzk3 ?_; (case zzk1 => k_asm); (case zzk2 => k_mem); (case zzk3 => assumption)) | (refine' len_listN ?zzk1 ?zzk2 ?zzk3 ?_; (case zzk1 => k_asm); (case zzk2 => k_mem); (case zzk3 => assumption)))))
  (k_with "call builtin:list.append" => (k_here; (with_reducible show wpAny _ _ (call (Value.builtin _) [Value.ref _, _]) _ _ _); k_dflt (refine' append_K ?zzk1 ?zzk2 ?zzk3 ?_ ?zzz; (case zzk1 => k_asm); (case zzk2 => k_asm); (case zzk3 => k_upd); (case zzz => first | assumption | size_fits); k_whole); intro zh zF zN; (try k_sweep)))
  (k_with "call type:bool" => (k_here; (with_reducible show wpAny _ _ (call _ [Value.ref _]) _ _ _); k_dflt (refine' bool_listN ?zzk1 ?zzk2 ?zzk3 ?_; (case zzk1 => k_asm); (case zzk2 => k_mem); (case zzk3 => assumption))))
  (k_with "call type:tuple" => (k_here; (with_reducible show wpAny _ _ (call (Value.type _) [Value.ref _]) _ _ _); k_dflt (refine' tuple_ofListN ?zzk1 ?zzk2 ?zzk3 ?zzk4 ?_; (case zzk1 => k_asm); (case zzk2 => k_asm); (case zzk3 => k_mem); (case zzk4 => assumption); k_whole); intro D' h' F' N' l1; (try k_lt l1); (try k_sweep)))
  (k_with "call type:list" => (k_here; (with_reducible show wpAny _ _ (call (Value.type _) [Value.ref _]) _ _ _); k_dflt (refine' list_ofTupN ?zzk1 ?zzk2 ?zzk3 ?zzk4 ?_; (case zzk1 => k_asm); (case zzk2 => k_asm); (case zzk3 => k_mem); (case zzk4 => assumption); k_whole); intro D' c' h' F' N' l1; (try k_lt l1); (try k_sweep)))
  (k_with "call builtin:list.clear" => (k_here; (with_reducible show wpAny _ _ (call (Value.builtin _) [Value.ref _]) _ _ _); k_dflt (refine' clear_listN ?zzk1 ?zzk2 ?zzk3 ?zzk4 ?_; (case zzk1 => k_asm); (case zzk2 => k_asm); (case zzk3 => k_updF); (case zzk4 => assumption); k_whole); intro zh zn zF zN; (try dsimp only at zN); (try k_sweep)))
  (k_with "subscriptTail" => (k_here; (with_reducible show wpAny _ _ (subscriptTail _ _ (Value.ref _) (Value.str _ _)) _ _ _); k_dflt (refine' kda_item (knd := PySem.strKind _ _) ?zzk1 ?zzk2 ?zzk3 (strKind_is _ _ _ _) ?zzk5 ?_ ?zzk7 ?zzk8; (case zzk1 => k_asm); (case zzk2 => k_mem); (case zzk3 => k_asm); (case zzk5 => k_asm); (case zzk7 => with_unfolding_all rfl); (case zzk8 => intro _; with_unfolding_all rfl); k_whole)))
  (k_with "tb_start" => first | decide | (dsimp only [Gm.set, Gm.rd, Γc, btab]; decide))
  (k_with "tb_rel" => first | with_reducible exact List.mem_cons_self | with_reducible exact set_self | (with_reducible refine List.mem_cons_of_mem _ ?_; tb_rel) | (with_reducible refine f_mem ?_ (by dsimp only; decide); tb_rel) | (with_reducible refine set_ne ?_ (by dsimp only; decide); tb_rel) | (with_reducible refine rd_mem ?_; tb_rel) | (with_reducible refine rd_mmem ?_; tb_rel) | (with_reducible refine c_own ?_; tb_rel) | (with_reducible refine c_up ?_ (by dsimp only; decide); tb_rel) | (with_reducible refine c_mup ?_ (by dsimp only; decide); tb_rel) | (with_reducible refine ini_mem (by assumption) ?_; tb_rel))
  (k_with "ktr_rel" => first | exact forall_nil | (refine forall_cons ?_ ?_; (first | tb_rel | skip); (first | ktr_rel | skip)))
  trivial
theorem key_node {σ : Srt Str} {k : Str} (h : k ∈ σ.abs.map (·.1)) : ∃ n ∈ σ.nodes, n.key = k := by
  rw [abs_keys] at h
  exact List.mem_map.mp h
theorem getready_spec {w : World} {p : Program} {loose : List Str} {mean : ExcName → Option Value} {mg mb : Str → Option Value}
  {dp un : Nat} {gd : Option (List Code)} {cn : Str} {cs : Scope} {a : Addr} {ccd : Value} {cl : List (Str × Addr)} {outer : List Env} {A₀ : Around} {base h₀ : Heap} {L : Addr} {m : Str → Option Value} {news : Led} {s : Shared}
  {Q E : Value → Shared → Prop}
    {σ : Srt Str} {self rd : Addr} {ks : List Str}
    (B : Below A₀ base outer h₀) (F : Fr h₀ L s.heap m) (T : Top p loose mean mg mb h₀) (hk : cs.kind = .function) (N : News h₀ L s.heap news) (hd : dp < 900) (hu : un < 9000) (S : SIn (PySem.strKind PySem.Challenge.rw_mr0282_02.prog w) 137 40 news σ) (hs : σ.self = self) (hr : σ.rdy = some (rd, ks)) (hlen : ks.length ≤ 100000) (hin : ∀ k ∈ ks, k ∈ σ.abs.map (·.1))
    (hret : ∀ h' tk' news' σ' D vs', Fr h₀ L h' m → News h₀ L h' news' → (news'.map (·.1)).Nodup → SIn (PySem.strKind PySem.Challenge.rw_mr0282_02.prog w) 137 40 news' σ' → Frm news σ.foot news' σ'.foot → (D, ({ cls := .type "tuple", data := .seq vs'.toArray } : Obj)) ∈ news' → D ∉ σ'.foot → (∀ p ∈ news, p.1 ≠ D) → KA (PySem.strKind PySem.Challenge.rw_mr0282_02.prog w) vs' ks →
      σ'.abs = aOut σ.abs ks → σ'.self = σ.self → σ'.rdy = some (rd, []) → σ'.pas = σ.pas + ks.length → σ'.fin = σ.fin → Q (.ref D) { s with heap := h', toks := tk' }) :
    (Mine.hd.heap_1 w.params).In h₀ → wpAny (model PySem.Challenge.rw_mr0282_02.prog w) (ktrTop dp un gd cn cs L a ccd cl outer) (call (.ref 99) [.ref self]) Q E s := by
  k_fill
  intro X
  subst hs
  refine ex1 (news_nodup N) fun news₁ zz => and3 zz fun hnd hmm N₁ => ?_
  have S₁ := S.sub (news' := news₁) fun p hp => (hmm p).mpr hp
  have hI := S₁.inst
  refine ex6 S₁.dict fun k1 k2 k3 k4 tp tf hD => ?_
  rw [hr] at hD
  simp only [rdyV] at hD
  refine ex2 (S₁.rdy _ _ hr) fun vs ep zz => and2 zz fun hR ka => ?_
  have hvl : vs.length ≤ 1000000 := by rw [ka.length]; omega
  clear N S
  refine wpAny_call ?_
  k_dflt (refine' code_def ?k1 ?k2 ?k3 ?k4 ?k5 ?kA ?kF ?kK ?k6 ?k7 ?k8 ?k9 ?kB ?_ ?c2 ?c3 ?c4 ?c5; (case kA => exact rfl); (case kF => exact rfl); (case kK => assumption); (case k1 => k_asm); (case k2 => k_asm); (case k3 => k_asm); (case k4 => k_asm); (case k5 => k_asm); (case k6 => k_is); (case k7 => k_is); (case k8 => ktr_room); (case k9 => exact BindsTo.of_eq rfl); (case c5 => decide); (case kB => exact locs rfl); (case c2 => exact rfl); (case c3 => exact rfl); (case c4 => exact rfl); k_whole; intro g' L' h' FG' F' N' B' X' T'; (try dsimp only); (try k_fold))
  k_steps
  rename News g' L' _ _ => N₃
  rename Fr g' L' _ _ => F₃
  rename Heap => h₃
  rename AllLt _ news₁ => aD
  have S₃ := S₁.sub (news' := (D', ({ cls := .type "tuple", data := .seq vs.toArray } : Obj)) :: news₁) fun p hp => List.mem_cons_of_mem _ hp
  refine For_invV g' rfl rfl ?_ (hE := ?_)
  rotate_left
  · k_steps
  k_steps
  refine hideD (fun i m₁ l => ∃ σ₁, SIn (PySem.strKind PySem.Challenge.rw_mr0282_02.prog w) 137 40 l σ₁ ∧ Frm ((D', ({ cls := .type "tuple", data := .seq vs.toArray } : Obj)) :: news₁) σ.foot l σ₁.foot ∧ σ₁.abs = aOut σ.abs (ks.take i) ∧ Same σ σ₁ ∧ m₁ "self" = some (.ref σ.self) ∧ m₁ "n2i" = some (.ref σ.nd) ∧ m₁ "result" = some (.ref D')) fun J mkJ elJ => ?_
  refine iter_tuple J rfl List.mem_cons_self F₃ N₃ (mkJ _ _ _ ⟨σ, S₃, .refl, rfl, .rfl, rfl, rfl, rfl⟩) ?_ ?_
  · intro I i v m₁ l₁ h₁ tk₁ own l₂ hv hJ hI1 hI2 hown hIo F₁ hnd₁ hl₂ N₁
    refine ex1 (elJ _ _ _ hJ) fun σ₁ zz => and7 zz fun S₁' fr₁ e₁ q₁ ms mn mr => ?_
    clear hJ elJ
    refine ex1 (ka.get' hv) fun q zz => and2 zz fun hq hqv => ?_
    (have zz := is_val hqv; refine ex1 zz ?_; try clear zz; rintro tq rfl)
    have hil : i < ks.length := (List.getElem?_eq_some_iff.mp hq).1
    rw [ov ms, ov mn, ov mr] at F₁
    have S₁'' : SIn (PySem.strKind PySem.Challenge.rw_mr0282_02.prog w) 137 40 l₂ σ₁ := S₁'.sub fun p hp => (hl₂ p).mpr (.inr hp)
    obtain ⟨n₁, hn₁, hk₁⟩ : ∃ n ∈ σ₁.nodes, n.key = q := key_node (by rw [e₁, aOut_keys]; exact hin q (List.mem_of_getElem? hq))
    subst hk₁
    refine ex1 S₁''.n2i fun od zz => and2 zz fun hO hod => ?_
    rw [q₁.nd] at hO
    have hva := valueAt_of hn₁ S₁''.keysNodup
    obtain ⟨⟨v₁, t₁, hv₁, m4⟩, m5, vs₁, ep₁, m6, ka₁⟩ := S₁''.nds n₁ hn₁
    have nI : I ∉ σ₁.foot := fun hx => by
      refine ex1 (S₁'.footIn hx) fun o ho => ?_
      exact hI1 _ ho rfl
    have nD := (fr₁.off List.mem_cons_self (S₁.notFoot aD)).2
    have nown : ∀ p ∈ own, p.1 ∉ σ₁.foot := fun p hp => by
      rcases hown p hp with e | e <;> rw [e] <;> assumption
    k_steps
    rename News g' L' _ _ => N₅
    rename Fr g' L' _ _ => F₅
    rename Heap => h₅
    obtain ⟨t₅, N₅⟩ : ∃ t, News g' L' h₅ (setL l₂ n₁.ai (niObj 40 v₁ (-1) t n₁.di n₁.as)) := ⟨_, N₅⟩
    refine ex1 (node_np S₁'' hn₁ hv₁ (-1) t₅) fun σ₅ zz => and4 zz fun S₅ f₅ e₅ q₅ => ?_
    have hai : n₁.ai ∈ σ₁.foot := mem_foot_node hn₁ (by simp [Nd.foot])
    have fr₅ := setL_frm (news := l₁) (x := n₁.ai) (o := niObj 40 v₁ (-1) t₅ n₁.di n₁.as) hai
    have fr₆ : Frm l₁ σ₁.foot (setL l₂ n₁.ai (niObj 40 v₁ (-1) t₅ n₁.di n₁.as)) σ₅.foot := by
      rw [f₅]
      exact ⟨fun p hp hF => mem_setL_ne (fun e => hF (e ▸ hai)) ((hl₂ p).mpr (.inr hp)), fun _ h => .inl h⟩
    refine ⟨_, _, _, _, rfl, F₅, N₅, fun p hp => mem_setL_ne (fun e => nown p hp (e ▸ hai)) ((hl₂ p).mpr (.inl hp)), mkJ _ _ _ ⟨σ₅, S₅.drop (by rw [f₅]; exact nI), (fr₁.trans fr₆).drop hI2, ?_, q₁.trans q₅, rfl, rfl, rfl⟩⟩
    rw [e₅, e₁, List.take_add_one, hq]
    simp [aOut]
  · intro m₁ l₁ h₁ tk₁ hJ F₁ N₁
    refine ex1 (elJ _ _ _ hJ) fun σ₁ zz => and7 zz fun S₁' fr₁ e₁ q₁ ms mn mr => ?_
    clear hJ elJ mkJ
    rw [ov ms, ov mn, ov mr] at F₁
    refine ex1 (news_nodup N₁) fun l₂ zz => and3 zz fun hnd₂ hmm₂ N₂ => ?_
    have S₂ := S₁'.sub (news' := l₂) fun p hp => (hmm₂ p).mpr hp
    have oD := fr₁.off List.mem_cons_self (S₁.notFoot aD)
    have mD := (hmm₂ _).mpr oD.1
    have hI₂ := S₂.inst
    rw [q₁.self] at hI₂
    refine ex6 S₂.dict fun _ _ _ _ _ _ hD₂ => ?_
    have hr₁ : σ₁.rdy = some (rd, ks) := q₁.rdy.trans hr
    rw [hr₁] at hD₂
    simp only [rdyV] at hD₂
    refine ex2 (S₂.rdy _ _ hr₁) fun vs₂ ep₂ zz => and2 zz fun hR₂ ka₂ => ?_
    have hvl₂ : vs₂.length ≤ 1000000 := by rw [ka₂.length]; omega
    have sp := S₂.sepH
    have sr := sp.rs _ _ hr₁
    have s1 := sr.1
    have s2 := sr.2.1
    rw [q₁.self] at s1
    have s3 : σ.self ≠ σ₁.dself := by rw [← q₁.self]; exact sp.sd
    have s4 : D' ≠ rd := fun e => oD.2 (by rw [e]; unfold Srt.foot; rw [hr₁]; simp [rdyF])
    have s5 : D' ≠ σ₁.dself := fun e => oD.2 (by rw [e]; simp [Srt.foot])
    have f₂ : ({ σ₁ with rdy := some (rd, []) } : Srt Str).foot = σ₁.foot := by unfold Srt.foot; rw [hr₁]; rfl
    have fin : ∀ h' tk' n' a1 a2 a3 a4 a5 a6, Fr h₀ L h' m → News h₀ L h' (setL (setL l₂ rd (W.listOf ([] : List Value).toArray n')) σ₁.dself (dictOf (sdict w a1 a2 a3 a4 (.ref σ₁.nd) (.ref rd) (σ₁.pas + vs.length) a5 σ₁.fin a6) 4)) → Q (.ref D') { s with heap := h', toks := tk' } := fun h' tk' n' a1 a2 a3 a4 a5 a6 F' N' => by
      have S₃' := S₂.setR (n' := n') (ks' := []) (vs' := []) hr₁ trivial
      have S₄' := S₃'.setD (k1 := a1) (k2 := a2) (k3 := a3) (k4 := a4) (tp := a5) (tf := a6) (pas' := σ₁.pas + vs.length) (fin' := σ₁.fin)
      refine ex1 (news_nodup N') fun l' zz => and3 zz fun hnd' hmm' N'' => ?_
      have g1 : rd ∈ σ₁.foot := by unfold Srt.foot; rw [hr₁]; simp [rdyF]
      have g2 : σ₁.dself ∈ σ₁.foot := by simp [Srt.foot]
      have fr₂ : Frm l₁ σ₁.foot l' σ₁.foot := ⟨fun p hp hF => (hmm' _).mpr (mem_setL_ne (fun e => hF (e ▸ g2)) (mem_setL_ne (fun e => hF (e ▸ g1)) ((hmm₂ p).mpr hp))), fun _ h => .inl h⟩
      have fr₃ : Frm news σ.foot l' σ₁.foot := (fr₁.less (news₀ := news) fun p hp => List.mem_cons_of_mem _ ((hmm p).mpr hp)).trans fr₂
      refine hret h' tk' l' _ D' vs F' N'' hnd' (S₄'.sub fun p hp => (hmm' p).mpr hp) ?_ ((hmm' _).mpr (mem_setL_ne s5 (mem_setL_ne s4 mD))) ?_ ?_ ka ?_ q₁.self rfl ?_ q₁.fin
      · show Frm news σ.foot l' ({ σ₁ with rdy := some (rd, []) } : Srt Str).foot
        rw [f₂]; exact fr₃
      · show D' ∉ ({ σ₁ with rdy := some (rd, []) } : Srt Str).foot
        rw [f₂]; exact oD.2
      · exact fun p hp => ne_of_allLt aD p ((hmm p).mpr hp)
      · show σ₁.abs = _
        rw [e₁, ka.length, List.take_length]
      · show σ₁.pas + vs.length = _
        rw [q₁.pas, ka.length]
    clear N₁ hret
    k_steps
    exact fin _ _ _ _ _ _ _ _ _ (by assumption) (by assumption)
end
end
section
theorem calm_Done_2 (M : Model) (A : Around) (E : Value → Shared → Prop) (s : Shared) : wpAny M A (pure ()) (fun _ _ => True) E s := by
  w_top off
  first
  | (walk1; fail)
  | exact wpAny_pure trivial
section
theorem rules_Done : True := by
  k_with_none
  (k_with "k_lt" => ((rename AllLt _ _ => l1); (try simp only [AllLt, allLt_setL, allLt_append, and_true] at l1); (repeat obtain ⟨_, l1⟩ := l1)))
  (k_with "k_lt2" => ((rename _ < _ => l2); (try have hmzz := allLt_mono l2 (by assumption))))
  (k_with "k_room" => ktr_room)
  (k_with "k_all" => first | exact ne_of_allLt (by assumption) | k_asm | ((with_reducible show ∀ p ∈ setL _ _ _, _); refine all_setL ?_; k_all))
  (k_with "k_ne" => first | assumption | exact Ne.symm (by assumption) | exact ne_of_lt_mem (by assumption) (by assumption) | exact ne_of_lt_mem' (by assumption) (by assumption))
  (k_with "k_mem" => first | with_reducible exact List.mem_cons_self | ((with_reducible refine' List.mem_cons_of_mem _ ?_); k_mem))
  (k_with "k_mem" => ((with_reducible refine' memG ?_); first | exact mem_setL_self (by first | with_reducible assumption | k_mem) | exact memS (by first | with_reducible assumption | k_mem) (by k_ne)))
  (k_with "k_upd" => exact upd_setL (by assumption) (by k_mem))
  (k_with "k_upd" => ((with_reducible show Upd _ _ _ (setL _ _ _) _); exact upd_setL (by first | exact setL_nodup (by assumption) | exact setL_nodup (setL_nodup (by assumption)) | exact setL_nodup (setL_nodup (setL_nodup (by assumption))) | exact setL_nodup (setL_nodup (setL_nodup (setL_nodup (by assumption))))) (by k_mem)))
  (k_with "k_updF" => exact updF_setL (by assumption) (by k_mem))
  (k_with "k_updF" => ((with_reducible show UpdF _ _ (setL _ _ _) _); exact updF_setL (by first | exact setL_nodup (by assumption) | exact setL_nodup (setL_nodup (by assumption)) | exact setL_nodup (setL_nodup (setL_nodup (by assumption))) | exact setL_nodup (setL_nodup (setL_nodup (setL_nodup (by assumption))))) (by k_mem)))
  (k_with "getMethod ref" => (k_here; (with_reducible show wpAny _ _ (getMethod (Value.ref _) (Str.ofString "get") _) _ _ _); k_dflt (refine kdg_method (knd := PySem.strKind _ _) (by k_asm) (by k_mem) (by k_asm) ?_)))
  (k_with "call builtin:dict.get" => (k_here; k_dflt (refine kdg_get1 (knd := PySem.strKind _ _) (by k_asm) (by k_mem) (by k_asm) (by k_asm) (strKind_is _ _ _ _) _ (by k_asm) ?_); (try dsimp only [Option.getD])))
  (k_with "setItem ref str" => (k_here; k_dflt (refine' kda_set (knd := PySem.strKind _ _) ?zzF ?zzN ?zzU ?zzd (strKind_is _ _ _ _) ?zzz ?_; (case zzF => k_asm); (case zzN => k_asm); (case zzU => k_updF); (case zzd => k_asm); (case zzz => k_asm)); intro zh zo zF zN zd; (try dsimp only at zN)))
  (k_with "call builtin:len" => (k_here; (with_reducible show wpAny _ _ (call (Value.builtin "len") [Value.ref _]) _ _ _); k_dflt (first | (refine' len_tupN ?zzk1 ?zzk2 ?zzk3 ?_; (case zzk1 => k_asm); (case zzk2 => k_mem); (case zzk3 => assumption)) | (refine' len_listN ?zzk1 ?zzk2 ?zzk3 ?_; (case zzk1 => k_asm); (case zzk2 => k_mem); (case zzk3 => assumption)))))
  (k_with "call builtin:list.append" => (k_here; (with_reducible show wpAny _ _ (call (Value.builtin _) [Value.ref _, _]) _ _ _); k_dflt (refine' append_K ?zzk1 ?zzk2 ?zzk3 ?_ ?zzz; (case zzk1 => k_asm); (case zzk2 => k_asm); (case zzk3 => k_upd); (case zzz => first | assumption | size_fits); k_whole); intro zh zF zN; (try k_sweep)))
  (k_with "call type:bool" => (k_here; (with_reducible show wpAny _ _ (call _ [Value.ref _]) _ _ _); k_dflt (refine' bool_listN ?zzk1 ?zzk2 ?zzk3 ?_; (case zzk1 => k_asm); (case zzk2 => k_mem); (case zzk3 => assumption))))
  (k_with "call type:tuple" => (k_here; (with_reducible show wpAny _ _ (call (Value.type _) [Value.ref _]) _ _ _); k_dflt (refine' tuple_ofListN ?zzk1 ?zzk2 ?zzk3 ?zzk4 ?_; (case zzk1 => k_asm); (case zzk2 => k_asm); (case zzk3 => k_mem); (case zzk4 => assumption); k_whole); intro D' h' F' N' l1; (try k_lt l1); (try k_sweep)))
  (k_with "call type:list" => (k_here; (with_reducible show wpAny _ _ (call (Value.type _) [Value.ref _]) _ _ _); k_dflt (refine' list_ofTupN ?zzk1 ?zzk2 ?zzk3 ?zzk4 ?_; (case zzk1 => k_asm); (case zzk2 => k_asm); (case zzk3 => k_mem); (case zzk4 => assumption); k_whole); intro D' c' h' F' N' l1; (try k_lt l1); (try k_sweep)))
  (k_with "call builtin:list.clear" => (k_here; (with_reducible show wpAny _ _ (call (Value.builtin _) [Value.ref _]) _ _ _); k_dflt (refine' clear_listN ?zzk1 ?zzk2 ?zzk3 ?zzk4 ?_; (case zzk1 => k_asm); (case zzk2 => k_asm); (case zzk3 => k_updF); (case zzk4 => assumption); k_whole); intro zh zn zF zN; (try dsimp only at zN); (try k_sweep)))
  (k_with "subscriptTail" => (k_here; (with_reducible show wpAny _ _ (subscriptTail _ _ (Value.ref _) (Value.str _ _)) _ _ _); k_dflt (refine' kda_item (knd := PySem.strKind _ _) ?zzk1 ?zzk2 ?zzk3 (strKind_is _ _ _ _) ?zzk5 ?_ ?zzk7 ?zzk8; (case zzk1 => k_asm); (case zzk2 => k_mem); (case zzk3 => k_asm); (case zzk5 => k_asm); (case zzk7 => with_unfolding_all rfl); (case zzk8 => intro _; with_unfolding_all rfl); k_whole)))
  (k_with "tb_start" => first | decide | (dsimp only [Gm.set, Gm.rd, Γc, btab]; decide))
  (k_with "tb_rel" => first | with_reducible exact List.mem_cons_self | with_reducible exact set_self | (with_reducible refine List.mem_cons_of_mem _ ?_; tb_rel) | (with_reducible refine f_mem ?_ (by dsimp only; decide); tb_rel) | (with_reducible refine set_ne ?_ (by dsimp only; decide); tb_rel) | (with_reducible refine rd_mem ?_; tb_rel) | (with_reducible refine rd_mmem ?_; tb_rel) | (with_reducible refine c_own ?_; tb_rel) | (with_reducible refine c_up ?_ (by dsimp only; decide); tb_rel) | (with_reducible refine c_mup ?_ (by dsimp only; decide); tb_rel) | (with_reducible refine ini_mem (by assumption) ?_; tb_rel))
  (k_with "ktr_rel" => first | exact forall_nil | (refine forall_cons ?_ ?_; (first | tb_rel | skip); (first | ktr_rel | skip)))
  trivial
theorem done_code {w : World} {p : Program} {loose : List Str} {mean : ExcName → Option Value} {mg mb : Str → Option Value}
  {dp un : Nat} {gd : Option (List Code)} {cn : Str} {cs : Scope} {a : Addr} {ccd : Value} {cl : List (Str × Addr)} {outer : List Env} {A₀ : Around} {base h₀ : Heap} {L : Addr} {m : Str → Option Value} {news : Led} {s : Shared}
  {Q E : Value → Shared → Prop}
    {σ : Srt Str} {self rd : Addr} {rs : List Str} {vs : List Value} {qs : List Str}
    (B : Below A₀ base outer h₀) (F : Fr h₀ L s.heap m) (T : Top p loose mean mg mb h₀) (hk : cs.kind = .function) (N : News h₀ L s.heap news) (hd : dp < 900) (hu : un < 9000) (S : SIn (PySem.strKind PySem.Challenge.rw_mr0282_02.prog w) 137 40 news σ) (hs : σ.self = self) (hr : σ.rdy = some (rd, rs)) (ka : KA (PySem.strKind PySem.Challenge.rw_mr0282_02.prog w) vs qs) (hql : qs.length ≤ 100000)
    (hgo : ∀ i k, qs[i]? = some k → k ∈ σ.abs.map (·.1) ∧ aNp (aDone (σ.abs, rs) (qs.take i)).1 k = -1) (hsu : ∀ e ∈ σ.abs, ∀ s ∈ e.2.2, s ∈ σ.abs.map (·.1))
    (hsl : ∀ e ∈ σ.abs, e.2.2.length ≤ 50000) (hrl : ∀ i, (aDone (σ.abs, rs) (qs.take i)).2.length ≤ 50000)
    (hret : ∀ h' tk' news' σ', Fr h₀ L h' m → News h₀ L h' news' → (news'.map (·.1)).Nodup → SIn (PySem.strKind PySem.Challenge.rw_mr0282_02.prog w) 137 40 news' σ' → Frm news σ.foot news' σ'.foot → σ'.foot = σ.foot →
      σ'.abs = (aDone (σ.abs, rs) qs).1 → σ'.self = σ.self → σ'.rdy = some (rd, (aDone (σ.abs, rs) qs).2) → σ'.pas = σ.pas → σ'.fin = σ.fin + qs.length → Q .none { s with heap := h', toks := tk' }) :
    (Mine.hd.heap_1 w.params).In h₀ → codeAny (model PySem.Challenge.rw_mr0282_02.prog w) (ktrTop dp un gd cn cs L a ccd cl outer) (.call (.ref 120) ⟨.ref self :: vs, []⟩) (fun r s' => match r with | .ok (.ret v) => Q v s' | .ok _ => False | .error e => E e s') s := by
  k_fill
  intro X
  subst hs
  refine ex1 (news_nodup N) fun news₁ zz => and3 zz fun hnd hmm N₁ => ?_
  have S₁ := S.sub (news' := news₁) fun p hp => (hmm p).mpr hp
  have hI := S₁.inst
  refine ex6 S₁.dict fun k1 k2 k3 k4 tp tf hD => ?_
  rw [hr] at hD
  simp only [rdyV] at hD
  clear N S
  k_dflt (refine' enter_rest (vs := vs) (nm := "nodes") (front := [("self", .ref σ.self)]) ?k1 ?k2 ?k3 ?k4 ?k5 ?kA ?kF ?kK ?k6 ?k7 ?k8 ?kb ?kz ?kl ?_ ?c2 ?c3 ?c4 ?c5; (case kA => exact rfl); (case kF => exact rfl); (case kK => assumption); (case k1 => k_asm); (case k2 => k_asm); (case k3 => k_asm); (case k4 => k_asm); (case k5 => k_asm); (case k6 => k_is); (case k7 => k_is); (case k8 => ktr_room); (case kb => cases vs <;> rfl); (case kz => have := ka.length; rw [sizeLine_eq]; omega); (case kl => exact fun _ => locs rfl); (case c5 => decide); (case c2 => exact rfl); (case c3 => exact rfl); (case c4 => exact rfl); k_whole; intro D' g' L' h' l1 FG' F' N' B' X' T'; (try k_lt l1); (try dsimp only); (try k_fold))
  k_steps
  rename News g' L' _ _ => N₃
  rename Fr g' L' _ _ => F₃
  rename Heap => h₃
  rename AllLt _ news₁ => aD
  have S₃ := S₁.sub (news' := (D', ({ cls := .type "tuple", data := .seq vs.toArray } : Obj)) :: news₁) fun p hp => List.mem_cons_of_mem _ hp
  refine For_invV g' rfl rfl ?_ (hE := ?_)
  rotate_left
  · k_steps
  k_steps
  refine hideD (fun i m₁ l => ∃ σ₁, SIn (PySem.strKind PySem.Challenge.rw_mr0282_02.prog w) 137 40 l σ₁ ∧ Frm ((D', ({ cls := .type "tuple", data := .seq vs.toArray } : Obj)) :: news₁) σ.foot l σ₁.foot ∧ σ₁.foot = σ.foot ∧ σ₁.abs = (aDone (σ.abs, rs) (qs.take i)).1 ∧ σ₁.rdy = some (rd, (aDone (σ.abs, rs) (qs.take i)).2) ∧ σ₁.self = σ.self ∧ σ₁.nd = σ.nd ∧ σ₁.pas = σ.pas ∧ σ₁.fin = σ.fin + i ∧ m₁ "self" = some (.ref σ.self) ∧ m₁ "n2i" = some (.ref σ.nd)) fun J mkJ elJ => ?_
  refine iter_tuple J rfl List.mem_cons_self F₃ N₃ (mkJ _ _ _ ⟨σ, S₃, .refl, rfl, rfl, hr, rfl, rfl, rfl, by simp, rfl, rfl⟩) ?_ ?_
  · intro I i v m₁ l₁ h₁ tk₁ own l₂ hv hJ hI1 hI2 hown hIo F₁ hnd₁ hl₂ N₁
    refine ex1 (elJ _ _ _ hJ) fun σ₁ zz => and11 zz fun S₁' fr₁ f₁ e₁ r₁ z1 z2 z3 z4 ms mn => ?_
    clear hJ elJ
    refine ex1 (ka.get' hv) fun q zz => and2 zz fun hq hqv => ?_
    (have zz := is_val hqv; refine ex1 zz ?_; try clear zz; rintro tq rfl)
    have hil : i < qs.length := (List.getElem?_eq_some_iff.mp hq).1
    rw [ov ms, ov mn] at F₁
    have S₁'' : SIn (PySem.strKind PySem.Challenge.rw_mr0282_02.prog w) 137 40 l₂ σ₁ := S₁'.sub fun p hp => (hl₂ p).mpr (.inr hp)
    obtain ⟨n₁, hn₁, hk₁⟩ : ∃ n ∈ σ₁.nodes, n.key = q := key_node (by rw [e₁, aDone_keys]; exact (hgo i q hq).1)
    subst hk₁
    have hI₁ := S₁''.inst
    rw [z1] at hI₁
    refine ex1 S₁''.n2i fun od zz => and2 zz fun hO hod => ?_
    have lo := S₁''.lo
    rw [z2] at hO lo
    have hva := valueAt_of hn₁ S₁''.keysNodup
    have hnp : n₁.np = -1 := by rw [← aNp_abs S₁'' hn₁, e₁]; exact (hgo i _ hq).2
    obtain ⟨⟨v₁, t₁, hv₁, m4⟩, m5, vs₁, ep₁, m6, ka₁⟩ := S₁''.nds n₁ hn₁
    rw [hnp] at m4
    have sp := S₁''.sep hn₁
    have a1 := sp.ad
    have a2 := sp.as
    have a3 := sp.ds
    have nI : I ∉ σ₁.foot := fun hx => by
      refine ex1 (S₁'.footIn hx) fun o ho => ?_
      exact hI1 _ ho rfl
    have nD := (fr₁.off List.mem_cons_self (S₁.notFoot aD)).2
    have nown : ∀ p ∈ own, p.1 ∉ σ₁.foot := fun p hp => by
      rcases hown p hp with e | e <;> rw [e] <;> assumption
    have hrl₁ := hrl i
    have hsl₁ : n₁.succ.length ≤ 50000 := by
      refine ex1 (node_succ (α := σ.abs) (by rw [e₁, aDone_succs]) hn₁) fun np hh => ?_
      exact hsl _ hh
    have hsu₁ : ∀ s ∈ n₁.succ, s ∈ σ.abs.map (·.1) := by
      refine ex1 (node_succ (α := σ.abs) (by rw [e₁, aDone_succs]) hn₁) fun np hh => ?_
      exact hsu _ hh
    k_steps
    rename News g' L' _ _ => N₅
    rename Fr g' L' _ _ => F₅
    rename Heap => h₅
    obtain ⟨t₅, N₅⟩ : ∃ t, News g' L' h₅ (setL l₂ n₁.ai (niObj 40 v₁ (-2) t n₁.di n₁.as)) := ⟨_, N₅⟩
    refine ex1 (node_np S₁'' hn₁ hv₁ (-2) t₅) fun σ₅ zz => and4 zz fun S₅ f₅ e₅ q₅ => ?_
    have hai : n₁.ai ∈ σ₁.foot := mem_foot_node hn₁ (by simp [Nd.foot])
    have has : n₁.as ∈ σ₁.foot := mem_foot_node hn₁ (by simp [Nd.foot])
    have mas := mem_setL_ne (o' := niObj 40 v₁ (-2) t₅ n₁.di n₁.as) (Ne.symm a2) m6
    have frA : Frm l₁ σ₁.foot (setL l₂ n₁.ai (niObj 40 v₁ (-2) t₅ n₁.di n₁.as)) σ₁.foot := ⟨fun p hp hF => mem_setL_ne (fun e => hF (e ▸ hai)) ((hl₂ p).mpr (.inr hp)), fun _ h => .inl h⟩
    have ownA : ∀ p ∈ own, p ∈ setL l₂ n₁.ai (niObj 40 v₁ (-2) t₅ n₁.di n₁.as) := fun p hp => mem_setL_ne (fun e => nown p hp (e ▸ hai)) ((hl₂ p).mpr (.inl hp))
    generalize setL l₂ n₁.ai (niObj 40 v₁ (-2) t₅ n₁.di n₁.as) = led at N₅ S₅ mas frA ownA
    refine hideD (fun j m₂ l => ∃ σ₃, SIn (PySem.strKind PySem.Challenge.rw_mr0282_02.prog w) 137 40 l σ₃ ∧ Frm led σ₁.foot l σ₃.foot ∧ σ₃.foot = σ₁.foot ∧ σ₃.abs = ((n₁.succ.take j).foldl aDec (σ₅.abs, (aDone (σ.abs, rs) (qs.take i)).2)).1 ∧ σ₃.rdy = some (rd, ((n₁.succ.take j).foldl aDec (σ₅.abs, (aDone (σ.abs, rs) (qs.take i)).2)).2) ∧ σ₃.self = σ.self ∧ σ₃.nd = σ.nd ∧ σ₃.pas = σ.pas ∧ σ₃.fin = σ.fin + i ∧ m₂ "self" = some (.ref σ.self) ∧ m₂ "n2i" = some (.ref σ.nd)) fun J₂ mkJ₂ elJ₂ => ?_
    refine iter_list J₂ rfl mas F₅ N₅ (mkJ₂ _ _ _ ⟨σ₅, S₅, by rw [f₅]; exact .refl, f₅, rfl, q₅.rdy.trans r₁, q₅.self.trans z1, q₅.nd.trans z2, q₅.pas.trans z3, q₅.fin.trans z4, rfl, rfl⟩) ?_ ?_
    · intro I₂ j v' m₂ l₃ h₃' tk₃ own₂ l₄ hv' hJ₂ hI3 hI4 hown₂ hIo₂ hcl₂ F₆ hnd₄ hl₄ N₆
      refine ex1 (elJ₂ _ _ _ hJ₂) fun σ₃ zz => and11 zz fun S₃' fr₃ f₃ e₃ r₃ y1 y2 y3 y4 ms₂ mn₂ => ?_
      clear hJ₂ elJ₂ mkJ
      refine ex1 (ka₁.get' hv') fun q' zz => and2 zz fun hq' hqv' => ?_
      (have zz := is_val hqv'; refine ex1 zz ?_; try clear zz; rintro tq' rfl)
      rw [ov ms₂, ov mn₂] at F₆
      have hjl : j < n₁.succ.length := (List.getElem?_eq_some_iff.mp hq').1
      have S₄ : SIn (PySem.strKind PySem.Challenge.rw_mr0282_02.prog w) 137 40 l₄ σ₃ := S₃'.sub fun p hp => (hl₄ p).mpr (.inr hp)
      obtain ⟨n₃, hn₃, hk₃⟩ : ∃ n ∈ σ₃.nodes, n.key = q' := key_node (by rw [e₃, aDecs_keys, e₅, aUpd_keys, e₁, aDone_keys]; exact hsu₁ _ (List.mem_of_getElem? hq'))
      subst hk₃
      have hI₃ := S₄.inst
      rw [y1] at hI₃
      refine ex6 S₄.dict fun _ _ _ _ _ _ hD₃ => ?_
      rw [r₃] at hD₃
      simp only [rdyV] at hD₃
      refine ex2 (S₄.rdy _ _ r₃) fun vs₅ ep₅ zz => and2 zz fun hR₅ ka₅ => ?_
      have hz₅ : vs₅.toArray.size ≤ sizeLine := by
        have := aDecs_len (ss := n₁.succ.take j) (st := (σ₅.abs, (aDone (σ.abs, rs) (qs.take i)).2))
        rw [List.length_take] at this
        rw [List.size_toArray, ka₅.length, sizeLine_eq]
        dsimp only at this
        omega
      refine ex1 S₄.n2i fun od₃ zz => and2 zz fun hO₃ hod₃ => ?_
      rw [y2] at hO₃
      have hva₃ := valueAt_of hn₃ S₄.keysNodup
      obtain ⟨⟨v₃, t₃, hv₃, m7⟩, m8, vs₃, ep₃, m9, ka₃⟩ := S₄.nds n₃ hn₃
      have sp₃ := S₄.sep hn₃
      have b1 := sp₃.ad
      have b2 := sp₃.as
      have b3 := sp₃.ds
      have b4 := sp₃.rdy n₃.ai (by simp [Nd.foot]) _ _ r₃
      have b5 := sp₃.self n₃.ai (by simp [Nd.foot])
      rw [y1] at b5
      have b6 := sp₃.dself n₃.ai (by simp [Nd.foot])
      have sh₃ := S₄.sepH
      have b7 := (sh₃.rs _ _ r₃).1
      rw [y1] at b7
      have b8 := (sh₃.rs _ _ r₃).2.1
      have nI₂ : I₂ ∉ σ₃.foot := fun hx => by
        refine ex1 (S₃'.footIn hx) fun o ho => ?_
        exact hI3 _ ho rfl
      have hai₃ : n₃.ai ∈ σ₃.foot := mem_foot_node hn₃ (by simp [Nd.foot])
      have hrd₃ : rd ∈ σ₃.foot := by unfold Srt.foot; rw [r₃]; simp [rdyF]
      have nasr : n₁.as ≠ rd := sp.rdy n₁.as (by simp [Nd.foot]) _ _ r₁
      have nown₂ : ∀ p ∈ own₂, p.1 ≠ n₃.ai ∧ p.1 ≠ rd := fun p hp => by
        constructor
        · intro e
          rcases hown₂ p hp with e' | e'
          · exact nI₂ (by rw [← e', e]; exact hai₃)
          · have := hcl₂ p hp e'
            have e3 : p.2 = niObj 40 v₃ n₃.np t₃ n₃.di n₃.as := by
              have h1 := (N₆ p ((hl₄ p).mpr (.inl hp))).1
              have h2 := (N₆ _ m7).1
              rw [e, h2] at h1
              exact (Option.some.inj h1).symm
            rw [e3] at this
            cases this
        · intro e
          rcases hown₂ p hp with e' | e'
          · exact nI₂ (by rw [← e', e]; exact hrd₃)
          · exact nasr (by rw [← e', e])
      have step : (n₁.succ.take (j + 1)).foldl aDec (σ₅.abs, (aDone (σ.abs, rs) (qs.take i)).2) = aDec ((n₁.succ.take j).foldl aDec (σ₅.abs, (aDone (σ.abs, rs) (qs.take i)).2)) n₃.key := by
        rw [List.take_add_one, hq']; simp
      k_steps
      · rename News g' L' _ _ => N₇
        rename Fr g' L' _ _ => F₇
        rename Heap => h₇
        rename n₃.np - 1 = 0 => h0
        rw [List.push_toArray] at N₇
        obtain ⟨t₇, N₇⟩ : ∃ t, News g' L' h₇ (setL (setL l₄ n₃.ai (niObj 40 v₃ (n₃.np - 1) t n₃.di n₃.as)) rd (W.listOf (vs₅ ++ [Value.str n₃.key tq']).toArray (ep₅ + 1))) := ⟨_, N₇⟩
        refine ex1 (node_dec S₄ hn₃ hv₃ t₇) fun σ₇ zz => and5 zz fun S₇ f₇ e₇ q₇ p₇ => ?_
        have S₈ := S₇.setR (n' := ep₅ + 1) (q₇.rdy.trans r₃) (ka₅.append (KA.single hqv'))
        have f₈ : ({ σ₇ with rdy := some (rd, ((n₁.succ.take j).foldl aDec (σ₅.abs, (aDone (σ.abs, rs) (qs.take i)).2)).2 ++ [n₃.key]) } : Srt Str).foot = σ₃.foot := by rw [← f₇]; unfold Srt.foot; rw [q₇.rdy, r₃]; rfl
        have fr₈ : Frm l₃ σ₃.foot (setL (setL l₄ n₃.ai (niObj 40 v₃ (n₃.np - 1) t₇ n₃.di n₃.as)) rd (W.listOf (vs₅ ++ [Value.str n₃.key tq']).toArray (ep₅ + 1))) σ₃.foot := ⟨fun p hp hF => mem_setL_ne (fun e => hF (e ▸ hrd₃)) (mem_setL_ne (fun e => hF (e ▸ hai₃)) ((hl₄ p).mpr (.inr hp))), fun _ h => .inl h⟩
        have stp : aDec ((n₁.succ.take j).foldl aDec (σ₅.abs, (aDone (σ.abs, rs) (qs.take i)).2)) n₃.key = (σ₇.abs, ((n₁.succ.take j).foldl aDec (σ₅.abs, (aDone (σ.abs, rs) (qs.take i)).2)).2 ++ [n₃.key]) := by
          rw [aDec_eq, ← e₃, ← e₇, p₇, if_pos h0]
        refine ⟨_, _, _, _, rfl, F₇, N₇, fun p hp => mem_setL_ne (nown₂ p hp).2 (mem_setL_ne (nown₂ p hp).1 ((hl₄ p).mpr (.inl hp))), mkJ₂ _ _ _ ⟨_, S₈.drop (by rw [f₈]; exact nI₂), by rw [f₈]; exact (fr₃.trans fr₈).drop hI4, f₈.trans f₃, ?_, ?_, q₇.self.trans y1, q₇.nd.trans y2, q₇.pas.trans y3, q₇.fin.trans y4, rfl, rfl⟩⟩
        · rw [step, stp]; rfl
        · rw [step, stp]
      · rename News g' L' _ _ => N₇
        rename Fr g' L' _ _ => F₇
        rename Heap => h₇
        rename ¬ n₃.np - 1 = 0 => h0
        obtain ⟨t₇, N₇⟩ : ∃ t, News g' L' h₇ (setL l₄ n₃.ai (niObj 40 v₃ (n₃.np - 1) t n₃.di n₃.as)) := ⟨_, N₇⟩
        refine ex1 (node_dec S₄ hn₃ hv₃ t₇) fun σ₇ zz => and5 zz fun S₇ f₇ e₇ q₇ p₇ => ?_
        have fr₈ : Frm l₃ σ₃.foot (setL l₄ n₃.ai (niObj 40 v₃ (n₃.np - 1) t₇ n₃.di n₃.as)) σ₃.foot := ⟨fun p hp hF => mem_setL_ne (fun e => hF (e ▸ hai₃)) ((hl₄ p).mpr (.inr hp)), fun _ h => .inl h⟩
        have stp : aDec ((n₁.succ.take j).foldl aDec (σ₅.abs, (aDone (σ.abs, rs) (qs.take i)).2)) n₃.key = (σ₇.abs, ((n₁.succ.take j).foldl aDec (σ₅.abs, (aDone (σ.abs, rs) (qs.take i)).2)).2) := by
          rw [aDec_eq, ← e₃, ← e₇, p₇, if_neg h0]
        refine ⟨_, _, _, _, rfl, F₇, N₇, fun p hp => mem_setL_ne (nown₂ p hp).1 ((hl₄ p).mpr (.inl hp)), mkJ₂ _ _ _ ⟨σ₇, S₇.drop (by rw [f₇]; exact nI₂), by rw [f₇]; exact (fr₃.trans fr₈).drop hI4, f₇.trans f₃, ?_, ?_, q₇.self.trans y1, q₇.nd.trans y2, q₇.pas.trans y3, q₇.fin.trans y4, rfl, rfl⟩⟩
        · rw [step, stp]
        · rw [step, stp, q₇.rdy, r₃]
    · intro m₂ l₃ h₃' tk₃ hJ₂ F₆ N₆
      refine ex1 (elJ₂ _ _ _ hJ₂) fun σ₃ zz => and11 zz fun S₃' fr₃ f₃ e₃ r₃ y1 y2 y3 y4 ms₂ mn₂ => ?_
      clear hJ₂ elJ₂ mkJ₂
      have st : (n₁.succ.take vs₁.length).foldl aDec (σ₅.abs, (aDone (σ.abs, rs) (qs.take i)).2) = aDone (σ.abs, rs) (qs.take (i + 1)) := by
        rw [ka₁.length, List.take_length, List.take_add_one, hq]
        simp only [Option.toList_some, aDone, List.foldl_append, List.foldl_cons, List.foldl_nil]
        unfold aDone1
        rw [e₅, e₁]
        congr 1
        rw [← aSucc_abs S₁'' hn₁, e₁]; rfl
      rw [st] at e₃ r₃
      rw [ov ms₂, ov mn₂] at F₆
      refine ex1 (news_nodup N₆) fun l₄ zz => and3 zz fun hnd₄ hmm₄ N₄ => ?_
      have S₄ := S₃'.sub (news' := l₄) fun p hp => (hmm₄ p).mpr hp
      have hI₃ := S₄.inst
      rw [y1] at hI₃
      refine ex6 S₄.dict fun _ _ _ _ _ _ hD₃ => ?_
      rw [r₃] at hD₃
      simp only [rdyV] at hD₃
      have sh₃ := S₄.sepH
      clear N₆
      k_steps
      rename News g' L' _ _ => N₇
      rename Fr g' L' _ _ => F₇
      rename Heap => h₇
      obtain ⟨a1', a2', a3', a4', a5', a6', N₇⟩ : ∃ a1 a2 a3 a4 a5 a6, News g' L' h₇ (setL l₄ σ₃.dself (dictOf (sdict w a1 a2 a3 a4 (.ref σ₃.nd) (.ref rd) σ₃.pas a5 (σ₃.fin + 1) a6) 4)) := ⟨_, _, _, _, _, _, N₇⟩
      have S₈ := S₄.setD (k1 := a1') (k2 := a2') (k3 := a3') (k4 := a4') (tp := a5') (tf := a6') (pas' := σ₃.pas) (fin' := σ₃.fin + 1)
      rw [r₃] at S₈
      simp only [rdyV] at S₈
      have hds : σ₃.dself ∈ σ₃.foot := by simp [Srt.foot]
      have fr₈ : Frm l₃ σ₃.foot (setL l₄ σ₃.dself (dictOf (sdict w a1' a2' a3' a4' (.ref σ₃.nd) (.ref rd) σ₃.pas a5' (σ₃.fin + 1) a6') 4)) σ₃.foot := ⟨fun p hp hF => mem_setL_ne (fun e => hF (e ▸ hds)) ((hmm₄ p).mpr hp), fun _ h => .inl h⟩
      have own₈ : ∀ p ∈ own, p ∈ setL l₄ σ₃.dself (dictOf (sdict w a1' a2' a3' a4' (.ref σ₃.nd) (.ref rd) σ₃.pas a5' (σ₃.fin + 1) a6') 4) := fun p hp => mem_setL_ne (fun e => nown p hp (by rw [e, ← f₃]; exact hds)) ((hmm₄ p).mpr (fr₃.keep p (ownA p hp) (nown p hp)))
      have nI₃ : I ∉ σ₃.foot := by rw [f₃]; exact nI
      refine ⟨_, _, _, _, rfl, F₇, N₇, own₈, mkJ _ _ _ ⟨{ σ₃ with pas := σ₃.pas, fin := σ₃.fin + 1, rdy := some (rd, (aDone (σ.abs, rs) (qs.take (i + 1))).2) }, SIn.drop S₈ (by rw [← r₃]; exact nI₃), ?_, ?_, e₃, rfl, y1, y2, y3, ?_, rfl, rfl⟩⟩
      · rw [← r₃]
        exact ((fr₁.trans (frA.trans fr₃)).trans fr₈).drop hI2
      · rw [← r₃]; exact f₃.trans f₁
      · show σ₃.fin + 1 = _
        rw [y4]; push_cast; omega
  · intro m₁ l₁ h₁ tk₁ hJ F₁ N₁
    refine ex1 (elJ _ _ _ hJ) fun σ₁ zz => and11 zz fun S₁' fr₁ f₁ e₁ r₁ z1 z2 z3 z4 ms mn => ?_
    clear hJ elJ mkJ
    have hfull : qs.take vs.length = qs := by rw [ka.length, List.take_length]
    rw [hfull] at e₁ r₁
    have fin : ∀ h' tk', Fr h₀ L h' m → News h₀ L h' l₁ → Q .none { s with heap := h', toks := tk' } := fun h' tk' F' N' => by
      refine ex1 (news_nodup N') fun l' zz => and3 zz fun hnd' hmm' N'' => ?_
      exact hret h' tk' l' σ₁ F' N'' hnd' (S₁'.sub fun p hp => (hmm' p).mpr hp) ((fr₁.less (news₀ := news) fun p hp => List.mem_cons_of_mem _ ((hmm p).mpr hp)).more fun p hp => (hmm' p).mpr hp) f₁ e₁ z1 r₁ z3 (by rw [z4, ka.length])
    clear hret
    k_steps
    exact fin _ _ (by assumption) (by assumption)
end
end
section
theorem calm_Add_2 (M : Model) (A : Around) (E : Value → Shared → Prop) (s : Shared) : wpAny M A (pure ()) (fun _ _ => True) E s := by
  w_top off
  first
  | (walk1; fail)
  | exact wpAny_pure trivial
section
theorem rules_Add : True := by
  k_with_none
  (k_with "k_lt" => ((rename AllLt _ _ => l1); (try simp only [AllLt, allLt_setL, allLt_append, and_true] at l1); (repeat obtain ⟨_, l1⟩ := l1)))
  (k_with "k_lt2" => ((rename _ < _ => l2); (try have hmzz := allLt_mono l2 (by assumption))))
  (k_with "k_room" => ktr_room)
  (k_with "k_all" => first | exact ne_of_allLt (by assumption) | k_asm | ((with_reducible show ∀ p ∈ setL _ _ _, _); refine all_setL ?_; k_all))
  (k_with "k_ne" => first | assumption | exact Ne.symm (by assumption) | exact ne_of_lt_mem (by assumption) (by assumption) | exact ne_of_lt_mem' (by assumption) (by assumption))
  (k_with "k_mem" => first | with_reducible exact List.mem_cons_self | ((with_reducible refine' List.mem_cons_of_mem _ ?_); k_mem))
  (k_with "k_mem" => ((with_reducible refine' memG ?_); first | exact mem_setL_self (by first | with_reducible assumption | k_mem) | exact memS (by first | with_reducible assumption | k_mem) (by k_ne)))
  (k_with "k_upd" => exact upd_setL (by assumption) (by k_mem))
  (k_with "k_upd" => ((with_reducible show Upd _ _ _ (setL _ _ _) _); exact upd_setL (by first | exact setL_nodup (by assumption) | exact setL_nodup (setL_nodup (by assumption)) | exact setL_nodup (setL_nodup (setL_nodup (by assumption))) | exact setL_nodup (setL_nodup (setL_nodup (setL_nodup (by assumption))))) (by k_mem)))
  (k_with "k_updF" => exact updF_setL (by assumption) (by k_mem))
  (k_with "k_updF" => ((with_reducible show UpdF _ _ (setL _ _ _) _); exact updF_setL (by first | exact setL_nodup (by assumption) | exact setL_nodup (setL_nodup (by assumption)) | exact setL_nodup (setL_nodup (setL_nodup (by assumption))) | exact setL_nodup (setL_nodup (setL_nodup (setL_nodup (by assumption))))) (by k_mem)))
  (k_with "getMethod ref" => (k_here; (with_reducible show wpAny _ _ (getMethod (Value.ref _) (Str.ofString "get") _) _ _ _); k_dflt (refine kdg_method (knd := PySem.strKind _ _) (by k_asm) (by k_mem) (by k_asm) ?_)))
  (k_with "call builtin:dict.get" => (k_here; k_dflt (refine kdg_get1 (knd := PySem.strKind _ _) (by k_asm) (by k_mem) (by k_asm) (by k_asm) (strKind_is _ _ _ _) _ (by k_asm) ?_); (try dsimp only [Option.getD])))
  (k_with "setItem ref str" => (k_here; k_dflt (refine' kda_set (knd := PySem.strKind _ _) ?zzF ?zzN ?zzU ?zzd (strKind_is _ _ _ _) ?zzz ?_; (case zzF => k_asm); (case zzN => k_asm); (case zzU => k_updF); (case zzd => k_asm); (case zzz => k_asm)); intro zh zo zF zN zd; (try dsimp only at zN)))
  (k_with "call builtin:len" => (k_here; (with_reducible show wpAny _ _ (call (Value.builtin "len") [Value.ref _]) _ _ _); k_dflt (first | (refine' len_tupN ?zzk1 ?zzk2 ?zzk3 ?_; (case zzk1 => k_asm); (case zzk2 => k_mem); (case zzk3 => assumption)) | (refine' len_listN ?zzk1 ?zzk2 ?zzk3 ?_; (case zzk1 => k_asm); (case zzk2 => k_mem); (case zzk3 => assumption)))))
  (k_with "call builtin:list.append" => (k_here; (with_reducible show wpAny _ _ (call (Value.builtin _) [Value.ref _, _]) _ _ _); k_dflt (refine' append_K ?zzk1 ?zzk2 ?zzk3 ?_ ?zzz; (case zzk1 => k_asm); (case zzk2 => k_asm); (case zzk3 => k_upd); (case zzz => first | assumption | size_fits); k_whole); intro zh zF zN; (try k_sweep)))
  (k_with "call type:bool" => (k_here; (with_reducible show wpAny _ _ (call _ [Value.ref _]) _ _ _); k_dflt (refine' bool_listN ?zzk1 ?zzk2 ?zzk3 ?_; (case zzk1 => k_asm); (case zzk2 => k_mem); (case zzk3 => assumption))))
  (k_with "call type:tuple" => (k_here; (with_reducible show wpAny _ _ (call (Value.type _) [Value.ref _]) _ _ _); k_dflt (refine' tuple_ofListN ?zzk1 ?zzk2 ?zzk3 ?zzk4 ?_; (case zzk1 => k_asm); (case zzk2 => k_asm); (case zzk3 => k_mem); (case zzk4 => assumption); k_whole); intro D' h' F' N' l1; (try k_lt l1); (try k_sweep)))
  (k_with "call type:list" => (k_here; (with_reducible show wpAny _ _ (call (Value.type _) [Value.ref _]) _ _ _); k_dflt (refine' list_ofTupN ?zzk1 ?zzk2 ?zzk3 ?zzk4 ?_; (case zzk1 => k_asm); (case zzk2 => k_asm); (case zzk3 => k_mem); (case zzk4 => assumption); k_whole); intro D' c' h' F' N' l1; (try k_lt l1); (try k_sweep)))
  (k_with "call builtin:list.clear" => (k_here; (with_reducible show wpAny _ _ (call (Value.builtin _) [Value.ref _]) _ _ _); k_dflt (refine' clear_listN ?zzk1 ?zzk2 ?zzk3 ?zzk4 ?_; (case zzk1 => k_asm); (case zzk2 => k_asm); (case zzk3 => k_updF); (case zzk4 => assumption); k_whole); intro zh zn zF zN; (try dsimp only at zN); (try k_sweep)))
  (k_with "subscriptTail" => (k_here; (with_reducible show wpAny _ _ (subscriptTail _ _ (Value.ref _) (Value.str _ _)) _ _ _); k_dflt (refine' kda_item (knd := PySem.strKind _ _) ?zzk1 ?zzk2 ?zzk3 (strKind_is _ _ _ _) ?zzk5 ?_ ?zzk7 ?zzk8; (case zzk1 => k_asm); (case zzk2 => k_mem); (case zzk3 => k_asm); (case zzk5 => k_asm); (case zzk7 => with_unfolding_all rfl); (case zzk8 => intro _; with_unfolding_all rfl); k_whole)))
  (k_with "tb_start" => first | decide | (dsimp only [Gm.set, Gm.rd, Γc, btab]; decide))
  (k_with "tb_rel" => first | with_reducible exact List.mem_cons_self | with_reducible exact set_self | (with_reducible refine List.mem_cons_of_mem _ ?_; tb_rel) | (with_reducible refine f_mem ?_ (by dsimp only; decide); tb_rel) | (with_reducible refine set_ne ?_ (by dsimp only; decide); tb_rel) | (with_reducible refine rd_mem ?_; tb_rel) | (with_reducible refine rd_mmem ?_; tb_rel) | (with_reducible refine c_own ?_; tb_rel) | (with_reducible refine c_up ?_ (by dsimp only; decide); tb_rel) | (with_reducible refine c_mup ?_ (by dsimp only; decide); tb_rel) | (with_reducible refine ini_mem (by assumption) ?_; tb_rel))
  (k_with "ktr_rel" => first | exact forall_nil | (refine forall_cons ?_ ?_; (first | tb_rel | skip); (first | ktr_rel | skip)))
  (k_with "call ref" => (k_here; (with_reducible show wpAny _ _ (call (Value.ref 80) _ _) _ _ _); k_dflt (refine' getni_spec ?zzcB ?zzcF ?zzcT ?zzcK ?zzcN ?zzcd ?zzcu ?zzcS ?zzcs ?zzcl (Stop.out ?_) ?zzcX; (case zzcB => k_asm); (case zzcF => k_asm); (case zzcT => k_asm); (case zzcK => first | exact rfl | assumption); (case zzcN => k_asm); (case zzcS => first | k_asm | exact SIn.sub (by assumption) (fun _ hp => List.mem_cons_of_mem _ hp) | exact SIn.sub (by assumption) (fun _ hp => List.mem_append_right _ hp)); (case zzcs => first | assumption | rfl); (case zzcl => assumption); (case zzcX => k_asm); (case zzcd => first | omega | (dsimp only [ktrTop, Around.deeper]; omega)); (case zzcu => first | omega | (dsimp only [ktrTop, Around.deeper]; omega)))))
  trivial
set_option maxHeartbeats 0 in
theorem add_code {w : World} {p : Program} {loose : List Str} {mean : ExcName → Option Value} {mg mb : Str → Option Value}
  {dp un : Nat} {gd : Option (List Code)} {cn : Str} {cs : Scope} {a : Addr} {ccd : Value} {cl : List (Str × Addr)} {outer : List Env} {A₀ : Around} {base h₀ : Heap} {L : Addr} {m : Str → Option Value} {news : Led} {s : Shared}
  {Q E : Value → Shared → Prop}
    {σ : Srt Str} {k : Str} {tkk : Tok} {self : Addr} {vs : List Value} {qs : List Str}
    (B : Below A₀ base outer h₀) (F : Fr h₀ L s.heap m) (T : Top p loose mean mg mb h₀) (hk : cs.kind = .function) (N : News h₀ L s.heap news) (hd : dp < 890) (hu : un < 8900) (S : SIn (PySem.strKind PySem.Challenge.rw_mr0282_02.prog w) 137 40 news σ) (hs : σ.self = self) (hr : σ.rdy = none) (ka : KA (PySem.strKind PySem.Challenge.rw_mr0282_02.prog w) vs qs)
    (hlen : σ.nodes.length + qs.length ≤ 100000) {M : Nat} (hsl : SuccLe σ M) (hM : M + qs.length ≤ 100000)
    (hret : ∀ h' tk' news' σ', Fr h₀ L h' m → News h₀ L h' news' → (news'.map (·.1)).Nodup → SIn (PySem.strKind PySem.Challenge.rw_mr0282_02.prog w) 137 40 news' σ' → Frm news σ.foot news' σ'.foot →
      σ'.abs = aAdd σ.abs k qs → Same σ σ' → σ'.nodes.length ≤ σ.nodes.length + qs.length + 1 → SuccLe σ' (M + qs.length) → Q .none { s with heap := h', toks := tk' }) :
    (Mine.hd.heap_1 w.params).In h₀ → codeAny (model PySem.Challenge.rw_mr0282_02.prog w) (ktrTop dp un gd cn cs L a ccd cl outer) (.call (.ref 87) ⟨.ref self :: Value.str k tkk :: vs, []⟩) (fun r s' => match r with | .ok (.ret v) => Q v s' | .ok _ => False | .error e => E e s') s := by
  k_fill
  intro X
  subst hs
  refine ex1 (news_nodup N) fun news₁ zz => and3 zz fun hnd hmm N₁ => ?_
  have S₁ := S.sub (news' := news₁) fun p hp => (hmm p).mpr hp
  have hI := S₁.inst
  refine ex6 S₁.dict fun k1 k2 k3 k4 tp tf hD => ?_
  rw [hr] at hD
  simp only [rdyV] at hD
  have hlen' : σ.nodes.length ≤ 1000000 := by omega
  clear N S
  k_dflt (refine' enter_rest (vs := vs) (nm := "predecessors") (front := [("self", .ref σ.self), ("node", Value.str k tkk)]) ?k1 ?k2 ?k3 ?k4 ?k5 ?kA ?kF ?kK ?k6 ?k7 ?k8 ?kb ?kz ?kl ?_ ?c2 ?c3 ?c4 ?c5; (case kA => exact rfl); (case kF => exact rfl); (case kK => assumption); (case k1 => k_asm); (case k2 => k_asm); (case k3 => k_asm); (case k4 => k_asm); (case k5 => k_asm); (case k6 => k_is); (case k7 => k_is); (case k8 => ktr_room); (case kb => cases vs <;> rfl); (case kz => have := ka.length; rw [sizeLine_eq]; omega); (case kl => exact fun _ => locs rfl); (case c5 => decide); (case c2 => exact rfl); (case c3 => exact rfl); (case c4 => exact rfl); k_whole; intro D' g' L' h' l1 FG' F' N' B' X' T'; (try k_lt l1); (try dsimp only); (try k_fold))
  k_steps
  refine ⟨?_⟩
  intro h₂ tk₂ news₂ σ₂ n₂ F₂ N₂ hnd₂ S₂ fr₂ G₂
  obtain ⟨⟨v₂, t₂, hv₂, m1⟩, m2, vs₂, ep₂, m3, ka₂⟩ := S₂.nds n₂ G₂.mem
  have hvl : vs.length ≤ 1000000 := by have := ka.length; omega
  rename AllLt _ news₁ => aD
  have oD := fr₂.off List.mem_cons_self (S₁.notFoot aD)
  have mD := oD.1
  k_steps
  rename News g' L' _ _ => N₃
  rename Fr g' L' _ _ => F₃
  rename Heap => h₃
  refine For_invV g' rfl rfl ?_ (hE := ?_)
  rotate_left
  · k_steps
  obtain ⟨t₃, N₃⟩ : ∃ t, News g' L' h₃ (setL news₂ n₂.ai (niObj 40 v₂ (n₂.np + vs.length) t n₂.di n₂.as)) := ⟨_, N₃⟩
  refine ex1 (got_ni S₂ G₂ hv₂ vs.length t₃) fun σ₃ zz => and6 zz fun S₃ f₃ e₃ q₃ l₃ u₃ => ?_
  have fr₃ := (fr₂.less (news₀ := news) fun p hp => List.mem_cons_of_mem _ ((hmm p).mpr hp)).trans (setL_frm (x := n₂.ai) (o := niObj 40 v₂ (n₂.np + vs.length) t₃ n₂.di n₂.as) (mem_foot_node G₂.mem (by simp [Nd.foot])))
  rw [← f₃] at fr₃
  have mD₃ := mem_setL_ne (o' := niObj 40 v₂ (n₂.np + vs.length) t₃ n₂.di n₂.as) (fun e : D' = n₂.ai => oD.2 (by rw [e]; exact mem_foot_node G₂.mem (by simp [Nd.foot]))) mD
  have nD₃ : D' ∉ σ₃.foot := by rw [f₃]; exact oD.2
  rw [ka.length] at e₃
  k_steps
  generalize hled : setL news₂ n₂.ai (niObj 40 v₂ (n₂.np + vs.length) t₃ n₂.di n₂.as) = led at *
  refine hideD (fun i m₁ l => ∃ σ₁, SIn (PySem.strKind PySem.Challenge.rw_mr0282_02.prog w) 137 40 l σ₁ ∧ Frm led σ₃.foot l σ₁.foot ∧ σ₁.abs = (qs.take i).foldl (aPred k) σ₃.abs ∧ Same σ₃ σ₁ ∧ σ₁.nodes.length ≤ σ₃.nodes.length + i ∧ SuccLe σ₁ (M + i) ∧ m₁ "self" = some (.ref σ.self) ∧ m₁ "node" = some (Value.str k tkk)) fun J mkJ elJ => ?_
  refine iter_tuple J rfl mD₃ F₃ N₃ (mkJ _ _ _ ⟨σ₃, S₃, .refl, rfl, .rfl, Nat.le_refl _, u₃ M hsl, rfl, rfl⟩) ?_ ?_
  · intro I i v m₁ l₁ h₁ tk₁ own l₂ hv hJ hI1 hI2 hown hIo F₁ hnd₁ hl₂ N₁
    refine ex1 (elJ _ _ _ hJ) fun σ₁ zz => and8 zz fun S₁' fr₁ e₁ q₁ le₁ u₁ ms mn => ?_
    clear hJ elJ
    refine ex1 (ka.get' hv) fun q zz => and2 zz fun hq hqv => ?_
    (have zz := is_val hqv; refine ex1 zz ?_; try clear zz; rintro tq rfl)
    have hil : i < qs.length := (List.getElem?_eq_some_iff.mp hq).1
    have hself : σ₁.self = σ.self := q₁.self.trans q₃.self
    have hl1 : σ₁.nodes.length ≤ 1000000 := by omega
    rw [ov ms, ov mn] at F₁
    have S₁'' : SIn (PySem.strKind PySem.Challenge.rw_mr0282_02.prog w) 137 40 l₂ σ₁ := S₁'.sub fun p hp => (hl₂ p).mpr (.inr hp)
    have hI₁ := S₁''.inst
    rw [hself] at hI₁
    refine ex6 S₁''.dict fun _ _ _ _ _ _ hD₁ => ?_
    have nI : I ∉ σ₁.foot := fun hx => by
      refine ex1 (S₁'.footIn hx) fun o ho => ?_
      exact hI1 _ ho rfl
    have nD := (fr₁.off mD₃ nD₃).2
    have nown : ∀ p ∈ own, p.1 ∉ σ₁.foot := fun p hp => by
      rcases hown p hp with e | e <;> rw [e] <;> assumption
    k_steps
    refine ⟨?_⟩
    intro h₄ tk₄ news₄ σ₄ n₄ F₄ N₄ hnd₄ S₄ fr₄ G₄
    obtain ⟨⟨v₄, t₄, hv₄, m4⟩, m5, vs₄, ep₄, m6, ka₄⟩ := S₄.nds n₄ G₄.mem
    have hz₄ : vs₄.toArray.size ≤ sizeLine := by
      have := G₄.succ u₁ n₄ G₄.mem
      rw [List.size_toArray, ka₄.length, sizeLine_eq]; omega
    k_steps
    rename News g' L' _ _ => N₅
    rename Fr g' L' _ _ => F₅
    rename Heap => h₅
    have N₅' : News g' L' h₅ (setL news₄ n₄.as (W.listOf (vs₄ ++ [Value.str k tkk]).toArray (ep₄ + 1))) := by rw [List.push_toArray] at N₅; exact N₅
    refine ex1 (got_as S₄ G₄ ka₄ (strKind_is _ _ k tkk) (ep₄ + 1)) fun σ₅ zz => and6 zz fun S₅ f₅ e₅ q₅ l₅ u₅ => ?_
    have fr₅ := (fr₄.less (news₀ := l₁) fun p hp => (hl₂ p).mpr (.inr hp)).trans (setL_frm (x := n₄.as) (o := W.listOf (vs₄ ++ [Value.str k tkk]).toArray (ep₄ + 1)) (mem_foot_node G₄.mem (by simp [Nd.foot])))
    rw [← f₅] at fr₅
    have offI : ∀ p ∈ own, p ∈ setL news₄ n₄.as (W.listOf (vs₄ ++ [Value.str k tkk]).toArray (ep₄ + 1)) ∧ p.1 ∉ σ₅.foot := fun p hp => by
      have a1 := fr₄.keep p ((hl₂ p).mpr (.inl hp)) (nown p hp)
      have a2 : p.1 ∉ σ₄.foot := fun h => (fr₄.foot _ h).elim (nown p hp) fun h => h p ((hl₂ p).mpr (.inl hp)) rfl
      exact ⟨mem_setL_ne (fun e => a2 (by rw [e]; exact mem_foot_node G₄.mem (by simp [Nd.foot]))) a1, by rw [f₅]; exact a2⟩
    have nI5 : I ∉ σ₅.foot := let ⟨o, ho⟩ := hIo; (offI _ ho).2
    refine ⟨_, _, _, _, rfl, F₅, N₅', fun p hp => (offI p hp).1, mkJ _ _ _ ⟨σ₅, S₅.drop nI5, (fr₁.trans fr₅).drop hI2, ?_, q₁.trans q₅, by omega, u₅ _ u₁, rfl, rfl⟩⟩
    rw [e₅, e₁, List.take_add_one, hq]
    simp
  · intro m₁ l₁ h₁ tk₁ hJ F₁ N₁
    refine ex1 (elJ _ _ _ hJ) fun σ₁ zz => and8 zz fun S₁' fr₁ e₁ q₁ le₁ u₁ ms mn => ?_
    clear hJ elJ mkJ
    have fin : ∀ h' tk', Fr h₀ L h' m → News h₀ L h' l₁ → Q .none { s with heap := h', toks := tk' } := fun h' tk' F' N' => by
      refine ex1 (news_nodup N') fun l' zz => and3 zz fun hnd' hmm' N'' => ?_
      refine hret h' tk' l' σ₁ F' N'' hnd' (S₁'.sub fun p hp => (hmm' p).mpr hp) ((fr₃.trans fr₁).more fun p hp => (hmm' p).mpr hp) ?_ (q₃.trans q₁) ?_ ?_
      · rw [e₁, e₃, ka.length, List.take_length]; rfl
      · rw [ka.length] at le₁; omega
      · rw [ka.length] at u₁; exact u₁
    clear hret
    k_steps
    exact fin _ _ (by assumption) (by assumption)
theorem add_spec {w : World} {p : Program} {loose : List Str} {mean : ExcName → Option Value} {mg mb : Str → Option Value}
  {dp un : Nat} {gd : Option (List Code)} {cn : Str} {cs : Scope} {a : Addr} {ccd : Value} {cl : List (Str × Addr)} {outer : List Env} {A₀ : Around} {base h₀ : Heap} {L : Addr} {m : Str → Option Value} {news : Led} {s : Shared}
  {Q E : Value → Shared → Prop}
    {σ : Srt Str} {k : Str} {tkk : Tok} {self : Addr} {vs : List Value} {qs : List Str}
    (B : Below A₀ base outer h₀) (F : Fr h₀ L s.heap m) (T : Top p loose mean mg mb h₀) (hk : cs.kind = .function) (N : News h₀ L s.heap news) (hd : dp < 890) (hu : un < 8900) (S : SIn (PySem.strKind PySem.Challenge.rw_mr0282_02.prog w) 137 40 news σ) (hs : σ.self = self) (hr : σ.rdy = none) (ka : KA (PySem.strKind PySem.Challenge.rw_mr0282_02.prog w) vs qs)
    (hlen : σ.nodes.length + qs.length ≤ 100000) {M : Nat} (hsl : SuccLe σ M) (hM : M + qs.length ≤ 100000)
    (hret : ∀ h' tk' news' σ', Fr h₀ L h' m → News h₀ L h' news' → (news'.map (·.1)).Nodup → SIn (PySem.strKind PySem.Challenge.rw_mr0282_02.prog w) 137 40 news' σ' → Frm news σ.foot news' σ'.foot →
      σ'.abs = aAdd σ.abs k qs → Same σ σ' → σ'.nodes.length ≤ σ.nodes.length + qs.length + 1 → SuccLe σ' (M + qs.length) → Q .none { s with heap := h', toks := tk' }) :
    (Mine.hd.heap_1 w.params).In h₀ → wpAny (model PySem.Challenge.rw_mr0282_02.prog w) (ktrTop dp un gd cn cs L a ccd cl outer) (call (.ref 87) (.ref self :: Value.str k tkk :: vs)) Q E s := fun X => wpAny_call (add_code B F T hk N hd hu S hs hr ka hlen hsl hM hret X)
end
end
section
theorem calm_New_2 (M : Model) (A : Around) (E : Value → Shared → Prop) (s : Shared) : wpAny M A (pure ()) (fun _ _ => True) E s := by
  w_top off
  first
  | (walk1; fail)
  | exact wpAny_pure trivial
section
theorem rules_New : True := by
  k_with_none
  (k_with "k_lt" => ((rename AllLt _ _ => l1); (try simp only [AllLt, allLt_setL, allLt_append, and_true] at l1); (repeat obtain ⟨_, l1⟩ := l1)))
  (k_with "k_lt2" => ((rename _ < _ => l2); (try have hmzz := allLt_mono l2 (by assumption))))
  (k_with "k_room" => ktr_room)
  (k_with "k_all" => first | exact ne_of_allLt (by assumption) | k_asm | ((with_reducible show ∀ p ∈ setL _ _ _, _); refine all_setL ?_; k_all))
  (k_with "k_ne" => first | assumption | exact Ne.symm (by assumption) | exact ne_of_lt_mem (by assumption) (by assumption) | exact ne_of_lt_mem' (by assumption) (by assumption))
  (k_with "k_mem" => first | with_reducible exact List.mem_cons_self | ((with_reducible refine' List.mem_cons_of_mem _ ?_); k_mem))
  (k_with "k_mem" => ((with_reducible refine' memG ?_); first | exact mem_setL_self (by first | with_reducible assumption | k_mem) | exact memS (by first | with_reducible assumption | k_mem) (by k_ne)))
  (k_with "k_upd" => exact upd_setL (by assumption) (by k_mem))
  (k_with "k_upd" => ((with_reducible show Upd _ _ _ (setL _ _ _) _); exact upd_setL (by first | exact setL_nodup (by assumption) | exact setL_nodup (setL_nodup (by assumption)) | exact setL_nodup (setL_nodup (setL_nodup (by assumption))) | exact setL_nodup (setL_nodup (setL_nodup (setL_nodup (by assumption))))) (by k_mem)))
  (k_with "k_updF" => exact updF_setL (by assumption) (by k_mem))
  (k_with "k_updF" => ((with_reducible show UpdF _ _ (setL _ _ _) _); exact updF_setL (by first | exact setL_nodup (by assumption) | exact setL_nodup (setL_nodup (by assumption)) | exact setL_nodup (setL_nodup (setL_nodup (by assumption))) | exact setL_nodup (setL_nodup (setL_nodup (setL_nodup (by assumption))))) (by k_mem)))
  (k_with "getMethod ref" => (k_here; (with_reducible show wpAny _ _ (getMethod (Value.ref _) (Str.ofString "get") _) _ _ _); k_dflt (refine kdg_method (knd := PySem.strKind _ _) (by k_asm) (by k_mem) (by k_asm) ?_)))
  (k_with "call builtin:dict.get" => (k_here; k_dflt (refine kdg_get1 (knd := PySem.strKind _ _) (by k_asm) (by k_mem) (by k_asm) (by k_asm) (strKind_is _ _ _ _) _ (by k_asm) ?_); (try dsimp only [Option.getD])))
  (k_with "setItem ref str" => (k_here; k_dflt (refine' kda_set (knd := PySem.strKind _ _) ?zzF ?zzN ?zzU ?zzd (strKind_is _ _ _ _) ?zzz ?_; (case zzF => k_asm); (case zzN => k_asm); (case zzU => k_updF); (case zzd => k_asm); (case zzz => k_asm)); intro zh zo zF zN zd; (try dsimp only at zN)))
  (k_with "call builtin:len" => (k_here; (with_reducible show wpAny _ _ (call (Value.builtin "len") [Value.ref _]) _ _ _); k_dflt (first | (refine' len_tupN ?zzk1 ?zzk2 ?zzk3 ?_; (case zzk1 => k_asm); (case zzk2 => k_mem); (case zzk3 => assumption)) | (refine' len_listN ?zzk1 ?zzk2 ?zzk3 ?_; (case zzk1 => k_asm); (case zzk2 => k_mem); (case zzk3 => assumption)))))
  (k_with "call builtin:list.append" => (k_here; (with_reducible show wpAny _ _ (call (Value.builtin _) [Value.ref _, _]) _ _ _); k_dflt (refine' append_K ?zzk1 ?zzk2 ?zzk3 ?_ ?zzz; (case zzk1 => k_asm); (case zzk2 => k_asm); (case zzk3 => k_upd); (case zzz => first | assumption | size_fits); k_whole); intro zh zF zN; (try k_sweep)))
  (k_with "call type:bool" => (k_here; (with_reducible show wpAny _ _ (call _ [Value.ref _]) _ _ _); k_dflt (refine' bool_listN ?zzk1 ?zzk2 ?zzk3 ?_; (case zzk1 => k_asm); (case zzk2 => k_mem); (case zzk3 => assumption))))
  (k_with "call type:tuple" => (k_here; (with_reducible show wpAny _ _ (call (Value.type _) [Value.ref _]) _ _ _); k_dflt (refine' tuple_ofListN ?zzk1 ?zzk2 ?zzk3 ?zzk4 ?_; (case zzk1 => k_asm); (case zzk2 => k_asm); (case zzk3 => k_mem); (case zzk4 => assumption); k_whole); intro D' h' F' N' l1; (try k_lt l1); (try k_sweep)))
  (k_with "call type:list" => (k_here; (with_reducible show wpAny _ _ (call (Value.type _) [Value.ref _]) _ _ _); k_dflt (refine' list_ofTupN ?zzk1 ?zzk2 ?zzk3 ?zzk4 ?_; (case zzk1 => k_asm); (case zzk2 => k_asm); (case zzk3 => k_mem); (case zzk4 => assumption); k_whole); intro D' c' h' F' N' l1; (try k_lt l1); (try k_sweep)))
  (k_with "call builtin:list.clear" => (k_here; (with_reducible show wpAny _ _ (call (Value.builtin _) [Value.ref _]) _ _ _); k_dflt (refine' clear_listN ?zzk1 ?zzk2 ?zzk3 ?zzk4 ?_; (case zzk1 => k_asm); (case zzk2 => k_asm); (case zzk3 => k_updF); (case zzk4 => assumption); k_whole); intro zh zn zF zN; (try dsimp only at zN); (try k_sweep)))
  (k_with "subscriptTail" => (k_here; (with_reducible show wpAny _ _ (subscriptTail _ _ (Value.ref _) (Value.str _ _)) _ _ _); k_dflt (refine' kda_item (knd := PySem.strKind _ _) ?zzk1 ?zzk2 ?zzk3 (strKind_is _ _ _ _) ?zzk5 ?_ ?zzk7 ?zzk8; (case zzk1 => k_asm); (case zzk2 => k_mem); (case zzk3 => k_asm); (case zzk5 => k_asm); (case zzk7 => with_unfolding_all rfl); (case zzk8 => intro _; with_unfolding_all rfl); k_whole)))
  (k_with "tb_start" => first | decide | (dsimp only [Gm.set, Gm.rd, Γc, btab]; decide))
  (k_with "tb_rel" => first | with_reducible exact List.mem_cons_self | with_reducible exact set_self | (with_reducible refine List.mem_cons_of_mem _ ?_; tb_rel) | (with_reducible refine f_mem ?_ (by dsimp only; decide); tb_rel) | (with_reducible refine set_ne ?_ (by dsimp only; decide); tb_rel) | (with_reducible refine rd_mem ?_; tb_rel) | (with_reducible refine rd_mmem ?_; tb_rel) | (with_reducible refine c_own ?_; tb_rel) | (with_reducible refine c_up ?_ (by dsimp only; decide); tb_rel) | (with_reducible refine c_mup ?_ (by dsimp only; decide); tb_rel) | (with_reducible refine ini_mem (by assumption) ?_; tb_rel))
  (k_with "ktr_rel" => first | exact forall_nil | (refine forall_cons ?_ ?_; (first | tb_rel | skip); (first | ktr_rel | skip)))
  trivial
theorem srt_new {w : World} {l : Led} {x d dn : Addr} {o' : Obj} {k1 k2 k3 k4 tp tf : Tok} (h1 : (x, instObj 137 d) ∈ l) (h2 : (d, dictOf (sdict w k1 k2 k3 k4 (.ref dn) .none 0 tp 0 tf) 4) ∈ l) (h3 : (dn, o') ∈ l) (hd : o'.IsDictOf (PySem.strKind PySem.Challenge.rw_mr0282_02.prog w) []) (lo : (dn == sysModules) = false) (n1 : d < x) (n2 : x < dn) (n3 : d < dn) :
    SIn (PySem.strKind PySem.Challenge.rw_mr0282_02.prog w) 137 40 l ⟨x, d, dn, [], none, 0, 0⟩ := by
  refine ⟨h1, ⟨k1, k2, k3, k4, tp, tf, h2⟩, ⟨o', h3, hd⟩, lo, fun _ h => (nomatch h), fun _ _ h => (nomatch h), ?_⟩
  simp only [Srt.foot, rdyF, List.flatMap_nil, List.nil_append, List.nodup_cons, List.mem_cons, List.not_mem_nil, or_false, not_false_eq_true, List.nodup_nil, and_true, not_or]
  exact ⟨⟨fun e => Nat.lt_irrefl _ (e ▸ n1), fun e => Nat.lt_irrefl _ (e ▸ n2)⟩, fun e => Nat.lt_irrefl _ (e ▸ n3)⟩
theorem new_end {w : World} {h₀ h : Heap} {L : Addr} {news : Led} {x d dn : Addr} {o' : Obj} {k1 k2 k3 k4 tp tf : Tok} (N : News h₀ L h ((dn, o') :: (x, instObj 137 d) :: (d, dictOf (sdict w k1 k2 k3 k4 (.ref dn) .none 0 tp 0 tf) 4) :: news)) (hd : o'.IsDictOf (PySem.strKind PySem.Challenge.rw_mr0282_02.prog w) []) (lo : (dn == sysModules) = false) (n1 : d < x) (n2 : x < dn) (n3 : d < dn) (a1 : AllLt d news) :
    SIn (PySem.strKind PySem.Challenge.rw_mr0282_02.prog w) 137 40 ((dn, o') :: (x, instObj 137 d) :: (d, dictOf (sdict w k1 k2 k3 k4 (.ref dn) .none 0 tp 0 tf) 4) :: news) ⟨x, d, dn, [], none, 0, 0⟩ ∧ (∀ p ∈ news, p ∈ ((dn, o') :: (x, instObj 137 d) :: (d, dictOf (sdict w k1 k2 k3 k4 (.ref dn) .none 0 tp 0 tf) 4) :: news)) ∧ ∀ a ∈ (⟨x, d, dn, [], none, 0, 0⟩ : Srt Str).foot, ∀ p ∈ news, p.1 ≠ a := by
  refine ⟨srt_new (.tail _ (.head _)) (.tail _ (.tail _ (.head _))) (.head _) hd lo n1 n2 n3, fun p hp => .tail _ (.tail _ (.tail _ hp)), fun a ha p hp => ?_⟩
  simp only [Srt.foot, rdyF, List.flatMap_nil, List.nil_append, List.mem_cons, List.not_mem_nil, or_false] at ha
  rcases ha with rfl | rfl | rfl
  · exact ne_of_allLt (allLt_mono n1 a1) p hp
  · exact ne_of_allLt a1 p hp
  · exact ne_of_allLt (allLt_mono n3 a1) p hp
theorem new_spec {w : World} {p : Program} {loose : List Str} {mean : ExcName → Option Value} {mg mb : Str → Option Value}
  {dp un : Nat} {gd : Option (List Code)} {cn : Str} {cs : Scope} {a : Addr} {ccd : Value} {cl : List (Str × Addr)} {outer : List Env} {A₀ : Around} {base h₀ : Heap} {L : Addr} {m : Str → Option Value} {news : Led} {s : Shared}
  {Q E : Value → Shared → Prop}
    (B : Below A₀ base outer h₀) (F : Fr h₀ L s.heap m) (T : Top p loose mean mg mb h₀) (hk : cs.kind = .function) (N : News h₀ L s.heap news) (hd : dp < 890) (hu : un < 8900)
    (hret : ∀ h' tk' news' σ', Fr h₀ L h' m → News h₀ L h' news' → SIn (PySem.strKind PySem.Challenge.rw_mr0282_02.prog w) 137 40 news' σ' → (∀ p ∈ news, p ∈ news') → (∀ a ∈ σ'.foot, ∀ p ∈ news, p.1 ≠ a) → σ'.nodes = [] → σ'.rdy = none → σ'.pas = 0 → σ'.fin = 0 → Q (.ref σ'.self) { s with heap := h', toks := tk' }) :
    (Mine.hd.heap_1 w.params).In h₀ → wpAny (model PySem.Challenge.rw_mr0282_02.prog w) (ktrTop dp un gd cn cs L a ccd cl outer) (call (.ref 137) []) Q E s := by
  k_fill
  intro X
  k_dflt (refine' call_cls ?k1 ?k2 ?k3 ?k4 ?k5 ?k6 ?_; (case k1 => k_asm); (case k2 => k_asm); (case k3 => k_asm); (case k4 => k_is); (case k5 => k_is); (case k6 => k_is); k_whole; intro x' d' h' F' N' l1 l2; (try k_lt l1); (try k_lt2 l2))
  k_dflt (refine' code_def ?k1 ?k2 ?k3 ?k4 ?k5 ?kA ?kF ?kK ?k6 ?k7 ?k8 ?k9 ?kB ?_ ?c2 ?c3 ?c4 ?c5; (case kA => exact rfl); (case kF => exact rfl); (case kK => assumption); (case k1 => k_asm); (case k2 => k_asm); (case k3 => k_asm); (case k4 => k_asm); (case k5 => k_asm); (case k6 => k_is); (case k7 => k_is); (case k8 => ktr_room); (case k9 => exact binds_K (by k_in) rfl (by k_is) rfl rfl rfl); (case c5 => decide); (case kB => exact locs rfl); (case c2 => exact rfl); (case c3 => exact rfl); (case c4 => exact rfl); k_whole; intro g' L' h' FG' F' N' B' X' T'; (try dsimp only); (try k_fold))
  k_steps
  rename News h₀ L _ _ => N₉
  refine and3 (new_end N₉ (by assumption) (by assumption) (by assumption) (by assumption) (by assumption) (by assumption)) fun S₉ u1 u2 => ?_
  exact hret _ _ _ _ (by assumption) N₉ S₉ u1 u2 rfl rfl rfl rfl
end
end
section
section
theorem rules_Mth : True := by
  k_with_none
  (k_with "omega" => lia)
  (k_with "k_room" => ktr_room)
  (k_with "k_all" => first | exact ne_of_allLt (by assumption) | k_asm | ((with_reducible show ∀ p ∈ setL _ _ _, _); refine all_setL ?_; k_all))
  (k_with "k_ne" => first | assumption | exact Ne.symm (by assumption) | exact ne_of_lt_mem (by assumption) (by assumption) | exact ne_of_lt_mem' (by assumption) (by assumption))
  (k_with "k_mem" => first | with_reducible exact List.mem_cons_self | ((with_reducible refine' List.mem_cons_of_mem _ ?_); k_mem))
  (k_with "k_mem" => ((with_reducible refine' memG ?_); first | exact mem_setL_self (by first | with_reducible assumption | k_mem) | exact memS (by first | with_reducible assumption | k_mem) (by k_ne)))
  (k_with "k_upd" => exact upd_setL (by assumption) (by k_mem))
  (k_with "k_upd" => ((with_reducible show Upd _ _ _ (setL _ _ _) _); exact upd_setL (by first | exact setL_nodup (by assumption) | exact setL_nodup (setL_nodup (by assumption)) | exact setL_nodup (setL_nodup (setL_nodup (by assumption))) | exact setL_nodup (setL_nodup (setL_nodup (setL_nodup (by assumption))))) (by k_mem)))
  (k_with "k_updF" => exact updF_setL (by assumption) (by k_mem))
  (k_with "k_updF" => ((with_reducible show UpdF _ _ (setL _ _ _) _); exact updF_setL (by first | exact setL_nodup (by assumption) | exact setL_nodup (setL_nodup (by assumption)) | exact setL_nodup (setL_nodup (setL_nodup (by assumption))) | exact setL_nodup (setL_nodup (setL_nodup (setL_nodup (by assumption))))) (by k_mem)))
  (k_with "getMethod ref" => (k_here; (with_reducible show wpAny _ _ (getMethod (Value.ref _) (Str.ofString "get") _) _ _ _); k_dflt (refine kdg_method (knd := PySem.strKind _ _) (by k_asm) (by k_mem) (by k_asm) ?_)))
  (k_with "call builtin:dict.get" => (k_here; k_dflt (refine kdg_get1 (knd := PySem.strKind _ _) (by k_asm) (by k_mem) (by k_asm) (by k_asm) (strKind_is _ _ _ _) _ (by k_asm) ?_); (try dsimp only [Option.getD])))
  (k_with "setItem ref str" => (k_here; k_dflt (refine' kda_set (knd := PySem.strKind _ _) ?zzF ?zzN ?zzU ?zzd (strKind_is _ _ _ _) ?zzz ?_; (case zzF => k_asm); (case zzN => k_asm); (case zzU => k_updF); (case zzd => k_asm); (case zzz => k_asm)); intro zh zo zF zN zd; (try dsimp only at zN)))
  (k_with "call builtin:len" => (k_here; (with_reducible show wpAny _ _ (call (Value.builtin "len") [Value.ref _]) _ _ _); k_dflt (first | (refine' len_tupN ?zzk1 ?zzk2 ?zzk3 ?_; (case zzk1 => k_asm); (case zzk2 => k_mem); (case zzk3 => assumption)) | (refine' len_listN ?zzk1 ?zzk2 ?zzk3 ?_; (case zzk1 => k_asm); (case zzk2 => k_mem); (case zzk3 => assumption)))))
  (k_with "call builtin:list.append" => (k_here; (with_reducible show wpAny _ _ (call (Value.builtin _) [Value.ref _, _]) _ _ _); k_dflt (refine' append_K ?zzk1 ?zzk2 ?zzk3 ?_ ?zzz; (case zzk1 => k_asm); (case zzk2 => k_asm); (case zzk3 => k_upd); (case zzz => first | assumption | size_fits); k_whole); intro zh zF zN; (try k_sweep)))
  (k_with "call type:bool" => (k_here; (with_reducible show wpAny _ _ (call _ [Value.ref _]) _ _ _); k_dflt (refine' bool_listN ?zzk1 ?zzk2 ?zzk3 ?_; (case zzk1 => k_asm); (case zzk2 => k_mem); (case zzk3 => assumption))))
  (k_with "call type:tuple" => (k_here; (with_reducible show wpAny _ _ (call (Value.type _) [Value.ref _]) _ _ _); k_dflt (refine' tuple_ofListN ?zzk1 ?zzk2 ?zzk3 ?zzk4 ?_; (case zzk1 => k_asm); (case zzk2 => k_asm); (case zzk3 => k_mem); (case zzk4 => assumption); k_whole); intro D' h' F' N' l1; (try k_lt l1); (try k_sweep)))
  (k_with "call type:list" => (k_here; (with_reducible show wpAny _ _ (call (Value.type _) [Value.ref _]) _ _ _); k_dflt (refine' list_ofTupN ?zzk1 ?zzk2 ?zzk3 ?zzk4 ?_; (case zzk1 => k_asm); (case zzk2 => k_asm); (case zzk3 => k_mem); (case zzk4 => assumption); k_whole); intro D' c' h' F' N' l1; (try k_lt l1); (try k_sweep)))
  (k_with "call builtin:list.clear" => (k_here; (with_reducible show wpAny _ _ (call (Value.builtin _) [Value.ref _]) _ _ _); k_dflt (refine' clear_listN ?zzk1 ?zzk2 ?zzk3 ?zzk4 ?_; (case zzk1 => k_asm); (case zzk2 => k_asm); (case zzk3 => k_updF); (case zzk4 => assumption); k_whole); intro zh zn zF zN; (try dsimp only at zN); (try k_sweep)))
  (k_with "subscriptTail" => (k_here; (with_reducible show wpAny _ _ (subscriptTail _ _ (Value.ref _) (Value.str _ _)) _ _ _); k_dflt (refine' kda_item (knd := PySem.strKind _ _) ?zzk1 ?zzk2 ?zzk3 (strKind_is _ _ _ _) ?zzk5 ?_ ?zzk7 ?zzk8; (case zzk1 => k_asm); (case zzk2 => k_mem); (case zzk3 => k_asm); (case zzk5 => k_asm); (case zzk7 => with_unfolding_all rfl); (case zzk8 => intro _; with_unfolding_all rfl); k_whole)))
  (k_with "tb_start" => first | decide | (dsimp only [Gm.set, Gm.rd, Γc, btab]; decide))
  (k_with "tb_rel" => first | with_reducible exact List.mem_cons_self | with_reducible exact set_self | (with_reducible refine List.mem_cons_of_mem _ ?_; tb_rel) | (with_reducible refine f_mem ?_ (by dsimp only; decide); tb_rel) | (with_reducible refine set_ne ?_ (by dsimp only; decide); tb_rel) | (with_reducible refine rd_mem ?_; tb_rel) | (with_reducible refine rd_mmem ?_; tb_rel) | (with_reducible refine c_own ?_; tb_rel) | (with_reducible refine c_up ?_ (by dsimp only; decide); tb_rel) | (with_reducible refine c_mup ?_ (by dsimp only; decide); tb_rel) | (with_reducible refine ini_mem (by assumption) ?_; tb_rel))
  (k_with "ktr_rel" => first | exact forall_nil | (refine forall_cons ?_ ?_; (first | tb_rel | skip); (first | ktr_rel | skip)))
  trivial
structure Here (p : Program) (loose : List Str) (mean : ExcName → Option Value) (mg mb : Str → Option Value) (A₀ : Around) (base : Heap) (outer : List Env) (h₀ : Heap) (L : Addr) (A : Around) (env : Env) : Prop where
  is : ∃ dp un gd cn cs a ccd cl, A = ktrTop dp un gd cn cs L a ccd cl outer ∧ env = envX cn cs L a ccd cl ∧ cs.kind = .function ∧ dp < 800 ∧ un < 8000
  B : Below A₀ base outer h₀
  T : Top p loose mean mg mb h₀
def MC (env : Env) (o : PySem.Expr) (name : Str) (apos pos : Pos) (args : List PySem.Expr) : Prop := ∃ pl : Sem Bool, eval (.Call (.Attribute o name apos) args [] pos) env = (do
      let ov ← eval o env
      standAt apos.atName
      let (f, first) ← holding [ov] (getMethod ov name pl)
      callWith pos f first (backTo pos (starEach args env)) [])
def MCs (env : Env) (o : PySem.Expr) (name : Str) (apos pos : Pos) (args : List PySem.Expr) : Prop := eval (.Call (.Attribute o name apos) args [] pos) env = (do
      let ov ← eval o env
      standAt apos.atName
      let r ← holding [ov] (do pure (← getAttr ov name true, ([] : List Value)))
      callWith pos r.1 r.2 (backTo pos (starEach args env)) [])
section
variable {p : Program} {loose : List Str} {mean : ExcName → Option Value} {mg mb : Str → Option Value} {A₀ : Around} {base : Heap} {outer : List Env} {h₀ : Heap} {L : Addr} {A : Around} {env : Env}
  {w : World} {Γ : Gm} {σ : Srt Str} {res : List Res} {Hd Z : List Addr} {s : Shared} {pl name : Str} {px pos apos : Pos} {rd : Addr} {ks : List Str} {Q : Value → Shared → Prop} {args : List PySem.Expr}
abbrev SR (w : World) (σ : Srt Str) : Res := SrtR (PySem.strKind PySem.Challenge.rw_mr0282_02.prog w) 137 40 σ
theorem srt_inst (at_ : At Γ env (SR w σ :: res) Hd Z s) : ∃ k1 k2 k3 k4 tp tf, InstAt s.heap σ.self (instObj 137 σ.dself) 137 (some (dictOf (sdict w k1 k2 k3 k4 (.ref σ.nd) (rdyV σ.rdy) σ.pas tp σ.fin tf) 4)) := by
  refine ex6 at_.srt.dict fun k1 k2 k3 k4 tp tf h2 => ?_
  exact ⟨k1, k2, k3, k4, tp, tf, ⟨(ledger_news _ at_.srt.inst).1, rfl, rfl, (ledger_news _ h2).1⟩⟩
theorem es_active (he : MC env (.Name pl px) "is_active" apos pos []) (H : Here p loose mean mg mb A₀ base outer h₀ L A env) (e0 : Γ.h₀ = h₀) (hp : Vb.mk pl Value RIs (.ref σ.self) ∈ Γ.vars) (hr : σ.rdy = some (rd, ks)) (hlen : ks.length ≤ 1000000) (hd : autoParam ((pl == ("__debug__" : Str)) = false) autoC) :
    (Mine.hd.heap_1 w.params).In h₀ → ES PySem.Challenge.rw_mr0282_02.prog w A env Γ (SR w σ :: res) (.Call (.Attribute (.Name pl px) "is_active" apos) [] [] pos) RBool (decide (σ.fin < σ.pas) || !ks.isEmpty) (· = SR w σ :: res) := by
  k_fill
  intro X Hd Z s at_
  (refine ex1 he ?_; try clear he; rintro _ he)
  obtain ⟨⟨dp, un, gd, cn, cs, a, ccd, cl, rfl, rfl, hk, hdp, hun⟩, B, T⟩ := H
  have eL : Γ.L = L := at_.loc.symm
  subst e0 eL
  refine ex1 (at_.cx.vis _ hp) fun v zz => and2 zz fun hv1 hv2 => ?_
  cases (show v = .ref σ.self from hv2)
  refine MethodCall_ (wpAny_Name (hv1.load at_.cx.fn ?_) hd) he
  refine ex1 at_.cx.fr fun m F => ?_
  refine ex6 (srt_inst at_) fun k1 k2 k3 k4 tp tf I => ?_
  k_dflt (refine' method_inst F X I ?k4 ?k5 ?k6 ?k7 ?_; (case k4 => k_is); (case k5 => k_is); (case k6 => k_is); (case k7 => k_get))
  k_dflt (refine' callWith_K0 ?k1 ?k2 ?_; (case k1 => exact X.keeps F.keep); (case k2 => k_is))
  refine isact_spec B F T hk ledger_news (by omega) (by omega) at_.srt rfl hr hlen (fun h' tk' F' N' => ?_) X
  refine ex1 (at_.method (tk := tk') (fun m' G => ns_uniq F.ns G.ns ▸ F') N' at_.srt .refl) fun Z' zz => and3 zz fun st' at' hz => ?_
  exact ⟨_, Z', rfl, st', at', rfl⟩
theorem ka_rk {P : Kn} : ∀ {ks : List Str} {vs : List Value}, KA (PySem.strKind PySem.Challenge.rw_mr0282_02.prog w) vs ks → A2 (fun b u => RStr.rel b P u) ks vs
  | [], [], _ => trivial
  | _ :: _, _ :: _, h => ⟨is_val h.1, ka_rk h.2⟩
  | [], _ :: _, h => h.elim
  | _ :: _, [], h => h.elim
theorem rk_ka {P : Kn} : ∀ {ks : List Str} {vs : List Value}, A2 (fun b u => RStr.rel b P u) ks vs → KA (PySem.strKind PySem.Challenge.rw_mr0282_02.prog w) vs ks
  | [], [], _ => trivial
  | _ :: _, _ :: _, h => ⟨by obtain ⟨t, e⟩ := h.1; rw [e]; exact strKind_is _ _ _ _, rk_ka h.2⟩
  | [], _ :: _, h => h.elim
  | _ :: _, [], h => h.elim
theorem es_ready (he : MC env (.Name pl px) "get_ready" apos pos []) (H : Here p loose mean mg mb A₀ base outer h₀ L A env) (e0 : Γ.h₀ = h₀) (hp : Vb.mk pl Value RIs (.ref σ.self) ∈ Γ.vars) (hr : σ.rdy = some (rd, ks)) (hlen : ks.length ≤ 100000) (hin : ∀ k ∈ ks, k ∈ σ.abs.map (·.1)) (hd : autoParam ((pl == ("__debug__" : Str)) = false) autoC) :
    (Mine.hd.heap_1 w.params).In h₀ → ES PySem.Challenge.rw_mr0282_02.prog w A env Γ (SR w σ :: res) (.Call (.Attribute (.Name pl px) "get_ready" apos) [] [] pos) (RTupX RStr) ks fun r => ∃ σ', r = SR w σ' :: res ∧ σ'.abs = aOut σ.abs ks ∧ σ'.self = σ.self ∧ σ'.rdy = some (rd, []) ∧ σ'.pas = σ.pas + ks.length ∧ σ'.fin = σ.fin := by
  k_fill
  intro X Hd Z s at_
  (refine ex1 he ?_; try clear he; rintro _ he)
  obtain ⟨⟨dp, un, gd, cn, cs, a, ccd, cl, rfl, rfl, hk, hdp, hun⟩, B, T⟩ := H
  have eL : Γ.L = L := at_.loc.symm
  subst e0 eL
  refine ex1 (at_.cx.vis _ hp) fun v zz => and2 zz fun hv1 hv2 => ?_
  cases (show v = .ref σ.self from hv2)
  refine MethodCall_ (wpAny_Name (hv1.load at_.cx.fn ?_) hd) he
  refine ex1 at_.cx.fr fun m F => ?_
  refine ex6 (srt_inst at_) fun k1 k2 k3 k4 tp tf I => ?_
  k_dflt (refine' method_inst F X I ?k4 ?k5 ?k6 ?k7 ?_; (case k4 => k_is); (case k5 => k_is); (case k6 => k_is); (case k7 => k_get))
  k_dflt (refine' callWith_K0 ?k1 ?k2 ?_; (case k1 => exact X.keeps F.keep); (case k2 => k_is))
  refine getready_spec B F T hk ledger_news (by omega) (by omega) at_.srt rfl hr hlen hin (fun h' tk' news' σ' D vs' F' N' hnd S' fr' hD hDf hDn ka ea es er ep ef => ?_) X
  refine ex1 (at_.method (tk := tk') (fun m' G => ns_uniq F.ns G.ns ▸ F') N' S' fr') fun Z' zz => and3 zz fun st' at' hz => ?_
  refine and3 (N' _ hD) fun n1 n2 n3 => ?_
  have hnew : s.heap.get? D = none := by
    cases e : s.heap.get? D with
    | none => rfl
    | some o' => exact absurd rfl (hDn (D, o') (mem_ledger.mpr ⟨e, n2, n3⟩))
  refine ⟨_, Z', ⟨σ', rfl, ea, es, er, ep, ef⟩, st', at', D, 0, vs', rfl, ⟨fun q => ?_, n1⟩, ka_rk ka⟩
  rcases List.mem_append.mp q with q | q
  · refine ex1 (at_.cx.zl D (List.mem_append_left _ q)) fun o ho => ?_; rw [hnew] at ho; cases ho
  · rcases hz D q with q | q
    · exact hDf q
    · refine ex1 (at_.cx.zl D (List.mem_append_right _ q)) fun o ho => ?_; rw [hnew] at ho; cases ho
theorem es_add {e₁ e₂ : PySem.Expr} {sp : Pos} {k : Str} {qs : List Str} {mv : List Vb} {M : Nat} (he : MCs env (.Name pl px) "add" apos pos [e₁, .Starred e₂ sp]) (H : Here p loose mean mg mb A₀ base outer h₀ L A env) (e0 : Γ.h₀ = h₀) (hp : Vb.mk pl Value RIs (.ref σ.self) ∈ Γ.vars) (hr : σ.rdy = none)
    (ha₁ : Ev PySem.Challenge.rw_mr0282_02.prog w A (Γ.rd mv) e₁ RStr k) (ha₂ : Ev PySem.Challenge.rw_mr0282_02.prog w A (Γ.rd mv) e₂ (RList RStr) qs) (hm : ∀ vb ∈ mv, Rd Γ (SR w σ :: res) vb) (hlen : σ.nodes.length + qs.length ≤ 100000) (hsl : SuccLe σ M) (hM : M + qs.length ≤ 100000)
    (hs : autoParam (starEach [e₁, .Starred e₂ sp] env = (false, eval e₁ env) :: starEach [.Starred e₂ sp] env) autoA) (hs₂ : autoParam (starEach [.Starred e₂ sp] env = [(true, eval e₂ env)]) autoA) (hd : autoParam ((pl == ("__debug__" : Str)) = false) autoC) :
    (Mine.hd.heap_1 w.params).In h₀ → ES PySem.Challenge.rw_mr0282_02.prog w A env Γ (SR w σ :: res) (.Call (.Attribute (.Name pl px) "add" apos) [e₁, .Starred e₂ sp] [] pos) RIs .none fun r => ∃ σ', r = SR w σ' :: res ∧ σ'.abs = aAdd σ.abs k qs ∧ Same σ σ' ∧ σ'.nodes.length ≤ σ.nodes.length + qs.length + 1 ∧ SuccLe σ' (M + qs.length) := by
  k_fill
  intro X Hd Z s at_
  obtain ⟨⟨dp, un, gd, cn, cs, a, ccd, cl, rfl, rfl, hk, hdp, hun⟩, B, T⟩ := H
  have eL : Γ.L = L := at_.loc.symm
  subst e0 eL
  refine ex1 (at_.cx.vis _ hp) fun v zz => and2 zz fun hv1 hv2 => ?_
  cases (show v = .ref σ.self from hv2)
  rw [he]
  refine wpAny_bind (wpAny_Name (hv1.load at_.cx.fn ?_) hd)
  refine ex1 at_.cx.fr fun m F => ?_
  refine ex6 (srt_inst at_) fun k1 k2 k3 k4 tp tf I => ?_
  refine wpAny_bind (wpAny_standAt (wpAny_bind (wpAny_holding (wpAny_bind ?_))))
  k_dflt (refine' bound_push (X.keeps F.keep) I ?k4 ?k5 ?k6 ?k7 ?k8 ?k9 ?k10 ?k11 ?_; (case k4 => k_is); (case k5 => k_is); (case k6 => k_is); (case k7 => k_is); (case k8 => k_is); (case k9 => k_is); (case k10 => decide +kernel); (case k11 => k_get))
  refine wpAny_pure ?_
  have kp₀ : Kp s { s with heap := s.heap.push (methodObj (.ref 87) (.ref σ.self)), toks := s.toks + 1 } := ⟨_, _, rfl, fun _ _ e => Heap.get?_push_of_some _ e⟩
  have hq0 : ({ s with heap := s.heap.push (methodObj (.ref 87) (.ref σ.self)), toks := s.toks + 1 } : Shared).heap.get? s.heap.objs.size = some (methodObj (.ref 87) (.ref σ.self)) := Heap.get?_push_size _ rfl
  generalize ({ s with heap := s.heap.push (methodObj (.ref 87) (.ref σ.self)), toks := s.toks + 1 } : Shared) = s₀ at kp₀ hq0 ⊢
  have at₀ := at_.keeps kp₀
  k_dflt (refine' callWith_MS (f := 87) (self := .ref σ.self) (K := Mine.hd.heap_1 w.params) ?k2 ?_ hs (by rw [hs₂]; rfl); (case k2 => k_is))
  rw [hs]
  refine spliced_cons (ha₁.then (at₀.read hm) fun u s₁ kp₁ c₁ hu => items_star (ha₂.then c₁ fun u₂ s₂ kp₂ c₂ hu₂ => ?_) hs₂)
  (refine ex4 hu₂ ?_; try clear hu₂; rintro l o n vs zz; refine and5 zz ?_; try clear zz; rintro rfl ⟨hlz, ho⟩ hc hdt ha)
  have hvl := ha.length
  refine star_list ho hc hdt (by omega) fun s₃ kp₃ => spliced_nil ?_
  have kp := ((kp₀.tr kp₁).tr kp₂).tr kp₃
  have hq := kp₃.get (kp₂.get (kp₁.get hq0))
  have at₁ := at_.keeps kp
  have F₁ := F.keeps fun b o e => kp.get e
  refine ⟨⟨hq, X.keeps F₁.keep⟩, ?_⟩
  (refine ex1 hu ?_; try clear hu; rintro tu rfl)
  rw [List.append_nil]
  refine wpAny_call (method_call hq ?_)
  refine add_code (k := k) (tkk := tu) (vs := vs) (qs := qs) B F₁ T hk ledger_news (by omega) (by omega) at₁.srt rfl hr (rk_ka ha) hlen hsl hM (fun h' tk' news' σ' F' N' hnd S' fr' ea es en eu => ?_) X
  refine ex1 (at₁.method (tk := tk') (fun m' G => ns_uniq F₁.ns G.ns ▸ F') N' S' fr') fun Z' zz => and3 zz fun st' at' hz => ?_
  exact ⟨_, Z', ⟨σ', rfl, ea, es, en, eu⟩, kp.stp.trans st', at', rfl⟩
end
end
end
section
theorem calm_NewG_2 (M : Model) (A : Around) (E : Value → Shared → Prop) (s : Shared) : wpAny M A (pure ()) (fun _ _ => True) E s := by
  w_top off
  first
  | (walk1; fail)
  | exact wpAny_pure trivial
section
theorem rules_NewG : True := by
  k_with_none
  (k_with "k_lt" => ((rename AllLt _ _ => l1); (try simp only [AllLt, allLt_setL, allLt_append, and_true] at l1); (repeat obtain ⟨_, l1⟩ := l1)))
  (k_with "k_lt2" => ((rename _ < _ => l2); (try have hmzz := allLt_mono l2 (by assumption))))
  (k_with "k_room" => ktr_room)
  (k_with "k_all" => first | exact ne_of_allLt (by assumption) | k_asm | ((with_reducible show ∀ p ∈ setL _ _ _, _); refine all_setL ?_; k_all))
  (k_with "k_ne" => first | assumption | exact Ne.symm (by assumption) | exact ne_of_lt_mem (by assumption) (by assumption) | exact ne_of_lt_mem' (by assumption) (by assumption))
  (k_with "k_mem" => first | with_reducible exact List.mem_cons_self | ((with_reducible refine' List.mem_cons_of_mem _ ?_); k_mem))
  (k_with "k_mem" => ((with_reducible refine' memG ?_); first | exact mem_setL_self (by first | with_reducible assumption | k_mem) | exact memS (by first | with_reducible assumption | k_mem) (by k_ne)))
  (k_with "k_upd" => exact upd_setL (by assumption) (by k_mem))
  (k_with "k_upd" => ((with_reducible show Upd _ _ _ (setL _ _ _) _); exact upd_setL (by first | exact setL_nodup (by assumption) | exact setL_nodup (setL_nodup (by assumption)) | exact setL_nodup (setL_nodup (setL_nodup (by assumption))) | exact setL_nodup (setL_nodup (setL_nodup (setL_nodup (by assumption))))) (by k_mem)))
  (k_with "k_updF" => exact updF_setL (by assumption) (by k_mem))
  (k_with "k_updF" => ((with_reducible show UpdF _ _ (setL _ _ _) _); exact updF_setL (by first | exact setL_nodup (by assumption) | exact setL_nodup (setL_nodup (by assumption)) | exact setL_nodup (setL_nodup (setL_nodup (by assumption))) | exact setL_nodup (setL_nodup (setL_nodup (setL_nodup (by assumption))))) (by k_mem)))
  (k_with "getMethod ref" => (k_here; (with_reducible show wpAny _ _ (getMethod (Value.ref _) (Str.ofString "get") _) _ _ _); k_dflt (refine kdg_method (knd := PySem.strKind _ _) (by k_asm) (by k_mem) (by k_asm) ?_)))
  (k_with "call builtin:dict.get" => (k_here; k_dflt (refine kdg_get1 (knd := PySem.strKind _ _) (by k_asm) (by k_mem) (by k_asm) (by k_asm) (strKind_is _ _ _ _) _ (by k_asm) ?_); (try dsimp only [Option.getD])))
  (k_with "setItem ref str" => (k_here; k_dflt (refine' kda_set (knd := PySem.strKind _ _) ?zzF ?zzN ?zzU ?zzd (strKind_is _ _ _ _) ?zzz ?_; (case zzF => k_asm); (case zzN => k_asm); (case zzU => k_updF); (case zzd => k_asm); (case zzz => k_asm)); intro zh zo zF zN zd; (try dsimp only at zN)))
  (k_with "call builtin:len" => (k_here; (with_reducible show wpAny _ _ (call (Value.builtin "len") [Value.ref _]) _ _ _); k_dflt (first | (refine' len_tupN ?zzk1 ?zzk2 ?zzk3 ?_; (case zzk1 => k_asm); (case zzk2 => k_mem); (case zzk3 => assumption)) | (refine' len_listN ?zzk1 ?zzk2 ?zzk3 ?_; (case zzk1 => k_asm); (case zzk2 => k_mem); (case zzk3 => assumption)))))
  (k_with "call builtin:list.append" => (k_here; (with_reducible show wpAny _ _ (call (Value.builtin _) [Value.ref _, _]) _ _ _); k_dflt (refine' append_K ?zzk1 ?zzk2 ?zzk3 ?_ ?zzz; (case zzk1 => k_asm); (case zzk2 => k_asm); (case zzk3 => k_upd); (case zzz => first | assumption | size_fits); k_whole); intro zh zF zN; (try k_sweep)))
  (k_with "call type:bool" => (k_here; (with_reducible show wpAny _ _ (call _ [Value.ref _]) _ _ _); k_dflt (refine' bool_listN ?zzk1 ?zzk2 ?zzk3 ?_; (case zzk1 => k_asm); (case zzk2 => k_mem); (case zzk3 => assumption))))
  (k_with "call type:tuple" => (k_here; (with_reducible show wpAny _ _ (call (Value.type _) [Value.ref _]) _ _ _); k_dflt (refine' tuple_ofListN ?zzk1 ?zzk2 ?zzk3 ?zzk4 ?_; (case zzk1 => k_asm); (case zzk2 => k_asm); (case zzk3 => k_mem); (case zzk4 => assumption); k_whole); intro D' h' F' N' l1; (try k_lt l1); (try k_sweep)))
  (k_with "call type:list" => (k_here; (with_reducible show wpAny _ _ (call (Value.type _) [Value.ref _]) _ _ _); k_dflt (refine' list_ofTupN ?zzk1 ?zzk2 ?zzk3 ?zzk4 ?_; (case zzk1 => k_asm); (case zzk2 => k_asm); (case zzk3 => k_mem); (case zzk4 => assumption); k_whole); intro D' c' h' F' N' l1; (try k_lt l1); (try k_sweep)))
  (k_with "call builtin:list.clear" => (k_here; (with_reducible show wpAny _ _ (call (Value.builtin _) [Value.ref _]) _ _ _); k_dflt (refine' clear_listN ?zzk1 ?zzk2 ?zzk3 ?zzk4 ?_; (case zzk1 => k_asm); (case zzk2 => k_asm); (case zzk3 => k_updF); (case zzk4 => assumption); k_whole); intro zh zn zF zN; (try dsimp only at zN); (try k_sweep)))
  (k_with "subscriptTail" => (k_here; (with_reducible show wpAny _ _ (subscriptTail _ _ (Value.ref _) (Value.str _ _)) _ _ _); k_dflt (refine' kda_item (knd := PySem.strKind _ _) ?zzk1 ?zzk2 ?zzk3 (strKind_is _ _ _ _) ?zzk5 ?_ ?zzk7 ?zzk8; (case zzk1 => k_asm); (case zzk2 => k_mem); (case zzk3 => k_asm); (case zzk5 => k_asm); (case zzk7 => with_unfolding_all rfl); (case zzk8 => intro _; with_unfolding_all rfl); k_whole)))
  (k_with "tb_start" => first | decide | (dsimp only [Gm.set, Gm.rd, Γc, btab]; decide))
  (k_with "tb_rel" => first | with_reducible exact List.mem_cons_self | with_reducible exact set_self | (with_reducible refine List.mem_cons_of_mem _ ?_; tb_rel) | (with_reducible refine f_mem ?_ (by dsimp only; decide); tb_rel) | (with_reducible refine set_ne ?_ (by dsimp only; decide); tb_rel) | (with_reducible refine rd_mem ?_; tb_rel) | (with_reducible refine rd_mmem ?_; tb_rel) | (with_reducible refine c_own ?_; tb_rel) | (with_reducible refine c_up ?_ (by dsimp only; decide); tb_rel) | (with_reducible refine c_mup ?_ (by dsimp only; decide); tb_rel) | (with_reducible refine ini_mem (by assumption) ?_; tb_rel))
  (k_with "ktr_rel" => first | exact forall_nil | (refine forall_cons ?_ ?_; (first | tb_rel | skip); (first | ktr_rel | skip)))
  (k_with "exec For" => (k_here; refine Stop.out ?_))
  (k_with "last exec For" => (k_here; refine Stop.out ?_))
  trivial
def graphAbs (kvs : List (Str × List Str)) : AN Str := kvs.foldl (fun α p => aAdd α p.1 p.2) []
theorem graphAbs_take {kvs : List (Str × List Str)} {i : Nat} {p : Str × List Str} (h : kvs[i]? = some p) : graphAbs (kvs.take (i + 1)) = aAdd (graphAbs (kvs.take i)) p.1 p.2 := by
  unfold graphAbs
  rw [List.take_add_one, h, List.foldl_append]; rfl
theorem at_new {w : World} {g' h : Heap} {L' : Addr} {m' : Str → Option Value} {l : Led} {σ : Srt Str} {env : Env} {mg mb : Str → Option Value} {s : Shared} {tk : Nat} {scope : Scope} {vars : List Vb} (F : Fr g' L' h m') (N : News g' L' h l) (S : SIn (PySem.strKind PySem.Challenge.rw_mr0282_02.prog w) 137 40 l σ)
    (hk : env.scope.kind = .function) (hgl : env.globals = mainGlobals) (hbl : env.builtins = builtinsNs) (g₀ : g'.Ns mainGlobals mg) (b₀ : g'.Ns builtinsNs mb) (hloc : env.locals = L') (hcl : env.cells = []) (hgs : gsOf scope = []) (hcs : csOf scope = [])
    (hv : ∀ vb ∈ vars, ∃ v, SeesV env { s with heap := h, toks := tk } vb.x v ∧ vb.R.rel vb.a (hid (L' :: σ.foot) h) v) :
    At ⟨g', L', mg, mb, gsOf scope, csOf scope, vars, []⟩ env [SR w σ] [] (L' :: σ.foot) { s with heap := h, toks := tk } := by
  have up : ∀ b o, g'.get? b = some o → h.get? b = some o := F.keep
  have hL : g'.get? L' = none := get_none F.above
  have hf : ∀ b ∈ σ.foot, ∃ o, (b, o) ∈ l := fun b hb => S.footG hb
  refine ⟨⟨hk, hgl, hbl, g₀.keeps up, b₀.keeps up, ⟨_, F⟩, ?_, ?_, ?_, hv, fun _ h => (nomatch h)⟩, rfl, hloc, g₀, b₀, by rw [hloc]; exact .head _, fun _ h => (nomatch h), ?_, ?_, ?_, ?_, List.pairwise_singleton _ _⟩
  · intro x hx; dsimp only at hx; rw [hgs] at hx; cases hx
  · intro x hx; dsimp only at hx; rw [hcs] at hx; cases hx
  · intro z hz
    rcases List.mem_cons.mp hz with rfl | hz
    · refine ex3 F.ns fun o _ _ zz => and2 zz fun ho _ => ?_; exact ⟨o, ho⟩
    · refine ex1 (hf z hz) fun o ho => ?_; exact ⟨o, (N _ ho).1⟩
  · intro b hb
    rcases List.mem_cons.mp hb with rfl | hb
    · exact hL
    · refine ex1 (hf b hb) fun o ho => ?_; exact (N _ ho).2.2
  · intro n c e; rw [hcl] at e; cases e
  · intro n c y c' e; rw [hcl] at e; cases e
  · intro r hr
    rw [List.mem_singleton.mp hr]
    refine ⟨⟨l.filter fun p => decide (p.1 ∈ σ.foot), S.mono fun p hp ha => List.mem_filter.mpr ⟨hp, by simpa using ha⟩, fun p hp => ⟨(N p (List.mem_filter.mp hp).1).1, by simpa using (List.mem_filter.mp hp).2⟩⟩, fun b hb => ⟨List.mem_cons_of_mem _ hb, fun e => ?_, fun n c e => ?_⟩⟩
    · refine ex1 (hf b hb) fun o ho => ?_
      exact (N _ ho).2.1 (e.trans hloc)
    · rw [hcl] at e; cases e
theorem newg_spec {w : World} {p : Program} {loose : List Str} {mean : ExcName → Option Value} {mg mb : Str → Option Value}
  {dp un : Nat} {gd : Option (List Code)} {cn : Str} {cs : Scope} {a : Addr} {ccd : Value} {cl : List (Str × Addr)} {outer : List Env} {A₀ : Around} {base h₀ : Heap} {L : Addr} {m : Str → Option Value} {news : Led} {s : Shared}
  {Q E : Value → Shared → Prop}
    {g : Addr} {Zg : List Addr} {kvs : List (Str × List Str)}
    (B : Below A₀ base outer h₀) (F : Fr h₀ L s.heap m) (T : Top p loose mean mg mb h₀) (hk : cs.kind = .function) (N : News h₀ L s.heap news) (hd : dp < 690) (hu : un < 6900) (hfull : ∀ b o, s.heap.get? b = some o → b = L ∨ h₀.get? b = some o ∨ (b, o) ∈ news) (hLg : L ∈ Zg) (hG : (RDict (PySem.strKind PySem.Challenge.rw_mr0282_02.prog w) (RList RStr)).rel kvs (hid Zg s.heap) (.ref g))
    (hlen : kvs.length ≤ 100) (hrow : ∀ p ∈ kvs, p.2.length ≤ 100)
    (hret : ∀ h' tk' news' σ', Fr h₀ L h' m → News h₀ L h' news' → SIn (PySem.strKind PySem.Challenge.rw_mr0282_02.prog w) 137 40 news' σ' → (∀ p ∈ news, p ∈ news') → (∀ a ∈ σ'.foot, ∀ p ∈ news, p.1 ≠ a) → σ'.abs = graphAbs kvs → σ'.rdy = none → σ'.pas = 0 → σ'.fin = 0 → σ'.nodes.length ≤ 101 * kvs.length → SuccLe σ' (100 * kvs.length) → Q (.ref σ'.self) { s with heap := h', toks := tk' }) :
    (Mine.hd.heap_1 w.params).In h₀ → wpAny (model PySem.Challenge.rw_mr0282_02.prog w) (ktrTop dp un gd cn cs L a ccd cl outer) (call (.ref 137) [.ref g]) Q E s := by
  k_fill
  intro X
  k_dflt (refine' call_cls ?k1 ?k2 ?k3 ?k4 ?k5 ?k6 ?_; (case k1 => k_asm); (case k2 => k_asm); (case k3 => k_asm); (case k4 => k_is); (case k5 => k_is); (case k6 => k_is); k_whole; intro x' d' h' F' N' l1 l2; (try k_lt l1); (try k_lt2 l2))
  k_dflt (refine' code_def ?k1 ?k2 ?k3 ?k4 ?k5 ?kA ?kF ?kK ?k6 ?k7 ?k8 ?k9 ?kB ?_ ?c2 ?c3 ?c4 ?c5; (case kA => exact rfl); (case kF => exact rfl); (case kK => assumption); (case k1 => k_asm); (case k2 => k_asm); (case k3 => k_asm); (case k4 => k_asm); (case k5 => k_asm); (case k6 => k_is); (case k7 => k_is); (case k8 => ktr_room); (case k9 => exact binds_K (by k_in) rfl (by k_is) rfl rfl rfl); (case c5 => decide); (case kB => exact locs rfl); (case c2 => exact rfl); (case c3 => exact rfl); (case c4 => exact rfl); k_whole; intro g' L' h' FG' F' N' B' X' T'; (try dsimp only); (try k_fold))
  k_steps
  refine ⟨?_⟩
  rename News g' L' _ _ => N₃
  rename Fr g' L' _ _ => F₃
  refine and3 (new_end N₃ (by assumption) (by assumption) (by assumption) (by assumption) (by assumption) (by assumption)) fun S₃ u1 u2 => ?_
  obtain ⟨m₃, F₄, ms, mg'⟩ : ∃ m, Fr g' L' _ m ∧ m "self" = some (.ref x') ∧ m "graph" = some (.ref g) := ⟨_, F₃, rfl, rfl⟩
  generalize hl : (_ :: _ :: _ :: news : Led) = l₃ at N₃ S₃ u1
  generalize hσ : (Srt.mk x' _ _ [] none 0 0 : Srt Str) = σ₃ at S₃ u2
  have eσ : σ₃.nodes = [] ∧ σ₃.rdy = none ∧ σ₃.pas = 0 ∧ σ₃.fin = 0 ∧ σ₃.self = x' := by rw [← hσ]; exact ⟨rfl, rfl, rfl, rfl, rfl⟩
  clear hσ hl F₃ F'
  (refine and5 eσ fun en er ep ef es => ?_; try clear eσ)
  subst es
  have hg₀ : ∀ b ∈ L' :: σ₃.foot, g'.get? b = none := fun b hb => by
    rcases List.mem_cons.mp hb with rfl | hb
    · exact get_none F₄.above
    · refine ex1 (S₃.footG hb) fun o ho => ?_; exact (N₃ _ ho).2.2
  have hn₀ : ∀ p ∈ news, p.1 ∉ L' :: σ₃.foot := fun p hp q => by
    rcases List.mem_cons.mp q with q | q
    · exact (N₃ _ (u1 p hp)).2.1 q
    · exact u2 _ q p hp rfl
  have up : ∀ b o, hid Zg s.heap b o → hid (L' :: σ₃.foot) _ b o := fun b o q => by
    have hbL : b ≠ L := fun e => q.1 (e ▸ hLg)
    rcases hfull b o q.2 with e | e | e
    · exact absurd e hbL
    · have e' := FG'.keep b o e
      refine ⟨fun z => ?_, F₄.keep b o e'⟩
      rw [hg₀ b z] at e'; cases e'
    · exact ⟨hn₀ _ e, (N₃ _ (u1 _ e)).1⟩
  generalize henv : envOf _ _ L' 73 _ = env'
  have hloc : env'.locals = L' := henv ▸ rfl
  have at₃ := fun tk : Nat => at_new (tk := tk) (w := w) (s := s) (scope := ⟨.function, [], false, false, []⟩) (vars := [⟨"self", Value, RIs, .ref σ₃.self⟩, ⟨"graph", _, RDict (PySem.strKind PySem.Challenge.rw_mr0282_02.prog w) (RList RStr), kvs⟩]) (env := env') F₄ N₃ S₃ (henv ▸ rfl) (henv ▸ rfl) (henv ▸ rfl) T'.g T'.b (henv ▸ rfl) (henv ▸ rfl) rfl rfl (fun vb hb => by
    simp only [List.mem_cons, List.not_mem_nil, or_false] at hb
    rcases hb with rfl | rfl
    · exact ⟨_, .inl ⟨henv ▸ rfl, m₃, (by rw [hloc]; exact F₄.ns), ms⟩, rfl⟩
    · exact ⟨_, .inl ⟨henv ▸ rfl, m₃, (by rw [hloc]; exact F₄.ns), mg'⟩, (RDict _ _).mono up hG⟩)
  subst henv
  have H0 : Ini mg mb ⟨.function, [], false, false, []⟩ g' [⟨"self", Value, RIs, .ref σ₃.self⟩, ⟨"graph", _, RDict (PySem.strKind PySem.Challenge.rw_mr0282_02.prog w) (RList RStr), kvs⟩] ⟨g', L', mg, mb, gsOf ⟨.function, [], false, false, []⟩, csOf ⟨.function, [], false, false, []⟩, [⟨"self", Value, RIs, .ref σ₃.self⟩, ⟨"graph", _, RDict (PySem.strKind PySem.Challenge.rw_mr0282_02.prog w) (RList RStr), kvs⟩], []⟩ := ⟨rfl, rfl, rfl, rfl, rfl, fun _ h => h⟩
  have Hn : ∀ A env, (∃ dp un gd cn cs a ccd cl', A = ktrTop dp un gd cn cs L' a ccd cl' (envX _ _ _ _ _ _ :: outer) ∧ env = envX cn cs L' a ccd cl' ∧ cs.kind = .function ∧ dp < 800 ∧ un < 8000) → Here p loose mean mg mb _ base _ g' L' A env := fun A env h => ⟨h, B', T'⟩
  have hkl : ∀ i, (kvs.take i).length ≤ 100 := fun i => by rw [List.length_take]; omega
  refine wpAny_mono ((hs_for (target := .Tuple [.Name "node" _, .Name "predecessors" _] _ _) (iter := .Call (.Attribute (.Name "graph" _) "items" _) [] [] _) (mv := []) (fun i Γ' r => ∃ σ, H0.fam [⟨"self", Value, RIs, .ref σ₃.self⟩] Γ' ∧ r = [SR w σ] ∧ σ.self = σ₃.self ∧ σ.abs = graphAbs (kvs.take i) ∧ σ.rdy = none ∧ σ.pas = 0 ∧ σ.fin = 0 ∧ σ.nodes.length ≤ 101 * i ∧ SuccLe σ (100 * i)) (evi_items (S := RStr) (fun h => is_val h) rfl (ev_name (R := RDict (PySem.strKind PySem.Challenge.rw_mr0282_02.prog w) (RList RStr)) (a := kvs) (by tb_rel)) ?line) itP_mono forall_nil ⟨σ₃, H0.sub (by ktr_rel), rfl, rfl, by simp [Srt.abs, en, graphAbs], er, ep, ef, by rw [en]; exact Nat.zero_le _, by intro n hn; rw [en] at hn; cases hn⟩ ?turn) [] _ _ (at₃ _)) (fun f s₄ q => ?rest) (fun _ _ x => x.elim)
  case line => rfl
  case turn =>
    rintro i ⟨k, row⟩ hy Γ₁ _ ⟨σ, H1, rfl, es, ea, er, ep, ef, hnl, hsl⟩
    have hi : i < kvs.length := (List.getElem?_eq_some_iff.mp hy).1
    have hr : row.length ≤ 100 := hrow (k, row) (List.mem_of_getElem? hy)
    refine turn_pair rfl H1 ⟨.inl rfl, by decide⟩ ⟨.inl rfl, by decide⟩ fun Γ₂ H2 => ?_
    dsimp only at H2
    rw [← es] at H2
    refine ht_cons (hs_exprS (es_add rfl (Hn _ _ ⟨_, _, _, _, _, _, _, _, rfl, rfl, rfl, (by simp only [depth_under_make, ktrTop]; omega), (by rw [units_under_make]; show un + 1 + 3 < 8000; omega)⟩) H2.h₀ (by tb_rel) er (mv := []) (ev_name (R := RStr) (a := k) (by tb_rel)) (ev_name (R := RList RStr) (a := row) (by tb_rel)) forall_nil (M := 100 * i) (by omega) hsl (by omega) rfl rfl (by decide) X')) ?_
    rintro Γ₃ _ ⟨e3, σ₂, rfl, ea₂, es₂, en₂, eu₂⟩
    rw [e3]
    refine ht_nil ⟨σ₂, ?_, rfl, es₂.self.trans es, ?_, es₂.rdy.trans er, es₂.pas.trans ep, es₂.fin.trans ef, by omega, fun n hn => Nat.le_trans (eu₂ n hn) (by omega)⟩
    · rw [es] at H2; exact H2.sub (by ktr_rel)
    · rw [ea₂, ea, graphAbs_take hy]
  case rest =>
    (refine and2 q ?_; try clear q; rintro rfl zz; obtain ⟨Γ', r, Z', ⟨σ, _, rfl, q1, q2, q3, q4, q5, q6, q7⟩, ⟨g1, g2⟩, st, at'⟩ := zz)
    rw [List.take_length] at q2
    dsimp only at g1 g2
    (refine and2 st ?_; try clear st; rintro ⟨h₄, tk₄, rfl, kk⟩ hz)
    have S₄ := at'.srt
    refine ex1 at'.cx.fr fun m₄ F₅ => ?_
    rw [g1, g2] at S₄ F₅
    have N₄ : News g' L' h₄ (ledger g' L' h₄) := ledger_news
    have sub : ∀ p ∈ news, p ∈ ledger g' L' h₄ := fun p hp => by
      have n1 := N₃ _ (u1 p hp)
      exact mem_ledger.mpr ⟨kk _ _ (hn₀ p hp) n1.1, n1.2⟩
    have frs' : ∀ a ∈ σ.foot, ∀ p ∈ news, p.1 ≠ a := fun a ha p hp e => by
      have ha' := ((at'.rs _ (.head _)).2 a ha).1
      rcases hz a ha' with q | q
      · exact hn₀ p hp (e ▸ q)
      · have n1 := (N₃ _ (u1 p hp)).1
        rw [e] at n1
        have q' := n1.symm.trans q
        cases q'
    dsimp only at S₄ F₅
    generalize hl : ledger g' L' h₄ = l₄ at N₄ S₄ sub
    clear hl N₃ F₄ at' kk hz at₃
    have hI := S₄.inst
    rw [q1] at hI
    k_steps
    rename News h₀ L _ _ => N₉
    rw [← q1]
    exact hret _ _ _ _ (by assumption) N₉ S₄ sub frs' q2 q3 q4 q5 q6 q7
end
end
section
section
theorem rules_PrA : True := by
  k_with_none
  (k_with "omega" => lia)
  (k_with "k_room" => ktr_room)
  (k_with "k_all" => first | exact ne_of_allLt (by assumption) | k_asm | ((with_reducible show ∀ p ∈ setL _ _ _, _); refine all_setL ?_; k_all))
  (k_with "k_ne" => first | assumption | exact Ne.symm (by assumption) | exact ne_of_lt_mem (by assumption) (by assumption) | exact ne_of_lt_mem' (by assumption) (by assumption))
  (k_with "k_mem" => first | with_reducible exact List.mem_cons_self | ((with_reducible refine' List.mem_cons_of_mem _ ?_); k_mem))
  (k_with "k_mem" => ((with_reducible refine' memG ?_); first | exact mem_setL_self (by first | with_reducible assumption | k_mem) | exact memS (by first | with_reducible assumption | k_mem) (by k_ne)))
  (k_with "k_upd" => exact upd_setL (by assumption) (by k_mem))
  (k_with "k_upd" => ((with_reducible show Upd _ _ _ (setL _ _ _) _); exact upd_setL (by first | exact setL_nodup (by assumption) | exact setL_nodup (setL_nodup (by assumption)) | exact setL_nodup (setL_nodup (setL_nodup (by assumption))) | exact setL_nodup (setL_nodup (setL_nodup (setL_nodup (by assumption))))) (by k_mem)))
  (k_with "k_updF" => exact updF_setL (by assumption) (by k_mem))
  (k_with "k_updF" => ((with_reducible show UpdF _ _ (setL _ _ _) _); exact updF_setL (by first | exact setL_nodup (by assumption) | exact setL_nodup (setL_nodup (by assumption)) | exact setL_nodup (setL_nodup (setL_nodup (by assumption))) | exact setL_nodup (setL_nodup (setL_nodup (setL_nodup (by assumption))))) (by k_mem)))
  (k_with "getMethod ref" => (k_here; (with_reducible show wpAny _ _ (getMethod (Value.ref _) (Str.ofString "get") _) _ _ _); k_dflt (refine kdg_method (knd := PySem.strKind _ _) (by k_asm) (by k_mem) (by k_asm) ?_)))
  (k_with "call builtin:dict.get" => (k_here; k_dflt (refine kdg_get1 (knd := PySem.strKind _ _) (by k_asm) (by k_mem) (by k_asm) (by k_asm) (strKind_is _ _ _ _) _ (by k_asm) ?_); (try dsimp only [Option.getD])))
  (k_with "setItem ref str" => (k_here; k_dflt (refine' kda_set (knd := PySem.strKind _ _) ?zzF ?zzN ?zzU ?zzd (strKind_is _ _ _ _) ?zzz ?_; (case zzF => k_asm); (case zzN => k_asm); (case zzU => k_updF); (case zzd => k_asm); (case zzz => k_asm)); intro zh zo zF zN zd; (try dsimp only at zN)))
  (k_with "call builtin:len" => (k_here; (with_reducible show wpAny _ _ (call (Value.builtin "len") [Value.ref _]) _ _ _); k_dflt (first | (refine' len_tupN ?zzk1 ?zzk2 ?zzk3 ?_; (case zzk1 => k_asm); (case zzk2 => k_mem); (case zzk3 => assumption)) | (refine' len_listN ?zzk1 ?zzk2 ?zzk3 ?_; (case zzk1 => k_asm); (case zzk2 => k_mem); (case zzk3 => assumption)))))
  (k_with "call builtin:list.append" => (k_here; (with_reducible show wpAny _ _ (call (Value.builtin _) [Value.ref _, _]) _ _ _); k_dflt (refine' append_K ?zzk1 ?zzk2 ?zzk3 ?_ ?zzz; (case zzk1 => k_asm); (case zzk2 => k_asm); (case zzk3 => k_upd); (case zzz => first | assumption | size_fits); k_whole); intro zh zF zN; (try k_sweep)))
  (k_with "call type:bool" => (k_here; (with_reducible show wpAny _ _ (call _ [Value.ref _]) _ _ _); k_dflt (refine' bool_listN ?zzk1 ?zzk2 ?zzk3 ?_; (case zzk1 => k_asm); (case zzk2 => k_mem); (case zzk3 => assumption))))
  (k_with "call type:tuple" => (k_here; (with_reducible show wpAny _ _ (call (Value.type _) [Value.ref _]) _ _ _); k_dflt (refine' tuple_ofListN ?zzk1 ?zzk2 ?zzk3 ?zzk4 ?_; (case zzk1 => k_asm); (case zzk2 => k_asm); (case zzk3 => k_mem); (case zzk4 => assumption); k_whole); intro D' h' F' N' l1; (try k_lt l1); (try k_sweep)))
  (k_with "call type:list" => (k_here; (with_reducible show wpAny _ _ (call (Value.type _) [Value.ref _]) _ _ _); k_dflt (refine' list_ofTupN ?zzk1 ?zzk2 ?zzk3 ?zzk4 ?_; (case zzk1 => k_asm); (case zzk2 => k_asm); (case zzk3 => k_mem); (case zzk4 => assumption); k_whole); intro D' c' h' F' N' l1; (try k_lt l1); (try k_sweep)))
  (k_with "call builtin:list.clear" => (k_here; (with_reducible show wpAny _ _ (call (Value.builtin _) [Value.ref _]) _ _ _); k_dflt (refine' clear_listN ?zzk1 ?zzk2 ?zzk3 ?zzk4 ?_; (case zzk1 => k_asm); (case zzk2 => k_asm); (case zzk3 => k_updF); (case zzk4 => assumption); k_whole); intro zh zn zF zN; (try dsimp only at zN); (try k_sweep)))
  (k_with "subscriptTail" => (k_here; (with_reducible show wpAny _ _ (subscriptTail _ _ (Value.ref _) (Value.str _ _)) _ _ _); k_dflt (refine' kda_item (knd := PySem.strKind _ _) ?zzk1 ?zzk2 ?zzk3 (strKind_is _ _ _ _) ?zzk5 ?_ ?zzk7 ?zzk8; (case zzk1 => k_asm); (case zzk2 => k_mem); (case zzk3 => k_asm); (case zzk5 => k_asm); (case zzk7 => with_unfolding_all rfl); (case zzk8 => intro _; with_unfolding_all rfl); k_whole)))
  (k_with "tb_start" => first | decide | (dsimp only [Gm.set, Gm.rd, Γc, btab]; decide))
  (k_with "tb_rel" => first | with_reducible exact List.mem_cons_self | with_reducible exact set_self | (with_reducible refine List.mem_cons_of_mem _ ?_; tb_rel) | (with_reducible refine f_mem ?_ (by dsimp only; decide); tb_rel) | (with_reducible refine set_ne ?_ (by dsimp only; decide); tb_rel) | (with_reducible refine rd_mem ?_; tb_rel) | (with_reducible refine rd_mmem ?_; tb_rel) | (with_reducible refine c_own ?_; tb_rel) | (with_reducible refine c_up ?_ (by dsimp only; decide); tb_rel) | (with_reducible refine c_mup ?_ (by dsimp only; decide); tb_rel) | (with_reducible refine ini_mem (by assumption) ?_; tb_rel))
  (k_with "ktr_rel" => first | exact forall_nil | (refine forall_cons ?_ ?_; (first | tb_rel | skip); (first | ktr_rel | skip)))
  trivial
section
variable {w : World} {A : Around} {Γ : Gm} {e : PySem.Expr} {pos py : Pos} {y : Str} {n : Nd Str} {σ : Srt Str}
def RSrt (w : World) : Rp (Srt Str) := ⟨fun σ P v => v = .ref σ.self ∧ P σ.self (instObj 137 σ.dself) ∧ (∃ k1 k2 k3 k4 tp tf, P σ.dself (dictOf (sdict w k1 k2 k3 k4 (.ref σ.nd) (rdyV σ.rdy) σ.pas tp σ.fin tf) 4)) ∧ (RVals (PySem.strKind PySem.Challenge.rw_mr0282_02.prog w) (RNd (PySem.strKind PySem.Challenge.rw_mr0282_02.prog w) 40)).rel (σ.nd, σ.nodes) P (.ref σ.nd),
  by rintro n P P' v hs ⟨e, h1, ⟨k1, k2, k3, k4, tp, tf, h2⟩, h3⟩; exact ⟨e, hs _ _ h1, ⟨k1, k2, k3, k4, tp, tf, hs _ _ h2⟩, (RVals _ _).mono hs h3⟩⟩
theorem ev_np (h : Ev PySem.Challenge.rw_mr0282_02.prog w A Γ (.Name y py) (RNd (PySem.strKind PySem.Challenge.rw_mr0282_02.prog w) 40) n) : (Mine.hd.heap_1 w.params).In Γ.h₀ → Ev PySem.Challenge.rw_mr0282_02.prog w A Γ (.Attribute (.Name y py) "npredecessors" pos) RInt n.np := by
  k_fill
  intro X
  refine ev_attr h (fun env s Z v c hv Q hQ => ?_) (by intro _; with_unfolding_all rfl)
  obtain ⟨rfl, ⟨kv, t, hk, h1⟩, h2⟩ := hv
  obtain ⟨m, F⟩ := c.fr
  have I : InstAt s.heap n.ai (niObj 40 kv n.np t n.di n.as) 40 (some (dictOf [] 0)) := ⟨h1.2, rfl, rfl, h2.2⟩
  k_dflt (refine' get_slot F X I ?k4 ?k5 ?k6 ?k7 ?k8 ?k9 ?k10 ?k11 ?_; (case k4 => k_is); (case k5 => k_is); (case k6 => k_is); (case k7 => k_is); (case k8 => k_is); (case k9 => k_is); (case k10 => k_slotget); (case k11 => k_handed))
  exact hQ _ _ .tok ⟨t, rfl⟩
theorem ev_key (h : Ev PySem.Challenge.rw_mr0282_02.prog w A Γ (.Name y py) (RNd (PySem.strKind PySem.Challenge.rw_mr0282_02.prog w) 40) n) : (Mine.hd.heap_1 w.params).In Γ.h₀ → Ev PySem.Challenge.rw_mr0282_02.prog w A Γ (.Attribute (.Name y py) "node" pos) (RKey (PySem.strKind PySem.Challenge.rw_mr0282_02.prog w)) n.key := by
  k_fill
  intro X
  refine ev_attr h (fun env s Z v c hv Q hQ => ?_) (by intro _; with_unfolding_all rfl)
  obtain ⟨rfl, ⟨kv, t, hk, h1⟩, h2⟩ := hv
  obtain ⟨m, F⟩ := c.fr
  obtain ⟨tk, rfl⟩ := is_val hk
  have I : InstAt s.heap n.ai (niObj 40 (Value.str n.key tk) n.np t n.di n.as) 40 (some (dictOf [] 0)) := ⟨h1.2, rfl, rfl, h2.2⟩
  k_dflt (refine' get_slot F X I ?k4 ?k5 ?k6 ?k7 ?k8 ?k9 ?k10 ?k11 ?_; (case k4 => k_is); (case k5 => k_is); (case k6 => k_is); (case k7 => k_is); (case k8 => k_is); (case k9 => k_is); (case k10 => k_slotget); (case k11 => k_handed))
  exact hQ _ _ .tok hk
theorem ev_n2i (h : Ev PySem.Challenge.rw_mr0282_02.prog w A Γ (.Name y py) (RSrt w) σ) : (Mine.hd.heap_1 w.params).In Γ.h₀ → Ev PySem.Challenge.rw_mr0282_02.prog w A Γ (.Attribute (.Name y py) "_node2info" pos) (RVals (PySem.strKind PySem.Challenge.rw_mr0282_02.prog w) (RNd (PySem.strKind PySem.Challenge.rw_mr0282_02.prog w) 40)) (σ.nd, σ.nodes) := by
  k_fill
  intro X
  refine ev_attr h (fun env s Z v c hv Q hQ => ?_) (by intro _; with_unfolding_all rfl)
  (refine and4 hv ?_; try clear hv; rintro rfl h1 ⟨k1, k2, k3, k4, tp, tf, h2⟩ h3)
  refine ex1 c.fr fun m F => ?_
  have I : InstAt s.heap σ.self (instObj 137 σ.dself) 137 (some (dictOf (sdict w k1 k2 k3 k4 (.ref σ.nd) (rdyV σ.rdy) σ.pas tp σ.fin tf) 4)) := ⟨h1.2, rfl, rfl, h2.2⟩
  k_dflt (refine' get_own F X I ?k4 ?k5 ?k6 ?k7 ?k8 ?k9 ?_; (case k4 => k_is); (case k5 => k_is); (case k6 => k_is); (case k7 => k_is); (case k8 => k_get); (case k9 => k_handed))
  exact hQ _ _ .tok h3
theorem rsrt_of {news : Led} {g h : Heap} {L : Addr} (S : SIn (PySem.strKind PySem.Challenge.rw_mr0282_02.prog w) 137 40 news σ) (N : News g L h news) : (RSrt w).rel σ (hid [] h) (.ref σ.self) := by
  have up : ∀ p ∈ news, hid [] h p.1 p.2 := fun p hp => ⟨by simp, (N p hp).1⟩
  refine ex6 S.dict fun k1 k2 k3 k4 tp tf hD => ?_
  refine ex1 S.n2i fun od zz => and2 zz fun hO hod => ?_
  refine ⟨rfl, up _ S.inst, ⟨k1, k2, k3, k4, tp, tf, up _ hD⟩, rfl, od, _, up _ hO, hod, ?_⟩
  show A2 _ σ.nodes _
  rw [List.map_map]
  have : ∀ l : List (Nd Str), (∀ n ∈ l, n ∈ σ.nodes) → A2 (fun y u => (RNd (PySem.strKind PySem.Challenge.rw_mr0282_02.prog w) 40).rel y (hid [] h) u) l (l.map ((·.2) ∘ fun n => (n.key, Value.ref n.ai))) := by
    intro l
    induction l with
    | nil => intro _; trivial
    | cons n r ih =>
      intro hl
      obtain ⟨⟨v, t, hv, m1⟩, m2, _⟩ := S.nds n (hl n (.head _))
      exact ⟨⟨rfl, ⟨v, t, hv, up _ m1⟩, up _ m2⟩, ih fun x hx => hl x (.tail _ hx)⟩
  exact this _ fun _ h => h
end
end
end
section
theorem calm_FcW_2 (M : Model) (A : Around) (E : Value → Shared → Prop) (s : Shared) : wpAny M A (pure ()) (fun _ _ => True) E s := by
  w_top off
  first
  | (walk1; fail)
  | exact wpAny_pure trivial
section
theorem rules_FcW : True := by
  k_with_none
  (k_with "k_lt" => ((rename AllLt _ _ => l1); (try simp only [AllLt, allLt_setL, allLt_append, and_true] at l1); (repeat obtain ⟨_, l1⟩ := l1)))
  (k_with "k_lt2" => ((rename _ < _ => l2); (try have hmzz := allLt_mono l2 (by assumption))))
  (k_with "k_room" => ktr_room)
  (k_with "k_all" => first | exact ne_of_allLt (by assumption) | k_asm | ((with_reducible show ∀ p ∈ setL _ _ _, _); refine all_setL ?_; k_all))
  (k_with "k_ne" => first | assumption | exact Ne.symm (by assumption) | exact ne_of_lt_mem (by assumption) (by assumption) | exact ne_of_lt_mem' (by assumption) (by assumption))
  (k_with "k_mem" => first | with_reducible exact List.mem_cons_self | ((with_reducible refine' List.mem_cons_of_mem _ ?_); k_mem))
  (k_with "k_mem" => ((with_reducible refine' memG ?_); first | exact mem_setL_self (by first | with_reducible assumption | k_mem) | exact memS (by first | with_reducible assumption | k_mem) (by k_ne)))
  (k_with "k_upd" => exact upd_setL (by assumption) (by k_mem))
  (k_with "k_upd" => ((with_reducible show Upd _ _ _ (setL _ _ _) _); exact upd_setL (by first | exact setL_nodup (by assumption) | exact setL_nodup (setL_nodup (by assumption)) | exact setL_nodup (setL_nodup (setL_nodup (by assumption))) | exact setL_nodup (setL_nodup (setL_nodup (setL_nodup (by assumption))))) (by k_mem)))
  (k_with "k_updF" => exact updF_setL (by assumption) (by k_mem))
  (k_with "k_updF" => ((with_reducible show UpdF _ _ (setL _ _ _) _); exact updF_setL (by first | exact setL_nodup (by assumption) | exact setL_nodup (setL_nodup (by assumption)) | exact setL_nodup (setL_nodup (setL_nodup (by assumption))) | exact setL_nodup (setL_nodup (setL_nodup (setL_nodup (by assumption))))) (by k_mem)))
  (k_with "getMethod ref" => (k_here; (with_reducible show wpAny _ _ (getMethod (Value.ref _) (Str.ofString "get") _) _ _ _); k_dflt (refine kdg_method (knd := PySem.strKind _ _) (by k_asm) (by k_mem) (by k_asm) ?_)))
  (k_with "call builtin:dict.get" => (k_here; k_dflt (refine kdg_get1 (knd := PySem.strKind _ _) (by k_asm) (by k_mem) (by k_asm) (by k_asm) (strKind_is _ _ _ _) _ (by k_asm) ?_); (try dsimp only [Option.getD])))
  (k_with "setItem ref str" => (k_here; k_dflt (refine' kda_set (knd := PySem.strKind _ _) ?zzF ?zzN ?zzU ?zzd (strKind_is _ _ _ _) ?zzz ?_; (case zzF => k_asm); (case zzN => k_asm); (case zzU => k_updF); (case zzd => k_asm); (case zzz => k_asm)); intro zh zo zF zN zd; (try dsimp only at zN)))
  (k_with "call builtin:len" => (k_here; (with_reducible show wpAny _ _ (call (Value.builtin "len") [Value.ref _]) _ _ _); k_dflt (first | (refine' len_tupN ?zzk1 ?zzk2 ?zzk3 ?_; (case zzk1 => k_asm); (case zzk2 => k_mem); (case zzk3 => assumption)) | (refine' len_listN ?zzk1 ?zzk2 ?zzk3 ?_; (case zzk1 => k_asm); (case zzk2 => k_mem); (case zzk3 => assumption)))))
  (k_with "call builtin:list.append" => (k_here; (with_reducible show wpAny _ _ (call (Value.builtin _) [Value.ref _, _]) _ _ _); k_dflt (refine' append_K ?zzk1 ?zzk2 ?zzk3 ?_ ?zzz; (case zzk1 => k_asm); (case zzk2 => k_asm); (case zzk3 => k_upd); (case zzz => first | assumption | size_fits); k_whole); intro zh zF zN; (try k_sweep)))
  (k_with "call type:bool" => (k_here; (with_reducible show wpAny _ _ (call _ [Value.ref _]) _ _ _); k_dflt (refine' bool_listN ?zzk1 ?zzk2 ?zzk3 ?_; (case zzk1 => k_asm); (case zzk2 => k_mem); (case zzk3 => assumption))))
  (k_with "call type:tuple" => (k_here; (with_reducible show wpAny _ _ (call (Value.type _) [Value.ref _]) _ _ _); k_dflt (refine' tuple_ofListN ?zzk1 ?zzk2 ?zzk3 ?zzk4 ?_; (case zzk1 => k_asm); (case zzk2 => k_asm); (case zzk3 => k_mem); (case zzk4 => assumption); k_whole); intro D' h' F' N' l1; (try k_lt l1); (try k_sweep)))
  (k_with "call type:list" => (k_here; (with_reducible show wpAny _ _ (call (Value.type _) [Value.ref _]) _ _ _); k_dflt (refine' list_ofTupN ?zzk1 ?zzk2 ?zzk3 ?zzk4 ?_; (case zzk1 => k_asm); (case zzk2 => k_asm); (case zzk3 => k_mem); (case zzk4 => assumption); k_whole); intro D' c' h' F' N' l1; (try k_lt l1); (try k_sweep)))
  (k_with "call builtin:list.clear" => (k_here; (with_reducible show wpAny _ _ (call (Value.builtin _) [Value.ref _]) _ _ _); k_dflt (refine' clear_listN ?zzk1 ?zzk2 ?zzk3 ?zzk4 ?_; (case zzk1 => k_asm); (case zzk2 => k_asm); (case zzk3 => k_updF); (case zzk4 => assumption); k_whole); intro zh zn zF zN; (try dsimp only at zN); (try k_sweep)))
  (k_with "subscriptTail" => (k_here; (with_reducible show wpAny _ _ (subscriptTail _ _ (Value.ref _) (Value.str _ _)) _ _ _); k_dflt (refine' kda_item (knd := PySem.strKind _ _) ?zzk1 ?zzk2 ?zzk3 (strKind_is _ _ _ _) ?zzk5 ?_ ?zzk7 ?zzk8; (case zzk1 => k_asm); (case zzk2 => k_mem); (case zzk3 => k_asm); (case zzk5 => k_asm); (case zzk7 => with_unfolding_all rfl); (case zzk8 => intro _; with_unfolding_all rfl); k_whole)))
  (k_with "tb_start" => first | decide | (dsimp only [Gm.set, Gm.rd, Γc, btab]; decide))
  (k_with "tb_rel" => first | with_reducible exact List.mem_cons_self | with_reducible exact set_self | (with_reducible refine List.mem_cons_of_mem _ ?_; tb_rel) | (with_reducible refine f_mem ?_ (by dsimp only; decide); tb_rel) | (with_reducible refine set_ne ?_ (by dsimp only; decide); tb_rel) | (with_reducible refine rd_mem ?_; tb_rel) | (with_reducible refine rd_mmem ?_; tb_rel) | (with_reducible refine c_own ?_; tb_rel) | (with_reducible refine c_up ?_ (by dsimp only; decide); tb_rel) | (with_reducible refine c_mup ?_ (by dsimp only; decide); tb_rel) | (with_reducible refine ini_mem (by assumption) ?_; tb_rel))
  (k_with "ktr_rel" => first | exact forall_nil | (refine forall_cons ?_ ?_; (first | tb_rel | skip); (first | ktr_rel | skip)))
  (k_with "k_in" => first | with_reducible assumption | exact Frag.In.keeps (by with_reducible assumption) (Fr.keep (by with_reducible assumption)))
  (k_with "exec While" => (k_here; refine Stop.out ?_))
  (k_with "last exec While" => (k_here; refine Stop.out ?_))
  (k_with "exec Try" => (k_here; refine Stop.out ?_))
  (k_with "last exec Try" => (k_here; refine Stop.out ?_))
  (k_with "call builtin:iter" => (k_here; (with_reducible show wpAny _ _ (call (Value.builtin "iter") [Value.ref _]) _ _ _); k_dflt (refine' iter_listN ?zzk1 ?zzk2 ?zzk3 ?_; (case zzk1 => k_asm); (case zzk2 => k_asm); (case zzk3 => k_mem)); intro zD zh zF zN zl; (try k_lt zl)))
  (k_with "getAttr ref" => (k_here; (with_reducible show wpAny _ _ (getAttr (Value.ref _) (PySem.Str.ofString "__next__") _) _ _ _); k_dflt (refine' nextattr_N ?zzk1 ?zzk2 ?zzk3 ?_; (case zzk1 => k_asm); (case zzk2 => k_asm); (case zzk3 => k_mem)); intro zD zh zF zN zl; (try k_lt zl)))
  (k_with "subscriptTail" => (k_here; (with_reducible show wpAny _ _ (subscriptTail _ _ (Value.ref _) (Value.int (-1) _)) _ _ _); k_dflt (refine' item_lastN ?zzk1 ?zzk2 ?_ ?zzk3; (case zzk1 => k_asm); (case zzk2 => k_mem); (case zzk3 => with_unfolding_all rfl); k_whole)))
  (k_with "call builtin:list.pop" => (k_here; (with_reducible show wpAny _ _ (call (Value.builtin _) [Value.ref _]) _ _ _); k_dflt (refine' pop_lastN ?zzk1 ?zzk2 ?zzk3 ?zzk4 ?_; (case zzk1 => k_asm); (case zzk2 => k_asm); (case zzk3 => k_upd); (case zzk4 => assumption)); intro zh zF zN))
  (k_with "delItem ref str" => (k_here; k_dflt (refine' kob_del (knd := PySem.strKind _ _) ?zzF ?zzN ?zzU ?zzd (strKind_is _ _ _ _) ?zzl ?zzz ?_; (case zzF => k_asm); (case zzN => k_asm); (case zzU => k_updF); (case zzd => k_asm); (case zzl => assumption); (case zzz => assumption)); intro zh zo zF zN zd))
  (k_with "compareOp In str ref" => (k_here; k_dflt (refine' kda_in (knd := PySem.strKind _ _) ?zzN ?zzm ?zzd ?zzlo (strKind_is _ _ _ _) _ ?zzhb ?_; (case zzN => k_asm); (case zzm => k_mem); (case zzd => k_asm); (case zzlo => k_asm); (case zzhb => assumption); k_whole)))
  (k_with "exec If" => (k_here; (with_reducible rename StopIf => mk'); refine Stop.out ?_))
  (k_with "exec Expr" => (k_here; (with_reducible rename StopEx => mk'); refine Stop.out ?_))
  (k_with "exec Assign" => (k_here; (with_reducible rename StopEx => mk'); refine Stop.out ?_))
  (k_with "truthy ref" => (k_here; k_dflt (refine' truthy_listN ?zzk1 ?zzk2 ?zzk3 ?_; (case zzk1 => k_asm); (case zzk2 => k_mem); (case zzk3 => assumption); k_whole)))
  trivial
structure FcAt (w : World) (p : Program) (loose : List Str) (mean : ExcName → Option Value) (mg mb : Str → Option Value) (A : Around) (base : Heap) (envs : List Env) (g₀ : Heap) (L' : Addr) (σ : Srt Str) (news₀ : Led) (rank : Str → Nat)
    (s₀ : Shared) (g : Heap) (m : Str → Option Value) (l : Led) (c : Fc Str) (s : Shared) : Prop where
  st : ∃ h tk, s = { s₀ with heap := h, toks := tk }
  turn : KtsTurn (frs envs) g₀ g
  fr : Fr g L' s.heap m
  nw : News g L' s.heap l
  nd : (l.map (·.1)).Nodup
  bl : Below A base envs g
  xs : (Mine.hd.heap_1 w.params).In g
  tp : Top p loose mean mg mb g
  ds : KtsDicts (frs envs) g
  fc : FcIn (PySem.strKind PySem.Challenge.rw_mr0282_02.prog w) 137 40 news₀ l σ c
  vs : Vars m σ c
  rk : (c.st.map fun f => rank f.nd.key).Pairwise (· < ·)
theorem hideF {α β : Type} {g : Prop} (T : α → β → Prop) (k : ∀ J : α → β → Prop, (∀ n s, T n s → J n s) → (∀ n s, J n s → T n s) → g) : g := k T (fun _ _ h => h) (fun _ _ h => h)
theorem fc_spec {w : World} {p : Program} {loose : List Str} {mean : ExcName → Option Value} {mg mb : Str → Option Value}
  {dp un : Nat} {gd : Option (List Code)} {cn : Str} {cs : Scope} {a : Addr} {ccd : Value} {cl : List (Str × Addr)} {outer : List Env} {A₀ : Around} {base h₀ : Heap} {L : Addr} {m : Str → Option Value} {news : Led} {s : Shared}
  {Q E : Value → Shared → Prop}
    {σ : Srt Str} {self : Addr} {rank : Str → Nat}
    (B : Below A₀ base outer h₀) (F : Fr h₀ L s.heap m) (T : Top p loose mean mg mb h₀) (hk : cs.kind = .function) (N : News h₀ L s.heap news) (D : KtsDicts (frs outer) h₀) (XB : (Mine.hd.heap_1 w.params).In base) (TB : Top p loose mean mg mb base) (hd : dp < 900) (hu : un < 9000) (S : SIn (PySem.strKind PySem.Challenge.rw_mr0282_02.prog w) 137 40 news σ) (hs : σ.self = self) (hlen : σ.nodes.length ≤ 1000) (hsl : SuccLe σ 100000)
    (hrank : ∀ n ∈ σ.nodes, ∀ k ∈ n.succ, k ∈ σ.nodes.map (·.key) ∧ rank n.key < rank k)
    (hret : ∀ g' h' tk', KtsTurn (frs outer) h₀ g' → Fr g' L h' m → News g' L h' news → Below A₀ base outer g' → KtsDicts (frs outer) g' → Q .none { s with heap := h', toks := tk' }) :
    (Mine.hd.heap_1 w.params).In h₀ → wpAny (model PySem.Challenge.rw_mr0282_02.prog w) (ktrTop dp un gd cn cs L a ccd cl outer) (call (.ref 127) [.ref self]) Q E s := by
  k_fill
  intro X
  subst hs
  refine ex1 (news_nodup N) fun news₁ zz => and3 zz fun hnd hmm N₁ => ?_
  have S₁ := S.sub (news' := news₁) fun p hp => (hmm p).mpr hp
  have hI := S₁.inst
  refine ex6 S₁.dict fun k1 k2 k3 k4 tp tf hD => ?_
  refine ex1 S₁.n2i fun od zz => and2 zz fun hO hod => ?_
  clear N S
  refine wpAny_call ?_
  k_dflt (refine' code_defT ?k1 ?k2 ?k3 ?k4 ?k5 ?kD ?kA ?kF ?kK ?k6 ?k7 ?k8 ?k9 ?kB ?_ ?c2 ?c3 ?c4 ?c5; (case kA => exact rfl); (case kF => exact rfl); (case kK => assumption); (case k1 => k_asm); (case k2 => k_asm); (case k3 => k_asm); (case k4 => k_asm); (case k5 => k_asm); (case kD => assumption); (case k6 => k_is); (case k7 => k_is); (case k8 => ktr_room); (case k9 => exact BindsTo.of_eq rfl); (case c5 => decide); (case kB => exact locs rfl); (case c2 => exact rfl); (case c3 => exact rfl); (case c4 => exact rfl); k_whole; intro g' L' h' FG' F' N' B' X' T' D'; (try dsimp only); (try k_fold))
  have fin : ∀ g h tk m' l, KtsTurn (frs (envX cn cs L a ccd cl :: outer)) g' g → Fr g L' h m' → News g L' h l → (∀ p ∈ news₁, p ∈ l) → LeaveT A₀ base (envX cn cs L a ccd cl) outer h₀ L m g' (fun r s' => match r with | .ok (.ret v) => Q v s' | .ok _ => False | .error e => E e s') .none { s with heap := h, toks := tk } := fun g h tk m' l t₁ F₁ N₁ hl => by
    refine ⟨g, L', m', l, t₁, F₁, N₁, fun h₀' t₂ F₂ N₂ B₂ D₂ => ?_⟩
    exact hret h₀' h tk t₂ F₂ (news_sub N₂ fun p hp => hl p ((hmm p).mpr hp)) B₂ D₂
  clear hret
  obtain ⟨QQ, hq, fin'⟩ : ∃ QQ : Flow → Shared → Prop, (∀ fl s', QQ fl s' → qk fl s') ∧ (∀ g h tk m' l, KtsTurn (frs (envX cn cs L a ccd cl :: outer)) g' g → Fr g L' h m' → News g L' h l → (∀ p ∈ news₁, p ∈ l) → QQ (.ret .none) { s with heap := h, toks := tk }) := ⟨qk, fun _ _ x => x, fin⟩
  refine wpAny_mono (Q := QQ) (E := NoExc) ?_ hq (fun _ _ x => x.elim)
  clear fin hq qk ek
  k_steps
  rename News g' L' _ _ => N₃
  rename Fr g' L' _ _ => F₃
  rename Heap => h₃
  obtain ⟨c₀, l₀, m₀, C₀, st₀, F₀, N₀, V₀⟩ : ∃ c l m₀, FcIn (PySem.strKind PySem.Challenge.rw_mr0282_02.prog w) 137 40 news₁ l σ c ∧ c.st = [] ∧ Fr g' L' h₃ m₀ ∧ News g' L' h₃ l ∧ Vars m₀ σ c :=
    ⟨_, _, _, fc_init S₁ (by assumption) (by assumption) (by assumption) (by assumption) (by assumption) (by assumption) (by assumption) (by assumption) (by assumption) (by assumption) (by assumption) (by assumption) (by assumption), rfl, F₃, N₃, rfl, rfl, rfl, rfl, rfl⟩
  clear N₃ F₃
  refine ex1 (news_nodup N₀) fun l₁ zz => and3 zz fun hnd₁ hmm₁ N₂ => ?_
  have A₁ : FcAt w p loose mean mg mb (ktrTop dp un gd cn cs L a ccd cl outer) base (envX cn cs L a ccd cl :: outer) g' L' σ news₁ rank s g' m₀ l₁ c₀ { s with heap := h₃ } :=
    ⟨⟨_, _, rfl⟩, KtsTurn.refl, F₀, N₂, hnd₁, B', X', T', D', C₀.sub fun p hp => (hmm₁ p).mpr hp, V₀, by rw [st₀]; exact List.Pairwise.nil⟩
  clear F₀ N₀ N₂ C₀ B' X' T' D'
  refine for_inv ?_
  obtain ⟨st₁, turn₁, F₁, N₁', nd₁, bl₁, xs₁, tp₁, ds₁, fc₁, vs₁, rk₁⟩ := id A₁
  (refine and5 vs₁ fun vn v1 v2 v3 v4 => ?_; try clear vs₁)
  rw [ov vn] at F₁
  k_steps
  have hO₁ := (fc₁.old _ hO).1
  refine ex1 ((kda_dict N₁' hO₁ hod).dictAt) fun ep hat => ?_
  refine wpAny_pyIter_dict (knd := PySem.strKind _ _) S₁.lo hat ?_
  have hne : σ.nd ≠ h₃.objs.size := Nat.ne_of_lt (Heap.lt_size (N₁' _ hO₁).1)
  have W : ∀ A : Around, A.handled = none → Walks PySem.Challenge.rw_mr0282_02.prog w A h₃.objs.size _ _ _ _ _ := fun A hh => Walks.dictKeys (knd := PySem.strKind _ _) hh h₃.objs.size σ.nd hne (σ.nodes.map fun n => (n.key, .ref n.ai)) ep
  have hgI : g'.get? h₃.objs.size = none := F₁.fresh
  have hIL : h₃.objs.size ≠ L' := Ne.symm (Nat.ne_of_lt F₁.ns.lt)
  have hA₁ : ∀ p ∈ l₁, p.1 ≠ h₃.objs.size := fun p hp => Nat.ne_of_lt (Heap.lt_size (N₁' p hp).1)
  generalize hIe : h₃.objs.size = I at W hgI hIL hA₁
  have hN : news₁.length = news₁.length := rfl
  refine hideF (fun (n : Nat) (s' : Shared) => ∃ i g m l c, n + i = σ.nodes.length ∧ (s'.heap.IsKeyIter I σ.nd i (σ.nodes.map fun n => (n.key, Value.ref n.ai)).length ep ∧ s'.heap.DictAt (PySem.strKind PySem.Challenge.rw_mr0282_02.prog w) σ.nd (σ.nodes.map fun n => (n.key, Value.ref n.ai)) ep) ∧ FcAt w p loose mean mg mb (ktrTop dp un gd cn cs L a ccd cl outer) base (envX cn cs L a ccd cl :: outer) g' L' σ news₁ rank s g m l c s' ∧ c.st = [] ∧ (∀ p ∈ l, p.1 ≠ I)) fun J mkJ elJ => ?_
  refine ⟨J, σ.nodes.length, mkJ _ _ ⟨0, g', m₀, l₁, c₀, rfl, ⟨⟨_, by rw [← hIe]; exact Heap.get?_push_size _ rfl, rfl, rfl⟩, hat.push _⟩, ?_, st₀, hA₁⟩, fun _ => rfl, ?_⟩
  · exact ⟨⟨_, _, rfl⟩, turn₁, A₁.fr.push _, fun p hp => ⟨Heap.get?_push_of_some _ (N₁' p hp).1, (N₁' p hp).2⟩, nd₁, bl₁, xs₁, tp₁, ds₁, fc₁, A₁.vs, rk₁⟩
  clear A₁ st₁ turn₁ F₁ N₁' nd₁ bl₁ xs₁ tp₁ ds₁ fc₁ vn v1 v2 v3 v4 rk₁ hat hO₁ hA₁ hIe hne
  rintro n s₁ hJ
  refine ex5 (elJ _ _ hJ) fun i g m₁ l c zz => and5 zz fun hi hst At hc hIl => ?_
  clear hJ elJ
  obtain ⟨⟨h₁, tk₁, rfl⟩, turn₁, F₁, N₁', nd₁, bl₁, xs₁, tp₁, ds₁, fc₁, vs₁, rk₁⟩ := At
  have hgI₁ : g.get? I = none := turn₁.none_ _ hgI
  have hO₁ := (fc₁.old _ hO).1
  by_cases hn : n = 0
  · subst hn
    have hi' : i = (σ.nodes.map fun n => (n.key, Value.ref n.ai)).length := by simp only [List.length_map]; omega
    rw [hi'] at hst
    refine (W _ rfl).done _ _ _ hst fun h₂ tk₂ hk₂ => ?_
    have F₂ := fr_but F₁ hk₂ hIL hgI₁
    have N₂ := news_but N₁' hk₂ hIl
    have fin₂ : ∀ h tk m', Fr g L' h m' → News g L' h l → QQ (.ret .none) { s with heap := h, toks := tk } := fun h tk m' F' N' => fin' g h tk m' l turn₁ F' N' fun p hp => (fc₁.old p hp).1
    clear fin' F₁ N₁' W
    k_steps
    exact fin₂ _ _ _ (by assumption) (by assumption)
  · refine (W _ rfl).item i _ _ _ (by simp only [List.length_map]; omega) hst fun v h₂ tk₂ hP hst₂ hk₂ => ?_
    (refine ex2 hP fun k x zz => and2 zz fun hkx hkv => ?_; try clear hP)
    (have zz := is_val hkv; refine ex1 zz ?_; try clear zz; rintro tq rfl)
    have hkm : k ∈ σ.nodes.map (·.key) := by
      have := List.mem_of_getElem? hkx
      refine ex1 (List.mem_map.mp this) fun y zz => and2 zz fun hy e => ?_
      exact List.mem_map.mpr ⟨y, hy, (Prod.mk.inj e).1⟩
    refine ex1 hst₂.1 fun oI zz => and2 zz fun hoI roI => ?_
    have F₂ := fr_but F₁ hk₂ hIL hgI₁
    have N₂ := news_but N₁' hk₂ hIl
    have N₃ : News g L' h₂ ((I, oI) :: l) := fun p hp => by
      rcases List.mem_cons.mp hp with rfl | hp
      · exact ⟨hoI, hIL, hgI₁⟩
      · exact N₂ p hp
    have hIf : I ∉ c.foot := fun hx => by
      refine ex1 fc₁.stk fun e1 q1 => ?_
      refine ex1 fc₁.its fun e2 q2 => ?_
      refine ex2 fc₁.sen fun _ _ zz => and2 zz fun q3 _ => ?_
      refine ex2 fc₁.pos fun _ _ zz => and2 zz fun q4 _ => ?_
      unfold Fc.foot at hx
      rw [hc] at hx
      simp only [List.flatMap_nil, List.mem_cons, List.not_mem_nil, or_false] at hx
      rcases hx with e | e | e | e
      · exact hIl _ q1 e.symm
      · exact hIl _ q2 e.symm
      · exact hIl _ q3 e.symm
      · exact hIl _ q4 e.symm
    have C₂ : FcIn (PySem.strKind PySem.Challenge.rw_mr0282_02.prog w) 137 40 ((I, oI) :: news₁) ((I, oI) :: l) σ c := fc₁.base (fun p hp _ => List.mem_cons_of_mem _ hp) fun p hp => by
      rcases List.mem_cons.mp hp with rfl | hp
      · exact ⟨.head _, hIf⟩
      · exact ⟨.tail _ (fc₁.old p hp).1, (fc₁.old p hp).2⟩
    have nd₂ : (((I, oI) :: l).map (·.1)).Nodup := by
      rw [List.map_cons, List.nodup_cons]
      exact ⟨fun hx => by refine ex1 (List.mem_map.mp hx) fun p zz => and2 zz fun hp e => ?_; exact hIl p hp e, nd₁⟩
    refine and5 (id vs₁) fun vn v1 v2 v3 v4 => ?_
    rw [ov vn, ov v1, ov v2, ov v3, ov v4] at F₂
    refine ex2 C₂.sen fun so ns zz => and3 zz fun q3 s3 c3 => ?_
    have hnb : ns < scanBound := by have : scanBound = 4096 := rfl; omega
    have goOn : ∀ h tk m' g₂ l₂ c₂, FcAt w p loose mean mg mb (ktrTop dp un gd cn cs L a ccd cl outer) base (envX cn cs L a ccd cl :: outer) g' L' σ ((I, oI) :: news₁) rank s g₂ m' l₂ c₂ { s with heap := h, toks := tk } → c₂.st = [] → ∃ n', n' < n ∧ J n' { s with heap := h, toks := tk } := fun h tk m' g₂ l₂ c₂ At₂ hc₂ => by
      have hI₂ := (At₂.nw _ (At₂.fc.old (I, oI) (.head _)).1).1
      have hO₂ := (At₂.nw _ (At₂.fc.old _ (.tail _ hO)).1).1
      have hO₁ := (N₂ _ (fc₁.old _ hO).1).1
      refine ⟨n - 1, by omega, mkJ _ _ ⟨i + 1, g₂, m', l₂.filter (fun p => p.1 != I), c₂, by omega, (W (ktrTop dp un gd cn cs L a ccd cl outer) rfl).frame _ _ _ hst₂ (fun b hb o ho => ?_), ⟨⟨h, tk, rfl⟩, At₂.turn, At₂.fr, news_sub At₂.nw fun p hp => (List.mem_filter.mp hp).1, ?_, At₂.bl, At₂.xs, At₂.tp, At₂.ds, At₂.fc.base (fun p hp hf => List.mem_filter.mpr ⟨hp, ?_⟩) fun p hp => ⟨List.mem_filter.mpr ⟨(At₂.fc.old p (.tail _ hp)).1, ?_⟩, (At₂.fc.old p (.tail _ hp)).2⟩, At₂.vs, At₂.rk⟩, hc₂, fun p hp => by simpa using (List.mem_filter.mp hp).2⟩⟩
      · simp only [List.mem_cons, List.not_mem_nil, or_false] at hb
        rcases hb with rfl | rfl
        · rw [hoI] at ho; cases ho; exact hI₂
        · rw [hO₁] at ho; cases ho; exact hO₂
      · exact At₂.nd.sublist (List.filter_sublist.map _)
      · simp only [bne_iff_ne, ne_eq]
        intro e
        rcases hf with hf | hf
        · exact (At₂.fc.old (I, oI) (.head _)).2 (e ▸ hf)
        · refine ex1 (S₁.footG hf) fun o ho => ?_
          exact hIl _ (fc₁.old _ ho).1 e
      · simpa using hIl _ (fc₁.old p hp).1
    clear F₁ N₁' fin' W N₂ hst hst₂ roI
    cases hsk : c.seen k with
    | true =>
      k_steps
      refine goOn _ _ _ g ((I, oI) :: l) c ⟨⟨_, _, rfl⟩, turn₁, (by assumption), (by assumption), nd₂, bl₁, xs₁, tp₁, ds₁, C₂, ⟨rfl, rfl, rfl, rfl, rfl⟩, rk₁⟩ hc
    | false =>
      k_steps
      refine ⟨?_⟩
      rename News g L' _ _ => N₄
      rename Fr g L' _ _ => F₄
      rename Heap => h₄
      refine hideF (fun (n : Nat) (s' : Shared) => ∃ g m l c k t, FcAt w p loose mean mg mb (ktrTop dp un gd cn cs L a ccd cl outer) base (envX cn cs L a ccd cl :: outer) g' L' σ ((I, oI) :: news₁) rank s g m l c s' ∧ m "node" = some (Value.str k t) ∧ k ∈ σ.nodes.map (·.key) ∧ (∀ f ∈ c.st, rank f.nd.key < rank k) ∧ c.todo σ.nodes = n) fun J₂ mkJ₂ elJ₂ => ?_
      refine while_inv J₂ _ (mkJ₂ _ _ ⟨g, _, (I, oI) :: l, c, k, tq, ⟨⟨_, _, rfl⟩, turn₁, F₄, N₄, nd₂, bl₁, xs₁, tp₁, ds₁, C₂, ⟨rfl, rfl, rfl, rfl, rfl⟩, rk₁⟩, rfl, hkm, (fun f hf => absurd (hc ▸ hf) (by simp)), rfl⟩) ?_
      clear F₄ N₄ C₂ nd₂ bl₁ xs₁ tp₁ ds₁ rk₁ vn v1 v2 v3 v4 q3 s3 c3 hnb hsk turn₁ hgI₁ hO₁ fc₁ vs₁ hk₂ hoI hIf
      clear hkx hkv hkm
      rintro n₁ s₁ hJ
      refine ex6 (elJ₂ _ _ hJ) fun g₁ m₂ l₁ c₁ k₁ t₁ zz => and5 zz fun At hmn hkm hlt htd => ?_
      clear hJ elJ₂
      obtain ⟨⟨h₁, tk₁, rfl⟩, turn₁, F₁, N₁', nd₁, bl₁, xs₁, tp₁, ds₁, fc₁, vs₁, rk₁⟩ := At
      have mk : StopIf := ⟨trivial⟩
      k_steps
      with_reducible rename StopIf => mk
      clear mk
      refine ⟨?_⟩
      refine hideF (fun (f : Flow) (s₂ : Shared) => Stop (f = .next ∧ ∃ m l c, FcAt w p loose mean mg mb (ktrTop dp un gd cn cs L a ccd cl outer) base (envX cn cs L a ccd cl :: outer) g' L' σ ((I, oI) :: news₁) rank s g₁ m l c s₂ ∧ c.todo σ.nodes ≤ n₁)) fun Q₂ mkQ₂ elQ₂ => ?_
      refine wpAny_mono (Q := Q₂) ?_ (fun f s₂ h => ?_) (fun _ _ x => x)
      · (refine and5 vs₁ fun vn v1 v2 v3 v4 => ?_; try clear vs₁)
        rw [ov vn, ov v1, ov v2, ov v3, ov v4, ov hmn] at F₁
        refine ex2 fc₁.sen fun so ns zz => and3 zz fun q3 s3 c3 => ?_
        refine ex1 fc₁.stk fun e1 q1 => ?_
        refine ex1 fc₁.its fun e2 q2 => ?_
        refine ex2 fc₁.pos fun od4 kvs zz => and3 zz fun q4 d4 hk4 => ?_
        have lo4 := fc₁.lo
        have sp := fc_sep fc₁.foot
        obtain ⟨n12, n13, n14, n23, n24, n34, _, _, _, _⟩ := id sp
        have hnb : ns < scanBound := by have : scanBound = 4096 := rfl; omega
        have hkn : (valueAt kvs k₁).isSome = false := by
          rw [valueAt_none_of_not_mem]; · rfl
          rw [hk4]
          intro hx
          refine ex1 (List.mem_map.mp hx) fun f zz => and2 zz fun hf e => ?_
          have := hlt f hf
          rw [e] at this
          exact Nat.lt_irrefl _ this
        cases hsk : c₁.seen k₁ with
        | true =>
          k_steps
          exact mkQ₂ _ _ ⟨⟨rfl, _, _, _, ⟨⟨_, _, rfl⟩, turn₁, (by assumption), (by assumption), nd₁, bl₁, xs₁, tp₁, ds₁, fc₁, ⟨rfl, rfl, rfl, rfl, rfl⟩, rk₁⟩, Nat.le_of_eq htd⟩⟩
        | false =>
          refine ex1 (List.mem_map.mp hkm) fun n₂ zz => and2 zz fun hn₂ hk₂ => ?_
          subst hk₂
          have hva := valueAt_of hn₂ S₁.keysNodup
          obtain ⟨⟨v₁, t₂, hv₁, m4⟩, m5, vs₂, ep₂, m6, ka₂⟩ := fc₁.sin.nds n₂ hn₂
          have hO₁ := (fc₁.old _ (.tail _ hO)).1
          have hl1 : (c₁.st.map (·.v)).length ≤ 1000000 := by have := fc₁.len; simp only [List.length_map]; omega
          have hl2 : (c₁.st.map (·.v)).toArray.size ≤ sizeLine := by rw [List.size_toArray, sizeLine_eq]; omega
          have hl3 : (c₁.st.map fun f => Value.ref f.mw).toArray.size ≤ sizeLine := by have := fc₁.len; rw [List.size_toArray, sizeLine_eq, List.length_map]; omega
          have hl4 : kvs.length ≤ sizeLine := by have := fc₁.len; have e := congrArg List.length hk4; simp only [List.length_map] at e; rw [sizeLine_eq]; omega
          have hsep : ∀ x ∈ σ.foot, x ≠ c₁.a1 ∧ x ≠ c₁.a2 ∧ x ≠ c₁.a3 ∧ x ≠ c₁.a4 := fun x hx =>
            ⟨fun e => fc₁.sep c₁.a1 (by simp [Fc.foot]) (e ▸ hx), fun e => fc₁.sep c₁.a2 (by simp [Fc.foot]) (e ▸ hx), fun e => fc₁.sep c₁.a3 (by simp [Fc.foot]) (e ▸ hx), fun e => fc₁.sep c₁.a4 (by simp [Fc.foot]) (e ▸ hx)⟩
          have z1 := (hsep σ.nd (by simp [Srt.foot])).2.2.1
          have z2 := (hsep n₂.ai (mem_foot_node hn₂ (by simp [Nd.foot]))).2.2.1
          have z3 := (hsep n₂.as (mem_foot_node hn₂ (by simp [Nd.foot]))).2.2.1
          have z4 := (hsep n₂.di (mem_foot_node hn₂ (by simp [Nd.foot]))).2.2.1
          have hnb1 : ns + 1 < scanBound := by have : scanBound = 4096 := rfl; omega
          have mk : StopEx := ⟨trivial⟩
          k_steps
          with_reducible rename StopEx => mk
          refine ⟨?_⟩
          have back : ∀ h, Fr g₁ L' h _ → Fr g₁ L' h m₂ := fun h (F : Fr g₁ L' h _) => by rw [ov vn, ov v1, ov v2, ov v3, ov v4, ov hmn]; exact F
          refine hideF (fun (f : Flow) (s₂ : Shared) => Stop (f = .next ∧ ∃ h tk so', s₂ = { s with heap := h, toks := tk } ∧ Fr g₁ L' h m₂ ∧ News g₁ L' h (setL l₁ c₁.a3 so') ∧ so'.SetObjOf (PySem.strKind PySem.Challenge.rw_mr0282_02.prog w) (fun k' => c₁.seen k' || decide (k' = n₂.key)) (ns + 1))) fun Q₃ mkQ₃ elQ₃ => ?_
          refine wpAny_mono (E := NoExc) (Q := Q₃) ?_ (fun f s₂ h => ?_) (fun _ _ x => x)
          · clear mk
            k_steps
            rename News g₁ L' _ (setL l₁ c₁.a3 _) => N'
            rename Obj.SetObjOf _ _ _ _ => hs'
            rw [if_neg (by rw [hsk]; decide)] at hs'
            exact mkQ₃ _ _ ⟨⟨rfl, _, _, _, rfl, back _ (by assumption), N', hs'⟩⟩
          obtain ⟨⟨rfl, h₂', tk₂', so', rfl, F₂, N₂, s3'⟩⟩ := elQ₃ _ _ h
          clear h mkQ₃ elQ₃
          clear F₁ N₁' back mk
          obtain ⟨l₂, hl₂⟩ : ∃ l₂, l₂ = setL l₁ c₁.a3 so' := ⟨_, rfl⟩
          rw [← hl₂] at N₂
          have K₂ : ∀ p ∈ l₁, p.1 ≠ c₁.a3 → p ∈ l₂ := fun p hp hne => hl₂ ▸ mem_setL_ne hne hp
          have nd₂ : (l₂.map (·.1)).Nodup := by rw [hl₂, setL_keys]; exact nd₁
          have q3' : (c₁.a3, so') ∈ l₂ := hl₂ ▸ mem_setL_self q3
          have q1o := q1
          have q4o := q4
          have q1' := K₂ _ q1 n13
          have q2' := K₂ _ q2 n23
          have q4' := K₂ _ q4 (Ne.symm n34)
          have hO₂ := K₂ _ hO₁ z1
          have m4' := K₂ _ m4 z2
          have m6' := K₂ _ m6 z3
          have m5' := K₂ _ m5 z4
          clear q1 q2 q4 hO₁ m4 m6 z1 z2 z3 z4 m5
          rw [ov vn, ov v1, ov v2, ov v3, ov v4, ov hmn] at F₂
          have mk : StopEx := ⟨trivial⟩
          dsimp only
          k_steps
          with_reducible rename StopEx => mk
          refine ⟨?_⟩
          have back : ∀ h, Fr g₁ L' h _ → Fr g₁ L' h m₂ := fun h (F : Fr g₁ L' h _) => by rw [ov vn, ov v1, ov v2, ov v3, ov v4, ov hmn]; exact F
          refine hideF (fun (f : Flow) (s₂ : Shared) => Stop (f = .next ∧ ∃ h tk I J l₃ e, s₂ = { s with heap := h, toks := tk } ∧ Fr g₁ L' h m₂ ∧ News g₁ L' h l₃ ∧ (l₃.map (·.1)).Nodup ∧ (J, mwObj I) ∈ l₃ ∧ (I, litObj n₂.as 0) ∈ l₃ ∧ (c₁.a2, W.listOf ((c₁.st.map fun f => Value.ref f.mw) ++ [Value.ref J]).toArray e) ∈ l₃ ∧ (∀ p ∈ l₂, p.1 ≠ c₁.a2 → p ∈ l₃) ∧ (∀ p ∈ l₂, p.1 ≠ I ∧ p.1 ≠ J) ∧ J ≠ I)) fun Q₄ mkQ₄ elQ₄ => ?_
          refine wpAny_mono (E := NoExc) (Q := Q₄) ?_ (fun f s₂ h => ?_) (fun _ _ x => x)
          · clear mk
            k_steps
            rename News g₁ L' _ _ => N'
            rw [List.push_toArray] at N'
            refine and7 (fc_mid N' nd₂ q2' (by assumption) (by assumption) (by assumption)) fun y1 y2 y3 y4 y5 y6 y7 => ?_
            exact mkQ₄ _ _ ⟨⟨rfl, _, _, _, _, _, _, rfl, back _ (by assumption), N', y1, y2, y3, y4, y5, y6, y7⟩⟩
          obtain ⟨⟨rfl, h₃', tk₃', I₃, J₃, l₃, e₃, rfl, F₃, N₃, nd₃, y2, y3, y4, y5, y6, y7⟩⟩ := elQ₄ _ _ h
          clear h mkQ₄ elQ₄
          clear F₂ N₂ back mk
          have q1₃ := y5 _ q1' n12
          have q4₃ := y5 _ q4' (Ne.symm n24)
          rw [ov vn, ov v1, ov v2, ov v3, ov v4, ov hmn] at F₃
          have back : ∀ h, Fr g₁ L' h _ → Fr g₁ L' h m₂ := fun h (F : Fr g₁ L' h _) => by rw [ov vn, ov v1, ov v2, ov v3, ov v4, ov hmn]; exact F
          dsimp only
          k_steps
          rename News g₁ L' _ _ => N'
          rw [List.push_toArray] at N'
          rw [hl₂] at y5 y6
          have hkk : n₂.key ∉ kvs.map (·.1) := by
            rw [hk4]
            intro hx
            refine ex1 (List.mem_map.mp hx) fun f zz => and2 zz fun hf e => ?_
            have := hlt f hf
            rw [e] at this
            exact Nat.lt_irrefl _ this
          refine and3 (fc_push4 (v := Value.str n₂.key t₁) (e4 := e1 + 1) fc₁ nd₃ hn₂ (strKind_is _ _ _ _) hsk q1o q3 q4o s3' c3 y2 y3 y4 y5 y6 y7 hk4 hkk (by assumption)) fun C₄ nd₄ td₄ => ?_
          refine mkQ₂ _ _ ⟨⟨rfl, m₂, _, _, ⟨⟨_, _, rfl⟩, turn₁, back _ (by assumption), N', nd₄, bl₁, xs₁, tp₁, ds₁, C₄, ⟨vn, v1, v2, v3, v4⟩, ?_⟩, by omega⟩⟩
          show ((c₁.st ++ [_]).map _).Pairwise _
          rw [List.map_append, List.pairwise_append]
          refine ⟨rk₁, by simp, fun a ha b hb => ?_⟩
          (have zz := List.mem_map.mp ha; refine ex1 zz ?_; try clear zz; rintro f zz; refine and2 zz ?_; try clear zz; rintro hf rfl)
          rw [List.map_singleton] at hb
          rw [List.mem_singleton.mp hb]
          exact hlt f hf
      · obtain ⟨⟨rfl, m₃, l₃, c₃, At₃, htd₃⟩⟩ := elQ₂ _ _ h
        clear h mkQ₂ elQ₂
        clear F₁ N₁' nd₁ bl₁ xs₁ tp₁ ds₁ fc₁ vs₁ rk₁ hlt hmn hkm htd
        dsimp only
        k_steps
        refine ⟨?_⟩
        refine hideF (fun (n : Nat) (s' : Shared) => ∃ g m l c, FcAt w p loose mean mg mb (ktrTop dp un gd cn cs L a ccd cl outer) base (envX cn cs L a ccd cl :: outer) g' L' σ ((I, oI) :: news₁) rank s g m l c s' ∧ c.todo σ.nodes ≤ n₁ ∧ c.st.length = n) fun J₃ mkJ₃ elJ₃ => ?_
        refine while_inv J₃ _ (mkJ₃ _ _ ⟨g₁, m₃, l₃, c₃, At₃, htd₃, rfl⟩) ?_
        clear At₃ htd₃
        rintro n₄ s₄ hJ
        refine ex4 (elJ₃ _ _ hJ) fun g₄ m₄ l₄ c₄ zz => and3 zz fun At htd₄ hln => ?_
        clear hJ elJ₃
        obtain ⟨⟨h₄, tk₄, rfl⟩, turn₄, F₄, N₄, nd₄, bl₄, xs₄, tp₄, ds₄, fc₄, vs₄, rk₄⟩ := At
        refine and5 (id vs₄) fun vn v1 v2 v3 v4 => ?_
        refine ex1 fc₄.stk fun e1 q1 => ?_
        refine ex1 fc₄.its fun e2 q2 => ?_
        refine ex2 fc₄.pos fun od4 kvs zz => and3 zz fun q4 d4 hk4 => ?_
        have lo4 := fc₄.lo
        have sp := fc_sep fc₄.foot
        obtain ⟨n12, n13, n14, n23, n24, n34, _, _, _, _⟩ := id sp
        rw [ov vn, ov v1, ov v2, ov v3, ov v4] at F₄
        have hl1 : (c₄.st.map (·.v)).length ≤ 1000000 := by have := fc₄.len; simp only [List.length_map]; omega
        rcases List.eq_nil_or_concat c₄.st with hst | ⟨st, f, hst⟩
        · rw [hst] at q1 hl1
          k_steps
          dsimp only
          refine wpAny_execs_nil ?_
          exact goOn _ _ _ g₄ l₄ c₄ ⟨⟨_, _, rfl⟩, turn₄, (by assumption), (by assumption), nd₄, bl₄, xs₄, tp₄, ds₄, fc₄, ⟨rfl, rfl, rfl, rfl, rfl⟩, rk₄⟩ hst
        · rw [List.concat_eq_append] at hst
          rw [hst] at q1 q2 hl1
          rw [List.map_append, List.map_singleton] at q1 q2 hl1
          have hne : ((st.map (·.v)) ++ [f.v]).isEmpty = false := by simp
          have hfm : f ∈ c₄.st := by rw [hst]; simp
          refine and4 (fc₄.frs f hfm) fun hfn hfv hmw hit => ?_
          obtain ⟨⟨v₁, t₂, hv₁, m4⟩, m5, vs₂, ep₂, m6, ka₂⟩ := fc₄.sin.nds f.nd hfn
          k_steps
          refine ⟨?_⟩
          refine wpAny_Try_except ?_
          k_steps
          rename News g₄ L' _ _ => N₅
          rename Fr g₄ L' _ _ => F₅
          refine callWith_mw (N₅ _ hmw).1 ?_
          by_cases hp : f.p < f.nd.succ.length
          · refine ex1 (ka₂.get (List.getElem?_eq_getElem hp)) fun x zz => and2 zz fun hx hkx => ?_
            (have zz := is_val hkx; refine ex1 zz ?_; try clear zz; rintro tx rfl)
            refine mw_item F₅ N₅ nd₄ hmw hit m6 (by rw [List.getElem?_toArray]; exact hx) fun h₆ F₆ N₆ => ?_
            clear F₅ N₅
            k_steps
            dsimp only
            refine wpAny_execs_nil ?_
            refine and2 (fc_adv4 fc₄ hst hp hit) fun C₅ td₅ => ?_
            refine and3 (fc_rank rk₄ hst) fun r1 r2 _ => ?_
            have hr := hrank f.nd hfn _ (List.getElem_mem hp)
            exact ⟨(c₄.adv st f).todo σ.nodes, by omega, mkJ₂ _ _ ⟨g₄, _, _, c₄.adv st f, _, tx, ⟨⟨_, _, rfl⟩, turn₄, (by assumption), (by assumption), setL_nodup nd₄, bl₄, xs₄, tp₄, ds₄, C₅, ⟨rfl, rfl, rfl, rfl, rfl⟩, r1⟩, rfl, hr.1, r2 _ hr.2, rfl⟩⟩
          · have hx : vs₂.toArray[f.p]? = none := by
              rw [List.getElem?_toArray, List.getElem?_eq_none]
              have := ka₂.length
              omega
            refine mw_end rfl F₅ N₅ hmw hit m6 hx fun hm h₆ e F₆ N₆ hexc => ?_
            clear F₅ N₅
            refine caught_here (x := "StopIteration") (X := "StopIteration") (T' := "StopIteration") bl₄ F₆ N₆ hexc XB TB ds₄ turn₄ (by k_is) (by kernel_rfl) (by decide) (by first | rfl | kernel_rfl) (by first | rfl | kernel_rfl) (by first | rfl | kernel_rfl) ?_
            intro h₇ g₇ turn₇ F₇ N₇ bl₇ xs₇ tp₇ ds₇
            clear F₆ N₆ hexc
            obtain ⟨lf, hlf⟩ : ∃ lf, lf = l₄.filter fun p => p.1 != f.it := ⟨_, rfl⟩
            rw [← hlf] at N₇
            have kf : ∀ p ∈ l₄, p.1 ≠ f.it → p ∈ lf := fun p hp hne => by rw [hlf]; exact List.mem_filter.mpr ⟨hp, by simpa using hne⟩
            have ndf : (lf.map (·.1)).Nodup := by rw [hlf]; exact nd₄.sublist (List.filter_sublist.map _)
            have iff_ : f.it ∈ f.foot := by simp [Fm.foot]
            have q1f := kf _ q1 (Ne.symm (sp.f1 f hfm _ iff_))
            have q2f := kf _ q2 (Ne.symm (sp.f2 f hfm _ iff_))
            have q4f := kf _ q4 (Ne.symm (sp.f4 f hfm _ iff_))
            clear q1 q2 q4
            refine ex1 (is_val hfv) fun tv hfe => ?_
            rw [hfe] at q1f
            have hkn : (c₄.st.map (·.nd.key)).Nodup := by
              (refine ex2 d4 fun _ _ zz => and4 zz fun _ _ _ hn => ?_; try clear d4)
              rw [← hk4]; exact hn.2
            have hva : (valueAt kvs f.nd.key).isSome = true := valueAt_mem (by rw [hk4]; exact List.mem_map.mpr ⟨f, hfm, rfl⟩)
            have hz1 : (st.map (·.v)).length ≤ 1000000 := by simp only [List.length_append] at hl1; omega
            have hz2 : (st.map fun f => Value.ref f.mw).length ≤ 1000000 := by simpa using hz1
            have hz3 : kvs.length ≤ sizeLine := by have := fc₄.len; have e := congrArg List.length hk4; simp only [List.length_map] at e; rw [sizeLine_eq]; omega
            k_steps
            refine and3 (fc_pop4 (e1 := e1 + 1) (e2 := e2 + 1) fc₄ hst hp hlf q1f q2f q4f hk4 hkn (by assumption)) fun C₈ td₈ ln₈ => ?_
            refine and3 (fc_rank rk₄ hst) fun _ _ r3 => ?_
            exact ⟨(c₄.pop st).st.length, by omega, mkJ₃ _ _ ⟨g₇, _, _, c₄.pop st, ⟨⟨_, _, rfl⟩, turn₇, (by assumption), (by assumption), setL_nodup (setL_nodup (setL_nodup ndf)), bl₇, xs₇, tp₇, ds₇, C₈, ⟨rfl, rfl, rfl, rfl, rfl⟩, r3⟩, by omega, rfl⟩⟩
end
end
section
theorem calm_Prep_2 (M : Model) (A : Around) (E : Value → Shared → Prop) (s : Shared) : wpAny M A (pure ()) (fun _ _ => True) E s := by
  w_top off
  first
  | (walk1; fail)
  | exact wpAny_pure trivial
section
theorem rules_Prep : True := by
  k_with_none
  (k_with "k_lt" => ((rename AllLt _ _ => l1); (try simp only [AllLt, allLt_setL, allLt_append, and_true] at l1); (repeat obtain ⟨_, l1⟩ := l1)))
  (k_with "k_lt2" => ((rename _ < _ => l2); (try have hmzz := allLt_mono l2 (by assumption))))
  (k_with "k_room" => ktr_room)
  (k_with "k_all" => first | exact ne_of_allLt (by assumption) | k_asm | ((with_reducible show ∀ p ∈ setL _ _ _, _); refine all_setL ?_; k_all))
  (k_with "k_ne" => first | assumption | exact Ne.symm (by assumption) | exact ne_of_lt_mem (by assumption) (by assumption) | exact ne_of_lt_mem' (by assumption) (by assumption))
  (k_with "k_mem" => first | with_reducible exact List.mem_cons_self | ((with_reducible refine' List.mem_cons_of_mem _ ?_); k_mem))
  (k_with "k_mem" => ((with_reducible refine' memG ?_); first | exact mem_setL_self (by first | with_reducible assumption | k_mem) | exact memS (by first | with_reducible assumption | k_mem) (by k_ne)))
  (k_with "k_upd" => exact upd_setL (by assumption) (by k_mem))
  (k_with "k_upd" => ((with_reducible show Upd _ _ _ (setL _ _ _) _); exact upd_setL (by first | exact setL_nodup (by assumption) | exact setL_nodup (setL_nodup (by assumption)) | exact setL_nodup (setL_nodup (setL_nodup (by assumption))) | exact setL_nodup (setL_nodup (setL_nodup (setL_nodup (by assumption))))) (by k_mem)))
  (k_with "k_updF" => exact updF_setL (by assumption) (by k_mem))
  (k_with "k_updF" => ((with_reducible show UpdF _ _ (setL _ _ _) _); exact updF_setL (by first | exact setL_nodup (by assumption) | exact setL_nodup (setL_nodup (by assumption)) | exact setL_nodup (setL_nodup (setL_nodup (by assumption))) | exact setL_nodup (setL_nodup (setL_nodup (setL_nodup (by assumption))))) (by k_mem)))
  (k_with "getMethod ref" => (k_here; (with_reducible show wpAny _ _ (getMethod (Value.ref _) (Str.ofString "get") _) _ _ _); k_dflt (refine kdg_method (knd := PySem.strKind _ _) (by k_asm) (by k_mem) (by k_asm) ?_)))
  (k_with "call builtin:dict.get" => (k_here; k_dflt (refine kdg_get1 (knd := PySem.strKind _ _) (by k_asm) (by k_mem) (by k_asm) (by k_asm) (strKind_is _ _ _ _) _ (by k_asm) ?_); (try dsimp only [Option.getD])))
  (k_with "setItem ref str" => (k_here; k_dflt (refine' kda_set (knd := PySem.strKind _ _) ?zzF ?zzN ?zzU ?zzd (strKind_is _ _ _ _) ?zzz ?_; (case zzF => k_asm); (case zzN => k_asm); (case zzU => k_updF); (case zzd => k_asm); (case zzz => k_asm)); intro zh zo zF zN zd; (try dsimp only at zN)))
  (k_with "call builtin:len" => (k_here; (with_reducible show wpAny _ _ (call (Value.builtin "len") [Value.ref _]) _ _ _); k_dflt (first | (refine' len_tupN ?zzk1 ?zzk2 ?zzk3 ?_; (case zzk1 => k_asm); (case zzk2 => k_mem); (case zzk3 => assumption)) | (refine' len_listN ?zzk1 ?zzk2 ?zzk3 ?_; (case zzk1 => k_asm); (case zzk2 => k_mem); (case zzk3 => assumption)))))
  (k_with "call builtin:list.append" => (k_here; (with_reducible show wpAny _ _ (call (Value.builtin _) [Value.ref _, _]) _ _ _); k_dflt (refine' append_K ?zzk1 ?zzk2 ?zzk3 ?_ ?zzz; (case zzk1 => k_asm); (case zzk2 => k_asm); (case zzk3 => k_upd); (case zzz => first | assumption | size_fits); k_whole); intro zh zF zN; (try k_sweep)))
  (k_with "call type:bool" => (k_here; (with_reducible show wpAny _ _ (call _ [Value.ref _]) _ _ _); k_dflt (refine' bool_listN ?zzk1 ?zzk2 ?zzk3 ?_; (case zzk1 => k_asm); (case zzk2 => k_mem); (case zzk3 => assumption))))
  (k_with "call type:tuple" => (k_here; (with_reducible show wpAny _ _ (call (Value.type _) [Value.ref _]) _ _ _); k_dflt (refine' tuple_ofListN ?zzk1 ?zzk2 ?zzk3 ?zzk4 ?_; (case zzk1 => k_asm); (case zzk2 => k_asm); (case zzk3 => k_mem); (case zzk4 => assumption); k_whole); intro D' h' F' N' l1; (try k_lt l1); (try k_sweep)))
  (k_with "call type:list" => (k_here; (with_reducible show wpAny _ _ (call (Value.type _) [Value.ref _]) _ _ _); k_dflt (refine' list_ofTupN ?zzk1 ?zzk2 ?zzk3 ?zzk4 ?_; (case zzk1 => k_asm); (case zzk2 => k_asm); (case zzk3 => k_mem); (case zzk4 => assumption); k_whole); intro D' c' h' F' N' l1; (try k_lt l1); (try k_sweep)))
  (k_with "call builtin:list.clear" => (k_here; (with_reducible show wpAny _ _ (call (Value.builtin _) [Value.ref _]) _ _ _); k_dflt (refine' clear_listN ?zzk1 ?zzk2 ?zzk3 ?zzk4 ?_; (case zzk1 => k_asm); (case zzk2 => k_asm); (case zzk3 => k_updF); (case zzk4 => assumption); k_whole); intro zh zn zF zN; (try dsimp only at zN); (try k_sweep)))
  (k_with "subscriptTail" => (k_here; (with_reducible show wpAny _ _ (subscriptTail _ _ (Value.ref _) (Value.str _ _)) _ _ _); k_dflt (refine' kda_item (knd := PySem.strKind _ _) ?zzk1 ?zzk2 ?zzk3 (strKind_is _ _ _ _) ?zzk5 ?_ ?zzk7 ?zzk8; (case zzk1 => k_asm); (case zzk2 => k_mem); (case zzk3 => k_asm); (case zzk5 => k_asm); (case zzk7 => with_unfolding_all rfl); (case zzk8 => intro _; with_unfolding_all rfl); k_whole)))
  (k_with "tb_start" => first | decide | (dsimp only [Gm.set, Gm.rd, Γc, btab]; decide))
  (k_with "tb_rel" => first | with_reducible exact List.mem_cons_self | with_reducible exact set_self | (with_reducible refine List.mem_cons_of_mem _ ?_; tb_rel) | (with_reducible refine f_mem ?_ (by dsimp only; decide); tb_rel) | (with_reducible refine set_ne ?_ (by dsimp only; decide); tb_rel) | (with_reducible refine rd_mem ?_; tb_rel) | (with_reducible refine rd_mmem ?_; tb_rel) | (with_reducible refine c_own ?_; tb_rel) | (with_reducible refine c_up ?_ (by dsimp only; decide); tb_rel) | (with_reducible refine c_mup ?_ (by dsimp only; decide); tb_rel) | (with_reducible refine ini_mem (by assumption) ?_; tb_rel))
  (k_with "ktr_rel" => first | exact forall_nil | (refine forall_cons ?_ ?_; (first | tb_rel | skip); (first | ktr_rel | skip)))
  (k_with "eval ListComp" => (k_here; refine Stop.out ?_))
  (k_with "call ref" => (k_here; refine Stop.out ?_))
  trivial
theorem ka_a2 {P : Kn} : ∀ {ks : List Str} {vs : List Value}, A2 (fun b u => (RKey (PySem.strKind prog w)).rel b P u) ks vs → KA (PySem.strKind prog w) vs ks
  | [], [], _ => trivial
  | _ :: _, _ :: _, h => ⟨h.1, ka_a2 h.2⟩
  | [], _ :: _, h => h.elim
  | _ :: _, [], h => h.elim
def aReady (α : AN Str) : List Str := (α.filter fun e => e.2.1 == 0).map (·.1)
theorem aReady_abs (σ : Srt Str) : (σ.nodes.filter fun n => n.np == 0).map (fun n => n.key) = aReady σ.abs := by
  unfold aReady Srt.abs
  rw [List.filter_map, List.map_map]; rfl
theorem prepare_spec {w : World} {p : Program} {loose : List Str} {mean : ExcName → Option Value} {mg mb : Str → Option Value}
  {dp un : Nat} {gd : Option (List Code)} {cn : Str} {cs : Scope} {a : Addr} {ccd : Value} {cl : List (Str × Addr)} {outer : List Env} {A₀ : Around} {base h₀ : Heap} {L : Addr} {m : Str → Option Value} {news : Led} {s : Shared}
  {Q E : Value → Shared → Prop}
    {σ : Srt Str} {self : Addr} {rank : Str → Nat}
    (B : Below A₀ base outer h₀) (F : Fr h₀ L s.heap m) (T : Top p loose mean mg mb h₀) (hk : cs.kind = .function) (N : News h₀ L s.heap news) (D : KtsDicts (frs outer) h₀) (XB : (Mine.hd.heap_1 w.params).In base) (TB : Top p loose mean mg mb base) (hd : dp < 890) (hu : un < 8900) (S : SIn (PySem.strKind PySem.Challenge.rw_mr0282_02.prog w) 137 40 news σ) (hs : σ.self = self) (hr : σ.rdy = none) (hlen : σ.nodes.length ≤ 1000) (hsl : SuccLe σ 100000)
    (hrank : ∀ n ∈ σ.nodes, ∀ k ∈ n.succ, k ∈ σ.nodes.map (·.key) ∧ rank n.key < rank k)
    (hret : ∀ g' h' tk' news' σ', KtsTurn (frs outer) h₀ g' → Fr g' L h' m → News g' L h' news' → Below A₀ base outer g' → KtsDicts (frs outer) g' → (news'.map (·.1)).Nodup → SIn (PySem.strKind PySem.Challenge.rw_mr0282_02.prog w) 137 40 news' σ' → Frm news σ.foot news' σ'.foot →
      σ'.abs = σ.abs → (∃ rd, σ'.rdy = some (rd, aReady σ.abs)) → σ'.self = σ.self → σ'.pas = σ.pas → σ'.fin = σ.fin → Q .none { s with heap := h', toks := tk' }) :
    (Mine.hd.heap_1 w.params).In h₀ → wpAny (model PySem.Challenge.rw_mr0282_02.prog w) (ktrTop dp un gd cn cs L a ccd cl outer) (call (.ref 92) [.ref self]) Q E s := by
  k_fill
  intro X
  subst hs
  refine ex1 (news_nodup N) fun news₁ zz => and3 zz fun hnd hmm N₁ => ?_
  have S₁ := S.sub (news' := news₁) fun p hp => (hmm p).mpr hp
  have hI := S₁.inst
  refine ex6 S₁.dict fun k1 k2 k3 k4 tp tf hD => ?_
  rw [hr] at hD
  simp only [rdyV] at hD
  clear N S
  refine wpAny_call ?_
  k_dflt (refine' code_defT ?k1 ?k2 ?k3 ?k4 ?k5 ?kD ?kA ?kF ?kK ?k6 ?k7 ?k8 ?k9 ?kB ?_ ?c2 ?c3 ?c4 ?c5; (case kA => exact rfl); (case kF => exact rfl); (case kK => assumption); (case k1 => k_asm); (case k2 => k_asm); (case k3 => k_asm); (case k4 => k_asm); (case k5 => k_asm); (case kD => assumption); (case k6 => k_is); (case k7 => k_is); (case k8 => ktr_room); (case k9 => exact BindsTo.of_eq rfl); (case c5 => decide); (case kB => exact locs rfl); (case c2 => exact rfl); (case c3 => exact rfl); (case c4 => exact rfl); k_whole; intro g' L' h' FG' F' N' B' X' T' D'; (try dsimp only); (try k_fold))
  k_steps
  refine ⟨?_⟩
  rename News g' L' _ _ => N₂
  rename Fr g' L' _ _ => F₂
  refine wpAny_mono (listcompX (R := RKey (PySem.strKind PySem.Challenge.rw_mr0282_02.prog w)) (p := fun n : Nd Str => n.np == 0) (f := fun n => n.key) (Γ := ⟨g', L', mg, mb, [], [], [⟨"self", Srt Str, RSrt w, σ⟩], []⟩) (Z := []) ?cx rfl (xs := σ.nodes) (evi_values rfl (ev_n2i (Γ := ⟨g', L', mg, mb, [], [], [⟨"self", Srt Str, RSrt w, σ⟩], []⟩) (y := "self") (ev_name (.head _)) X') S₁.lo rfl) (stat_of (cs := []) rfl rfl (by decide)) (bnd_local rfl) (fun n hn => ets_one (et_eqi (ev_np (y := "i") (ev_name (c_own (.head _))) X') ev_int)) (fun n hn _ => ev_key (y := "i") (ev_name (c_own (.head _))) X') (by have : sizeLine = 16777216 := rfl; omega)) (fun v s' h => ?_) (fun _ _ x => x.elim)
  case cx =>
    exact ⟨rfl, rfl, rfl, T'.g.at' fun o e => F₂.keep _ o e, T'.b.at' fun o e => F₂.keep _ o e, ⟨_, F₂⟩, fun _ h => (nomatch h), fun _ h => (nomatch h), fun _ h => (nomatch h), fun vb hv => by
      rw [List.mem_singleton.mp hv]
      exact ⟨_, .inl ⟨rfl, _, F₂.ns, rfl⟩, rsrt_of S₁ N₂⟩, fun _ h => (nomatch h)⟩
  (refine and2 h ?_; try clear h; rintro ⟨h₃, tk₃, rfl, kk⟩ zz; refine ex3 zz ?_; try clear zz; rintro Dd vs nn zz; refine and4 zz ?_; try clear zz; rintro rfl hDn hDo ha)
  have ka := ka_a2 ha
  have F₃ := F₂.keeps kk
  have hgD : g'.get? Dd = none := by
    cases e : g'.get? Dd with
    | none => rfl
    | some o => have := F₂.keep _ o e; rw [hDn] at this; cases this
  have hDL : Dd ≠ L' := fun e => by
    refine ex3 F₂.ns fun o _ _ zz => and2 zz fun ho _ => ?_
    rw [← e, hDn] at ho; cases ho
  have hDnew : ∀ p ∈ news₁, p.1 ≠ Dd := fun p hp e => by have := (N₂ p hp).1; rw [e, hDn] at this; cases this
  have N₃ : News g' L' h₃ ((Dd, W.listOf vs.toArray nn) :: news₁) := fun p hp => by
    rcases List.mem_cons.mp hp with rfl | hp
    · exact ⟨hDo, hDL, hgD⟩
    · exact ⟨kk _ _ (N₂ p hp).1, (N₂ p hp).2⟩
  clear F₂ N₂ kk ha
  have hDF : Dd ∉ σ.foot := fun hx => by
    refine ex1 (S₁.footG hx) fun o ho => ?_
    exact hDnew _ ho rfl
  have hnd₃ : (((Dd, W.listOf vs.toArray nn) :: news₁).map (·.1)).Nodup := by
    rw [List.map_cons, List.nodup_cons]
    exact ⟨fun hx => by refine ex1 (List.mem_map.mp hx) fun q zz => and2 zz fun hq e => ?_; exact hDnew q hq e, hnd⟩
  dsimp only
  k_steps
  rename News g' L' _ _ => N₄
  rename Fr g' L' _ _ => F₄
  have S₄ : SIn (PySem.strKind PySem.Challenge.rw_mr0282_02.prog w) 137 40 (setL ((Dd, W.listOf vs.toArray nn) :: news₁) σ.dself (dictOf (sdict w k1 k2 k3 k4 (.ref σ.nd) (.ref Dd) σ.pas tp σ.fin tf) 4)) { σ with rdy := some (Dd, (σ.nodes.filter fun n => n.np == 0).map fun n => n.key) } := (S₁.sub fun p hp => List.mem_cons_of_mem _ hp).setRnew hr ka (.head _) hDF
  have fr₄ : Frm news σ.foot (setL ((Dd, W.listOf vs.toArray nn) :: news₁) σ.dself (dictOf (sdict w k1 k2 k3 k4 (.ref σ.nd) (.ref Dd) σ.pas tp σ.fin tf) 4)) ({ σ with rdy := some (Dd, (σ.nodes.filter fun n => n.np == 0).map fun n => n.key) } : Srt Str).foot := by
    refine ⟨fun q hq hqF => mem_setL_ne (fun e => hqF (by rw [e]; simp [Srt.foot])) (.tail _ ((hmm q).mpr hq)), fun x hx => ?_⟩
    unfold Srt.foot at hx ⊢
    rw [hr]
    simp only [rdyF, List.nil_append, List.singleton_append, List.mem_cons] at hx ⊢
    rcases hx with h | h | h | h | h
    · exact .inl (.inl h)
    · exact .inl (.inr (.inl h))
    · exact .inl (.inr (.inr (.inl h)))
    · exact .inr fun q hq e => hDnew q ((hmm q).mpr hq) (by rw [e, h])
    · exact .inl (.inr (.inr (.inr h)))
  have hnd₄ := setL_nodup (d := σ.dself) (o := dictOf (sdict w k1 k2 k3 k4 (.ref σ.nd) (.ref Dd) σ.pas tp σ.fin tf) 4) hnd₃
  obtain ⟨l₄, hl₄⟩ : ∃ l, l = setL ((Dd, W.listOf vs.toArray nn) :: news₁) σ.dself (dictOf (sdict w k1 k2 k3 k4 (.ref σ.nd) (.ref Dd) σ.pas tp σ.fin tf) 4) := ⟨_, rfl⟩
  have N₅ : News g' L' _ l₄ := hl₄ ▸ N₄
  rw [← hl₄] at S₄ fr₄ hnd₄
  clear N₄
  have hI₄ := S₄.inst
  refine ex6 S₄.dict fun _ _ _ _ _ _ hD₄ => ?_
  dsimp only at hI₄ hD₄
  k_steps
  refine ⟨?_⟩
  rename Fr g' L' _ _ => F₅
  refine' fc_spec (σ := { σ with rdy := some (Dd, (σ.nodes.filter fun n => n.np == 0).map fun n => n.key) }) (self := σ.self) (rank := rank) B' F₅ T' ?hk N₅ D' XB TB ?hd ?hu S₄ rfl hlen hsl hrank ?_ X'
  case hk => rfl
  case hd => ktr_room
  case hu => ktr_room
  intro g₆ h₆ tk₆ turn₆ F₆ N₆ B₆ D₆
  have X₆ : (Mine.hd.heap_1 w.params).In g₆ := XB.keeps B₆.stays
  have T₆ : Top p loose mean mg mb g₆ := TB.keeps B₆.stays
  clear F₅ N₅
  k_steps
  exact ⟨g₆, L', _, l₄, turn₆, (by assumption), (by assumption), fun h₀' t₂ F₂ N₂ B₂ D₂ => hret h₀' _ _ l₄ _ t₂ F₂ N₂ B₂ D₂ hnd₄ S₄ fr₄ rfl ⟨Dd, by rw [aReady_abs]⟩ rfl rfl rfl⟩
end
end
section
section
theorem rules_Pln : True := by
  k_with_none
  (k_with "omega" => lia)
  (k_with "k_room" => ktr_room)
  (k_with "k_all" => first | exact ne_of_allLt (by assumption) | k_asm | ((with_reducible show ∀ p ∈ setL _ _ _, _); refine all_setL ?_; k_all))
  (k_with "k_ne" => first | assumption | exact Ne.symm (by assumption) | exact ne_of_lt_mem (by assumption) (by assumption) | exact ne_of_lt_mem' (by assumption) (by assumption))
  (k_with "k_mem" => first | with_reducible exact List.mem_cons_self | ((with_reducible refine' List.mem_cons_of_mem _ ?_); k_mem))
  (k_with "k_mem" => ((with_reducible refine' memG ?_); first | exact mem_setL_self (by first | with_reducible assumption | k_mem) | exact memS (by first | with_reducible assumption | k_mem) (by k_ne)))
  (k_with "k_upd" => exact upd_setL (by assumption) (by k_mem))
  (k_with "k_upd" => ((with_reducible show Upd _ _ _ (setL _ _ _) _); exact upd_setL (by first | exact setL_nodup (by assumption) | exact setL_nodup (setL_nodup (by assumption)) | exact setL_nodup (setL_nodup (setL_nodup (by assumption))) | exact setL_nodup (setL_nodup (setL_nodup (setL_nodup (by assumption))))) (by k_mem)))
  (k_with "k_updF" => exact updF_setL (by assumption) (by k_mem))
  (k_with "k_updF" => ((with_reducible show UpdF _ _ (setL _ _ _) _); exact updF_setL (by first | exact setL_nodup (by assumption) | exact setL_nodup (setL_nodup (by assumption)) | exact setL_nodup (setL_nodup (setL_nodup (by assumption))) | exact setL_nodup (setL_nodup (setL_nodup (setL_nodup (by assumption))))) (by k_mem)))
  (k_with "getMethod ref" => (k_here; (with_reducible show wpAny _ _ (getMethod (Value.ref _) (Str.ofString "get") _) _ _ _); k_dflt (refine kdg_method (knd := PySem.strKind _ _) (by k_asm) (by k_mem) (by k_asm) ?_)))
  (k_with "call builtin:dict.get" => (k_here; k_dflt (refine kdg_get1 (knd := PySem.strKind _ _) (by k_asm) (by k_mem) (by k_asm) (by k_asm) (strKind_is _ _ _ _) _ (by k_asm) ?_); (try dsimp only [Option.getD])))
  (k_with "setItem ref str" => (k_here; k_dflt (refine' kda_set (knd := PySem.strKind _ _) ?zzF ?zzN ?zzU ?zzd (strKind_is _ _ _ _) ?zzz ?_; (case zzF => k_asm); (case zzN => k_asm); (case zzU => k_updF); (case zzd => k_asm); (case zzz => k_asm)); intro zh zo zF zN zd; (try dsimp only at zN)))
  (k_with "call builtin:len" => (k_here; (with_reducible show wpAny _ _ (call (Value.builtin "len") [Value.ref _]) _ _ _); k_dflt (first | (refine' len_tupN ?zzk1 ?zzk2 ?zzk3 ?_; (case zzk1 => k_asm); (case zzk2 => k_mem); (case zzk3 => assumption)) | (refine' len_listN ?zzk1 ?zzk2 ?zzk3 ?_; (case zzk1 => k_asm); (case zzk2 => k_mem); (case zzk3 => assumption)))))
  (k_with "call builtin:list.append" => (k_here; (with_reducible show wpAny _ _ (call (Value.builtin _) [Value.ref _, _]) _ _ _); k_dflt (refine' append_K ?zzk1 ?zzk2 ?zzk3 ?_ ?zzz; (case zzk1 => k_asm); (case zzk2 => k_asm); (case zzk3 => k_upd); (case zzz => first | assumption | size_fits); k_whole); intro zh zF zN; (try k_sweep)))
  (k_with "call type:bool" => (k_here; (with_reducible show wpAny _ _ (call _ [Value.ref _]) _ _ _); k_dflt (refine' bool_listN ?zzk1 ?zzk2 ?zzk3 ?_; (case zzk1 => k_asm); (case zzk2 => k_mem); (case zzk3 => assumption))))
  (k_with "call type:tuple" => (k_here; (with_reducible show wpAny _ _ (call (Value.type _) [Value.ref _]) _ _ _); k_dflt (refine' tuple_ofListN ?zzk1 ?zzk2 ?zzk3 ?zzk4 ?_; (case zzk1 => k_asm); (case zzk2 => k_asm); (case zzk3 => k_mem); (case zzk4 => assumption); k_whole); intro D' h' F' N' l1; (try k_lt l1); (try k_sweep)))
  (k_with "call type:list" => (k_here; (with_reducible show wpAny _ _ (call (Value.type _) [Value.ref _]) _ _ _); k_dflt (refine' list_ofTupN ?zzk1 ?zzk2 ?zzk3 ?zzk4 ?_; (case zzk1 => k_asm); (case zzk2 => k_asm); (case zzk3 => k_mem); (case zzk4 => assumption); k_whole); intro D' c' h' F' N' l1; (try k_lt l1); (try k_sweep)))
  (k_with "call builtin:list.clear" => (k_here; (with_reducible show wpAny _ _ (call (Value.builtin _) [Value.ref _]) _ _ _); k_dflt (refine' clear_listN ?zzk1 ?zzk2 ?zzk3 ?zzk4 ?_; (case zzk1 => k_asm); (case zzk2 => k_asm); (case zzk3 => k_updF); (case zzk4 => assumption); k_whole); intro zh zn zF zN; (try dsimp only at zN); (try k_sweep)))
  (k_with "subscriptTail" => (k_here; (with_reducible show wpAny _ _ (subscriptTail _ _ (Value.ref _) (Value.str _ _)) _ _ _); k_dflt (refine' kda_item (knd := PySem.strKind _ _) ?zzk1 ?zzk2 ?zzk3 (strKind_is _ _ _ _) ?zzk5 ?_ ?zzk7 ?zzk8; (case zzk1 => k_asm); (case zzk2 => k_mem); (case zzk3 => k_asm); (case zzk5 => k_asm); (case zzk7 => with_unfolding_all rfl); (case zzk8 => intro _; with_unfolding_all rfl); k_whole)))
  (k_with "tb_start" => first | decide | (dsimp only [Gm.set, Gm.rd, Γc, btab]; decide))
  (k_with "tb_rel" => first | with_reducible exact List.mem_cons_self | with_reducible exact set_self | (with_reducible refine List.mem_cons_of_mem _ ?_; tb_rel) | (with_reducible refine f_mem ?_ (by dsimp only; decide); tb_rel) | (with_reducible refine set_ne ?_ (by dsimp only; decide); tb_rel) | (with_reducible refine rd_mem ?_; tb_rel) | (with_reducible refine rd_mmem ?_; tb_rel) | (with_reducible refine c_own ?_; tb_rel) | (with_reducible refine c_up ?_ (by dsimp only; decide); tb_rel) | (with_reducible refine c_mup ?_ (by dsimp only; decide); tb_rel) | (with_reducible refine ini_mem (by assumption) ?_; tb_rel))
  (k_with "ktr_rel" => first | exact forall_nil | (refine forall_cons ?_ ?_; (first | tb_rel | skip); (first | ktr_rel | skip)))
  trivial
section
variable {p : Program} {loose : List Str} {mean : ExcName → Option Value} {mg mb : Str → Option Value} {A₀ : Around} {base : Heap} {outer : List Env} {h₀ : Heap} {L : Addr} {A : Around} {env : Env}
  {w : World} {Γ : Gm} {σ : Srt Str} {res : List Res} {Hd Z : List Addr} {s : Shared} {pl name : Str} {px pos apos : Pos} {rank : Str → Nat}
theorem at_prepare (he : MC env (.Name pl px) "prepare" apos pos []) (H : Here p loose mean mg mb A₀ base outer h₀ L A env) (D : KtsDicts (frs outer) h₀) (TB : Top p loose mean mg mb base) (e0 : Γ.h₀ = h₀) (emg : Γ.mg = mg) (emb : Γ.mb = mb) (hp : Vb.mk pl Value RIs (.ref σ.self) ∈ Γ.vars) (hr : σ.rdy = none) (hlen : σ.nodes.length ≤ 1000) (hsl : SuccLe σ 100000)
    (hrank : ∀ n ∈ σ.nodes, ∀ k ∈ n.succ, k ∈ σ.nodes.map (·.key) ∧ rank n.key < rank k) (hfs : ∀ b ∈ frs outer, b ∈ Hd) (at_ : At Γ env (SR w σ :: res) Hd Z s) (hd : autoParam ((pl == ("__debug__" : Str)) = false) autoC) :
    (Mine.hd.heap_1 w.params).In base → (Mine.hd.heap_1 w.params).In h₀ → wpAny (model PySem.Challenge.rw_mr0282_02.prog w) A (eval (.Call (.Attribute (.Name pl px) "prepare" apos) [] [] pos) env) (fun v s' => v = .none ∧ ∃ g' σ' Z', KtsTurn (frs outer) h₀ g' ∧ At { Γ with h₀ := g' } env (SR w σ' :: res) Hd Z' s' ∧ (∃ h tk, s' = { s with heap := h, toks := tk }) ∧
      (∀ b o, b ≠ L → b ∉ frs outer → b ∉ Z → s.heap.get? b = some o → s'.heap.get? b = some o) ∧ (∀ z ∈ Z', z ∈ Z ∨ s.heap.get? z = none) ∧ σ'.abs = σ.abs ∧ (∃ rd, σ'.rdy = some (rd, aReady σ.abs)) ∧ σ'.self = σ.self ∧ σ'.pas = σ.pas ∧ σ'.fin = σ.fin) NoExc s := by
  k_fill
  intro XB X
  (refine ex1 he ?_; try clear he; rintro _ he)
  obtain ⟨⟨dp, un, gd, cn, cs, a, ccd, cl, rfl, rfl, hk, hdp, hun⟩, B, T⟩ := H
  have eL : Γ.L = L := at_.loc.symm
  subst e0 eL
  refine ex1 (at_.cx.vis _ hp) fun v zz => and2 zz fun hv1 hv2 => ?_
  cases (show v = .ref σ.self from hv2)
  refine MethodCall_ (wpAny_Name (hv1.load at_.cx.fn ?_) hd) he
  refine ex1 at_.cx.fr fun m F => ?_
  refine ex6 (srt_inst at_) fun k1 k2 k3 k4 tp tf I => ?_
  k_dflt (refine' method_inst F X I ?k4 ?k5 ?k6 ?k7 ?_; (case k4 => k_is); (case k5 => k_is); (case k6 => k_is); (case k7 => k_get))
  k_dflt (refine' callWith_K0 ?k1 ?k2 ?_; (case k1 => exact X.keeps F.keep); (case k2 => k_is))
  refine prepare_spec (rank := rank) B F T hk ledger_news D XB TB (by omega) (by omega) at_.srt rfl hr hlen hsl hrank (fun g' h' tk' news' σ' turn' F' N' B' D' hnd S' fr' ea er es ep ef => ?_) X
  have hr := (at_.rs _ List.mem_cons_self).2
  have keep : ∀ b o, b ≠ Γ.L → b ∉ frs outer → b ∉ σ.foot → s.heap.get? b = some o → h'.get? b = some o := fun b o h1 h2 h3 e => by
    cases q : Γ.h₀.get? b with
    | none => exact (N' _ (fr'.keep (b, o) (mem_ledger.mpr ⟨e, h1, q⟩) h3)).1
    | some o' =>
      have := F.keep b o' q
      rw [e] at this; cases this
      exact F'.keep b o (turn'.other b o q h2)
  have hf : ∀ b ∈ σ'.foot, b ∈ σ.foot ∨ s.heap.get? b = none := fun b hb => by
    refine ex1 (S'.footG hb) fun o ho => ?_
    refine and3 (N' _ ho) fun n1 n2 n3 => ?_
    rcases fr'.foot b hb with q | q
    · exact .inl q
    · right
      cases e : s.heap.get? b with
      | none => rfl
      | some o' =>
        refine absurd rfl (q (b, o') (mem_ledger.mpr ⟨e, n2, ?_⟩))
        cases q' : Γ.h₀.get? b with
        | none => rfl
        | some o'' =>
          by_cases hb' : b ∈ frs outer
          · refine ex1 (turn'.frame b o'' q' hb') fun sl e' => ?_; rw [n3] at e'; cases e'
          · have := turn'.other b o'' q' hb'; rw [n3] at this; cases this
  have hgx : ∀ b, b ∈ frs outer → ∃ o', h'.get? b = some o' := fun b hb => by
    refine ex3 (D b hb) fun o es n zz => and2 zz fun h1 _ => ?_
    refine ex1 (turn'.frame b o h1 hb) fun sl e' => ?_
    exact ⟨_, F'.keep _ _ e'⟩
  have T' : Top p loose mean mg mb g' := TB.keeps B'.stays
  refine and2 (at_.call (fs := frs outer) (h₀' := g') (s' := { s with heap := h', toks := tk' }) (SR w σ') ⟨h', tk', rfl⟩ (fun b o h1 h2 h3 e => keep b o h1 h2 h3 e) (fun b hb => ⟨hfs b hb, hgx b hb⟩) (fun m' G => ns_uniq F.ns G.ns ▸ F') (emg ▸ T'.g) (emb ▸ T'.b) turn'.none_ hf ⟨news'.filter fun p => decide (p.1 ∈ σ'.foot), S'.mono fun p hp ha => List.mem_filter.mpr ⟨hp, by simpa using ha⟩, fun p hp => ⟨(N' p (List.mem_filter.mp hp).1).1, by simpa using (List.mem_filter.mp hp).2⟩⟩) fun hz a' => ?_
  exact ⟨rfl, g', σ', _, turn', a', ⟨h', tk', rfl⟩, fun b o h1 h2 h3 e => keep b o h1 h2 (fun q => h3 (hr b q).1) e, hz, ea, er, es, ep, ef⟩
end
end
end
section
section
theorem rules_Sc : True := by
  k_with_none
  (k_with "omega" => lia)
  (k_with "k_room" => ktr_room)
  (k_with "k_all" => first | exact ne_of_allLt (by assumption) | k_asm | ((with_reducible show ∀ p ∈ setL _ _ _, _); refine all_setL ?_; k_all))
  (k_with "k_ne" => first | assumption | exact Ne.symm (by assumption) | exact ne_of_lt_mem (by assumption) (by assumption) | exact ne_of_lt_mem' (by assumption) (by assumption))
  (k_with "k_mem" => first | with_reducible exact List.mem_cons_self | ((with_reducible refine' List.mem_cons_of_mem _ ?_); k_mem))
  (k_with "k_mem" => ((with_reducible refine' memG ?_); first | exact mem_setL_self (by first | with_reducible assumption | k_mem) | exact memS (by first | with_reducible assumption | k_mem) (by k_ne)))
  (k_with "k_upd" => exact upd_setL (by assumption) (by k_mem))
  (k_with "k_upd" => ((with_reducible show Upd _ _ _ (setL _ _ _) _); exact upd_setL (by first | exact setL_nodup (by assumption) | exact setL_nodup (setL_nodup (by assumption)) | exact setL_nodup (setL_nodup (setL_nodup (by assumption))) | exact setL_nodup (setL_nodup (setL_nodup (setL_nodup (by assumption))))) (by k_mem)))
  (k_with "k_updF" => exact updF_setL (by assumption) (by k_mem))
  (k_with "k_updF" => ((with_reducible show UpdF _ _ (setL _ _ _) _); exact updF_setL (by first | exact setL_nodup (by assumption) | exact setL_nodup (setL_nodup (by assumption)) | exact setL_nodup (setL_nodup (setL_nodup (by assumption))) | exact setL_nodup (setL_nodup (setL_nodup (setL_nodup (by assumption))))) (by k_mem)))
  (k_with "getMethod ref" => (k_here; (with_reducible show wpAny _ _ (getMethod (Value.ref _) (Str.ofString "get") _) _ _ _); k_dflt (refine kdg_method (knd := PySem.strKind _ _) (by k_asm) (by k_mem) (by k_asm) ?_)))
  (k_with "call builtin:dict.get" => (k_here; k_dflt (refine kdg_get1 (knd := PySem.strKind _ _) (by k_asm) (by k_mem) (by k_asm) (by k_asm) (strKind_is _ _ _ _) _ (by k_asm) ?_); (try dsimp only [Option.getD])))
  (k_with "setItem ref str" => (k_here; k_dflt (refine' kda_set (knd := PySem.strKind _ _) ?zzF ?zzN ?zzU ?zzd (strKind_is _ _ _ _) ?zzz ?_; (case zzF => k_asm); (case zzN => k_asm); (case zzU => k_updF); (case zzd => k_asm); (case zzz => k_asm)); intro zh zo zF zN zd; (try dsimp only at zN)))
  (k_with "call builtin:len" => (k_here; (with_reducible show wpAny _ _ (call (Value.builtin "len") [Value.ref _]) _ _ _); k_dflt (first | (refine' len_tupN ?zzk1 ?zzk2 ?zzk3 ?_; (case zzk1 => k_asm); (case zzk2 => k_mem); (case zzk3 => assumption)) | (refine' len_listN ?zzk1 ?zzk2 ?zzk3 ?_; (case zzk1 => k_asm); (case zzk2 => k_mem); (case zzk3 => assumption)))))
  (k_with "call builtin:list.append" => (k_here; (with_reducible show wpAny _ _ (call (Value.builtin _) [Value.ref _, _]) _ _ _); k_dflt (refine' append_K ?zzk1 ?zzk2 ?zzk3 ?_ ?zzz; (case zzk1 => k_asm); (case zzk2 => k_asm); (case zzk3 => k_upd); (case zzz => first | assumption | size_fits); k_whole); intro zh zF zN; (try k_sweep)))
  (k_with "call type:bool" => (k_here; (with_reducible show wpAny _ _ (call _ [Value.ref _]) _ _ _); k_dflt (refine' bool_listN ?zzk1 ?zzk2 ?zzk3 ?_; (case zzk1 => k_asm); (case zzk2 => k_mem); (case zzk3 => assumption))))
  (k_with "call type:tuple" => (k_here; (with_reducible show wpAny _ _ (call (Value.type _) [Value.ref _]) _ _ _); k_dflt (refine' tuple_ofListN ?zzk1 ?zzk2 ?zzk3 ?zzk4 ?_; (case zzk1 => k_asm); (case zzk2 => k_asm); (case zzk3 => k_mem); (case zzk4 => assumption); k_whole); intro D' h' F' N' l1; (try k_lt l1); (try k_sweep)))
  (k_with "call type:list" => (k_here; (with_reducible show wpAny _ _ (call (Value.type _) [Value.ref _]) _ _ _); k_dflt (refine' list_ofTupN ?zzk1 ?zzk2 ?zzk3 ?zzk4 ?_; (case zzk1 => k_asm); (case zzk2 => k_asm); (case zzk3 => k_mem); (case zzk4 => assumption); k_whole); intro D' c' h' F' N' l1; (try k_lt l1); (try k_sweep)))
  (k_with "call builtin:list.clear" => (k_here; (with_reducible show wpAny _ _ (call (Value.builtin _) [Value.ref _]) _ _ _); k_dflt (refine' clear_listN ?zzk1 ?zzk2 ?zzk3 ?zzk4 ?_; (case zzk1 => k_asm); (case zzk2 => k_asm); (case zzk3 => k_updF); (case zzk4 => assumption); k_whole); intro zh zn zF zN; (try dsimp only at zN); (try k_sweep)))
  (k_with "subscriptTail" => (k_here; (with_reducible show wpAny _ _ (subscriptTail _ _ (Value.ref _) (Value.str _ _)) _ _ _); k_dflt (refine' kda_item (knd := PySem.strKind _ _) ?zzk1 ?zzk2 ?zzk3 (strKind_is _ _ _ _) ?zzk5 ?_ ?zzk7 ?zzk8; (case zzk1 => k_asm); (case zzk2 => k_mem); (case zzk3 => k_asm); (case zzk5 => k_asm); (case zzk7 => with_unfolding_all rfl); (case zzk8 => intro _; with_unfolding_all rfl); k_whole)))
  (k_with "tb_start" => first | decide | (dsimp only [Gm.set, Gm.rd, Γc, btab]; decide))
  (k_with "tb_rel" => first | with_reducible exact List.mem_cons_self | with_reducible exact set_self | (with_reducible refine List.mem_cons_of_mem _ ?_; tb_rel) | (with_reducible refine f_mem ?_ (by dsimp only; decide); tb_rel) | (with_reducible refine set_ne ?_ (by dsimp only; decide); tb_rel) | (with_reducible refine rd_mem ?_; tb_rel) | (with_reducible refine rd_mmem ?_; tb_rel) | (with_reducible refine c_own ?_; tb_rel) | (with_reducible refine c_up ?_ (by dsimp only; decide); tb_rel) | (with_reducible refine c_mup ?_ (by dsimp only; decide); tb_rel) | (with_reducible refine ini_mem (by assumption) ?_; tb_rel))
  (k_with "ktr_rel" => first | exact forall_nil | (refine forall_cons ?_ ?_; (first | tb_rel | skip); (first | ktr_rel | skip)))
  trivial
section
variable {Γ : Gm} {env : Env} {res : List Res} {Hd Z : List Addr} {s : Shared} {g : Heap}
theorem At.adopt {r : Res} (a : At Γ env res Hd Z s) (hf : ∀ b ∈ r.foot, b ∈ Hd) (hg : ∀ b o, g.get? b = some o → Γ.h₀.get? b = some o) (hsz : g.objs.size = Γ.h₀.objs.size) (hn : ∀ b ∈ r.foot, g.get? b = none) (g₀ : g.Ns mainGlobals Γ.mg) (b₀ : g.Ns builtinsNs Γ.mb) (hP : ∀ K, (∀ b o, hid (Hd ++ Z) s.heap b o → K b o) → r.P K s.heap) :
    At { Γ with h₀ := g } env (r :: res) (Hd.filter fun b => decide (b ∉ r.foot)) (r.foot ++ Z) s := by
  have mem : ∀ b, b ∈ (Hd.filter fun b => decide (b ∉ r.foot)) ++ (r.foot ++ Z) ↔ b ∈ Hd ++ Z := fun b => by
    simp only [List.mem_append, List.mem_filter, decide_eq_true_eq]
    constructor
    · rintro (⟨h, _⟩ | h | h)
      · exact .inl h
      · exact .inl (hf b h)
      · exact .inr h
    · rintro (h | h)
      · by_cases q : b ∈ r.foot
        · exact .inr (.inl q)
        · exact .inl ⟨h, q⟩
      · exact .inr (.inr h)
  have up : ∀ b o, hid (Hd ++ Z) s.heap b o → hid ((Hd.filter fun b => decide (b ∉ r.foot)) ++ (r.foot ++ Z)) s.heap b o := fun b o x => ⟨fun q => x.1 ((mem b).mp q), x.2⟩
  have hZf : ∀ b ∈ Z, b ∉ r.foot := fun b hb q => a.hz b (hf b q) hb
  refine ⟨⟨a.cx.fn, a.cx.gl, a.cx.bl, a.cx.g, a.cx.b, ?_, a.cx.gk, a.cx.ck, fun z hz => a.cx.zl z ((mem z).mp hz), fun vb hv => ?_, fun vb hv => ?_⟩, a.mv, a.loc, g₀, b₀, List.mem_append_right _ a.lz, fun b hb q => ?_, fun b hb => ?_, fun n c h => ⟨List.mem_append_right _ (a.cz n c h).1, (a.cz n c h).2⟩, a.ap, fun r' hr' => ?_, ?_⟩
  · refine ex1 a.cx.fr fun m F => ?_
    exact ⟨m, F.ns, fun b o e => F.keep b o (hg b o e), by rw [hsz]; exact F.above⟩
  · refine ex1 (a.cx.vis vb hv) fun v zz => and2 zz fun h1 h2 => ?_
    exact ⟨v, h1, vb.R.mono up h2⟩
  · refine ex1 (a.cx.mvis vb hv) fun v zz => and2 zz fun h1 h2 => ?_
    exact ⟨v, h1, vb.R.mono (fun b o x => ⟨by simp, x.2⟩) h2⟩
  · refine and2 (List.mem_filter.mp hb) fun h1 h2 => ?_
    rcases List.mem_append.mp q with q | q
    · exact absurd q (by simpa using h2)
    · exact a.hz b h1 q
  · rcases List.mem_append.mp hb with q | q
    · exact hn b q
    · cases e : g.get? b with
      | none => rfl
      | some o => have := hg b o e; rw [a.z₀ b q] at this; cases this
  · rcases List.mem_cons.mp hr' with rfl | hr'
    · refine ⟨hP _ up, fun b hb => ⟨List.mem_append_left _ hb, fun e => hZf _ a.lz (e ▸ hb), fun n c h e => hZf c (a.cz n c h).1 (e ▸ hb)⟩⟩
    · refine and2 (a.rs r' hr') fun h1 h2 => ?_
      exact ⟨r'.stab up (fun _ _ _ e => e) h1, fun b hb => ⟨List.mem_append_right _ (h2 b hb).1, (h2 b hb).2⟩⟩
  · exact List.pairwise_cons.mpr ⟨fun r' hr' b hb hb' => hZf b ((a.rs r' hr').2 b hb').1 hb, a.rp⟩
end
section
variable {β : Type} {prog : Program} {w : World} {A : Around} {env : Env} {Γ Γ₂ : Gm} {res res₂ : List Res} {Hd Z Z₂ : List Addr} {s s₂ s' : Shared} {fs : List Addr} {g : Heap} {L' : Addr} {S : Rp β} {a : β} {f : Flow} {st : Stmt} {rest : List Stmt} {P : Gm → List Res → Prop}
def EndT (fs : List Addr) (g : Heap) (L' : Addr) (env : Env) (Hd Z : List Addr) (s : Shared) (S : Rp β) (a : β) (f : Flow) (s' : Shared) : Prop :=
  ∃ v, f = .ret v ∧ ∃ Γ' res' Z', KtsTurn fs g Γ'.h₀ ∧ Γ'.L = L' ∧ At Γ' env res' Hd Z' s' ∧ (∃ h tk, s' = { s with heap := h, toks := tk }) ∧
    (∀ b o, b ≠ L' → b ∉ fs → b ∉ Z → s.heap.get? b = some o → s'.heap.get? b = some o) ∧ (∀ z ∈ Z', z ∈ Z ∨ s.heap.get? z = none) ∧ S.rel a (hid (Hd ++ Z') s'.heap) v
theorem EndT.trans {g₂ : Heap} (hLZ : L' ∈ Z) (hfs : ∀ b ∈ fs, ∃ o, s₂.heap.get? b = some o) (t : KtsTurn fs g g₂) (hs : ∃ h tk, s₂ = { s with heap := h, toks := tk }) (hk : ∀ b o, b ≠ L' → b ∉ fs → b ∉ Z → s.heap.get? b = some o → s₂.heap.get? b = some o) (hz : ∀ z ∈ Z₂, z ∈ Z ∨ s.heap.get? z = none) (h : EndT fs g₂ L' env Hd Z₂ s₂ S a f s') : EndT fs g L' env Hd Z s S a f s' := by
  (refine ex1 h ?_; try clear h; rintro v zz; refine and2 zz ?_; try clear zz; rintro rfl zz; obtain ⟨Γ', r', Z', t', e', at', hs', hk', hz', hv⟩ := zz)
  refine ⟨v, rfl, Γ', r', Z', t.trans t', e', at', ?_, fun b o h1 h2 h3 e => hk' b o h1 h2 (fun q => ?_) (hk b o h1 h2 h3 e), fun z hz₁ => ?_, hv⟩
  · (refine ex2 hs ?_; try clear hs; rintro h1 t1 rfl)
    (refine ex2 hs' ?_; try clear hs'; rintro h2 t2 rfl)
    exact ⟨h2, t2, rfl⟩
  · rcases hz b q with q | q
    · exact h3 q
    · rw [q] at e; cases e
  · rcases hz' z hz₁ with q | q
    · exact hz z q
    · by_cases hzZ : z ∈ Z
      · exact .inl hzZ
      · right
        cases e : s.heap.get? z with
        | none => rfl
        | some o =>
          by_cases h1 : z = L'
          · exact absurd (h1 ▸ hLZ) hzZ
          · by_cases h2 : z ∈ fs
            · refine ex1 (hfs z h2) fun o' ho' => ?_; rw [q] at ho'; cases ho'
            · have := hk z o h1 h2 hzZ e; rw [q] at this; cases this
theorem Stp.shape {Z Z' : List Addr} {s s' : Shared} (k : Stp Z s Z' s') : ∃ h tk, s' = { s with heap := h, toks := tk } := by obtain ⟨⟨h, t, e, _⟩, _⟩ := k; exact ⟨h, t, e⟩
theorem endT_hr (eg : Γ.h₀ = g) (el : Γ.L = L') (h : HR prog w A env Γ res rest S a) (at_ : At Γ env res Hd Z s) : wpAny (model prog w) A (execs rest env) (EndT fs g L' env Hd Z s S a) NoExc s :=
  wpAny_mono (h Hd Z s at_) (fun f s' ⟨v, e, Γ', r', Z', st, at', e1, e2, hv⟩ => ⟨v, e, Γ', r', Z', by rw [e1, eg]; exact .refl, e2.trans el, at', st.shape, fun b o _ _ h3 x => st.1.get h3 x, st.2, hv⟩) fun _ _ x => x
theorem endT_hs (eg : Γ.h₀ = g) (el : Γ.L = L') (hfs : ∀ b ∈ fs, b ∈ Hd) (at_ : At Γ env res Hd Z s) (h : HS prog w A env Γ res st P) (k : ∀ Γ' r' Z' s', P Γ' r' → Γ'.h₀ = g → Γ'.L = L' → At Γ' env r' Hd Z' s' → wpAny (model prog w) A (execs rest env) (EndT fs g L' env Hd Z' s' S a) NoExc s') :
    wpAny (model prog w) A (execs (st :: rest) env) (EndT fs g L' env Hd Z s S a) NoExc s := by
  refine wpAny_execs_cons (wpAny_mono (h Hd Z s at_) (fun f s₂ q => ?_) fun _ _ x => x)
  (refine and2 q ?_; try clear q; rintro rfl zz; obtain ⟨Γ', r', Z', hP, ⟨e1, e2⟩, st', at'⟩ := zz)
  exact wpAny_mono (k Γ' r' Z' s₂ hP (e1.trans eg) (e2.trans el) at') (fun f s₃ q => EndT.trans (by rw [← el, ← at_.loc]; exact at_.lz) (fun b hb => at'.cx.zl b (List.mem_append_left _ (hfs b hb))) .refl st'.shape (fun b o _ _ h3 x => st'.1.get h3 x) st'.2 q) fun _ _ x => x
end
section
variable {β : Type} {p : Program} {loose : List Str} {mean : ExcName → Option Value} {mg mb : Str → Option Value} {A₀ : Around} {base : Heap} {outer : List Env} {h₀ : Heap} {L : Addr} {A : Around} {env : Env}
  {w : World} {Γ : Gm} {σ : Srt Str} {res : List Res} {Hd Z : List Addr} {s : Shared} {K : Frag} {f : Addr} {name qual : Str} {params : Arguments} {body : List Stmt} {scope : Scope} {dV kV doc pm cdv ct oc : Value} {an od : Option Addr} {osl : Array (Option Value)}
  {binds : List (Str × Value)} {vals : List Value} {vars : List Vb} {S : Rp β} {b : β}
theorem srt_call (H : Here p loose mean mg mb A₀ base outer h₀ L A env) (hdu : A.depth < 700 ∧ A.units < 7000) (ho' : frs outer = []) (e0 : Γ.h₀ = h₀) (eL : Γ.L = L) (at_ : At Γ env (SR w σ :: res) Hd Z s)
    (X : K.In h₀) (ho : K.lookup f = some ⟨oc, od, .func (fnOf name qual params body scope dV kV doc pm an cdv ct), osl⟩) (hcd : codeIn K cdv qual = true)
    (hbind : bindArgs (fnOf name qual params body scope dV kV doc pm an cdv ct) ⟨vals, []⟩ = pure binds)
    (hkind : ∀ n, ∀ x ∈ binds, scope.names.lookup x.1 = some .local ∨ (scope.names.lookup x.1 = some .cell ∧ ((cellsFrom n scope.names []).lookup x.1).isSome = true))
    (hk : scope.kind = .function) (hnd : ((cellsFrom 0 scope.names []).map (·.1)).Nodup) (hcdn : ∀ y ∈ scope.names, (y.1 == ("__classdict__" : Str)) = false)
    (hvars : ∀ L, ∀ vb ∈ vars, ∃ v, bound (callEnvC (fnOf name qual params body scope dV kV doc pm an cdv ct) L f).kindOf binds vb.x v ∧ vb.R.rel vb.a (hid (Hd ++ Z) s.heap) v)
    (h : ∀ L' Γ₁ Hd₁ Z₁ s₁ g, Ini mg mb scope g vars Γ₁ → Here p loose mean mg mb A base (env :: outer) g L' (A.deeper (callEnvC (fnOf name qual params body scope dV kV doc pm an cdv ct) L' f)) (callEnvC (fnOf name qual params body scope dV kV doc pm an cdv ct) L' f) → KtsDicts (frs (env :: outer)) g → K.In g → (∀ b ∈ frs (env :: outer), b ∈ Hd₁) →
      At Γ₁ (callEnvC (fnOf name qual params body scope dV kV doc pm an cdv ct) L' f) [SR w σ] Hd₁ Z₁ s₁ →
      wpAny (model PySem.Challenge.rw_mr0282_02.prog w) (A.deeper (callEnvC (fnOf name qual params body scope dV kV doc pm an cdv ct) L' f)) (execs body (callEnvC (fnOf name qual params body scope dV kV doc pm an cdv ct) L' f)) (EndT (frs (env :: outer)) g L' (callEnvC (fnOf name qual params body scope dV kV doc pm an cdv ct) L' f) Hd₁ Z₁ s₁ S b) NoExc s₁)
    (hco : scope.isCoroutine = false) (hgen : scope.isGenerator = false) :
    wpAny (model PySem.Challenge.rw_mr0282_02.prog w) A (call (.ref f) vals) (fun r s' => ∃ Z', Stp Z s Z' s' ∧ At Γ env res Hd Z' s' ∧ S.rel b (hid (Hd ++ Z') s'.heap) r) NoExc s := by
  refine ex1 at_.cx.fr fun m F => ?_
  have T := H.T
  have hx : ∀ b o, h₀.get? b = some o → s.heap.get? b = some o := fun b o e => F.keep b o (e0 ▸ e)
  have hfr : frs (env :: outer) = [L] := by
    obtain ⟨⟨dp, un, gd, cn, cs, a, ccd, cl, rfl, rfl, hk, hdp, hun⟩, _, _⟩ := H
    show L :: frs outer = [L]
    rw [ho']
  have hlocL : env.locals = L := at_.loc.trans eL
  have hrf := (at_.rs _ List.mem_cons_self).2
  have hfL : L ∉ σ.foot := fun q => (hrf L q).2.1 hlocL.symm
  refine ex1 ((at_.rs _ List.mem_cons_self).1) fun lS zz => and2 zz fun hS hlS => ?_
  -- the sorter's own ledger
  have NS : News h₀ L s.heap lS := fun q hq => ⟨(hlS q hq).1, fun e => hfL (e ▸ (hlS q hq).2), e0 ▸ at_.z₀ _ (hrf _ (hlS q hq).2).1⟩
  have hmem : ∀ b, b ∈ lS.map (·.1) ↔ b ∈ σ.foot := fun b => by
    constructor
    · intro q; (have zz := List.mem_map.mp q; refine ex1 zz ?_; try clear zz; rintro x zz; refine and2 zz ?_; try clear zz; rintro hx' rfl); exact (hlS x hx').2
    · intro q; refine ex1 (hS.footG q) fun o ho => ?_; exact List.mem_map.mpr ⟨_, ho, rfl⟩
  obtain ⟨hDg, hBg, hst, hFg, hAf⟩ : KtsDicts (frs (env :: outer)) (hideAll s.heap (lS.map (·.1))) ∧ Below A base (env :: outer) (hideAll s.heap (lS.map (·.1))) ∧ (∀ b o, h₀.get? b = some o → (hideAll s.heap (lS.map (·.1))).get? b = some o) ∧ Fr h₀ L (hideAll s.heap (lS.map (·.1))) m ∧ True := by
    obtain ⟨⟨dp, un, gd, cn, cs, a, ccd, cl, rfl, rfl, hk, hdp, hun⟩, B, _⟩ := H
    have F' : Fr h₀ L s.heap m := e0 ▸ eL ▸ F
    have D : KtsDicts (frs outer) h₀ := by rw [ho']; exact ktsDicts_nil
    refine and4 (groundX (R := fun _ _ => True) (A := ktrTop dp un gd cn cs L a ccd cl outer) (env := envX cn cs L a ccd cl) B F' NS rfl rfl hk) fun FG BG st _ => ?_
    exact ⟨(leaveT (R := fun _ _ => True) (A := ktrTop dp un gd cn cs L a ccd cl outer) (env := envX cn cs L a ccd cl) B F' NS rfl rfl hk D).1, BG, st, FG, trivial⟩
  generalize hgg : hideAll s.heap (lS.map (·.1)) = g at hDg hBg hst hFg
  have gsub : ∀ b o, g.get? b = some o → s.heap.get? b = some o := fun b o e => of_hideAll _ (by rw [hgg]; exact e)
  have gsz : g.objs.size = s.heap.objs.size := by rw [← hgg]; exact hideAll_size _ _
  have gnone : ∀ b ∈ σ.foot, g.get? b = none := fun b hb => by rw [← hgg]; exact hideAll_none _ ((hmem b).mpr hb)
  have gkeep : ∀ b o, s.heap.get? b = some o → b ∉ σ.foot → g.get? b = some o := fun b o e hb => by rw [← hgg]; exact hideAll_get _ e fun q => hb ((hmem b).mp q)
  have Tg : Top p loose mean mg mb g := T.keeps hst
  have Xg : K.In g := X.keeps hst
  refine pfn_go (Z := Hd ++ Z) (vars := vars) (binds := binds) X T hx ho hcd (by obtain ⟨⟨dp, un, gd, cn, cs, a, ccd, cl, rfl, rfl, hk, hdp, hun⟩, _, _⟩ := H; have : recursionLimit = 1000 := rfl; dsimp only; omega) hbind hkind hk hnd hcdn at_.cx.zl hvars (fun L' Γ₀ Z₀ s₁ H0 eL' kp₁ hZ₀ at₀ => ?_) hco hgen
  refine ex2 (id kp₁) fun h1 t1 zz => and2 zz fun e1 kk1 => ?_
  have hP : ∀ K', (∀ b o, hid ((Hd ++ Z) ++ Z₀) s₁.heap b o → K' b o) → (SR w σ).P K' s₁.heap := fun K' _ => ⟨lS, hS, fun q hq => ⟨kp₁.get (hlS q hq).1, (hlS q hq).2⟩⟩
  have aA := at₀.adopt (r := SR w σ) (g := g) (fun b hb => List.mem_append_right _ (hrf b hb).1) (fun b o e => by rw [H0.h₀]; exact gsub b o e) (by rw [H0.h₀]; exact gsz) gnone (by rw [H0.mg]; exact Tg.g) (by rw [H0.mb]; exact Tg.b) hP
  have HA : Ini mg mb scope g vars { Γ₀ with h₀ := g } := ⟨H0.mg, H0.mb, H0.gs, H0.cs, rfl, H0.v⟩
  have Hn : Here p loose mean mg mb A base (env :: outer) g L' (A.deeper (callEnvC (fnOf name qual params body scope dV kV doc pm an cdv ct) L' f)) (callEnvC (fnOf name qual params body scope dV kV doc pm an cdv ct) L' f) := by
    obtain ⟨⟨dp, un, gd, cn, cs, a, ccd, cl, rfl, rfl, hk', hdp, hun⟩, HB, HT⟩ := H
    have e : callEnvC (fnOf name qual params body scope dV kV doc pm an cdv ct) L' f = envX qual scope L' f cdv (cellsFrom (L' + 1) scope.names []) := rfl
    rw [e]
    dsimp only at hdu
    exact ⟨⟨dp + 1, un + 3, gd, _, _, _, _, _, rfl, rfl, hk, by omega, by omega⟩, hBg, Tg⟩
  refine wpAny_mono (h L' _ _ _ s₁ g HA Hn hDg Xg (fun b hb => ?_) aA) (fun fl s₄ q => ?_) fun _ _ x => x
  · rw [hfr] at hb
    rw [List.mem_singleton.mp hb]
    exact List.mem_filter.mpr ⟨List.mem_append_right _ (hlocL ▸ at_.lz), decide_eq_true hfL⟩
  (refine ex1 q ?_; try clear q; rintro v zz; refine and2 zz ?_; try clear zz; rintro rfl zz; obtain ⟨Γ', r', Z', turn', eL'', at', ⟨h₄, tk₄, rfl⟩, keep', hz', hv⟩ := zz)
  refine ⟨v, rfl, ?_⟩
  have oldL' : ∀ b o, s.heap.get? b = some o → b ≠ L' ∧ b ∉ Z₀ := fun b o e => by
    have n0 : b ∉ Z₀ := fun q => by have := hZ₀ b q; rw [e] at this; cases this
    refine ⟨fun q => n0 ?_, n0⟩
    have := at₀.lz
    rw [q]; exact this
  have hk' : ∀ b o, b ≠ env.locals → b ∉ σ.foot → s.heap.get? b = some o → h₄.get? b = some o := fun b o hne hnf e => by
    refine and2 (oldL' b o e) fun n1 n2 => ?_
    refine keep' b o n1 (by rw [hfr]; intro q; exact hne (by rw [hlocL]; exact List.mem_singleton.mp q)) (fun q => ?_) (kp₁.get e)
    exact (List.mem_append.mp q).elim hnf n2
  refine ex1 at'.cx.fr fun m₄ F₄ => ?_
  have hL : ∀ m, Fr Γ.h₀ Γ.L s.heap m → Fr Γ.h₀ Γ.L h₄ m := fun m G => by
    refine ⟨?_, fun b o e => hk' b o (fun q => ?_) (fun q => ?_) (G.keep b o e), G.above⟩
    · refine ex3 G.ns fun o es n zz => and3 zz fun h1 h2 h3 => ?_
      refine ex1 (turn'.frame Γ.L o (gkeep _ _ h1 (eL ▸ hfL)) (by rw [hfr, eL]; exact .head _)) fun sl h4 => ?_
      exact ⟨_, es, n, F₄.keep _ _ h4, h2, h3⟩
    · have := Heap.lt_size e
      rw [q, at_.loc] at this
      exact absurd (Nat.lt_of_lt_of_le this G.above) (Nat.lt_irrefl _)
    · rw [at_.z₀ b (hrf b q).1] at e; cases e
  have hsh : ({ s₁ with heap := h₄, toks := tk₄ } : Shared) = { s with heap := h₄, toks := tk₄ } := by rw [e1]
  rw [hsh] at hv ⊢
  refine and2 (at_.call (fs := []) (h₀' := Γ.h₀) (s' := { s with heap := h₄, toks := tk₄ }) Nil ⟨h₄, tk₄, rfl⟩ (fun b o h1 _ h2 e => hk' b o h1 h2 e) (fun _ h => (nomatch h)) hL at_.g₀ at_.b₀ (fun _ h => h) (fun _ h => (nomatch h)) trivial) fun hz aF => ?_
  have aF' := aF.sub (vars' := Γ.vars) (res' := res) (fun _ h => h) (List.sublist_cons_self _ _)
  refine ⟨_, ⟨⟨h₄, tk₄, rfl, fun b o hb' e => hk' b o (fun q => hb' (q ▸ at_.lz)) (fun q => hb' (hrf b q).1) e⟩, hz⟩, aF', S.mono (fun b o x => ⟨fun q => x.1 ?_, x.2⟩) hv⟩
  rcases List.mem_append.mp q with q | q
  · refine List.mem_append_left _ (List.mem_filter.mpr ⟨List.mem_append_left _ q, ?_⟩)
    simp only [decide_eq_true_eq]
    exact fun z => at_.hz b q (hrf b z).1
  · rcases List.mem_append.mp q with q | q
    · cases q
    · refine and2 (List.mem_filter.mp q) fun q1 q2 => ?_
      exact List.mem_append_left _ (List.mem_filter.mpr ⟨List.mem_append_right _ q1, q2⟩)
end
section
variable {β : Type} {p : Program} {loose : List Str} {mean : ExcName → Option Value} {mg mb : Str → Option Value} {A₀ : Around} {base : Heap} {outer : List Env} {h₀ : Heap} {A : Around} {env : Env}
  {w : World} {Γ : Gm} {σ : Srt Str} {res : List Res} {Hd Z : List Addr} {s : Shared} {pl : Str} {px pos apos epos : Pos} {rank : Str → Nat} {S : Rp β} {b : β} {rest : List Stmt} {vbs : List Vb} {scope : Scope}
theorem endT_prepare (Hi : Ini mg mb scope h₀ vbs Γ) (he : MC env (.Name pl px) "prepare" apos pos []) (H : Here p loose mean mg mb A₀ base outer h₀ Γ.L A env) (D : KtsDicts (frs outer) h₀) (TB : Top p loose mean mg mb base) (hp : Vb.mk pl Value RIs (.ref σ.self) ∈ Γ.vars) (hr : σ.rdy = none) (hlen : σ.nodes.length ≤ 1000) (hsl : SuccLe σ 100000)
    (hrank : ∀ e ∈ σ.abs, ∀ k ∈ e.2.2, k ∈ σ.abs.map (·.1) ∧ rank e.1 < rank k) (hfs : ∀ b ∈ frs outer, b ∈ Hd) (at_ : At Γ env (SR w σ :: res) Hd Z s)
    (k : ∀ Γ' g' σ' Z' s', Ini mg mb scope g' vbs Γ' → Γ'.L = Γ.L → Here p loose mean mg mb A₀ base outer g' Γ.L A env → (Mine.hd.heap_1 w.params).In g' → At Γ' env (SR w σ' :: res) Hd Z' s' → σ'.abs = σ.abs → (∃ rd, σ'.rdy = some (rd, aReady σ.abs)) → σ'.self = σ.self → σ'.pas = σ.pas → σ'.fin = σ.fin →
      wpAny (model PySem.Challenge.rw_mr0282_02.prog w) A (execs rest env) (EndT (frs outer) g' Γ.L env Hd Z' s' S b) NoExc s')
    (hi : autoParam (interactive env = false) autoA) (hv : autoParam (swapsWith (.Call (.Attribute (.Name pl px) "prepare" apos) [] [] pos) none epos.line env = pure false) autoA) (hd : autoParam ((pl == ("__debug__" : Str)) = false) autoC) :
    (Mine.hd.heap_1 w.params).In base → (Mine.hd.heap_1 w.params).In h₀ → wpAny (model PySem.Challenge.rw_mr0282_02.prog w) A (execs (.Expr (.Call (.Attribute (.Name pl px) "prepare" apos) [] [] pos) epos :: rest) env) (EndT (frs outer) h₀ Γ.L env Hd Z s S b) NoExc s := by
  intro XB X
  have hrank' : ∀ n ∈ σ.nodes, ∀ k ∈ n.succ, k ∈ σ.nodes.map (·.key) ∧ rank n.key < rank k := fun n hn k hk => by
    have := hrank (n.key, n.np, n.succ) (List.mem_map.mpr ⟨n, hn, rfl⟩) k hk
    rw [abs_keys] at this
    exact this
  refine wpAny_execs_cons (wpAny_Expr (wpAny_mono (at_prepare (rank := rank) he H D TB Hi.h₀ Hi.mg Hi.mb hp hr hlen hsl hrank' hfs at_ hd XB X) (fun v s₄ q => ?_) fun _ _ x => x) hi hv)
  (refine and2 q ?_; try clear q; rintro rfl zz; refine ex3 zz ?_; try clear zz; rintro g' σ' Z' zz; refine and10 zz ?_; try clear zz; rintro turn' at' hs' keep' hz' ea er es ep ef)
  have B' : Below A₀ base outer g' := by
    refine ⟨H.B.stack, fun b o e => turn'.other b o (H.B.stays b o e) (fun hm => ?_), H.B.frames.of_keeps fun b o e _ => ?_⟩
    · rw [(H.B.frames.mem hm).1] at e; cases e
    · refine ex1 (turn'.up e) fun sl hs => ?_
      exact ⟨_, hs, rfl⟩
  have st' : ∀ b o, base.get? b = some o → g'.get? b = some o := B'.stays
  have Hn : Here p loose mean mg mb A₀ base outer g' Γ.L A env := ⟨H.is, B', TB.keeps st'⟩
  exact wpAny_mono (k { Γ with h₀ := g' } g' σ' Z' s₄ ⟨Hi.mg, Hi.mb, Hi.gs, Hi.cs, rfl, Hi.v⟩ rfl Hn (XB.keeps st') at' ea er es ep ef) (fun f s₃ q => EndT.trans (by rw [← at_.loc]; exact at_.lz) (fun b hb => at'.cx.zl b (List.mem_append_left _ (hfs b hb))) turn' hs' keep' hz' q) fun _ _ x => x
end
section
variable {p : Program} {loose : List Str} {mean : ExcName → Option Value} {mg mb : Str → Option Value} {A₀ : Around} {base : Heap} {outer : List Env} {h₀ : Heap} {L : Addr} {A : Around} {env : Env}
  {w : World} {Γ : Gm} {res : List Res} {e : PySem.Expr} {kvs : List (Str × List Str)} {mv : List Vb} {pf pos : Pos}
theorem ex_graph (H : Here p loose mean mg mb A₀ base outer h₀ L A env) (hdu : A.depth < 690 ∧ A.units < 6900) (e0 : Γ.h₀ = h₀) (hf : GFn Γ "TopologicalSorter" (.ref 137)) (h : Ev PySem.Challenge.rw_mr0282_02.prog w A (Γ.rd mv) e (RDict (PySem.strKind PySem.Challenge.rw_mr0282_02.prog w) (RList RStr)) kvs) (hm : ∀ vb ∈ mv, Rd Γ res vb) (hlen : kvs.length ≤ 100) (hrow : ∀ p ∈ kvs, p.2.length ≤ 100)
    (hs : autoParam (starEach [e] env = [(false, eval e env)]) autoA) :
    (Mine.hd.heap_1 w.params).In h₀ → EX PySem.Challenge.rw_mr0282_02.prog w A env Γ res (.Call (.Name "TopologicalSorter" pf) [e] [] pos) fun o r => ∃ σ', o = ⟨Value, RIs, .ref σ'.self⟩ ∧ r = SR w σ' :: res ∧ σ'.abs = graphAbs kvs ∧ σ'.rdy = none ∧ σ'.pas = 0 ∧ σ'.fin = 0 ∧ σ'.nodes.length ≤ 101 * kvs.length ∧ SuccLe σ' (100 * kvs.length) := by
  k_fill
  intro X Hd Z s at_
  refine Call_Name (trees := backTo pos (starEach [e] env)) rfl ((ev_gfn hf).then at_.cx fun g s₁ kp₁ c₁ hg => ?_)
  cases hg
  have at₁ := at_.keeps kp₁
  obtain ⟨⟨dp, un, gd, cn, cs, a, ccd, cl, rfl, rfl, hk, hdp, hun⟩, B, T⟩ := H
  have eL : Γ.L = L := at_.loc.symm
  subst e0 eL
  k_dflt (refine' callWith_K X ?k2 ?_ hs; (case k2 => k_is))
  rw [hs]
  refine spliced_cons (h.then (at₁.read hm) fun u s₂ kp₂ c₂ hu => spliced_nil ?_)
  have at₂ := at₁.keeps kp₂
  refine ex1 at₂.cx.fr fun m F => ?_
  refine ⟨X.keeps F.keep, ?_⟩
  (have zz := id hu; refine ex3 zz ?_; try clear zz; rintro d o kvs' zz; refine and2 zz ?_; try clear zz; rintro rfl hr)
  dsimp only at hdu
  refine newg_spec (Zg := Hd ++ Z) B F T hk ledger_news (by omega) (by omega) (fun b o e => ?_) (List.mem_append_right _ at_.lz) hu hlen hrow (fun h' tk' news' σ' F' N' S' u1 u2 e1 e2 e3 e4 e5 e6 => ?_) X
  · by_cases hbL : b = Γ.L
    · exact .inl hbL
    · cases q : Γ.h₀.get? b with
      | none => exact .inr (.inr (mem_ledger.mpr ⟨e, hbL, q⟩))
      | some o' =>
        right; left
        have := F.keep b o' q
        rw [e] at this
        exact this.symm ▸ rfl
  refine ex1 (at₂.fresh (tk := tk') (fun m' G => ns_uniq F.ns G.ns ▸ F') N' S' u1 u2) fun Z' zz => and2 zz fun st' at' => ?_
  exact ⟨⟨Value, RIs, .ref σ'.self⟩, _, Z', ⟨σ', rfl, rfl, e1, e2, e3, e4, e5, e6⟩, (kp₁.stp.trans kp₂.stp).trans st', at', rfl⟩
end
end
end
section
section
theorem rules_Mth2 : True := by
  k_with_none
  (k_with "omega" => lia)
  (k_with "k_room" => ktr_room)
  (k_with "k_all" => first | exact ne_of_allLt (by assumption) | k_asm | ((with_reducible show ∀ p ∈ setL _ _ _, _); refine all_setL ?_; k_all))
  (k_with "k_ne" => first | assumption | exact Ne.symm (by assumption) | exact ne_of_lt_mem (by assumption) (by assumption) | exact ne_of_lt_mem' (by assumption) (by assumption))
  (k_with "k_mem" => first | with_reducible exact List.mem_cons_self | ((with_reducible refine' List.mem_cons_of_mem _ ?_); k_mem))
  (k_with "k_mem" => ((with_reducible refine' memG ?_); first | exact mem_setL_self (by first | with_reducible assumption | k_mem) | exact memS (by first | with_reducible assumption | k_mem) (by k_ne)))
  (k_with "k_upd" => exact upd_setL (by assumption) (by k_mem))
  (k_with "k_upd" => ((with_reducible show Upd _ _ _ (setL _ _ _) _); exact upd_setL (by first | exact setL_nodup (by assumption) | exact setL_nodup (setL_nodup (by assumption)) | exact setL_nodup (setL_nodup (setL_nodup (by assumption))) | exact setL_nodup (setL_nodup (setL_nodup (setL_nodup (by assumption))))) (by k_mem)))
  (k_with "k_updF" => exact updF_setL (by assumption) (by k_mem))
  (k_with "k_updF" => ((with_reducible show UpdF _ _ (setL _ _ _) _); exact updF_setL (by first | exact setL_nodup (by assumption) | exact setL_nodup (setL_nodup (by assumption)) | exact setL_nodup (setL_nodup (setL_nodup (by assumption))) | exact setL_nodup (setL_nodup (setL_nodup (setL_nodup (by assumption))))) (by k_mem)))
  (k_with "getMethod ref" => (k_here; (with_reducible show wpAny _ _ (getMethod (Value.ref _) (Str.ofString "get") _) _ _ _); k_dflt (refine kdg_method (knd := PySem.strKind _ _) (by k_asm) (by k_mem) (by k_asm) ?_)))
  (k_with "call builtin:dict.get" => (k_here; k_dflt (refine kdg_get1 (knd := PySem.strKind _ _) (by k_asm) (by k_mem) (by k_asm) (by k_asm) (strKind_is _ _ _ _) _ (by k_asm) ?_); (try dsimp only [Option.getD])))
  (k_with "setItem ref str" => (k_here; k_dflt (refine' kda_set (knd := PySem.strKind _ _) ?zzF ?zzN ?zzU ?zzd (strKind_is _ _ _ _) ?zzz ?_; (case zzF => k_asm); (case zzN => k_asm); (case zzU => k_updF); (case zzd => k_asm); (case zzz => k_asm)); intro zh zo zF zN zd; (try dsimp only at zN)))
  (k_with "call builtin:len" => (k_here; (with_reducible show wpAny _ _ (call (Value.builtin "len") [Value.ref _]) _ _ _); k_dflt (first | (refine' len_tupN ?zzk1 ?zzk2 ?zzk3 ?_; (case zzk1 => k_asm); (case zzk2 => k_mem); (case zzk3 => assumption)) | (refine' len_listN ?zzk1 ?zzk2 ?zzk3 ?_; (case zzk1 => k_asm); (case zzk2 => k_mem); (case zzk3 => assumption)))))
  (k_with "call builtin:list.append" => (k_here; (with_reducible show wpAny _ _ (call (Value.builtin _) [Value.ref _, _]) _ _ _); k_dflt (refine' append_K ?zzk1 ?zzk2 ?zzk3 ?_ ?zzz; (case zzk1 => k_asm); (case zzk2 => k_asm); (case zzk3 => k_upd); (case zzz => first | assumption | size_fits); k_whole); intro zh zF zN; (try k_sweep)))
  (k_with "call type:bool" => (k_here; (with_reducible show wpAny _ _ (call _ [Value.ref _]) _ _ _); k_dflt (refine' bool_listN ?zzk1 ?zzk2 ?zzk3 ?_; (case zzk1 => k_asm); (case zzk2 => k_mem); (case zzk3 => assumption))))
  (k_with "call type:tuple" => (k_here; (with_reducible show wpAny _ _ (call (Value.type _) [Value.ref _]) _ _ _); k_dflt (refine' tuple_ofListN ?zzk1 ?zzk2 ?zzk3 ?zzk4 ?_; (case zzk1 => k_asm); (case zzk2 => k_asm); (case zzk3 => k_mem); (case zzk4 => assumption); k_whole); intro D' h' F' N' l1; (try k_lt l1); (try k_sweep)))
  (k_with "call type:list" => (k_here; (with_reducible show wpAny _ _ (call (Value.type _) [Value.ref _]) _ _ _); k_dflt (refine' list_ofTupN ?zzk1 ?zzk2 ?zzk3 ?zzk4 ?_; (case zzk1 => k_asm); (case zzk2 => k_asm); (case zzk3 => k_mem); (case zzk4 => assumption); k_whole); intro D' c' h' F' N' l1; (try k_lt l1); (try k_sweep)))
  (k_with "call builtin:list.clear" => (k_here; (with_reducible show wpAny _ _ (call (Value.builtin _) [Value.ref _]) _ _ _); k_dflt (refine' clear_listN ?zzk1 ?zzk2 ?zzk3 ?zzk4 ?_; (case zzk1 => k_asm); (case zzk2 => k_asm); (case zzk3 => k_updF); (case zzk4 => assumption); k_whole); intro zh zn zF zN; (try dsimp only at zN); (try k_sweep)))
  (k_with "subscriptTail" => (k_here; (with_reducible show wpAny _ _ (subscriptTail _ _ (Value.ref _) (Value.str _ _)) _ _ _); k_dflt (refine' kda_item (knd := PySem.strKind _ _) ?zzk1 ?zzk2 ?zzk3 (strKind_is _ _ _ _) ?zzk5 ?_ ?zzk7 ?zzk8; (case zzk1 => k_asm); (case zzk2 => k_mem); (case zzk3 => k_asm); (case zzk5 => k_asm); (case zzk7 => with_unfolding_all rfl); (case zzk8 => intro _; with_unfolding_all rfl); k_whole)))
  (k_with "tb_start" => first | decide | (dsimp only [Gm.set, Gm.rd, Γc, btab]; decide))
  (k_with "tb_rel" => first | with_reducible exact List.mem_cons_self | with_reducible exact set_self | (with_reducible refine List.mem_cons_of_mem _ ?_; tb_rel) | (with_reducible refine f_mem ?_ (by dsimp only; decide); tb_rel) | (with_reducible refine set_ne ?_ (by dsimp only; decide); tb_rel) | (with_reducible refine rd_mem ?_; tb_rel) | (with_reducible refine rd_mmem ?_; tb_rel) | (with_reducible refine c_own ?_; tb_rel) | (with_reducible refine c_up ?_ (by dsimp only; decide); tb_rel) | (with_reducible refine c_mup ?_ (by dsimp only; decide); tb_rel) | (with_reducible refine ini_mem (by assumption) ?_; tb_rel))
  (k_with "ktr_rel" => first | exact forall_nil | (refine forall_cons ?_ ?_; (first | tb_rel | skip); (first | ktr_rel | skip)))
  trivial
section
variable {prog : Program} {w : World} {A : Around} {E : Value → Shared → Prop} {s : Shared} {K : Frag} {f : Addr} {Q : Value → Shared → Prop} {env : Env} {pos : Pos}
theorem callWith_ML {q : Addr} {self : Value} {e : PySem.Expr} {sp : Pos} {first : List Value} (hf : fnIn K f = true) (h : wpAny (model prog w) A (eval e env) (fun v s₁ => StarOf (model prog w) A E v (fun vs s₂ => MethP K q f self s₂.heap ∧ wpAny (model prog w) A (call (.ref q) (first ++ vs)) Q E s₂) s₁) E s)
    (he : starEach [.Starred e sp] env = [(true, eval e env)]) : wpAny (model prog w) A (callWith pos (.ref q) first (backTo pos (starEach [.Starred e sp] env)) []) Q E s := by
  rw [he]
  exact ks_call rfl (keeps_M hf) (ks_lone h)
end
section
variable {p : Program} {loose : List Str} {mean : ExcName → Option Value} {mg mb : Str → Option Value} {A₀ : Around} {base : Heap} {outer : List Env} {h₀ : Heap} {L : Addr} {A : Around} {env : Env}
  {w : World} {Γ : Gm} {σ : Srt Str} {res : List Res} {Hd Z : List Addr} {s : Shared} {pl name : Str} {px pos apos : Pos} {rd : Addr} {ks : List Str} {Q : Value → Shared → Prop} {args : List PySem.Expr}
theorem es_doneS {e₂ : PySem.Expr} {sp : Pos} {qs : List Str} {rs : List Str} {mv : List Vb} (he : MCs env (.Name pl px) "done" apos pos [.Starred e₂ sp]) (H : Here p loose mean mg mb A₀ base outer h₀ L A env) (e0 : Γ.h₀ = h₀) (hp : Vb.mk pl Value RIs (.ref σ.self) ∈ Γ.vars) (hr : σ.rdy = some (rd, rs))
    (ha₂ : Ev PySem.Challenge.rw_mr0282_02.prog w A (Γ.rd mv) e₂ (RTupX RStr) qs) (hm : ∀ vb ∈ mv, Rd Γ (SR w σ :: res) vb) (hql : qs.length ≤ 1000) (hgo : ∀ i k, qs[i]? = some k → k ∈ σ.abs.map (·.1) ∧ aNp (aDone (σ.abs, rs) (qs.take i)).1 k = -1) (hsu : ∀ e ∈ σ.abs, ∀ s ∈ e.2.2, s ∈ σ.abs.map (·.1)) (hsl : ∀ e ∈ σ.abs, e.2.2.length ≤ 1000) (hrl : ∀ i, (aDone (σ.abs, rs) (qs.take i)).2.length ≤ 1000)
    (hs₂ : autoParam (starEach [.Starred e₂ sp] env = [(true, eval e₂ env)]) autoA) (hd : autoParam ((pl == ("__debug__" : Str)) = false) autoC) :
    (Mine.hd.heap_1 w.params).In h₀ → ES PySem.Challenge.rw_mr0282_02.prog w A env Γ (SR w σ :: res) (.Call (.Attribute (.Name pl px) "done" apos) [.Starred e₂ sp] [] pos) RIs .none fun r => ∃ σ', r = SR w σ' :: res ∧ σ'.abs = (aDone (σ.abs, rs) qs).1 ∧ σ'.self = σ.self ∧ σ'.rdy = some (rd, (aDone (σ.abs, rs) qs).2) ∧ σ'.pas = σ.pas ∧ σ'.fin = σ.fin + qs.length := by
  k_fill
  intro X Hd Z s at_
  obtain ⟨⟨dp, un, gd, cn, cs, a, ccd, cl, rfl, rfl, hk, hdp, hun⟩, B, T⟩ := H
  have eL : Γ.L = L := at_.loc.symm
  subst e0 eL
  refine ex1 (at_.cx.vis _ hp) fun v zz => and2 zz fun hv1 hv2 => ?_
  cases (show v = .ref σ.self from hv2)
  rw [he]
  refine wpAny_bind (wpAny_Name (hv1.load at_.cx.fn ?_) hd)
  refine ex1 at_.cx.fr fun m F => ?_
  refine ex6 (srt_inst at_) fun k1 k2 k3 k4 tp tf I => ?_
  refine wpAny_bind (wpAny_standAt (wpAny_bind (wpAny_holding (wpAny_bind ?_))))
  k_dflt (refine' bound_push (X.keeps F.keep) I ?k4 ?k5 ?k6 ?k7 ?k8 ?k9 ?k10 ?k11 ?_; (case k4 => k_is); (case k5 => k_is); (case k6 => k_is); (case k7 => k_is); (case k8 => k_is); (case k9 => k_is); (case k10 => decide +kernel); (case k11 => k_get))
  refine wpAny_pure ?_
  have kp₀ : Kp s { s with heap := s.heap.push (methodObj (.ref 120) (.ref σ.self)), toks := s.toks + 1 } := ⟨_, _, rfl, fun _ _ e => Heap.get?_push_of_some _ e⟩
  have hq0 : ({ s with heap := s.heap.push (methodObj (.ref 120) (.ref σ.self)), toks := s.toks + 1 } : Shared).heap.get? s.heap.objs.size = some (methodObj (.ref 120) (.ref σ.self)) := Heap.get?_push_size _ rfl
  generalize ({ s with heap := s.heap.push (methodObj (.ref 120) (.ref σ.self)), toks := s.toks + 1 } : Shared) = s₀ at kp₀ hq0 ⊢
  have at₀ := at_.keeps kp₀
  k_dflt (refine' callWith_ML (f := 120) (self := .ref σ.self) (K := Mine.hd.heap_1 w.params) ?k2 ?_ hs₂; (case k2 => k_is))
  refine ha₂.then (at₀.read hm) fun u₂ s₂ kp₂ c₂ hu₂ => ?_
  (refine ex3 hu₂ ?_; try clear hu₂; rintro l n vs zz; refine and3 zz ?_; try clear zz; rintro rfl ⟨hlz, ho⟩ ha)
  have hvl := ha.length
  refine star_tup ho rfl rfl (by omega) fun s₃ kp₃ => ?_
  have kp := (kp₀.tr kp₂).tr kp₃
  have hq := kp₃.get (kp₂.get hq0)
  have at₁ := at_.keeps kp
  have F₁ := F.keeps fun b o e => kp.get e
  refine ⟨⟨hq, X.keeps F₁.keep⟩, ?_⟩
  refine wpAny_call (method_call hq ?_)
  refine done_code (qs := qs) (vs := vs) B F₁ T hk ledger_news (by omega) (by omega) at₁.srt rfl hr (rk_ka ha) (by omega) hgo hsu (fun e he => Nat.le_trans (hsl e he) (by omega)) (fun i => Nat.le_trans (hrl i) (by omega)) (fun h' tk' news' σ' F' N' hnd S' fr' ef ea es er ep efin => ?_) X
  refine ex1 (at₁.method (tk := tk') (fun m' G => ns_uniq F₁.ns G.ns ▸ F') N' S' fr') fun Z' zz => and3 zz fun st' at' hz => ?_
  exact ⟨_, Z', ⟨σ', rfl, ea, es, er, ep, efin⟩, kp.stp.trans st', at', rfl⟩
theorem es_addP {e : PySem.Expr} {es : List PySem.Expr} {k : Str} {qs : List Str} {mv : List Vb} {M : Nat} (he : MC env (.Name pl px) "add" apos pos (e :: es)) (H : Here p loose mean mg mb A₀ base outer h₀ L A env) (e0 : Γ.h₀ = h₀) (hp : Vb.mk pl Value RIs (.ref σ.self) ∈ Γ.vars) (hr : σ.rdy = none)
    (ha : Ev PySem.Challenge.rw_mr0282_02.prog w A (Γ.rd mv) e RStr k) (has : Evs PySem.Challenge.rw_mr0282_02.prog w A (Γ.rd mv) es RStr qs) (hm : ∀ vb ∈ mv, Rd Γ (SR w σ :: res) vb) (hlen : σ.nodes.length + qs.length ≤ 100000) (hsl : SuccLe σ M) (hM : M + qs.length ≤ 100000)
    (hs : autoParam (starEach (e :: es) env = (false, eval e env) :: starEach es env) autoA) (hs' : autoParam ((backTo pos (starEach es env)).any (·.1) = false) autoA) (hd : autoParam ((pl == ("__debug__" : Str)) = false) autoC) :
    (Mine.hd.heap_1 w.params).In h₀ → ES PySem.Challenge.rw_mr0282_02.prog w A env Γ (SR w σ :: res) (.Call (.Attribute (.Name pl px) "add" apos) (e :: es) [] pos) RIs .none fun r => ∃ σ', r = SR w σ' :: res ∧ σ'.abs = aAdd σ.abs k qs ∧ Same σ σ' ∧ σ'.nodes.length ≤ σ.nodes.length + qs.length + 1 ∧ SuccLe σ' (M + qs.length) := by
  k_fill
  intro X Hd Z s at_
  (refine ex1 he ?_; try clear he; rintro _ he)
  obtain ⟨⟨dp, un, gd, cn, cs, a, ccd, cl, rfl, rfl, hk, hdp, hun⟩, B, T⟩ := H
  have eL : Γ.L = L := at_.loc.symm
  subst e0 eL
  refine ex1 (at_.cx.vis _ hp) fun v zz => and2 zz fun hv1 hv2 => ?_
  cases (show v = .ref σ.self from hv2)
  refine MethodCall_ (wpAny_Name (hv1.load at_.cx.fn ?_) hd) he
  refine ex1 at_.cx.fr fun m F => ?_
  refine ex6 (srt_inst at_) fun k1 k2 k3 k4 tp tf I => ?_
  k_dflt (refine' method_inst F X I ?k4 ?k5 ?k6 ?k7 ?_; (case k4 => k_is); (case k5 => k_is); (case k6 => k_is); (case k7 => k_get))
  k_dflt (refine' callWith_K X ?k2 ?_ hs hs'; (case k2 => k_is))
  rw [hs]
  refine spliced_cons (ha.then (at_.read hm) fun u s₁ kp₁ c₁ hu => wpAny_mono (has pos _ s₁ _ c₁) (fun vs s₂ q => ?_) fun _ _ x => x)
  (refine and2 q fun kp₂ hvs => ?_; try clear q)
  have kp := kp₁.tr kp₂
  have at₁ := at_.keeps kp
  have F₁ := F.keeps fun b o e => kp.get e
  refine ⟨X.keeps F₁.keep, ?_⟩
  (refine ex1 hu ?_; try clear hu; rintro tu rfl)
  refine add_spec (k := k) (tkk := tu) (vs := vs) (qs := qs) B F₁ T hk ledger_news (by omega) (by omega) at₁.srt rfl hr (rk_ka hvs) hlen hsl hM (fun h' tk' news' σ' F' N' hnd S' fr' ea es en eu => ?_) X
  refine ex1 (at₁.method (tk := tk') (fun m' G => ns_uniq F₁.ns G.ns ▸ F') N' S' fr') fun Z' zz => and3 zz fun st' at' hz => ?_
  exact ⟨_, Z', ⟨σ', rfl, ea, es, en, eu⟩, kp.stp.trans st', at', rfl⟩
end
end
end
section
section
theorem rules_Rnd : True := by
  k_with_none
  (k_with "omega" => lia)
  (k_with "k_room" => ktr_room)
  (k_with "k_all" => first | exact ne_of_allLt (by assumption) | k_asm | ((with_reducible show ∀ p ∈ setL _ _ _, _); refine all_setL ?_; k_all))
  (k_with "k_ne" => first | assumption | exact Ne.symm (by assumption) | exact ne_of_lt_mem (by assumption) (by assumption) | exact ne_of_lt_mem' (by assumption) (by assumption))
  (k_with "k_mem" => first | with_reducible exact List.mem_cons_self | ((with_reducible refine' List.mem_cons_of_mem _ ?_); k_mem))
  (k_with "k_mem" => ((with_reducible refine' memG ?_); first | exact mem_setL_self (by first | with_reducible assumption | k_mem) | exact memS (by first | with_reducible assumption | k_mem) (by k_ne)))
  (k_with "k_upd" => exact upd_setL (by assumption) (by k_mem))
  (k_with "k_upd" => ((with_reducible show Upd _ _ _ (setL _ _ _) _); exact upd_setL (by first | exact setL_nodup (by assumption) | exact setL_nodup (setL_nodup (by assumption)) | exact setL_nodup (setL_nodup (setL_nodup (by assumption))) | exact setL_nodup (setL_nodup (setL_nodup (setL_nodup (by assumption))))) (by k_mem)))
  (k_with "k_updF" => exact updF_setL (by assumption) (by k_mem))
  (k_with "k_updF" => ((with_reducible show UpdF _ _ (setL _ _ _) _); exact updF_setL (by first | exact setL_nodup (by assumption) | exact setL_nodup (setL_nodup (by assumption)) | exact setL_nodup (setL_nodup (setL_nodup (by assumption))) | exact setL_nodup (setL_nodup (setL_nodup (setL_nodup (by assumption))))) (by k_mem)))
  (k_with "getMethod ref" => (k_here; (with_reducible show wpAny _ _ (getMethod (Value.ref _) (Str.ofString "get") _) _ _ _); k_dflt (refine kdg_method (knd := PySem.strKind _ _) (by k_asm) (by k_mem) (by k_asm) ?_)))
  (k_with "call builtin:dict.get" => (k_here; k_dflt (refine kdg_get1 (knd := PySem.strKind _ _) (by k_asm) (by k_mem) (by k_asm) (by k_asm) (strKind_is _ _ _ _) _ (by k_asm) ?_); (try dsimp only [Option.getD])))
  (k_with "setItem ref str" => (k_here; k_dflt (refine' kda_set (knd := PySem.strKind _ _) ?zzF ?zzN ?zzU ?zzd (strKind_is _ _ _ _) ?zzz ?_; (case zzF => k_asm); (case zzN => k_asm); (case zzU => k_updF); (case zzd => k_asm); (case zzz => k_asm)); intro zh zo zF zN zd; (try dsimp only at zN)))
  (k_with "call builtin:len" => (k_here; (with_reducible show wpAny _ _ (call (Value.builtin "len") [Value.ref _]) _ _ _); k_dflt (first | (refine' len_tupN ?zzk1 ?zzk2 ?zzk3 ?_; (case zzk1 => k_asm); (case zzk2 => k_mem); (case zzk3 => assumption)) | (refine' len_listN ?zzk1 ?zzk2 ?zzk3 ?_; (case zzk1 => k_asm); (case zzk2 => k_mem); (case zzk3 => assumption)))))
  (k_with "call builtin:list.append" => (k_here; (with_reducible show wpAny _ _ (call (Value.builtin _) [Value.ref _, _]) _ _ _); k_dflt (refine' append_K ?zzk1 ?zzk2 ?zzk3 ?_ ?zzz; (case zzk1 => k_asm); (case zzk2 => k_asm); (case zzk3 => k_upd); (case zzz => first | assumption | size_fits); k_whole); intro zh zF zN; (try k_sweep)))
  (k_with "call type:bool" => (k_here; (with_reducible show wpAny _ _ (call _ [Value.ref _]) _ _ _); k_dflt (refine' bool_listN ?zzk1 ?zzk2 ?zzk3 ?_; (case zzk1 => k_asm); (case zzk2 => k_mem); (case zzk3 => assumption))))
  (k_with "call type:tuple" => (k_here; (with_reducible show wpAny _ _ (call (Value.type _) [Value.ref _]) _ _ _); k_dflt (refine' tuple_ofListN ?zzk1 ?zzk2 ?zzk3 ?zzk4 ?_; (case zzk1 => k_asm); (case zzk2 => k_asm); (case zzk3 => k_mem); (case zzk4 => assumption); k_whole); intro D' h' F' N' l1; (try k_lt l1); (try k_sweep)))
  (k_with "call type:list" => (k_here; (with_reducible show wpAny _ _ (call (Value.type _) [Value.ref _]) _ _ _); k_dflt (refine' list_ofTupN ?zzk1 ?zzk2 ?zzk3 ?zzk4 ?_; (case zzk1 => k_asm); (case zzk2 => k_asm); (case zzk3 => k_mem); (case zzk4 => assumption); k_whole); intro D' c' h' F' N' l1; (try k_lt l1); (try k_sweep)))
  (k_with "call builtin:list.clear" => (k_here; (with_reducible show wpAny _ _ (call (Value.builtin _) [Value.ref _]) _ _ _); k_dflt (refine' clear_listN ?zzk1 ?zzk2 ?zzk3 ?zzk4 ?_; (case zzk1 => k_asm); (case zzk2 => k_asm); (case zzk3 => k_updF); (case zzk4 => assumption); k_whole); intro zh zn zF zN; (try dsimp only at zN); (try k_sweep)))
  (k_with "subscriptTail" => (k_here; (with_reducible show wpAny _ _ (subscriptTail _ _ (Value.ref _) (Value.str _ _)) _ _ _); k_dflt (refine' kda_item (knd := PySem.strKind _ _) ?zzk1 ?zzk2 ?zzk3 (strKind_is _ _ _ _) ?zzk5 ?_ ?zzk7 ?zzk8; (case zzk1 => k_asm); (case zzk2 => k_mem); (case zzk3 => k_asm); (case zzk5 => k_asm); (case zzk7 => with_unfolding_all rfl); (case zzk8 => intro _; with_unfolding_all rfl); k_whole)))
  (k_with "tb_start" => first | decide | (dsimp only [Gm.set, Gm.rd, Γc, btab]; decide))
  (k_with "tb_rel" => first | with_reducible exact List.mem_cons_self | with_reducible exact set_self | (with_reducible refine List.mem_cons_of_mem _ ?_; tb_rel) | (with_reducible refine f_mem ?_ (by dsimp only; decide); tb_rel) | (with_reducible refine set_ne ?_ (by dsimp only; decide); tb_rel) | (with_reducible refine rd_mem ?_; tb_rel) | (with_reducible refine rd_mmem ?_; tb_rel) | (with_reducible refine c_own ?_; tb_rel) | (with_reducible refine c_up ?_ (by dsimp only; decide); tb_rel) | (with_reducible refine c_mup ?_ (by dsimp only; decide); tb_rel) | (with_reducible refine ini_mem (by assumption) ?_; tb_rel))
  (k_with "ktr_rel" => first | exact forall_nil | (refine forall_cons ?_ ?_; (first | tb_rel | skip); (first | ktr_rel | skip)))
  trivial
section
variable {p : Program} {loose : List Str} {mean : ExcName → Option Value} {mg mb : Str → Option Value} {A₀ : Around} {base : Heap} {outer : List Env} {h₀ : Heap} {L : Addr} {A : Around} {env : Env}
  {w : World} {Γ : Gm} {σ : Srt Str} {res : List Res} {Hd Z : List Addr} {s : Shared} {ah pl : Str → List Str} {rk : Str → Nat} {rank : Str → Nat}
theorem rounds_call (H : Here p loose mean mg mb A₀ base outer h₀ L A env) (hdu : A.depth < 700 ∧ A.units < 7000) (ho : frs outer = []) (TB : Top p loose mean mg mb base) (hb : h₀ = base) (e0 : Γ.h₀ = h₀) (eL : Γ.L = L) (at_ : At Γ env (SR w σ :: res) Hd Z s)
    (D : Dag jobs6 ah rk) (hr : σ.rdy = none) (hpas : σ.pas = 0) (hfin : σ.fin = 0) (hlen : σ.nodes.length ≤ 1000) (hsl : SuccLe σ 100000) (hrun : RS ah pl σ.abs 0 (aReady σ.abs)) (hrank : ∀ e ∈ σ.abs, ∀ k ∈ e.2.2, k ∈ σ.abs.map (·.1) ∧ rank e.1 < rank k) :
    (Mine.hd.heap_1 w.params).In h₀ → wpAny (model PySem.Challenge.rw_mr0282_02.prog w) A (call (.ref 155) [.ref σ.self]) (fun r s' => ∃ Z', Stp Z s Z' s' ∧ At Γ env res Hd Z' s' ∧ (RList (RList RStr)).rel (rounds6 ah) (hid (Hd ++ Z') s'.heap) r) NoExc s := by
  k_fill
  intro X
  have B : Bt mg mb := bt_of H.T X rfl
  have sz : sizeLine = 16777216 := rfl
  refine' srt_call (S := RList (RList RStr)) (b := rounds6 ah) (K := Mine.hd.heap_1 w.params) (vars := [⟨"plan", Value, RIs, .ref σ.self⟩]) (binds := [("plan", .ref σ.self)]) H hdu ho e0 eL at_ X ?ho ?hcd ?hbind ?hkind ?hk ?hnd ?hcdn ?hvars ?h ?hco ?hgen
  case ho => k_is
  case hcd => k_is
  case hbind => rfl
  case hkind => intro n y hy; simp only [List.mem_cons, List.not_mem_nil, or_false] at hy; rcases hy with rfl; exact .inl rfl
  case hk => rfl
  case hnd => decide
  case hcdn => decide
  case hco => rfl
  case hgen => rfl
  case hvars =>
    intro L vb hv'
    simp only [List.mem_cons, List.not_mem_nil, or_false] at hv'
    rcases hv' with rfl
    exact ⟨_, .inl ⟨rfl, rfl⟩, rfl⟩
  case h =>
    intro L' Γ₁ Hd₁ Z₁ s₁ g H0 Hn D' Xg hfs at₁
    have hh : A.handled = none := by obtain ⟨⟨dp, un, gd, cn, cs, a, ccd, cl, rfl, rfl, hk, hdp, hun⟩, _, _⟩ := H; rfl
    have eL1 : Γ₁.L = L' := at₁.loc.symm
    subst eL1
    have XB : (Mine.hd.heap_1 w.params).In base := hb ▸ X
    refine endT_hs H0.h₀ rfl hfs at₁ (hs_newI H0 (RList RStr) ⟨.inl rfl, by decide⟩) ?_
    rintro Γ₂ _ Z₂ s₂ ⟨l, H1, rfl⟩ e2 eL2 at₂
    have at₂' := at₂.perm (List.Perm.swap _ _ _)
    rw [← eL2] at Hn at₂' ⊢
    refine endT_prepare (rank := rank) H1 ⟨_, rfl⟩ Hn D' TB (by tb_rel) hr hlen hsl hrank hfs at₂' (fun Γ₃ g₃ σ₃ Z₃ s₃ H3 e3 Hn3 X3 at₃ ea er es ep ef => ?_) rfl rfl (by decide) XB Xg
    (refine ex1 er ?_; try clear er; rintro rd er)
    refine endT_hr H3.h₀ e3 ?_ at₃
    refine hr_cons (hs_whileS (P := fun Γ' r => H3.fam [⟨"plan", Value, RIs, .ref σ.self⟩, ⟨"rounds", Value, RIs, .ref l⟩] Γ' ∧ ∃ σ', r = [SR w σ', MutL l (RList RStr) (rounds6 ah)]) (fun n Γ' r => ∃ i σ' rs, n + i = 6 ∧ H3.fam [⟨"plan", Value, RIs, .ref σ.self⟩, ⟨"rounds", Value, RIs, .ref l⟩] Γ' ∧ r = [SR w σ', MutL l (RList RStr) ((List.range i).map (rnd jobs6 ah))] ∧ σ'.self = σ.self ∧ σ'.rdy = some (rd, rs) ∧ σ'.fin = σ'.pas ∧ RS ah pl σ'.abs i rs ∧ ∀ k < i, rnd jobs6 ah k ≠ []) 6 ⟨0, σ₃, _, rfl, H3.sub (by ktr_rel), rfl, es, er, by rw [ef, ep, hpas, hfin], by rw [ea]; exact hrun, fun k hk => absurd hk (Nat.not_lt_zero _)⟩ ?turn) ?rest
    case rest =>
      rintro Γ₄ _ ⟨H4, σ₄, rfl⟩
      refine hr_perm (List.Perm.swap _ _ _) (hr_freeze (x := "rounds") (by tb_rel) ?_)
      exact hr_return (ev_name (R := RList (RList RStr)) (a := rounds6 ah) set_self)
    case turn =>
      rintro n Γ₄ _ ⟨i, σ₄, rs, hni, H4, rfl, es₄, er₄, ef₄, R, hne⟩
      have hrl := R.len
      have hlt : decide (σ₄.pas < σ₄.pas) = false := by simp
      have H4' : H3.fam [⟨"plan", Value, RIs, .ref σ₄.self⟩, ⟨"rounds", Value, RIs, .ref l⟩] Γ₄ := by rw [es₄]; exact H4
      refine ⟨_, _, ts_bool (es_active ⟨_, rfl⟩ Hn3 H4'.h₀ (by tb_rel) er₄ (by omega) (by decide) X3), fun hc r hr' => ?yes, fun hc r hr' => ?no⟩
      case no =>
        subst hr'
        rw [ef₄] at hc
        rw [hlt, R.empty, Bool.false_or, Bool.not_eq_false', List.isEmpty_iff] at hc
        refine ⟨H4, σ₄, ?_⟩
        rw [rounds_at D hne hc]
      case yes =>
        subst hr'
        rw [ef₄] at hc
        rw [hlt, R.empty, Bool.false_or, Bool.not_eq_true'] at hc
        have hri : rnd jobs6 ah i ≠ [] := fun e => by rw [e] at hc; cases hc
        have hi6 : i < 6 := by
          refine ex1 (List.exists_mem_of_ne_nil _ hri) fun j hj => ?_
          exact D.rnd_lt hj
        refine ht_cons (hs_setS H4' (es_ready ⟨_, rfl⟩ Hn3 H4'.h₀ (by tb_rel) er₄ (by omega) R.readyIn (by decide) X3) ⟨.inl rfl, by decide⟩) ?_
        rintro Γ₅ _ ⟨H5, σ₅, rfl, ea₅, es₅, er₅, ep₅, ef₅⟩
        rw [← es₅] at H5
        refine ht_perm (List.Perm.swap _ _ _) (ht_cons (hs_append (mv := []) (R := RList RStr) (a := rnd jobs6 ah i) (ev_eq (ev_sortedT (xs := rs) (Bt.fn B H5 (by tb_start) (by tb_start)) (ev_name (R := RTupX RStr) (a := rs) (by tb_rel)) (by omega)) R.sorted) forall_nil (by rw [List.length_map, List.length_range, sz]; omega) (by tb_rel) rfl) ?_)
        rintro Γ₆ _ ⟨e6, rfl⟩
        rw [e6]
        refine and4 R.outs fun o1 o2 o3 o4 => ?_
        rw [← ea₅] at o1 o2 o3 o4
        refine ht_perm (List.Perm.swap _ _ _) (ht_cons (hs_exprS (es_doneS (qs := rs) rfl Hn3 H5.h₀ (by tb_rel) er₅ (mv := []) (ev_name (R := RTupX RStr) (a := rs) (by tb_rel)) forall_nil (by omega) o1 o2 o3 o4 rfl (by decide) X3)) ?_)
        rintro Γ₇ _ ⟨e7, σ₇, rfl, ea₇, es₇, er₇, ep₇, ef₇⟩
        rw [e7]
        have R' := R.next
        rw [← ea₅, ← ea₇] at R'
        refine ht_nil ⟨n - 1, by omega, i + 1, σ₇, _, by omega, ?_, ?_, by rw [es₇, es₅, es₄], er₇, by rw [ef₇, ep₇, ep₅, ef₅, ef₄], R', fun k hk => ?_⟩
        · have : σ₅.self = σ.self := es₅.trans es₄
          rw [this] at H5
          exact H5.sub (by ktr_rel)
        · rw [List.range_succ, List.map_append]; rfl
        · by_cases q : k = i
          · rw [q]; exact hri
          · exact hne k (by omega)
end
end
end
theorem rules_L6_2 : True := by
  (k_with "omega" => lia)
  trivial
section
section
theorem dget_put {K α : Type} [DecidableEq K] {k k' : K} {a : α} : ∀ {xs : List (K × α)}, dget (dput xs k a) k' = if k' = k then some a else dget xs k' := by
  intro xs
  have find_map : ∀ l : List (K × α), dget (l.map fun p => if p.1 = k then (p.1, a) else p) k' = if k' = k then (dget l k).map (fun _ => a) else dget l k' := by
    intro l
    induction l with
    | nil => unfold dget; split <;> rfl
    | cons p r ih =>
      unfold dget at ih ⊢
      rw [List.map_cons, List.find?_cons, List.find?_cons]
      by_cases e : p.1 = k
      · rw [if_pos e]
        dsimp only
        by_cases e' : k' = k
        · subst e'
          simp [e]
        · have : ¬ p.1 = k' := fun q => e' (q.symm.trans e)
          simp only [this, decide_false, if_neg e']
          rw [ih, if_neg e', List.find?_cons]
          simp only [this, decide_false]
      · rw [if_neg e]
        by_cases e' : k' = k
        · subst e'
          simp only [e, decide_false, if_true]
          rw [ih, if_pos rfl]
        · rw [if_neg e']
          by_cases q : p.1 = k'
          · simp [q]
          · simp only [q, decide_false]
            rw [ih, if_neg e', List.find?_cons]
            simp only [q, decide_false]
  unfold dput
  by_cases h : xs.any (fun p => decide (p.1 = k)) = true
  · rw [if_pos h, find_map]
    by_cases e : k' = k
    · rw [if_pos e, if_pos e]
      refine ex1 (List.any_eq_true.mp h) fun p zz => and2 zz fun hp hq => ?_
      unfold dget
      cases q : xs.find? fun p => decide (p.1 = k) with
      | some p => rfl
      | none =>
        have := List.find?_eq_none.mp q p hp
        exact absurd hq this
    · rw [if_neg e, if_neg e]
  · rw [if_neg h]
    have hn : ∀ p ∈ xs, ¬ p.1 = k := fun p hp q => h (List.any_eq_true.mpr ⟨p, hp, by simpa using q⟩)
    unfold dget
    rw [List.find?_append]
    by_cases e : k' = k
    · subst e
      have : xs.find? (fun p => decide (p.1 = k')) = none := List.find?_eq_none.mpr fun p hp => by simpa using hn p hp
      rw [this, if_pos rfl]
      simp
    · rw [if_neg e]
      have : [(k, a)].find? (fun p => decide (p.1 = k')) = none := by simp [Ne.symm e]
      rw [this, Option.or_none]
section
variable {ah : Str → List Str} {rk : Str → Nat}
def Closed (ah : Str → List Str) (l : List Str) : Prop := ∀ pre j post, l = pre ++ j :: post → ∀ x ∈ ah j, x ∈ pre
theorem ways_get (D : Dag jobs6 ah rk) : ∀ (n : Nat) (l : List Str), l.length = n → (∀ j ∈ l, j ∈ jobs6) → Closed ah l → ∀ j, dget (waysL ah l) j = if j ∈ l then some (nOf ah j) else none
  | 0, l, hl, _, _ => fun j => by
    have := List.eq_nil_of_length_eq_zero hl
    subst this
    simp [waysL, dget]
  | n + 1, l, hl, hm, hc => fun j => by
    rcases List.eq_nil_or_concat l with rfl | ⟨pre, k, rfl⟩
    · cases hl
    · rw [List.concat_eq_append] at *
      have ih := ways_get D n pre (by simpa using hl) (fun j hj => hm j (List.mem_append_left _ hj)) (fun p j q e => hc p j (q ++ [k]) (by rw [e]; simp))
      have hk := hc pre k [] rfl
      have hk6 := hm k (by simp)
      have hv : wval ah (waysL ah pre) k = nOf ah k := by
        have hs : ((ah k).map fun o => (dget (waysL ah pre) o).getD 0) = (ah k).map (nOf ah) := List.map_congr_left fun o ho => by rw [ih o, if_pos (hk o ho)]; rfl
        unfold wval
        rw [hs, D.n_step hk6]
        cases q : ah k <;> simp
      rw [waysL_snoc, dget_put, hv, ih j]
      by_cases e : j = k
      · subst e; simp
      · simp [e]
theorem ways_bound (D : Dag jobs6 ah rk) {l : List Str} (hm : ∀ j ∈ l, j ∈ jobs6) (hc : Closed ah l) {pre : List Str} {j : Str} {post : List Str} (e : l = pre ++ j :: post) : ((ah j).map fun o => (dget (waysL ah pre) o).getD 0).sum.natAbs < 2 ^ 200 := by
  have hg := ways_get D pre.length pre rfl (fun j hj => hm j (by rw [e]; exact List.mem_append_left _ hj)) fun p x q e' => hc p x (q ++ j :: post) (by rw [e, e']; simp)
  have hj6 : j ∈ jobs6 := hm j (by rw [e]; simp)
  have hs : ((ah j).map fun o => (dget (waysL ah pre) o).getD 0) = (ah j).map (nOf ah) := List.map_congr_left fun o ho => by rw [hg o, if_pos (hc pre j post e o ho)]; rfl
  rw [hs]
  have h1 := n_small D hj6
  have h2 := D.n_step hj6
  have hp : (16 : Nat) ^ 12 < 2 ^ 200 := by decide
  have h0 : ∀ l : List Str, (∀ x ∈ l, x ∈ jobs6) → 0 ≤ (l.map (nOf ah)).sum := by
    intro l
    induction l with
    | nil => intro _; exact Int.le_refl _
    | cons a r ih => intro h; rw [List.map_cons, List.sum_cons]; have := (n_small D (h a (.head _))).1; have := ih fun x hx => h x (.tail _ hx); omega
  have h3 := h0 (ah j) (D.mem j hj6)
  by_cases q : ah j = []
  · rw [q, List.map_nil, List.sum_nil]; decide
  · rw [if_neg q] at h2
    omega
def allR (ah : Str → List Str) (n : Nat) : List Str := ((List.range n).map (rnd jobs6 ah)).flatten
theorem allR_succ {n : Nat} : allR ah (n + 1) = allR ah n ++ rnd jobs6 ah n := by unfold allR; rw [List.range_succ, List.map_append, List.flatten_append]; simp
theorem mem_allR : ∀ {n : Nat} {j : Str}, j ∈ allR ah n ↔ j ∈ jobs6 ∧ done ah n j = true
  | 0, j => ⟨fun h => (nomatch h), fun ⟨_, h⟩ => (nomatch h)⟩
  | n + 1, j => by
    rw [allR_succ, List.mem_append, mem_allR, mem_rnd]
    constructor
    · rintro (⟨h1, h2⟩ | ⟨h1, h2, _⟩)
      · exact ⟨h1, done_mono h2⟩
      · exact ⟨h1, h2⟩
    · rintro ⟨h1, h2⟩
      cases q : done ah n j with
      | true => exact .inl ⟨h1, rfl⟩
      | false => exact .inr ⟨h1, h2, rfl⟩
theorem allR_nodup : ∀ n, (allR ah n).Nodup
  | 0 => List.nodup_nil
  | n + 1 => by
    rw [allR_succ, List.nodup_append]
    refine ⟨allR_nodup n, jobs6_nodup.sublist rnd_sub, fun a ha b hb e => ?_⟩
    subst e
    have h1 := (mem_allR.mp ha).2
    have h2 := (mem_rnd.mp hb).2.2
    rw [h1] at h2; cases h2
theorem allR_closed (D : Dag jobs6 ah rk) : ∀ n, Closed ah (allR ah n)
  | 0 => fun pre j post e => by
    have : (allR ah 0).length = 0 := rfl
    rw [e] at this; simp at this
  | n + 1 => fun pre j post e x hx => by
    rw [allR_succ] at e
    rcases List.append_eq_append_iff.mp e with ⟨as, h1, h2⟩ | ⟨bs, h1, h2⟩
    · -- pre = allR n ++ as
      rw [h1]
      have hj : j ∈ rnd jobs6 ah n := by rw [h2]; simp
      refine and3 (mem_rnd.mp hj) fun g1 g2 g3 => ?_
      unfold done at g2
      rw [List.all_eq_true] at g2
      exact List.mem_append_left _ (mem_allR.mpr ⟨D.mem j g1 x hx, g2 x hx⟩)
    · cases bs with
      | nil =>
        rw [List.append_nil] at h1
        rw [List.nil_append] at h2
        rw [← h1]
        have hj : j ∈ rnd jobs6 ah n := by rw [← h2]; simp
        refine and3 (mem_rnd.mp hj) fun g1 g2 g3 => ?_
        unfold done at g2
        rw [List.all_eq_true] at g2
        exact mem_allR.mpr ⟨D.mem j g1 x hx, g2 x hx⟩
      | cons b r =>
        rw [List.cons_append, List.cons.injEq] at h2
        (refine and2 h2 ?_; try clear h2; rintro rfl h2)
        exact allR_closed D n pre j r h1 x hx
theorem Dag.stop (D : Dag jobs6 ah rk) : ∃ n, (∀ k < n, rnd jobs6 ah k ≠ []) ∧ rnd jobs6 ah n = [] := by
  have key : ∀ m, (∃ n, (∀ k < n, rnd jobs6 ah k ≠ []) ∧ rnd jobs6 ah n = []) ∨ ∀ k < m, rnd jobs6 ah k ≠ [] := by
    intro m
    induction m with
    | zero => exact .inr fun k hk => absurd hk (Nat.not_lt_zero _)
    | succ m ih =>
      rcases ih with h | h
      · exact .inl h
      · by_cases q : rnd jobs6 ah m = []
        · exact .inl ⟨m, h, q⟩
        · refine .inr fun k hk => ?_
          by_cases e : k = m
          · rw [e]; exact q
          · exact h k (by omega)
  rcases key 7 with h | h
  · exact h
  · obtain ⟨j, hj⟩ := List.exists_mem_of_ne_nil _ (h 6 (by decide))
    have := D.rnd_lt hj
    omega
structure RF (ah : Str → List Str) (rs : List (List Str)) : Prop where
  mem : ∀ r ∈ rs, ∀ j ∈ r, j ∈ jobs6
  at_ : ∀ i r, rs[i]? = some r → r = rnd jobs6 ah i
  srt : sortS rs.flatten = jobs6
  len : rs.flatten.length = 6
  few : rs.length ≤ 6
  cl : Closed ah rs.flatten
  all : ∀ j, j ∈ rs.flatten ↔ j ∈ jobs6
theorem Dag.rf (D : Dag jobs6 ah rk) : RF ah (rounds6 ah) := by
  refine ex1 D.stop fun n zz => and2 zz fun h1 h2 => ?_
  have e := rounds_at D h1 h2
  have hf : (rounds6 ah).flatten = allR ah n := by rw [e]; rfl
  have hall : ∀ j, j ∈ allR ah n ↔ j ∈ jobs6 := fun j => by
    rw [mem_allR]
    exact ⟨fun h => h.1, fun h => ⟨h, D.rnd_nil h2 j h⟩⟩
  have hp : jobs6.Perm (allR ah n) := (List.perm_ext_iff_of_nodup jobs6_nodup (allR_nodup n)).mpr fun j => (hall j).symm
  have hn : n ≤ 6 := by
    by_cases q : n ≤ 6
    · exact q
    · refine ex1 (List.exists_mem_of_ne_nil _ (h1 6 (by omega))) fun j hj => ?_
      have := D.rnd_lt hj
      omega
  refine ⟨fun r hr j hj => ?_, fun i r hi => ?_, ?_, ?_, ?_, ?_, ?_⟩
  · rw [e] at hr
    (have zz := List.mem_map.mp hr; refine ex1 zz ?_; try clear zz; rintro k zz; refine and2 zz ?_; try clear zz; rintro _ rfl)
    exact (mem_rnd.mp hj).1
  · rw [e, List.getElem?_map] at hi
    have hin : i < n := by
      by_cases q : i < n
      · exact q
      · rw [List.getElem?_eq_none (by simpa using q)] at hi; cases hi
    rw [List.getElem?_range hin] at hi
    exact (Option.some.inj hi).symm
  · rw [hf]; exact (sortS_of hp jobs6_sorted).symm
  · rw [hf, ← hp.length_eq, jobs6_len]
  · rw [e, List.length_map, List.length_range]; exact hn
  · rw [hf]; exact allR_closed D n
  · rw [hf]; exact hall
end
section
variable {σ code : Int}
def kvP (st : List (Str × Str)) : List (Str × List Str) := jobs6.map fun j => (j, ahOf st j)
def kvB (st : List (Str × Str)) : List (Str × List Str) := jobs6.map fun j => (j, beOf st j)
def kvT (st : List (Str × Str)) : List (Str × List Str) := st.reverse.map (fun p => (p.1, [p.2, p.2])) ++ jobs6.map fun j => (j, [])
theorem rows_le {kvs : List (Str × List Str)} {n : Nat} (h : ∀ p ∈ kvs, p.2.length ≤ n) : rowsLen kvs ≤ n * kvs.length := by
  unfold rowsLen
  induction kvs with
  | nil => exact Nat.zero_le _
  | cons a r ih =>
    rw [List.map_cons, List.sum_cons, List.length_cons, Nat.mul_succ]
    have := h a (.head _)
    have := ih fun p hp => h p (.tail _ hp)
    omega
theorem ah_len {st : List (Str × Str)} {j : Str} (h : st.length ≤ 15) : (ahOf st j).length ≤ 15 := by
  unfold ahOf; rw [List.length_map]; exact Nat.le_trans (List.length_filter_le _ _) h
theorem be_len {st : List (Str × Str)} {j : Str} (h : st.length ≤ 15) : (beOf st j).length ≤ 15 := by
  unfold beOf; rw [List.length_map]; exact Nat.le_trans (List.length_filter_le _ _) h
theorem plan_rs (σ code : Int) : ∃ pl, RS (ahOf (steps6 (hid6 σ) code)) pl (gAbs (kvP (steps6 (hid6 σ) code)) []) 0 (aReady (gAbs (kvP (steps6 (hid6 σ) code)) [])) ∧ ∀ e ∈ gAbs (kvP (steps6 (hid6 σ) code)) [], ∀ k ∈ e.2.2, k ∈ (gAbs (kvP (steps6 (hid6 σ) code)) []).map (·.1) ∧ (hid6 σ).idxOf e.1 < (hid6 σ).idxOf k := by
  refine ex1 (gtold (kvP (steps6 (hid6 σ) code))) fun pl T => ?_
  have D := dag_ah σ code
  have hmem : ∀ {y row}, (y, row) ∈ kvP (steps6 (hid6 σ) code) ↔ y ∈ jobs6 ∧ row = ahOf (steps6 (hid6 σ) code) y := fun {y row} => by
    unfold kvP
    rw [List.mem_map]
    constructor
    · rintro ⟨j, hj, e⟩; cases e; exact ⟨hj, rfl⟩
    · rintro ⟨h1, rfl⟩; exact ⟨y, h1, rfl⟩
  refine ⟨pl, T.start (fun k => ?_) (fun y hy x => ?_) D.mem ?_, T.rank (rank := fun j => (hid6 σ).idxOf j) fun p hp x hx => ?_⟩
  · constructor
    · intro hk; exact .inl ⟨_, hmem.mpr ⟨hk, rfl⟩⟩
    · rintro (⟨row, h⟩ | ⟨⟨y, row⟩, h, hx⟩)
      · exact (hmem.mp h).1
      · (have zz := hmem.mp h; refine and2 zz ?_; try clear zz; rintro h1 rfl)
        exact D.mem y h1 k hx
  · constructor
    · rintro ⟨row, h, hx⟩
      (have zz := hmem.mp h; refine and2 zz ?_; try clear zz; rintro _ rfl)
      exact hx
    · intro hx; exact ⟨_, hmem.mpr ⟨hy, rfl⟩, hx⟩
  · refine Nat.le_trans (rows_le (n := 15) fun p hp => ?_) ?_
    · refine and2 (hmem.mp (show (p.1, p.2) ∈ _ from hp)) fun _ e => ?_
      rw [e]; exact ah_len steps6_len
    · unfold kvP; rw [List.length_map, jobs6_len]; decide
  · refine and2 (hmem.mp (show (p.1, p.2) ∈ _ from hp)) fun h1 e => ?_
    rw [e] at hx
    exact D.lt p.1 h1 x hx
theorem turn_rs (σ code : Int) : ∃ pl, RS (beOf (steps6 (hid6 σ) code)) pl (gAbs (kvT (steps6 (hid6 σ) code)) []) 0 (aReady (gAbs (kvT (steps6 (hid6 σ) code)) [])) ∧ ∀ e ∈ gAbs (kvT (steps6 (hid6 σ) code)) [], ∀ k ∈ e.2.2, k ∈ (gAbs (kvT (steps6 (hid6 σ) code)) []).map (·.1) ∧ 5 - (hid6 σ).idxOf e.1 < 5 - (hid6 σ).idxOf k := by
  refine ex1 (gtold (kvT (steps6 (hid6 σ) code))) fun pl T => ?_
  have D := dag_be σ code
  have hmem : ∀ {y row}, (y, row) ∈ kvT (steps6 (hid6 σ) code) ↔ (∃ z, (y, z) ∈ steps6 (hid6 σ) code ∧ row = [z, z]) ∨ (y ∈ jobs6 ∧ row = []) := fun {y row} => by
    unfold kvT
    rw [List.mem_append, List.mem_map, List.mem_map]
    constructor
    · rintro (⟨p, hp, e⟩ | ⟨j, hj, e⟩)
      · cases e; exact .inl ⟨p.2, List.mem_reverse.mp hp, rfl⟩
      · cases e; exact .inr ⟨hj, rfl⟩
    · rintro (⟨z, h1, rfl⟩ | ⟨h1, rfl⟩)
      · exact .inl ⟨(y, z), List.mem_reverse.mpr h1, rfl⟩
      · exact .inr ⟨y, h1, rfl⟩
  refine ⟨pl, T.start (fun k => ?_) (fun y hy x => ?_) D.mem ?_, T.rank (rank := fun j => 5 - (hid6 σ).idxOf j) fun p hp x hx => ?_⟩
  · constructor
    · intro hk; exact .inl ⟨_, hmem.mpr (.inr ⟨hk, rfl⟩)⟩
    · rintro (⟨row, h⟩ | ⟨⟨y, row⟩, h, hx⟩)
      · rcases hmem.mp h with ⟨z, h1, _⟩ | ⟨h1, _⟩
        · exact (step_idx h1).1
        · exact h1
      · rcases hmem.mp h with ⟨z, h1, rfl⟩ | ⟨h1, rfl⟩
        · simp only [List.mem_cons, List.not_mem_nil, or_false, or_self] at hx
          rw [hx]; exact (step_idx h1).2.1
        · cases hx
  · constructor
    · rintro ⟨row, h, hx⟩
      rcases hmem.mp h with ⟨z, h1, rfl⟩ | ⟨h1, rfl⟩
      · simp only [List.mem_cons, List.not_mem_nil, or_false, or_self] at hx
        rw [hx]; exact mem_be.mpr h1
      · cases hx
    · intro hx; exact ⟨_, hmem.mpr (.inl ⟨x, mem_be.mp hx, rfl⟩), by simp⟩
  · refine Nat.le_trans (rows_le (n := 2) fun p hp => ?_) ?_
    · rcases hmem.mp (show (p.1, p.2) ∈ _ from hp) with ⟨z, _, e⟩ | ⟨_, e⟩ <;> rw [e] <;> simp
    · unfold kvT
      rw [List.length_append, List.length_map, List.length_map, List.length_reverse, jobs6_len]
      have := steps6_len (h := hid6 σ) (code := code)
      omega
  · rcases hmem.mp (show (p.1, p.2) ∈ _ from hp) with ⟨z, h1, e⟩ | ⟨_, e⟩
    · rw [e] at hx
      simp only [List.mem_cons, List.not_mem_nil, or_false, or_self] at hx
      subst hx
      have h2 := step_idx h1
      exact D.lt p.1 h2.1 x (mem_be.mpr h1)
    · rw [e] at hx; cases hx
theorem gAbs_snoc {l : List (Str × List Str)} {p : Str × List Str} : gAbs (l ++ [p]) [] = aAdd (gAbs l []) p.1 p.2 := by unfold gAbs; rw [List.foldl_append]; rfl
end
end
end
section
section
theorem rules_Law2 : True := by
  k_with_none
  (k_with "omega" => lia)
  (k_with "k_room" => ktr_room)
  (k_with "k_all" => first | exact ne_of_allLt (by assumption) | k_asm | ((with_reducible show ∀ p ∈ setL _ _ _, _); refine all_setL ?_; k_all))
  (k_with "k_ne" => first | assumption | exact Ne.symm (by assumption) | exact ne_of_lt_mem (by assumption) (by assumption) | exact ne_of_lt_mem' (by assumption) (by assumption))
  (k_with "k_mem" => first | with_reducible exact List.mem_cons_self | ((with_reducible refine' List.mem_cons_of_mem _ ?_); k_mem))
  (k_with "k_mem" => ((with_reducible refine' memG ?_); first | exact mem_setL_self (by first | with_reducible assumption | k_mem) | exact memS (by first | with_reducible assumption | k_mem) (by k_ne)))
  (k_with "k_upd" => exact upd_setL (by assumption) (by k_mem))
  (k_with "k_upd" => ((with_reducible show Upd _ _ _ (setL _ _ _) _); exact upd_setL (by first | exact setL_nodup (by assumption) | exact setL_nodup (setL_nodup (by assumption)) | exact setL_nodup (setL_nodup (setL_nodup (by assumption))) | exact setL_nodup (setL_nodup (setL_nodup (setL_nodup (by assumption))))) (by k_mem)))
  (k_with "k_updF" => exact updF_setL (by assumption) (by k_mem))
  (k_with "k_updF" => ((with_reducible show UpdF _ _ (setL _ _ _) _); exact updF_setL (by first | exact setL_nodup (by assumption) | exact setL_nodup (setL_nodup (by assumption)) | exact setL_nodup (setL_nodup (setL_nodup (by assumption))) | exact setL_nodup (setL_nodup (setL_nodup (setL_nodup (by assumption))))) (by k_mem)))
  (k_with "getMethod ref" => (k_here; (with_reducible show wpAny _ _ (getMethod (Value.ref _) (Str.ofString "get") _) _ _ _); k_dflt (refine kdg_method (knd := PySem.strKind _ _) (by k_asm) (by k_mem) (by k_asm) ?_)))
  (k_with "call builtin:dict.get" => (k_here; k_dflt (refine kdg_get1 (knd := PySem.strKind _ _) (by k_asm) (by k_mem) (by k_asm) (by k_asm) (strKind_is _ _ _ _) _ (by k_asm) ?_); (try dsimp only [Option.getD])))
  (k_with "setItem ref str" => (k_here; k_dflt (refine' kda_set (knd := PySem.strKind _ _) ?zzF ?zzN ?zzU ?zzd (strKind_is _ _ _ _) ?zzz ?_; (case zzF => k_asm); (case zzN => k_asm); (case zzU => k_updF); (case zzd => k_asm); (case zzz => k_asm)); intro zh zo zF zN zd; (try dsimp only at zN)))
  (k_with "call builtin:len" => (k_here; (with_reducible show wpAny _ _ (call (Value.builtin "len") [Value.ref _]) _ _ _); k_dflt (first | (refine' len_tupN ?zzk1 ?zzk2 ?zzk3 ?_; (case zzk1 => k_asm); (case zzk2 => k_mem); (case zzk3 => assumption)) | (refine' len_listN ?zzk1 ?zzk2 ?zzk3 ?_; (case zzk1 => k_asm); (case zzk2 => k_mem); (case zzk3 => assumption)))))
  (k_with "call builtin:list.append" => (k_here; (with_reducible show wpAny _ _ (call (Value.builtin _) [Value.ref _, _]) _ _ _); k_dflt (refine' append_K ?zzk1 ?zzk2 ?zzk3 ?_ ?zzz; (case zzk1 => k_asm); (case zzk2 => k_asm); (case zzk3 => k_upd); (case zzz => first | assumption | size_fits); k_whole); intro zh zF zN; (try k_sweep)))
  (k_with "call type:bool" => (k_here; (with_reducible show wpAny _ _ (call _ [Value.ref _]) _ _ _); k_dflt (refine' bool_listN ?zzk1 ?zzk2 ?zzk3 ?_; (case zzk1 => k_asm); (case zzk2 => k_mem); (case zzk3 => assumption))))
  (k_with "call type:tuple" => (k_here; (with_reducible show wpAny _ _ (call (Value.type _) [Value.ref _]) _ _ _); k_dflt (refine' tuple_ofListN ?zzk1 ?zzk2 ?zzk3 ?zzk4 ?_; (case zzk1 => k_asm); (case zzk2 => k_asm); (case zzk3 => k_mem); (case zzk4 => assumption); k_whole); intro D' h' F' N' l1; (try k_lt l1); (try k_sweep)))
  (k_with "call type:list" => (k_here; (with_reducible show wpAny _ _ (call (Value.type _) [Value.ref _]) _ _ _); k_dflt (refine' list_ofTupN ?zzk1 ?zzk2 ?zzk3 ?zzk4 ?_; (case zzk1 => k_asm); (case zzk2 => k_asm); (case zzk3 => k_mem); (case zzk4 => assumption); k_whole); intro D' c' h' F' N' l1; (try k_lt l1); (try k_sweep)))
  (k_with "call builtin:list.clear" => (k_here; (with_reducible show wpAny _ _ (call (Value.builtin _) [Value.ref _]) _ _ _); k_dflt (refine' clear_listN ?zzk1 ?zzk2 ?zzk3 ?zzk4 ?_; (case zzk1 => k_asm); (case zzk2 => k_asm); (case zzk3 => k_updF); (case zzk4 => assumption); k_whole); intro zh zn zF zN; (try dsimp only at zN); (try k_sweep)))
  (k_with "subscriptTail" => (k_here; (with_reducible show wpAny _ _ (subscriptTail _ _ (Value.ref _) (Value.str _ _)) _ _ _); k_dflt (refine' kda_item (knd := PySem.strKind _ _) ?zzk1 ?zzk2 ?zzk3 (strKind_is _ _ _ _) ?zzk5 ?_ ?zzk7 ?zzk8; (case zzk1 => k_asm); (case zzk2 => k_mem); (case zzk3 => k_asm); (case zzk5 => k_asm); (case zzk7 => with_unfolding_all rfl); (case zzk8 => intro _; with_unfolding_all rfl); k_whole)))
  (k_with "tb_start" => first | decide | (dsimp only [Gm.set, Gm.rd, Γc, btab]; decide))
  (k_with "tb_rel" => first | with_reducible exact List.mem_cons_self | with_reducible exact set_self | (with_reducible refine List.mem_cons_of_mem _ ?_; tb_rel) | (with_reducible refine f_mem ?_ (by dsimp only; decide); tb_rel) | (with_reducible refine set_ne ?_ (by dsimp only; decide); tb_rel) | (with_reducible refine rd_mem ?_; tb_rel) | (with_reducible refine rd_mmem ?_; tb_rel) | (with_reducible refine c_own ?_; tb_rel) | (with_reducible refine c_up ?_ (by dsimp only; decide); tb_rel) | (with_reducible refine c_mup ?_ (by dsimp only; decide); tb_rel) | (with_reducible refine ini_mem (by assumption) ?_; tb_rel))
  (k_with "ktr_rel" => first | exact forall_nil | (refine forall_cons ?_ ?_; (first | tb_rel | skip); (first | ktr_rel | skip)))
  trivial
theorem pfn_top {β : Type} {prog : Program} {w : World} {A : Around} {s : Shared} {f : Addr} {o : Obj} {fd : FuncData} {body : List Stmt} {binds : List (Str × Value)} {vals : List Value} {vars : List Vb} {mg mb : Str → Option Value} {Z : List Addr} {S : Rp β} {b : β} (hroom : A.depth < recursionLimit) (ho : s.heap.get? f = some o) (hdata : o.data = .func fd) (hlim : s.heap.NoLimit) (hcd : s.heap.CodeRec fd.code fd.qualname) (hbody : fd.body = .stmts body) (hbind : bindArgs fd ⟨vals, []⟩ = pure binds) (hclo : fd.closure = [])
    (hkind : ∀ n, ∀ x ∈ binds, fd.scope.names.lookup x.1 = some .local ∨ (fd.scope.names.lookup x.1 = some .cell ∧ ((cellsFrom n fd.scope.names []).lookup x.1).isSome = true))
    (hgl : fd.globals = mainGlobals) (hbl : fd.builtins = builtinsNs) (hk : fd.scope.kind = .function) (hnd : ((cellsFrom 0 fd.scope.names []).map (·.1)).Nodup) (hg : s.heap.Ns mainGlobals mg) (hb : s.heap.Ns builtinsNs mb)
    (hcdn : ∀ y ∈ fd.scope.names, (y.1 == ("__classdict__" : Str)) = false) (hZ : ∀ z ∈ Z, ∃ o, s.heap.get? z = some o)
    (hvars : ∀ L, ∀ vb ∈ vars, ∃ v, bound (callEnvC fd L f).kindOf binds vb.x v ∧ vb.R.rel vb.a (hid Z s.heap) v)
    (h : ∀ L Γ, Ini mg mb fd.scope s.heap vars Γ → HR prog w (A.deeper (callEnvC fd L f)) (callEnvC fd L f) Γ [] body S b)
    (hco : fd.scope.isCoroutine = false) (hgen : fd.scope.isGenerator = false) :
    wpAny (model prog w) A (call (.ref f) vals) (fun r s' => Kp s s' ∧ S.rel b (hid Z s'.heap) r) NoExc s :=
  pfn_enter hroom ho hdata hlim hcd hbody hbind hclo hkind hgl hbl hk hnd hg hb hcdn hZ hvars (fun L => h L _ ⟨rfl, rfl, rfl, rfl, rfl, fun _ h => h⟩) hco hgen
theorem here_top {p : Program} {loose : List Str} {mean : ExcName → Option Value} {mg mb : Str → Option Value} {h : Heap} (T : Top p loose mean mg mb h) (fd : FuncData) (L f : Addr) (hk : fd.scope.kind = .function) (hg : fd.globals = mainGlobals) (hb : fd.builtins = builtinsNs) : Here p loose mean mg mb callerA h [] h L (callerA.deeper (callEnvC fd L f)) (callEnvC fd L f) := by
  have e : callEnvC fd L f = envX fd.qualname fd.scope L f fd.code (cellsFrom (L + 1) fd.scope.names []) := by
    unfold callEnvC; rw [hg, hb]; rfl
  rw [e]
  exact ⟨⟨callerA.depth + 1, callerA.units + 3, _, _, _, _, _, _, rfl, rfl, hk, by decide, by decide⟩, below_caller h, T⟩
section
variable {p : Program} {loose : List Str} {mean : ExcName → Option Value} {mg mb : Str → Option Value} {A₀ : Around} {base : Heap} {outer : List Env} {h₀ : Heap} {L : Addr} {A : Around} {env : Env}
  {w : World} {Γ : Gm} {σ : Srt Str} {res : List Res} {pl : Str} {px pf pg pos gpos : Pos} {ah pn : Str → List Str} {rk rank : Str → Nat}
theorem ex_new (H : Here p loose mean mg mb A₀ base outer h₀ L A env) (e0 : Γ.h₀ = h₀) (hf : GFn Γ "TopologicalSorter" (.ref 137)) :
    (Mine.hd.heap_1 w.params).In h₀ → EX PySem.Challenge.rw_mr0282_02.prog w A env Γ res (.Call (.Name "TopologicalSorter" pf) [] [] pos) fun o r => ∃ σ', o = ⟨Value, RIs, .ref σ'.self⟩ ∧ r = SR w σ' :: res ∧ σ'.nodes = [] ∧ σ'.rdy = none ∧ σ'.pas = 0 ∧ σ'.fin = 0 := by
  k_fill
  intro X Hd Z s at_
  refine Call_Name (trees := []) (by rfl) ((ev_gfn hf).then at_.cx fun g s₁ kp₁ c₁ hg => ?_)
  cases hg
  have at₁ := at_.keeps kp₁
  obtain ⟨⟨dp, un, gd, cn, cs, a, ccd, cl, rfl, rfl, hk, hdp, hun⟩, B, T⟩ := H
  have eL : Γ.L = L := at_.loc.symm
  subst e0 eL
  refine ex1 at₁.cx.fr fun m F => ?_
  show wpAny _ _ (callWith pos (.ref 137) [] (backTo pos (starEach [] (envX cn cs Γ.L a ccd cl))) []) _ _ _
  k_dflt (refine' callWith_K0 ?k1 ?k2 ?_; (case k1 => exact X.keeps F.keep); (case k2 => k_is))
  refine new_spec B F T hk ledger_news (by omega) (by omega) (fun h' tk' news' σ' F' N' S' u1 u2 e1 e2 e3 e4 => ?_) X
  refine ex1 (at₁.fresh (tk := tk') (fun m' G => ns_uniq F.ns G.ns ▸ F') N' S' u1 u2) fun Z' zz => and2 zz fun st' at' => ?_
  exact ⟨⟨Value, RIs, .ref σ'.self⟩, _, Z', ⟨σ', rfl, rfl, e1, e2, e3, e4⟩, kp₁.stp.trans st', at', rfl⟩
theorem ex_rounds (H : Here p loose mean mg mb A₀ base outer h₀ L A env) (hdu : A.depth < 690 ∧ A.units < 6900) (ho : frs outer = []) (TB : Top p loose mean mg mb base) (hb : h₀ = base) (e0 : Γ.h₀ = h₀) (hw : GFn Γ "_law_rounds" (.ref 155)) (hp : Vb.mk pl Value RIs (.ref σ.self) ∈ Γ.vars)
    (D : Dag jobs6 ah rk) (hr : σ.rdy = none) (hpas : σ.pas = 0) (hfin : σ.fin = 0) (hlen : σ.nodes.length ≤ 1000) (hsl : SuccLe σ 100000) (hrun : RS ah pn σ.abs 0 (aReady σ.abs)) (hrank : ∀ e ∈ σ.abs, ∀ k ∈ e.2.2, k ∈ σ.abs.map (·.1) ∧ rank e.1 < rank k)
    (hs : autoParam (starEach [.Name pl px] env = [(false, eval (.Name pl px) env)]) autoA) (hd : autoParam ((pl == ("__debug__" : Str)) = false) autoC) :
    (Mine.hd.heap_1 w.params).In h₀ → EX PySem.Challenge.rw_mr0282_02.prog w A env Γ (SR w σ :: res) (.Call (.Name "_law_rounds" pf) [.Name pl px] [] pos) fun o r => o = ⟨_, RList (RList RStr), rounds6 ah⟩ ∧ r = res := by
  k_fill
  intro X Hd Z s at_
  refine Call_Name (trees := backTo pos (starEach [.Name pl px] env)) rfl ((ev_gfn hw).then at_.cx fun g s₁ k₁ c₁ hg => ?_)
  cases hg
  have at₁ := at_.keeps k₁
  have eL : Γ.L = L := by obtain ⟨⟨dp, un, gd, cn, cs, a, ccd, cl, rfl, rfl, hk, hdp, hun⟩, _, _⟩ := H; exact at_.loc.symm
  k_dflt (refine' callWith_K X ?k2 ?_ hs; (case k2 => k_is))
  rw [hs]
  refine ex1 (at₁.cx.vis _ hp) fun v zz => and2 zz fun hv1 hv2 => ?_
  cases (show v = .ref σ.self from hv2)
  refine spliced_cons (wpAny_Name (hv1.load at₁.cx.fn (spliced_nil ?_)) hd)
  refine ex1 at₁.cx.fr fun m F => ?_
  refine ⟨X.keeps (e0 ▸ F.keep), wpAny_mono (rounds_call (rank := rank) H ⟨by omega, by omega⟩ ho TB hb e0 eL at₁ D hr hpas hfin hlen hsl hrun hrank X) (fun r s₅ q => ?_) fun _ _ x => x⟩
  (refine ex1 q fun Z₅ zz => and3 zz fun st₅ at₅ hr => ?_; try clear q)
  exact ⟨_, res, Z₅, ⟨rfl, rfl⟩, k₁.stp.trans st₅, at₅, hr⟩
end
theorem cell_small {script : List Int} {c : Int} (h : c ∈ (script.take (12 : Int).toNat).map (fun c : Int => c.fmod (10 ^ (6 : Int).toNat))) : 0 ≤ c ∧ c < 1000000 := by
  obtain ⟨x, _, rfl⟩ := List.mem_map.mp h
  have e : (10 : Int) ^ (6 : Int).toNat = 1000000 := by decide
  rw [e]
  exact ⟨Int.fmod_nonneg_of_pos _ (by decide), Int.fmod_lt_of_pos _ (by decide)⟩
theorem sum_bound {l : List Int} (h : ∀ c ∈ l, 0 ≤ c ∧ c < 1000000) : 0 ≤ l.sum ∧ l.sum ≤ 1000000 * l.length := by
  induction l with
  | nil => simp
  | cons a r ih =>
    have h1 := h a (.head _)
    have h2 := ih fun x hx => h x (.tail _ hx)
    rw [List.sum_cons, List.length_cons]
    omega
theorem bit15 {n : Int} (h : 0 ≤ n ∧ n < 15) : (2 : Int) ^ n.toNat ≠ 0 ∧ ((2 : Int) ^ n.toNat).natAbs < 1073741824 := by
  have key : ∀ m : Fin 15, (2 : Int) ^ m.val ≠ 0 ∧ ((2 : Int) ^ m.val).natAbs < 1073741824 := by decide
  exact key ⟨n.toNat, by omega⟩
theorem cw_walk : PySem.Challenge.rw_mr0282_02.Holds := by
  refine Mine.hd ?_
  k_fill
  intro w s₀ s₁ mg mb G Y fa o pm cd doc dV kV ho hd hcd hD hmg hg args vals as hpre hlay hrd hwl hlo
  have X : (Mine.hd.heap_1 w.params).In s₁.heap := kIn_of Y
  refine Ground.open G ?_
  intro T _ _ _ _
  obtain rfl : dV = .none := hD.pos.elim (·.2) fun h => absurd rfl h.1
  obtain rfl : kV = .none := hD.kw.elim (·.2) fun h => absurd rfl h.1
  clear hD hmg
  wrow_args hpre hlay hrd hwl hlo
  rename_i script _ _ _ _ _ _ _ l vs _ hL _ _ _ hI _ hlen _
  show wpAny (model PySem.Challenge.rw_mr0282_02.prog w) callerA (call (Value.ref fa) [Value.ref l]) _ _ s₁
  refine wpAny_mono (pfn_top (A := callerA) (S := RBool) (b := true) (Z := []) (mg := mg) (mb := mb) (vars := [⟨"script", _, RList RInt, script⟩]) (binds := [("script", .ref l)]) ?hroom ho hd T.nolimit hcd rfl ?hbind rfl ?hkind rfl rfl rfl ?hnd T.g T.b ?hcdn ?hZ ?hvars ?h rfl rfl) ?fin (fun _ _ x => x.elim)
  case hroom => decide
  case hbind => rfl
  case hkind => intro n y hy; rw [List.mem_singleton.mp hy]; exact .inl rfl
  case hnd => dsimp only [docDef]; decide
  case hcdn => dsimp only [docDef]; decide
  case hZ => intro z hz; cases hz
  case hvars =>
    intro L vb hv'
    rw [List.mem_singleton.mp hv']
    exact ⟨_, .inl ⟨rfl, rfl⟩, is_rlist (by simp) hL (of_ints hI)⟩
  case fin =>
    rintro v s' ⟨kp, rfl⟩
    (refine ex2 kp ?_; try clear kp; rintro h' tk zz; refine and2 zz ?_; try clear zz; rintro rfl hk)
    refine ⟨.inl ⟨_, .bool true, [], rfl, fun _ => rfl, .bool true, postW_of (X := true) ?_ ?_ rfl, fun _ => ⟨.nil, fun _ h => (nomatch h)⟩⟩, .of_keep hk, rfl, .of_eq hg⟩
    · rfl
    · with_unfolding_all rfl
  case h =>
    intro L Γ H
    dsimp only [docDef] at H ⊢
    have B : Bt mg mb := bt_of T X rfl
    have sz : sizeLine = 16777216 := rfl
    have hlen63 : script.length ≤ 63 := by omega
    have Hn : ∀ fd : FuncData, fd.scope.kind = .function → fd.globals = mainGlobals → fd.builtins = builtinsNs → Here _ _ _ mg mb callerA s₁.heap [] s₁.heap L (callerA.deeper (callEnvC fd L fa)) (callEnvC fd L fa) := fun fd a b c => here_top T fd L fa a b c
    clear hd hcd ho
    have hdp : ∀ e : Env, (callerA.deeper e).depth < 690 := fun e => by show callerA.depth + 1 < 690; decide
    have hun : ∀ e : Env, (callerA.deeper e).units + 64 < cLine ∧ (callerA.deeper e).units < 6900 := fun e => ⟨by show callerA.units + 3 + 64 < cLine; decide, by show callerA.units + 3 < 6900; decide⟩
    have mR : mg "_law_rounds" = some (.ref 155) := mg_of X T.g (by k_is)
    have mW : mg "_law_ways" = some (.ref 170) := mg_of X T.g (by k_is)
    have mO : mg "_law_told" = some (.ref 175) := mg_of X T.g (by k_is)
    have mS : mg "_law_stepped" = some (.ref 160) := mg_of X T.g (by k_is)
    have mL : mg "_law_letters" = some (.ref 165) := mg_of X T.g (by k_is)
    have mI : mg "Int2AP" = some (.ref 148) := mg_of X T.g (by k_is)
    have mTS : mg "TopologicalSorter" = some (.ref 137) := mg_of X T.g (by k_is)
    have DW : ∀ {vbs mv : List Vb} {Γ : Gm}, H.fam vbs Γ → IsDef (Γ.rd mv) 170 := fun {vbs mv Γ} h => by refine' h.isdef X ?ho; case ho => k_is
    have DO : ∀ {vbs mv : List Vb} {Γ : Gm}, H.fam vbs Γ → IsDef (Γ.rd mv) 175 := fun {vbs mv Γ} h => by refine' h.isdef X ?ho; case ho => k_is
    have DS : ∀ {vbs mv : List Vb} {Γ : Gm}, H.fam vbs Γ → IsDef (Γ.rd mv) 160 := fun {vbs mv Γ} h => by refine' h.isdef X ?ho; case ho => k_is
    have DL : ∀ {vbs mv : List Vb} {Γ : Gm}, H.fam vbs Γ → IsDef (Γ.rd mv) 165 := fun {vbs mv Γ} h => by refine' h.isdef X ?ho; case ho => k_is
    have DI : ∀ {vbs mv : List Vb} {Γ : Gm}, H.fam vbs Γ → IsDef (Γ.rd mv) 148 := fun {vbs mv Γ} h => by refine' h.isdef X ?ho; case ho => k_is
    have nolim : ∀ {vbs : List Vb} {Γ : Gm}, H.fam vbs Γ → (Γ.rd []).h₀.NoLimit := fun {vbs Γ} h => by have e : (Γ.rd []).h₀ = s₁.heap := h.h₀; rw [e]; exact T.nolimit
    have ascii : (("abcdef" : Str).cps.all fun c => decide (c < 128)) = true := by decide +kernel
    have hjl : (chars "abcdef").length ≤ sizeLine := by rw [show (chars "abcdef").length = 6 from jobs6_len, sz]; decide
    have hget6 : ∀ i : Int, 0 ≤ i → i < 6 → (chars "abcdef")[i.toNat]? = some (jobs6.getD i.toNat "") := fun i h0 h1 => by
      have : i.toNat < jobs6.length := by rw [jobs6_len]; omega
      rw [getD_at this]
      exact List.getElem?_eq_getElem this
    have hcs : ∀ c ∈ (script.take (12 : Int).toNat).map (fun c : Int => c.fmod (10 ^ (6 : Int).toNat)), 0 ≤ c ∧ c < 1000000 := fun c hc => cell_small hc
    generalize hC : (script.take (12 : Int).toNat).map (fun c : Int => c.fmod (10 ^ (6 : Int).toNat)) = cells at hcs
    have hCl : cells.length ≤ 12 := by rw [← hC, List.length_map, List.length_take]; exact Nat.min_le_left _ _
    have hsum := sum_bound hcs
    have hp200 : (2 : Nat) ^ 40 ≤ 2 ^ 200 := Nat.pow_le_pow_right (by decide) (by decide)
    have hp40 : (2 : Nat) ^ 40 = 1099511627776 := by decide
    refine hr_cons (hs_set (mv := []) (a := cells) H (ev_eq (ev_lmap (R := RInt) (f := fun c : Int => c.fmod (10 ^ (6 : Int).toNat)) rfl (evi_list rfl (ev_upto (a := 12) (ev_name (R := RList RInt) (a := script) (by tb_rel)) ev_int (by decide) (by omega))) (stat_of H.cs rfl (by decide)) (bnd_local rfl) (fun c hc => ev_mod (ev_intf (Bt.cfn (mv := []) B H (by tb_start) (by tb_start)) (ev_name (R := RInt) (a := c) (by tb_rel))) (ev_pow ev_int ev_int (by decide) (by decide) (by decide)) (by decide)) (by rw [List.length_take]; exact Nat.le_trans (Nat.min_le_left _ _) (by rw [sz]; decide))) hC) ⟨.inr ⟨rfl, _, rfl⟩, by decide⟩ forall_nil) ?_
    rintro Γ₁ _ ⟨H1, rfl⟩
    generalize hCode : 29454 + ((enumd cells).map fun p : Int × Int => p.2 * (p.1 + 1)).sum = code
    refine hr_cons (hs_set (mv := []) (R := RInt) (a := code) H1 (ev_eq (ev_add (a := 29454) ev_int (ev_sum (xs := (enumd cells).map fun p : Int × Int => p.2 * (p.1 + 1)) rfl (Bt.fn B H1 (by tb_start) (by tb_start)) (Ev.r (ev_lmap (f := fun p : Int × Int => p.2 * (p.1 + 1)) rfl (evi_enum rfl (Bt.fn B H1 (by tb_start) (by tb_start)) (ev_name (R := RList RInt) (a := cells) (by tb_rel))) (stat_of H1.cs rfl (by decide)) (bnd_pair rfl rfl (by decide)) (fun p hp => ev_mul (ev_name (R := RInt) (a := p.2) (by tb_rel)) (ev_add (ev_name (R := RInt) (a := p.1) (by tb_rel)) ev_int) ?mul1) (by rw [enumd_length, sz]; omega))))) hCode) ⟨.inr ⟨rfl, _, rfl⟩, by decide⟩ forall_nil) ?_
    case mul1 =>
      have h1 := enumd_idx hp
      have h2 := hcs _ h1.2.2
      exact mulOk (by omega) (by omega)
    rintro Γ₂ _ ⟨H2, rfl⟩
    generalize hS : cells.sum = σc at hsum
    refine hr_cons (hs_set (mv := []) (R := RList RStr) (a := hid6 σc) H2 (ev_lmap (f := fun p : Int => jobs6.getD ((σc + p).fmod 6).toNat "") rfl (evi_range1 (a := 6) rfl (Bt.fn B H2 (by tb_start) (by tb_start)) ev_int (by decide) (by decide)) (stat_of H2.cs rfl (by decide)) (bnd_local rfl) (fun p hp => ev_sitem (ev_str (x := "abcdef")) (ev_mod (ev_add (ev_eq (ev_sum rfl (Bt.cfn (mv := []) B H2 (by tb_start) (by tb_start)) (Ev.r (ev_name (R := RList RInt) (a := cells) (by tb_rel)))) hS) (ev_name (R := RInt) (a := p) (by tb_rel))) ev_int (by decide)) (Int.fmod_nonneg_of_pos _ (by decide)) (Int.lt_trans (Int.fmod_lt_of_pos _ (by decide)) (by decide)) (hget6 _ (Int.fmod_nonneg_of_pos _ (by decide)) (Int.fmod_lt_of_pos _ (by decide)))) (by rw [irange_len, sz]; decide)) ⟨.inr ⟨rfl, _, rfl⟩, by decide⟩ forall_nil) ?_
    rintro Γ₃ _ ⟨H3, rfl⟩
    have h6 := hid6_len σc
    have hgetH : ∀ i : Int, 0 ≤ i → i < 6 → (hid6 σc)[i.toNat]? = some ((hid6 σc).getD i.toNat "") := fun i h0 h1 => by
      rw [getD_at (by omega), List.getElem?_eq_getElem (by omega)]
    refine hr_cons (hs_cu (mv := []) H3 (cu_list2 (R := RTup RStr RStr) (xs := irange 0 1 6) (ys := fun late : Int => irange 0 1 late.toNat) (f := fun late early : Int => ((hid6 σc).getD early.toNat "", (hid6 σc).getD late.toNat "")) rfl (evi_range1 (a := 6) rfl (Bt.fn B H3 (by tb_start) (by tb_start)) ev_int (by decide) (by decide)) (stat_of H3.cs rfl (by decide)) (bnd_local rfl) (fun late hl => evi_range1 (a := late) rfl (Bt.cfn (mv := []) B H3 (by tb_start) (by tb_start)) (ev_name (R := RInt) (a := late) (by tb_rel)) (by have := irange_mem hl; omega) (by have := irange_mem hl; omega)) (bnd_local rfl) (fun late vb hvb => by rw [List.mem_singleton.mp hvb]; exact ⟨by dsimp only; decide, rfl⟩) (fun late hl early he => ev_tup (ev_item (ev_name (R := RList RStr) (a := hid6 σc) (by tb_rel)) (ev_name (R := RInt) (a := early) (c_own (.head _))) (irange_mem he).1 (hgetH _ (irange_mem he).1 (by have := irange_mem he; have := irange_mem hl; omega)) (by rw [sz]; omega)) (ev_item (ev_name (R := RList RStr) (a := hid6 σc) (by tb_rel)) (ev_name (R := RInt) (a := late) (c_own (List.mem_append_right _ (.head _)))) (irange_mem hl).1 (hgetH _ (irange_mem hl).1 (by have := irange_mem hl; omega)) (by rw [sz]; omega))) ?len2) ⟨.inl rfl, by decide⟩ forall_nil rfl (fun _ => rfl)) ?_
    case len2 =>
      have := pairs6_len (h := hid6 σc)
      unfold pairs6 at this
      rw [this, sz]; decide
    rintro Γ₄ _ ⟨H4, rfl⟩
    have hpairs : ((irange 0 1 6).flatMap fun late : Int => (irange 0 1 late.toNat).map fun early : Int => ((hid6 σc).getD early.toNat "", (hid6 σc).getD late.toNat "")) = pairs6 (hid6 σc) := rfl
    rw [hpairs] at H4
    refine hr_cons (hs_set (mv := []) (R := RList (RTup RStr RStr)) (a := steps6 (hid6 σc) code) H4 (ev_listcomp (R := RTup RStr RStr) (xs := enumd (pairs6 (hid6 σc))) (p := fun p : Int × (Str × Str) => (code.fdiv (2 ^ p.1.toNat)).fmod 2 != 0) (f := fun p : Int × (Str × Str) => p.2) rfl (evi_enum rfl (Bt.fn B H4 (by tb_start) (by tb_start)) (ev_name (R := RList (RTup RStr RStr)) (a := pairs6 (hid6 σc)) (by tb_rel))) (stat_of H4.cs rfl (by decide)) (bnd_pair rfl rfl (by decide)) (fun p hp => ets_one (et_int (ev_mod (ev_fdiv (ev_name (R := RInt) (a := code) (by tb_rel)) (ev_pow (a := 2) ev_int (ev_name (R := RInt) (a := p.1) (by tb_rel)) (enumd_idx hp).1 (by have := (enumd_idx hp).2.1; rw [pairs6_len] at this; omega) (by decide)) (bit15 ?b1).1 (bit15 ?b1).2) ev_int (by decide)))) (fun p hp _ => ev_name (R := RTup RStr RStr) (a := p.2) (by tb_rel)) (by rw [enumd_length, pairs6_len, sz]; decide)) ⟨.inr ⟨rfl, _, rfl⟩, by decide⟩ forall_nil) ?_
    case b1 =>
      have := enumd_idx hp
      rw [pairs6_len] at this
      omega
    rintro Γ₅ _ ⟨H5, rfl⟩
    have hstl := steps6_len (h := hid6 σc) (code := code)
    have DA := dag_ah σc code
    have DB := dag_be σc code
    have hE := edge_iff σc code
    have hPR := plan_rs σc code
    have hTR := turn_rs σc code
    generalize hst : steps6 (hid6 σc) code = st at H5 hstl DA DB hE hPR hTR
    have hstz : st.length ≤ sizeLine := by rw [sz]; omega
    refine hr_cons (hs_cu (mv := []) H5 (cu_dict (knd := PySem.strKind PySem.Challenge.rw_mr0282_02.prog w) (R := RList RStr) (xs := chars "abcdef") (kf := fun j : Str => j) (f := fun j : Str => ahOf st j) iskS (nolim H5) rfl (evi_str rfl ascii ev_str) (stat_of H5.cs rfl (by decide)) (bnd_cell rfl) (fun j hj => ev_name (R := RStr) (a := j) (by tb_rel)) (fun j hj => ev_listcomp (R := RStr) (xs := st) (p := fun p : Str × Str => decide (p.2 = j)) (f := fun p : Str × Str => p.1) rfl (evi_pairs (R := RStr) (S := RStr) rfl (ev_name (R := RList (RTup RStr RStr)) (a := st) (by tb_rel))) (stat_c rfl (by decide)) (bnd_pair rfl rfl (by decide)) (fun p hp => ets_one (et_eqs (ev_name (R := RStr) (a := p.2) (by tb_rel)) (ev_name (R := RStr) (a := j) (by tb_rel)))) (fun p hp _ => ev_name (R := RStr) (a := p.1) (by tb_rel)) hstz) hjl (by rw [List.map_id']; exact jobs6_nodup)) ⟨.inl rfl, by decide⟩ forall_nil rfl (fun _ => rfl)) ?_
    rintro Γ₆ _ ⟨H6, rfl⟩
    have eA : ((chars "abcdef").map fun j : Str => (j, ahOf st j)) = kvP st := rfl
    rw [eA] at H6
    refine hr_cons (hs_set (mv := []) (R := RDict (PySem.strKind PySem.Challenge.rw_mr0282_02.prog w) (RList RStr)) (a := kvB st) H6 (ev_cu (cu_dict (knd := PySem.strKind PySem.Challenge.rw_mr0282_02.prog w) (R := RList RStr) (xs := chars "abcdef") (kf := fun j : Str => j) (f := fun j : Str => beOf st j) iskS (nolim H6) rfl (evi_str rfl ascii ev_str) (stat_of H6.cs rfl (by decide)) (bnd_cell rfl) (fun j hj => ev_name (R := RStr) (a := j) (by tb_rel)) (fun j hj => ev_listcomp (R := RStr) (xs := st) (p := fun p : Str × Str => decide (p.1 = j)) (f := fun p : Str × Str => p.2) rfl (evi_pairs (R := RStr) (S := RStr) rfl (ev_name (R := RList (RTup RStr RStr)) (a := st) (by tb_rel))) (stat_c rfl (by decide)) (bnd_pair rfl rfl (by decide)) (fun p hp => ets_one (et_eqs (ev_name (R := RStr) (a := p.1) (by tb_rel)) (ev_name (R := RStr) (a := j) (by tb_rel)))) (fun p hp _ => ev_name (R := RStr) (a := p.2) (by tb_rel)) hstz) hjl (by rw [List.map_id']; exact jobs6_nodup)) (fun _ => rfl)) ⟨.inr ⟨rfl, _, rfl⟩, by decide⟩ forall_nil) ?_
    rintro Γ₇ _ ⟨H7, rfl⟩
    have hgA : ∀ j ∈ jobs6, dget (kvP st) j = some (ahOf st j) := fun j hj => dgetm hj
    have hgB : ∀ j ∈ jobs6, dget (kvB st) j = some (beOf st j) := fun j hj => dgetm hj
    have hlA : ∀ j ∈ jobs6, (ahOf st j).length ≤ 100 := fun j _ => Nat.le_trans (ah_len hstl) (by decide)
    have hlB : ∀ j ∈ jobs6, (beOf st j).length ≤ 100 := fun j _ => Nat.le_trans (be_len hstl) (by decide)
    have hkl : (kvP st).length = 6 := by unfold kvP; rw [List.length_map, jobs6_len]
    refine hr_cons (hs_pairXS (P := fun o r => ∃ σ₁, o = ⟨Value, RIs, .ref σ₁.self⟩ ∧ r = [SR w σ₁] ∧ σ₁.abs = graphAbs (kvP st) ∧ σ₁.rdy = none ∧ σ₁.pas = 0 ∧ σ₁.fin = 0 ∧ σ₁.nodes.length ≤ 606 ∧ SuccLe σ₁ 600) (P₂ := fun o o' r => ∃ σ₁ σ₂, o = ⟨Value, RIs, .ref σ₁.self⟩ ∧ o' = ⟨Value, RIs, .ref σ₂.self⟩ ∧ r = [SR w σ₂, SR w σ₁] ∧ (σ₁.abs = graphAbs (kvP st) ∧ σ₁.rdy = none ∧ σ₁.pas = 0 ∧ σ₁.fin = 0 ∧ σ₁.nodes.length ≤ 606 ∧ SuccLe σ₁ 600) ∧ σ₂.nodes = [] ∧ σ₂.rdy = none ∧ σ₂.pas = 0 ∧ σ₂.fin = 0) rfl H7
      (ex_imp (ex_graph (mv := []) (Hn _ rfl rfl rfl) ⟨hdp _, (hun _).2⟩ H7.h₀ (gfn0 (H7.gfn (mv := []) mTS (by tb_start))) (ev_name (R := RDict (PySem.strKind PySem.Challenge.rw_mr0282_02.prog w) (RList RStr)) (a := kvP st) (by tb_rel)) forall_nil (by rw [hkl]; decide) (fun p hp => by unfold kvP at hp; (have zz := List.mem_map.mp hp; refine ex1 zz ?_; try clear zz; rintro j zz; refine and2 zz ?_; try clear zz; rintro hj rfl); exact hlA j hj) rfl X) fun o r q => by
        (refine ex1 q fun σ' zz => and8 zz fun a b c d e f g i => ?_; try clear q)
        rw [hkl] at g i
        exact ⟨σ', a, b, c, d, e, f, g, i⟩)
      (fun o r q => by
        (refine ex1 q ?_; try clear q; rintro σ₁ zz; refine and3 zz ?_; try clear zz; rintro rfl rfl c)
        exact ex_imp (ex_new (Hn _ rfl rfl rfl) H7.h₀ (gfn0 (H7.gfn (mv := []) mTS (by tb_start))) X) fun o' r' ⟨σ₂, a', b', c'⟩ => ⟨σ₁, σ₂, rfl, a', b', c, c'⟩)
      ⟨.inl rfl, by decide⟩ ⟨.inl rfl, by decide⟩) ?_
    rintro Γ₈ _ ⟨o₁, o₂, H8, σ₁, σ₂, rfl, rfl, rfl, ⟨ea₁, er₁, ep₁, ef₁, en₁, eu₁⟩, en₂, er₂, ep₂, ef₂⟩
    dsimp only at H8
    have hrl : st.reverse.length ≤ 15 := by rw [List.length_reverse]; exact hstl
    have ea₂ : σ₂.abs = [] := by unfold Srt.abs; rw [en₂]; rfl
    refine hr_cons (hs_for (mv := []) (fun i Γ' r => ∃ σ₃, H8.fam [⟨"steps", _, RList (RTup RStr RStr), st⟩, ⟨"ahead", _, RDict (PySem.strKind PySem.Challenge.rw_mr0282_02.prog w) (RList RStr), kvP st⟩, ⟨"behind", _, RDict (PySem.strKind PySem.Challenge.rw_mr0282_02.prog w) (RList RStr), kvB st⟩, ⟨"plan", Value, RIs, .ref σ₁.self⟩, ⟨"turned", Value, RIs, .ref σ₃.self⟩] Γ' ∧ r = [SR w σ₃, SR w σ₁] ∧ σ₃.abs = gAbs ((st.reverse.take i).map fun p => (p.1, [p.2, p.2])) [] ∧ σ₃.rdy = none ∧ σ₃.pas = 0 ∧ σ₃.fin = 0 ∧ σ₃.nodes.length ≤ 3 * i ∧ SuccLe σ₃ (2 * i)) (evi_revP (R := RStr) (S := RStr) rfl (Bt.fn B H8 (by tb_start) (by tb_start)) (ev_name (R := RList (RTup RStr RStr)) (a := st) (by tb_rel))) itP_mono forall_nil ⟨σ₂, H8.sub (by ktr_rel), rfl, ea₂, er₂, ep₂, ef₂, by rw [en₂]; exact Nat.zero_le _, fun n hn => by rw [en₂] at hn; cases hn⟩ ?turnA) ?_
    case turnA =>
      rintro i pr hi Γ' _ ⟨σ₃, H', rfl, ea, er, ep, ef, en, eu⟩
      have hil : i < 15 := Nat.lt_of_lt_of_le (List.getElem?_eq_some_iff.mp hi).1 hrl
      refine turn_pair rfl H' ⟨.inl rfl, by decide⟩ ⟨.inl rfl, by decide⟩ fun Γ'' H'' => ?_
      refine ht_cons (hs_exprS (es_addP (M := 2 * i) ⟨_, rfl⟩ (Hn _ rfl rfl rfl) H''.h₀ (by tb_rel) er (mv := []) (ev_name (R := RStr) (a := pr.1) (by tb_rel)) (evs_cons (ev_name (R := RStr) (a := pr.2) (by tb_rel)) (evs_cons (ev_name (R := RStr) (a := pr.2) (by tb_rel)) evs_nil)) forall_nil (show _ + 2 ≤ 100000 by omega) eu (show 2 * i + 2 ≤ 100000 by omega) rfl rfl (by decide) X)) ?_
      rintro Γq _ ⟨eq, σ₄, rfl, ea₄, es₄, en₄, eu₄⟩
      rw [eq]
      have en₄ : σ₄.nodes.length ≤ σ₃.nodes.length + 2 + 1 := en₄
      have eu₄ : SuccLe σ₄ (2 * i + 2) := eu₄
      refine ht_nil ⟨σ₄, ?_, rfl, ?_, es₄.rdy.trans er, es₄.pas.trans ep, es₄.fin.trans ef, by omega, ?_⟩
      · rw [es₄.self]; exact H''.sub (by ktr_rel)
      · rw [ea₄, ea, List.take_add_one, hi, List.map_append]
        exact (gAbs_snoc (p := (pr.1, [pr.2, pr.2]))).symm
      · exact fun n hn => Nat.le_trans (eu₄ n hn) (by omega)
    rintro Γ₉ _ ⟨σ₃, H9, rfl, ea₃, er₃, ep₃, ef₃, en₃, eu₃⟩
    rw [List.take_length] at ea₃
    refine hr_cons (hs_for (mv := []) (fun i Γ' r => ∃ σ₄, H9.fam [⟨"ahead", _, RDict (PySem.strKind PySem.Challenge.rw_mr0282_02.prog w) (RList RStr), kvP st⟩, ⟨"behind", _, RDict (PySem.strKind PySem.Challenge.rw_mr0282_02.prog w) (RList RStr), kvB st⟩, ⟨"plan", Value, RIs, .ref σ₁.self⟩, ⟨"turned", Value, RIs, .ref σ₄.self⟩] Γ' ∧ r = [SR w σ₄, SR w σ₁] ∧ σ₄.abs = gAbs ((st.reverse.map fun p => (p.1, [p.2, p.2])) ++ (jobs6.take i).map fun j => (j, [])) [] ∧ σ₄.rdy = none ∧ σ₄.pas = 0 ∧ σ₄.fin = 0 ∧ σ₄.nodes.length ≤ 45 + i ∧ SuccLe σ₄ 30) (evi_str rfl ascii (ev_str (x := "abcdef"))) itR_mono forall_nil ⟨σ₃, H9.sub (by ktr_rel), rfl, by rw [ea₃, List.take_zero, List.map_nil, List.append_nil], er₃, ep₃, ef₃, by omega, fun n hn => Nat.le_trans (eu₃ n hn) (by omega)⟩ ?turnB) ?_
    case turnB =>
      rintro i j hi Γ' _ ⟨σ₄, H', rfl, ea, er, ep, ef, en, eu⟩
      have hi' : jobs6[i]? = some j := hi
      have hil : i < 6 := by have := (List.getElem?_eq_some_iff.mp hi').1; rwa [jobs6_len] at this
      refine turn_nameI H' ⟨.inl rfl, by decide⟩ fun Γ'' H'' => ?_
      refine ht_cons (hs_exprS (es_addP (M := 30) ⟨_, rfl⟩ (Hn _ rfl rfl rfl) H''.h₀ (by tb_rel) er (mv := []) (ev_name (R := RStr) (a := j) (by tb_rel)) evs_nil forall_nil (show _ + 0 ≤ 100000 by omega) eu (show 30 + 0 ≤ 100000 by omega) rfl rfl (by decide) X)) ?_
      rintro Γq _ ⟨eq, σ₅, rfl, ea₅, es₅, en₅, eu₅⟩
      rw [eq]
      have en₅ : σ₅.nodes.length ≤ σ₄.nodes.length + 0 + 1 := en₅
      refine ht_nil ⟨σ₅, ?_, rfl, ?_, es₅.rdy.trans er, es₅.pas.trans ep, es₅.fin.trans ef, by omega, eu₅⟩
      · rw [es₅.self]; exact H''.sub (by ktr_rel)
      · rw [ea₅, ea, List.take_add_one, hi', List.map_append, ← List.append_assoc]
        exact (gAbs_snoc (p := (j, []))).symm
    rintro Γa _ ⟨σ₄, Ha, rfl, ea₄, er₄, ep₄, ef₄, en₄, eu₄⟩
    have el6 : (chars "abcdef").length = 6 := jobs6_len
    have eT : σ₄.abs = gAbs (kvT st) [] := by
      rw [ea₄]
      have : jobs6.take (chars "abcdef").length = jobs6 := List.take_length
      rw [this]; rfl
    rw [el6] at en₄
    (refine ex1 hPR fun plA zz => and2 zz fun rsA rkA => ?_; try clear hPR)
    (refine ex1 hTR fun plB zz => and2 zz fun rsB rkB => ?_; try clear hTR)
    have eP : σ₁.abs = gAbs (kvP st) [] := ea₁
    rw [← eP] at rsA rkA
    rw [← eT] at rsB rkB
    refine hr_perm (List.Perm.swap _ _ _) (hr_cons (hs_pairXS (P := fun o r => o = ⟨_, RList (RList RStr), rounds6 (ahOf st)⟩ ∧ r = [SR w σ₄]) (P₂ := fun o o' r => o = ⟨_, RList (RList RStr), rounds6 (ahOf st)⟩ ∧ o' = ⟨_, RList (RList RStr), rounds6 (beOf st)⟩ ∧ r = []) rfl Ha
      (ex_rounds (rank := fun j => (hid6 σc).idxOf j) (Hn _ rfl rfl rfl) ⟨hdp _, (hun _).2⟩ rfl T rfl Ha.h₀ (gfn0 (Ha.gfn (mv := []) mR (by tb_start))) (by tb_rel) DA er₁ ep₁ ef₁ (by omega) (fun n hn => Nat.le_trans (eu₁ n hn) (by decide)) rsA rkA rfl (by decide) X)
      (fun o r q => by
        (refine and2 q ?_; try clear q; rintro rfl rfl)
        exact ex_imp (ex_rounds (rank := fun j => 5 - (hid6 σc).idxOf j) (Hn _ rfl rfl rfl) ⟨hdp _, (hun _).2⟩ rfl T rfl Ha.h₀ (gfn0 (Ha.gfn (mv := []) mR (by tb_start))) (by tb_rel) DB er₄ ep₄ ef₄ (by omega) (fun n hn => Nat.le_trans (eu₄ n hn) (by decide)) rsB rkB rfl (by decide) X) fun o' r' ⟨a, b⟩ => ⟨rfl, a, b⟩)
      ⟨.inl rfl, by decide⟩ ⟨.inl rfl, by decide⟩) ?_)
    rintro Γb _ ⟨o₁, o₂, Hb, rfl, rfl, rfl⟩
    dsimp only at Hb
    have FA := DA.rf
    have FB := DB.rf
    generalize hrA : rounds6 (ahOf st) = rA at Hb FA
    generalize hrB : rounds6 (beOf st) = rB at Hb FB
    have h200 : (16 : Nat) ^ 12 < 2 ^ 200 := by decide
    have hAm : ∀ j ∈ rA.flatten, j ∈ jobs6 := fun j hj => (FA.all j).mp hj
    have hBm : ∀ j ∈ rB.flatten, j ∈ jobs6 := fun j hj => (FB.all j).mp hj
    refine hr_cons (hs_pairX (P := fun o r => o = ⟨_, RDict (PySem.strKind PySem.Challenge.rw_mr0282_02.prog w) RInt, waysL (ahOf st) rA.flatten⟩ ∧ r = []) (P₂ := fun o o' r => o = ⟨_, RDict (PySem.strKind PySem.Challenge.rw_mr0282_02.prog w) RInt, waysL (ahOf st) rA.flatten⟩ ∧ o' = ⟨_, RDict (PySem.strKind PySem.Challenge.rw_mr0282_02.prog w) RInt, waysL (beOf st) rB.flatten⟩ ∧ r = []) rfl Hb
      (ex_pure (mv := []) (ev_fn2 (R := RList (RList RStr)) (S := RDict (PySem.strKind PySem.Challenge.rw_mr0282_02.prog w) (RList RStr)) (a := rA) (b := kvP st) (Hb.gfn mW (by tb_start)) (DW Hb) (ev_name (by tb_rel)) (ev_name (by tb_rel)) (fun env s Z u v c hu hv => ways_spec T (Hb.old c) rfl (Nat.lt_trans (hdp _) (by decide)) c.zl hu hv hgA hlA FA.mem (by rw [FA.len]; decide) (fun pre j post e => ways_bound DA hAm FA.cl e) X)) forall_nil)
      (fun o r q => by
        (refine and2 q ?_; try clear q; rintro rfl rfl)
        exact ex_imp (ex_pure (mv := []) (ev_fn2 (R := RList (RList RStr)) (S := RDict (PySem.strKind PySem.Challenge.rw_mr0282_02.prog w) (RList RStr)) (a := rB) (b := kvB st) (Hb.gfn mW (by tb_start)) (DW Hb) (ev_name (by tb_rel)) (ev_name (by tb_rel)) (fun env s Z u v c hu hv => ways_spec T (Hb.old c) rfl (Nat.lt_trans (hdp _) (by decide)) c.zl hu hv hgB hlB FB.mem (by rw [FB.len]; decide) (fun pre j post e => ways_bound DB hBm FB.cl e) X)) forall_nil) fun o' r' ⟨a, b⟩ => ⟨rfl, a, b⟩)
      ⟨.inr ⟨rfl, _, rfl⟩, by decide⟩ ⟨.inr ⟨rfl, _, rfl⟩, by decide⟩) ?_
    rintro Γd _ ⟨o₁, o₂, Hd', rfl, rfl, rfl⟩
    dsimp only at Hd'
    have hwA : ∀ j ∈ jobs6, dget (waysL (ahOf st) rA.flatten) j = some (nOf (ahOf st) j) := fun j hj => by
      rw [ways_get DA _ _ rfl hAm FA.cl j, if_pos ((FA.all j).mpr hj)]
    have hwB : ∀ j ∈ jobs6, dget (waysL (beOf st) rB.flatten) j = some (nOf (beOf st) j) := fun j hj => by
      rw [ways_get DB _ _ rfl hBm FB.cl j, if_pos ((FB.all j).mpr hj)]
    generalize waysL (ahOf st) rA.flatten = wA at Hd' hwA
    generalize waysL (beOf st) rB.flatten = wB at Hd' hwB
    have hcl : ∀ e : Env, (callerA.deeper e).units + 100 < cLine := fun e => by show callerA.units + 3 + 100 < cLine; decide
    have hlnA : ∀ i r, rA[i]? = some r → ∀ j ∈ r, ((ap (nOf (ahOf st) j).natAbs).length + 1) / 2 = i + 1 := fun i r hi j hj => DA.nlen (by rw [← FA.at_ i r hi]; exact hj)
    have hlnB : ∀ i r, rB[i]? = some r → ∀ j ∈ r, ((ap (nOf (beOf st) j).natAbs).length + 1) / 2 = i + 1 := fun i r hi j hj => DB.nlen (by rw [← FB.at_ i r hi]; exact hj)
    refine hr_cons (hs_if (mv := []) (c := false) (P := fun Γ' r => Γ' = Γd ∧ r = []) (et_eq (et_or (a := !true) (b := !true)
        (et_not (et_b (ev_fn3 (U := RBool) (d := true) (R := RList (RList RStr)) (S := RDict (PySem.strKind PySem.Challenge.rw_mr0282_02.prog w) (RList RStr)) (T := RDict (PySem.strKind PySem.Challenge.rw_mr0282_02.prog w) RInt) (a := rA) (b := kvP st) (c' := wA) (Hd'.gfn mO (by tb_start)) (DO Hd') (ev_name (by tb_rel)) (ev_name (by tb_rel)) (ev_name (by tb_rel)) (fun env s Z u v z c hu hv hz => told_spec T (Hd'.old c) rfl (Nat.lt_trans (hdp _) (by decide)) (hcl _) c.zl hu hv hz DA hgA hlA FA.mem hwA hlnA FA.srt (Nat.le_trans FA.few (by decide)) (by rw [FA.len]; decide) X))))
        fun _ => et_not (et_b (ev_fn3 (U := RBool) (d := true) (R := RList (RList RStr)) (S := RDict (PySem.strKind PySem.Challenge.rw_mr0282_02.prog w) (RList RStr)) (T := RDict (PySem.strKind PySem.Challenge.rw_mr0282_02.prog w) RInt) (a := rB) (b := kvB st) (c' := wB) (Hd'.gfn mO (by tb_start)) (DO Hd') (ev_name (by tb_rel)) (ev_name (by tb_rel)) (ev_name (by tb_rel)) (fun env s Z u v z c hu hv hz => told_spec T (Hd'.old c) rfl (Nat.lt_trans (hdp _) (by decide)) (hcl _) c.zl hu hv hz DB hgB hlB FB.mem hwB hlnB FB.srt (Nat.le_trans FB.few (by decide)) (by rw [FB.len]; decide) X)))) rfl) forall_nil (fun h => nomatch h) (fun _ => ht_nil ⟨rfl, rfl⟩)) ?_
    rintro Γx _ ⟨e9, rfl⟩
    rw [e9]
    have hrow : ∀ k : Nat, ((jobs6.filter fun j => !(!(beOf st j).isEmpty)).map fun j => (dget (rowN (ahOf st) k) j).getD 0).sum = cc jobs6 (ahOf st) (beOf st) k := fun k => by
      rw [← cc_filter]
      have e1 : (jobs6.filter fun j => !(!(beOf st j).isEmpty)) = jobs6.filter fun j => decide (beOf st j = []) := List.filter_congr fun j _ => by cases q : beOf st j <;> simp
      rw [e1]
      refine map_congr' fun j hj => ?_
      unfold rowN
      rw [dgetm (List.mem_filter.mp hj).1]; rfl
    refine hr_cons (hs_setM (mv := []) (R := RInt) (f := fun r : List (Str × Int) => ((jobs6.filter fun j => !(!(beOf st j).isEmpty)).map fun j => (dget r j).getD 0).sum) Hd' rfl (evi_list (xs := rowsN (ahOf st) 6) rfl (ev_fn1 (R := RDict (PySem.strKind PySem.Challenge.rw_mr0282_02.prog w) (RList RStr)) (S := RList (RDict (PySem.strKind PySem.Challenge.rw_mr0282_02.prog w) RInt)) (a := kvP st) (b := rowsN (ahOf st) 6) (Hd'.gfn mS (by tb_start)) (DS Hd') (ev_name (by tb_rel)) (fun env s Z v c hv => stepped_spec T (Hd'.old c) rfl (Nat.lt_trans (hdp _) (by decide)) c.zl hv hgA DA.mem hlA X))) (stat_of Hd'.cs rfl (by decide)) (bnd_cell rfl) (fun r hr => ev_sum rfl (Bt.cfn (mv := []) B Hd' (by tb_start) (by tb_start)) (Ev.r (ev_listcomp (R := RInt) (xs := chars "abcdef") (p := fun j : Str => !(!(beOf st j).isEmpty)) (f := fun j : Str => (dget r j).getD 0) rfl (evi_str rfl ascii ev_str) (stat_c rfl (by decide)) (bnd_local rfl) (fun j hj => ets_one (et_not (et_list (Ev.r (ev_ditem iskS (ev_name (R := RDict (PySem.strKind PySem.Challenge.rw_mr0282_02.prog w) (RList RStr)) (a := kvB st) (by tb_rel)) (ev_name (R := RStr) (a := j) (by tb_rel)) (hgB j hj))) (by have := hlB j hj; rw [sz]; omega)))) (fun j hj _ => ev_ditem iskS (ev_name (R := RDict (PySem.strKind PySem.Challenge.rw_mr0282_02.prog w) RInt) (a := r) (by tb_rel)) (ev_name (R := RStr) (a := j) (by tb_rel)) ?rowget) hjl))) (by rw [rowsN_len, sz]; decide) ⟨.inl rfl, by decide⟩ forall_nil rfl) ?_
    case rowget =>
      (have zz := List.mem_map.mp hr; refine ex1 zz ?_; try clear zz; rintro k zz; refine and2 zz ?_; try clear zz; rintro _ rfl)
      unfold rowN
      rw [dgetm (show j ∈ jobs6 from hj)]; rfl
    rintro Γe _ ⟨He, rfl⟩
    have ecs : (rowsN (ahOf st) 6).map (fun r : List (Str × Int) => ((jobs6.filter fun j => !(!(beOf st j).isEmpty)).map fun j => (dget r j).getD 0).sum) = (List.range 6).map (cc jobs6 (ahOf st) (beOf st)) := by
      unfold rowsN
      rw [List.map_map]
      exact List.map_congr_left fun k _ => hrow k
    rw [ecs] at He
    have hnb : ∀ j ∈ jobs6, (nOf (ahOf st) j).natAbs < 2 ^ 200 ∧ (nOf (beOf st) j).natAbs < 2 ^ 200 := fun j hj => ⟨Nat.lt_trans (n_small DA hj).2 h200, Nat.lt_trans (n_small DB hj).2 h200⟩
    refine hr_cons (hs_set (mv := []) (R := RInt) (a := (jobs6.map fun j => nOf (ahOf st) j * nOf (beOf st) j).sum) He (ev_sum (xs := jobs6.map fun j => nOf (ahOf st) j * nOf (beOf st) j) rfl (Bt.fn B He (by tb_start) (by tb_start)) (Ev.r (ev_lmap (R := RInt) (f := fun j : Str => nOf (ahOf st) j * nOf (beOf st) j) rfl (evi_str rfl ascii (ev_str (x := "abcdef"))) (stat_of He.cs rfl (by decide)) (bnd_local rfl) (fun j hj => ev_mul (ev_ditem iskS (ev_name (R := RDict (PySem.strKind PySem.Challenge.rw_mr0282_02.prog w) RInt) (a := wA) (by tb_rel)) (ev_name (R := RStr) (a := j) (by tb_rel)) (hwA j hj)) (ev_ditem iskS (ev_name (R := RDict (PySem.strKind PySem.Challenge.rw_mr0282_02.prog w) RInt) (a := wB) (by tb_rel)) (ev_name (R := RStr) (a := j) (by tb_rel)) (hwB j hj)) (mulOk (hnb j hj).1 (hnb j hj).2)) hjl))) ⟨.inl rfl, by decide⟩ forall_nil) ?_
    rintro Γf _ ⟨Hf, rfl⟩
    have hdig : ∀ c ∈ (List.range 6).map fun k : Nat => ((k : Int) + 1) * cc jobs6 (ahOf st) (beOf st) k, 0 ≤ c ∧ c < 256 := fun c hc => by
      (have zz := List.mem_map.mp hc; refine ex1 zz ?_; try clear zz; rintro k zz; refine and2 zz ?_; try clear zz; rintro hk rfl)
      exact cc_bound DA (List.mem_range.mp hk)
    have htot := total_eq DA DB hE
    rw [htot] at Hf
    have hsm : (numOf ((List.range 6).map fun k : Nat => ((k : Int) + 1) * cc jobs6 (ahOf st) (beOf st) k)).natAbs < 16 ^ 30 := by
      have b := fun k hk => cc_bound (be := beOf st) DA (k := k) hk
      have e : numOf ((List.range 6).map fun k : Nat => ((k : Int) + 1) * cc jobs6 (ahOf st) (beOf st) k) = ((0 : Nat) + 1 : Int) * cc jobs6 (ahOf st) (beOf st) 0 + 256 * (((1 : Nat) + 1 : Int) * cc jobs6 (ahOf st) (beOf st) 1 + 256 * (((2 : Nat) + 1 : Int) * cc jobs6 (ahOf st) (beOf st) 2 + 256 * (((3 : Nat) + 1 : Int) * cc jobs6 (ahOf st) (beOf st) 3 + 256 * (((4 : Nat) + 1 : Int) * cc jobs6 (ahOf st) (beOf st) 4 + 256 * (((5 : Nat) + 1 : Int) * cc jobs6 (ahOf st) (beOf st) 5 + 256 * 0))))) := rfl
      rw [e]
      exact Nat.lt_of_lt_of_le (hr_up (b 0 (by decide)) (hr_up (b 1 (by decide)) (hr_up (b 2 (by decide)) (hr_up (b 3 (by decide)) (hr_up (b 4 (by decide)) (hr_up (P := 1) (m := 0) (b 5 (by decide)) ⟨by decide, by decide⟩)))))).1 (by decide)
    have hcsl : ((List.range 6).map (cc jobs6 (ahOf st) (beOf st))).length = 6 := by rw [List.length_map, List.length_range]
    have hen : (enumd ((List.range 6).map (cc jobs6 (ahOf st) (beOf st)))).map (fun p : Int × Int => (p.1 + 1) * p.2) = (List.range 6).map fun k : Nat => ((k : Int) + 1) * cc jobs6 (ahOf st) (beOf st) k := rfl
    have hmul : ∀ p ∈ enumd ((List.range 6).map (cc jobs6 (ahOf st) (beOf st))), IntMulOk (p.1 + 1) p.2 := fun p hp => by
      refine ex1 (List.mem_iff_getElem?.mp hp) fun i hi => ?_
      refine and2 (enumd_get hi) fun h1 h2 => ?_
      have hi6 : i < 6 := by have := (List.getElem?_eq_some_iff.mp h1).1; rwa [hcsl] at this
      rw [List.getElem?_map, List.getElem?_range hi6] at h1
      have h3 : p.2 = cc jobs6 (ahOf st) (beOf st) i := (Option.some.inj h1).symm
      have h4 := cc_bound (be := beOf st) DA hi6
      have h5 : cc jobs6 (ahOf st) (beOf st) i ≤ ((i : Int) + 1) * cc jobs6 (ahOf st) (beOf st) i ∧ 0 ≤ cc jobs6 (ahOf st) (beOf st) i := by
        have hp : 0 < ((i : Int) + 1) := by omega
        have h0 : 0 ≤ cc jobs6 (ahOf st) (beOf st) i := by
          by_cases q : 0 ≤ cc jobs6 (ahOf st) (beOf st) i
          · exact q
          · have := Int.mul_neg_of_pos_of_neg hp (Int.not_le.mp q); omega
        refine ⟨?_, h0⟩
        have := Int.mul_le_mul_of_nonneg_right (show (1 : Int) ≤ (i : Int) + 1 by omega) h0
        omega
      exact mulOk (by omega) (by omega)
    refine hr_ret (mv := []) (ev_eq (ev_eqB (ks := ap (numOf ((List.range 6).map fun k : Nat => ((k : Int) + 1) * cc jobs6 (ahOf st) (beOf st) k)).natAbs) (ls := lettersOf ((List.range 6).map fun k : Nat => ((k : Int) + 1) * cc jobs6 (ahOf st) (beOf st) k)) (ev_fn1 (R := RInt) (a := numOf ((List.range 6).map fun k : Nat => ((k : Int) + 1) * cc jobs6 (ahOf st) (beOf st) k)) (Hf.gfn mI (by tb_start)) (DI Hf) (ev_name (by tb_rel)) (fun env s Z v c hv => ap_spec T (Hf.old c) rfl (Nat.lt_trans (hdp _) (by decide)) c.zl hv (small1000 hsm) X)) (ev_fn1 (R := RList RInt) (a := (List.range 6).map fun k : Nat => ((k : Int) + 1) * cc jobs6 (ahOf st) (beOf st) k) (Hf.gfn mL (by tb_start)) (DL Hf) (ev_eq (ev_lmap (R := RInt) (f := fun p : Int × Int => (p.1 + 1) * p.2) rfl (evi_enum rfl (Bt.fn B Hf (by tb_start) (by tb_start)) (ev_name (R := RList RInt) (a := (List.range 6).map (cc jobs6 (ahOf st) (beOf st))) (by tb_rel))) (stat_of Hf.cs rfl (by decide)) (bnd_pair rfl rfl (by decide)) (fun p hp => ev_mul (ev_add (ev_name (R := RInt) (a := p.1) (by tb_rel)) ev_int) (ev_name (R := RInt) (a := p.2) (by tb_rel)) (hmul p hp)) (by rw [enumd_length, hcsl, sz]; decide)) hen) (fun env s Z v c hv => letters_spec T (Hf.old c) rfl (Nat.lt_trans (hdp _) (by decide)) c.zl hv (by rw [List.length_map, List.length_range]; decide) hdig X))) (decide_eq_true (letters_ap hdig))) forall_nil
end
end
end Mine
theorem PySem.Challenge.cw_mr0282_02_holds : PySem.Challenge.rw_mr0282_02.Holds :=
  Mine.cw_walk
