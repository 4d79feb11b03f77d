import PyProof.Rows.All
import Wide.All
import OpenK.AllK
import Wide.FinOn
import Lean
import PySem.Challenge.RW_xg0077_01
open PySem PySem.W PyProof.Rows PySem.Calls PySem.Spec
set_option Elab.async false
set_option maxRecDepth 100000
set_option linter.unusedVariables false
set_option linter.unusedSimpArgs false
local macro_rules
  | `(tactic| omega) => `(tactic| first | lia | omega (config := {}))
set_option maxHeartbeats 8000000
namespace Mine
noncomputable def topRunT (tb : String → Option Builtin) (p : Program) (w : World) (n₀ : Nat) (ann : Option Value) : Nat → SharedT → Thread → Option SharedT
  | 0, _, _ => none
  | n + 1, s, t => match through t with
    | true => some s
    | false => match stepOk n₀ ann t with
      | false => none
      | true => match stepT (denote tb) p w s t with
        | some (s', t') => topRunT tb p w n₀ ann n s' t'
        | none => none
theorem topRunT_of {tb : String → Option Builtin} {p : Program} {w : World} {n₀ : Nat} {ann : Option Value} : ∀ {n : Nat} {s s' : SharedT} {t : Thread}, topRunT tb p w n₀ ann n s t = some s' → topRun tb p w n₀ ann n s.abs t = some s'.abs
  | 0, _, _, _, h => by cases h
  | n + 1, s, s', t, h => by
    unfold topRunT at h
    unfold topRun
    cases he : through t with
    | true => rw [he] at h; cases h; rfl
    | false =>
      rw [he] at h
      cases hk : stepOk n₀ ann t with
      | false => rw [hk] at h; cases h
      | true =>
        rw [hk] at h
        cases hs : stepT (denote tb) p w s t with
        | none => rw [hs] at h; cases h
        | some r => obtain ⟨s₂, t₂⟩ := r; rw [hs] at h; rw [stepT_spec hs]; exact topRunT_of h
noncomputable def impEndsT (tb : String → Option Builtin) (p : Program) (w : World) : Nat → SharedT → Thread → Option SharedT
  | 0, _, _ => none
  | n + 1, s, t => match t.atExitBegin with
    | some [] => some s
    | some (_ :: _) => none
    | none => match stepT (denote tb) p w s t with
      | some (s', t') => impEndsT tb p w n s' t'
      | none => none
theorem impEndsT_of {tb : String → Option Builtin} {p : Program} {w : World} : ∀ {n : Nat} {s s' : SharedT} {t : Thread}, impEndsT tb p w n s t = some s' → importEnds tb p w n s.abs t = some s'.abs
  | 0, _, _, _, h => by cases h
  | n + 1, s, s', t, h => by
    unfold impEndsT at h
    unfold importEnds
    cases he : t.atExitBegin with
    | some l => cases l with
      | nil => rw [he] at h; cases h; rfl
      | cons a r => rw [he] at h; cases h
    | none =>
      rw [he] at h
      cases hs : stepT (denote tb) p w s t with
      | none => rw [hs] at h; cases h
      | some r => obtain ⟨s₂, t₂⟩ := r; rw [hs] at h; dsimp only; rw [stepT_spec hs]; exact impEndsT_of h
noncomputable def toGo : List Obj → BT → Nat → Option (BT × Nat)
  | [], t, n => some (t, n)
  | o :: r, t, n => match ((t.ins n o).get n).isSome with
    | true => toGo r (t.ins n o) (n + 1)
    | false => none
theorem toGo_of {life : Life} : ∀ {l : List Obj} {t t' : BT} {n n' : Nat}, toGo l t n = some (t', n') → absHeap t' n' life = ⟨(absHeap t n life).objs ++ l.toArray, life⟩
  | [], t, t', n, n', h => by cases h; show _ = Heap.mk _ _; simp [absHeap]
  | o :: r, t, t', n, n', h => by
    unfold toGo at h
    cases e : ((t.ins n o).get n).isSome with
    | false => rw [e] at h; cases h
    | true =>
      rw [e] at h
      rw [toGo_of h, absHeap_ins e]
      show Heap.mk _ _ = Heap.mk _ _
      congr 1
      show (absHeap t n life).objs.push o ++ r.toArray = _
      apply Array.toList_inj.mp
      simp
noncomputable def toT (s : Shared) : Option SharedT := match toGo s.heap.objs.toList .nil 0 with
  | some (t, n) => some ⟨t, n, s.heap.life, s.gens, s.drawn, s.toks, s.os⟩
  | none => none
theorem toT_of {s : Shared} {s' : SharedT} (h : toT s = some s') : s'.abs = s := by
  unfold toT at h
  cases e : toGo s.heap.objs.toList .nil 0 with
  | none => rw [e] at h; cases h
  | some r =>
    obtain ⟨t, n⟩ := r
    rw [e] at h
    cases h
    have := toGo_of (life := s.heap.life) e
    show Shared.mk (absHeap t n s.heap.life) _ _ _ _ = s
    rw [this]
    obtain ⟨⟨⟨objs⟩, life⟩, g, d, k, os⟩ := s
    show Shared.mk (Heap.mk ((absHeap .nil 0 life).objs ++ objs.toArray) life) _ _ _ _ = _
    have : (absHeap .nil 0 life).objs = #[] := by unfold absHeap BT.list; simp
    rw [this]; simp
noncomputable def openT (tb : String → Option Builtin) (p : Program) (w : World) (N : Nat) : Option Shared :=
  match toT (start (opening p)).1 with
  | none => none
  | some a => match impEndsT tb (opening p) w N a (start (opening p)).2 with
    | none => none
    | some s => fenceModules? p s.abs
noncomputable def fromT (tb : String → Option Builtin) (p : Program) (w : World) (N : Nat) (s₀ : Shared) : Option SharedT :=
  match s₀.heap.isNs mainGlobals && s₀.gens.size == 0 with
  | false => none
  | true => match toT s₀ with
    | none => none
    | some a => match topRunT tb p w s₀.heap.objs.size (s₀.heap.nsMap mainGlobals "__annotations__") N a (topStub p) with
      | none => none
      | some s₁ => match staticsOk (importedModules p.main.body) s₀.heap s₁.abs.heap && namesBound p s₁.abs.heap && gensDone s₁.abs && laidKept s₀.heap s₁.abs.heap with
        | true => some s₁
        | false => none
theorem openT_of {tb : String → Option Builtin} {p : Program} {w : World} {N : Nat} {s : Shared} (h : openT tb p w N = some s) : fencedOpening tb p w N = some s := by
  unfold openT at h
  unfold fencedOpening
  split at h
  · cases h
  · rename_i a ha
    split at h
    · cases h
    · rename_i b hb
      rw [← toT_of ha, impEndsT_of hb]
      exact h
theorem fromT_of {tb : String → Option Builtin} {p : Program} {w : World} {N : Nat} {s : Shared} {s' : SharedT} (h : fromT tb p w N s = some s') : topFrom tb p w N s = some s'.abs := by
  unfold fromT at h
  unfold topFrom
  split at h
  · cases h
  · rename_i e
    rw [e]
    dsimp only
    split at h
    · cases h
    · rename_i a ha
      split at h
      · cases h
      · rename_i b hb
        split at h
        · rename_i hk
          cases h
          have := topRunT_of hb
          rw [toT_of ha] at this
          rw [this]
          show (match _ with | true => some s'.abs | false => none) = _
          rw [hk]
        · cases h
noncomputable def endsT (tb : String → Option Builtin) (p : Program) (w : World) (N : Nat) : Option SharedT := match openT tb p w N with
  | none => none
  | some s => fromT tb p w N s
theorem endsT_of {tb : String → Option Builtin} {p : Program} {w : World} {N : Nat} {s : SharedT} (h : endsT tb p w N = some s) : openEnds tb p w N = some s.abs := by
  unfold endsT at h
  unfold openEnds
  split at h
  · cases h
  · rename_i a ha
    rw [openT_of ha]
    exact fromT_of h
theorem left_of {p q : Program} {loose : List Str} {Xt : Shared → Bool} {α : Type} {Yf : Shared → α} {Ya : World → α} {N : Nat} {g0 : Bool}
    (h : ∀ w, (endsT treeTable p w N).map (fun s => (openSeen q loose (importedModules p.main.body) Xt g0 s.abs, Yf s.abs)) = some (openGood q loose, Ya w)) : LeftO p q loose Xt Yf Ya N g0 := fun w => by
  obtain ⟨s, e, e'⟩ := Option.map_eq_some_iff.mp (h w)
  rw [endsT_of e]
  exact congrArg some e'
section
local macro_rules
  | `(tactic| o_head ($f:ident $K $a $p $ts)) => `(tactic| assumption)
theorem hd0 (h : PySem.Challenge.rw_xg0077_01.row.Holds) : PySem.Challenge.rw_xg0077_01.row.Holds := by km_head
end
noncomputable abbrev hook2 (K : Params → Frag) (as : List Addr) (e : ∀ P, as = (K P).map (·.1)) : Hook := kmHook K as e [305, 107]
noncomputable def vw : Program := PySem.W.view PySem.Challenge.pw_xg0077_01 [0,1,3,5,7,8,10,11,12,14,15,17,18,19,20,21,22]
noncomputable abbrev lse : List Str := ["_quoted", "_paren_depth", "_Accumulator", "Whitespace"]
noncomputable def kas : List Addr := [2, 3, 32, 34, 35, 37, 38, 42, 43, 44, 45, 47, 48, 50, 51, 52, 54, 55, 57, 58, 59, 62, 67, 68, 69, 71, 72, 74, 75, 76, 78, 79, 81, 82, 83, 84, 86, 87, 89, 90, 91, 92, 94, 95, 97, 98, 99, 101, 102, 104, 105, 106, 108, 109, 111, 112, 113, 114, 116, 117, 119, 120, 121, 123, 124, 126, 127, 128, 129, 131, 132, 134, 135, 136, 137, 138, 139, 140, 150, 152, 153, 155, 156, 157, 159, 160, 162, 163, 164, 165, 166, 167, 168, 171, 173, 174, 176, 177, 178, 180, 181, 183, 184, 185, 192, 194, 195, 197, 198, 199, 201, 202, 204, 205, 206, 208, 209, 211, 212, 213, 215, 216, 218, 219, 220, 221, 222, 223, 236, 238, 239, 241, 242, 243, 245, 246, 248, 249, 250, 252, 253, 255, 256, 257, 259, 260, 262, 263, 264, 266, 267, 269, 270, 271, 273, 274, 276, 277, 278, 280, 281, 283, 284, 285, 286, 287, 288, 289, 292, 295, 296, 297, 299, 300, 302, 303, 304, 307, 308, 309, 312, 313, 314, 317, 318, 319, 322, 323]
theorem kas_is : ∀ P, kas = (hd0.heap_1 P).map (·.1) := fun _ => by kernel_rfl
noncomputable abbrev hk : Hook := hook2 hd0.heap_1 kas kas_is
noncomputable abbrev Side (b : Bool) (w : World) : Prop :=
  (endsT treeTable PySem.Challenge.pw_xg0077_01 (w.withFollow "special-get-raises" b) 4198).map (fun s => (openSeen vw lse (importedModules PySem.Challenge.pw_xg0077_01.main.body) (fun s => xlAt vw [] s && recOk (RowW.records (OpenRow.toRowW PySem.Challenge.rw_xg0077_01.row)) s) true s.abs, hk.obs s.abs)) =
    some (openGood vw lse, hk.val (w.withFollow "special-get-raises" b))
theorem sideF : ∀ w, Side false w := fun w => by kernel_rfl
theorem sideT : ∀ w, Side true w := fun w => by kernel_rfl
theorem said : OpenLaw.wellSaid PySem.Challenge.rw_xg0077_01 = true :=
  (congrFun PySem.W.Fast.te9446332074065402090 PySem.Challenge.rw_xg0077_01).trans (by kernel_rfl)
section
local macro_rules
  | `(tactic| o_law) => `(tactic| refine holds_law said fun _ => ?_)
local macro_rules
  | `(tactic| o_head ($f:ident $K $a $p $ts)) => `(tactic| (
      refine holds_open (q := vw) (loose := lse) (Xt := fun s => xlAt vw [] s && recOk (RowW.records (OpenRow.toRowW PySem.Challenge.rw_xg0077_01.row)) s) (XP := XL vw []) (Yf := Hook.obs hk) (Ya := Hook.val hk) (YP := Hook.says hk) (N := 4198) ?hl (Hook.of hk) (Hook.keeps hk) (fun s e => xl_of s (Bool.and_eq_true_iff.mp e).1) XL.keeps (by rfl) (by rfl) (by rfl) (fun s e => recFacts_of (Bool.and_eq_true_iff.mp e).2) (by rfl) (by first | assumption | decide +kernel) (by decide +kernel) ⟨rfl, rfl, rfl, rfl, rfl, by decide +kernel⟩ ?hw ?hc
      (case hl => exact left_of (byRow2 "special-get-raises" sideF sideT))))
open_top hd for PySem.Challenge.rw_xg0077_01
end
end Mine
set_option maxHeartbeats 8000000
namespace Mine
noncomputable abbrev pg : Program := PySem.Challenge.rw_xg0077_01.row.prog
end Mine
set_option maxHeartbeats 200000
namespace Mine
inductive X2 {α β : Type} (p : α → β → Prop) : Prop | mk (x0 : α) (x1 : β) (h : p x0 x1) : X2 p
inductive X3 {α β γ : Type} (p : α → β → γ → Prop) : Prop | mk (x0 : α) (x1 : β) (x2 : γ) (h : p x0 x1 x2) : X3 p
inductive X4 {α β γ δ : Type} (p : α → β → γ → δ → Prop) : Prop | mk (x0 : α) (x1 : β) (x2 : γ) (x3 : δ) (h : p x0 x1 x2 x3) : X4 p
inductive X5 {α β γ δ ε : Type} (p : α → β → γ → δ → ε → Prop) : Prop | mk (x0 : α) (x1 : β) (x2 : γ) (x3 : δ) (x4 : ε) (h : p x0 x1 x2 x3 x4) : X5 p
inductive X6 {α β γ δ ε ζ : Type} (p : α → β → γ → δ → ε → ζ → Prop) : Prop | mk (x0 : α) (x1 : β) (x2 : γ) (x3 : δ) (x4 : ε) (x5 : ζ) (h : p x0 x1 x2 x3 x4 x5) : X6 p
inductive X7 {α β γ δ ε ζ η : Type} (p : α → β → γ → δ → ε → ζ → η → Prop) : Prop | mk (x0 : α) (x1 : β) (x2 : γ) (x3 : δ) (x4 : ε) (x5 : ζ) (x6 : η) (h : p x0 x1 x2 x3 x4 x5 x6) : X7 p
inductive X8 {α β γ δ ε ζ η θ : Type} (p : α → β → γ → δ → ε → ζ → η → θ → Prop) : Prop | mk (x0 : α) (x1 : β) (x2 : γ) (x3 : δ) (x4 : ε) (x5 : ζ) (x6 : η) (x7 : θ) (h : p x0 x1 x2 x3 x4 x5 x6 x7) : X8 p
inductive X9 {α β γ δ ε ζ η θ ι : Type} (p : α → β → γ → δ → ε → ζ → η → θ → ι → Prop) : Prop | mk (x0 : α) (x1 : β) (x2 : γ) (x3 : δ) (x4 : ε) (x5 : ζ) (x6 : η) (x7 : θ) (x8 : ι) (h : p x0 x1 x2 x3 x4 x5 x6 x7 x8) : X9 p
inductive X10 {α β γ δ ε ζ η θ ι κ : Type} (p : α → β → γ → δ → ε → ζ → η → θ → ι → κ → Prop) : Prop | mk (x0 : α) (x1 : β) (x2 : γ) (x3 : δ) (x4 : ε) (x5 : ζ) (x6 : η) (x7 : θ) (x8 : ι) (x9 : κ) (h : p x0 x1 x2 x3 x4 x5 x6 x7 x8 x9) : X10 p
inductive X12 {α β γ δ ε ζ η θ ι κ μ ν : Type} (p : α → β → γ → δ → ε → ζ → η → θ → ι → κ → μ → ν → Prop) : Prop | mk (x0 : α) (x1 : β) (x2 : γ) (x3 : δ) (x4 : ε) (x5 : ζ) (x6 : η) (x7 : θ) (x8 : ι) (x9 : κ) (x10 : μ) (x11 : ν) (h : p x0 x1 x2 x3 x4 x5 x6 x7 x8 x9 x10 x11) : X12 p
inductive X18 {α β γ δ ε ζ η θ ι κ μ ν ξ π ρ σ τ υ : Type} (p : α → β → γ → δ → ε → ζ → η → θ → ι → κ → μ → ν → ξ → π → ρ → σ → τ → υ → Prop) : Prop | mk (x0 : α) (x1 : β) (x2 : γ) (x3 : δ) (x4 : ε) (x5 : ζ) (x6 : η) (x7 : θ) (x8 : ι) (x9 : κ) (x10 : μ) (x11 : ν) (x12 : ξ) (x13 : π) (x14 : ρ) (x15 : σ) (x16 : τ) (x17 : υ) (h : p x0 x1 x2 x3 x4 x5 x6 x7 x8 x9 x10 x11 x12 x13 x14 x15 x16 x17) : X18 p
inductive A3 (a0 a1 a2 : Prop) : Prop | mk (h0 : a0) (h1 : a1) (h2 : a2) : A3 a0 a1 a2
inductive A4 (a0 a1 a2 a3 : Prop) : Prop | mk (h0 : a0) (h1 : a1) (h2 : a2) (h3 : a3) : A4 a0 a1 a2 a3
inductive A5 (a0 a1 a2 a3 a4 : Prop) : Prop | mk (h0 : a0) (h1 : a1) (h2 : a2) (h3 : a3) (h4 : a4) : A5 a0 a1 a2 a3 a4
inductive A6 (a0 a1 a2 a3 a4 a5 : Prop) : Prop | mk (h0 : a0) (h1 : a1) (h2 : a2) (h3 : a3) (h4 : a4) (h5 : a5) : A6 a0 a1 a2 a3 a4 a5
inductive A7 (a0 a1 a2 a3 a4 a5 a6 : Prop) : Prop | mk (h0 : a0) (h1 : a1) (h2 : a2) (h3 : a3) (h4 : a4) (h5 : a5) (h6 : a6) : A7 a0 a1 a2 a3 a4 a5 a6
inductive A8 (a0 a1 a2 a3 a4 a5 a6 a7 : Prop) : Prop | mk (h0 : a0) (h1 : a1) (h2 : a2) (h3 : a3) (h4 : a4) (h5 : a5) (h6 : a6) (h7 : a7) : A8 a0 a1 a2 a3 a4 a5 a6 a7
inductive A9 (a0 a1 a2 a3 a4 a5 a6 a7 a8 : Prop) : Prop | mk (h0 : a0) (h1 : a1) (h2 : a2) (h3 : a3) (h4 : a4) (h5 : a5) (h6 : a6) (h7 : a7) (h8 : a8) : A9 a0 a1 a2 a3 a4 a5 a6 a7 a8
inductive A10 (a0 a1 a2 a3 a4 a5 a6 a7 a8 a9 : Prop) : Prop | mk (h0 : a0) (h1 : a1) (h2 : a2) (h3 : a3) (h4 : a4) (h5 : a5) (h6 : a6) (h7 : a7) (h8 : a8) (h9 : a9) : A10 a0 a1 a2 a3 a4 a5 a6 a7 a8 a9
inductive A11 (a0 a1 a2 a3 a4 a5 a6 a7 a8 a9 a10 : Prop) : Prop | mk (h0 : a0) (h1 : a1) (h2 : a2) (h3 : a3) (h4 : a4) (h5 : a5) (h6 : a6) (h7 : a7) (h8 : a8) (h9 : a9) (h10 : a10) : A11 a0 a1 a2 a3 a4 a5 a6 a7 a8 a9 a10
inductive A15 (a0 a1 a2 a3 a4 a5 a6 a7 a8 a9 a10 a11 a12 a13 a14 : Prop) : Prop | mk (h0 : a0) (h1 : a1) (h2 : a2) (h3 : a3) (h4 : a4) (h5 : a5) (h6 : a6) (h7 : a7) (h8 : a8) (h9 : a9) (h10 : a10) (h11 : a11) (h12 : a12) (h13 : a13) (h14 : a14) : A15 a0 a1 a2 a3 a4 a5 a6 a7 a8 a9 a10 a11 a12 a13 a14

noncomputable abbrev Kp (h h' : Heap) : Prop := ∀ b o, h.get? b = some o → h'.get? b = some o

/-- what a mutable entry may not be -/
noncomputable def NotTup (o : Obj) : Prop := ∀ xs n, ¬ (o.cls = .type "tuple" ∧ o.data = .seq xs n)

/-- h₀: what stood at the call, and stays. H: what stood at the segment's start; of it all stays that is not in ex. L: the frame's names, m. mu: the ledger, written out -/
structure St (h₀ H : Heap) (ex : List Addr) (L : Addr) (h : Heap) (m : Str → Option Value) (mu : List (Addr × Obj)) : Prop where
  ns : h.Ns L m
  led : ∀ p ∈ mu, h.get? p.1 = some p.2
  nd : (L :: mu.map (·.1)).Nodup
  mtb : ∀ a ∈ L :: mu.map (·.1), a ∈ ex ∨ H.get? a = none
  pres : ∀ b o, b ∉ ex → H.get? b = some o → h.get? b = some o
  tup : ∀ b items, H.IsTuple b items → h.IsTuple b items
  base : ∀ b o, h₀.get? b = some o → H.get? b = some o ∧ b ∉ ex

theorem ns_keeps {h h' : Heap} {L : Addr} {m : Str → Option Value} (N : h.Ns L m) (k : ∀ o, h.get? L = some o → h'.get? L = some o) : h'.Ns L m :=
  let ⟨o, es, ep, x, r⟩ := N; ⟨o, es, ep, k _ x, r⟩
theorem tup_keeps {h h' : Heap} {b : Addr} {items : Array Value} (T : h.IsTuple b items) (k : ∀ o, h.get? b = some o → h'.get? b = some o) : h'.IsTuple b items :=
  let ⟨o, x, r⟩ := T; ⟨o, k _ x, r⟩

section
variable {h₀ H h h' : Heap} {ex ex' : List Addr} {L a D : Addr} {m m' : Str → Option Value} {mu mu' : List (Addr × Obj)} {o o' : Obj}

theorem St.keep (S : St h₀ H ex L h m mu) : Kp h₀ h := fun b o e => S.pres b o (S.base b o e).2 (S.base b o e).1
theorem St.at (S : St h₀ H ex L h m mu) (i : Nat) (hi : mu[i]? = some (a, o)) : h.get? a = some o := S.led _ (List.mem_of_getElem? hi)
theorem St.new (S : St h₀ H ex L h m mu) (ha : a ∈ L :: mu.map (·.1)) : h₀.get? a = none := by
  cases q : h₀.get? a with
  | none => rfl
  | some o =>
    have := S.base a o q
    rcases S.mtb a ha with e | e
    · exact absurd e this.2
    · rw [e] at this; cases this.1

theorem St.keeps (S : St h₀ H ex L h m mu) (k : Kp h h') : St h₀ H ex L h' m mu :=
  ⟨ns_keeps S.ns (k _), fun p hp => k _ _ (S.led p hp), S.nd, S.mtb, fun b o hb e => k _ _ (S.pres b o hb e), fun b its T => tup_keeps (S.tup b its T) (k _), S.base⟩
theorem St.sub (S : St h₀ H ex L h m mu) (s : mu'.Sublist mu) : St h₀ H ex L h m mu' := by
  have s' : (L :: mu'.map (·.1)).Sublist (L :: mu.map (·.1)) := (s.map _).cons_cons _
  exact ⟨S.ns, fun p hp => S.led p (s.subset hp), S.nd.sublist s', fun a ha => S.mtb a (s'.subset ha), S.pres, S.tup, S.base⟩
theorem St.tail {p : Addr × Obj} (S : St h₀ H ex L h m (p :: mu)) : St h₀ H ex L h m mu := S.sub (List.sublist_cons_self _ _)

theorem St.add (S : St h₀ H ex L h m mu) (k : Kp h h') (hn : h.get? D = none) (hD : h'.get? D = some o) : St h₀ H ex L h' m ((D, o) :: mu) := by
  have nL : D ≠ L := by
    intro e
    obtain ⟨oL, _, _, x, _⟩ := S.ns
    rw [← e, hn] at x; cases x
  have nm : D ∉ mu.map (·.1) := by
    intro e
    obtain ⟨p, hp, rfl⟩ := List.mem_map.mp e
    have := S.led p hp
    rw [hn] at this; cases this
  have S' := S.keeps k
  refine ⟨S'.ns, fun p hp => ?_, ?_, fun a ha => ?_, S'.pres, S'.tup, S.base⟩
  · rcases List.mem_cons.mp hp with rfl | hp
    · exact hD
    · exact S'.led p hp
  · have := S.nd
    simp only [List.map_cons, List.nodup_cons, List.mem_cons] at this ⊢
    exact ⟨fun x => x.elim (fun e => nL e.symm) this.1, nm, this.2⟩
  · rcases List.mem_cons.mp ha with rfl | ha
    · exact S.mtb _ (.head _)
    · rcases List.mem_cons.mp ha with e | ha
      · have e : a = D := e
        rw [e]
        cases q : H.get? D with
        | none => exact .inr rfl
        | some x =>
          refine .inl (Classical.byContradiction fun nx => ?_)
          have := S.pres D x nx q
          rw [hn] at this; cases this
      · exact S.mtb _ (.tail _ ha)

theorem fresh_none (h : Heap) : h.get? h.objs.size = none := by
  cases q : h.get? h.objs.size with
  | none => rfl
  | some o => exact absurd (Heap.lt_size q) (Nat.lt_irrefl _)
theorem St.alloc (S : St h₀ H ex L h m mu) (o : Obj) (hf : o.isFreed = false) : St h₀ H ex L (h.push o) m ((h.objs.size, o) :: mu) :=
  S.add (fun _ _ e => Heap.get?_push_of_some _ e) (fresh_none h) (Heap.get?_push_size _ hf)
theorem St.pushed (S : St h₀ H ex L h m mu) (o : Obj) : St h₀ H ex L (h.push o) m mu := S.keeps fun _ _ e => Heap.get?_push_of_some _ e

theorem set_addr {mu : List (Addr × Obj)} {i : Nat} {a : Addr} {o o' : Obj} (hi : mu[i]? = some (a, o)) : (mu.set i (a, o')).map (·.1) = mu.map (·.1) := by
  rw [List.map_set]
  apply List.ext_getElem?
  intro j
  rw [List.getElem?_set]
  split
  · rename_i e
    subst e
    obtain ⟨hl, he⟩ := List.getElem?_eq_some_iff.mp hi
    simp [hl, he]
  · rfl
theorem mem_set_addr {mu : List (Addr × Obj)} {i : Nat} {a : Addr} {o o' : Obj} (hi : mu[i]? = some (a, o)) (nd : (mu.map (·.1)).Nodup) {p : Addr × Obj} (hp : p ∈ mu.set i (a, o')) : p = (a, o') ∨ (p ∈ mu ∧ p.1 ≠ a) := by
  rcases List.mem_or_eq_of_mem_set hp with hp' | rfl
  · by_cases e : p.1 = a
    · left
      obtain ⟨j, hj⟩ := List.mem_iff_getElem?.mp hp
      rw [List.getElem?_set] at hj
      split at hj
      · split at hj
        · exact (Option.some.inj hj).symm
        · cases hj
      · rename_i ne
        exfalso
        apply ne
        have h1 : (mu.map (·.1))[i]? = some a := by rw [List.getElem?_map, hi]; rfl
        have h2 : (mu.map (·.1))[j]? = some a := by rw [List.getElem?_map, hj]; simp [e]
        obtain ⟨l1, e1⟩ := List.getElem?_eq_some_iff.mp h1
        obtain ⟨l2, e2⟩ := List.getElem?_eq_some_iff.mp h2
        exact (List.getElem_inj nd).mp (e1.trans e2.symm)
    · exact .inr ⟨hp', e⟩
  · exact .inl rfl

/-- a change at an entry, of which the new object is known -/
theorem St.put (S : St h₀ H ex L h m mu) (i : Nat) (hi : mu[i]? = some (a, o)) (hnt : NotTup o) (k : ∀ b x, b ≠ a → h.get? b = some x → h'.get? b = some x) (ha : h'.get? a = some o') : St h₀ H ex L h' m (mu.set i (a, o')) := by
  have hm : (a, o) ∈ mu := List.mem_of_getElem? hi
  have ho := S.led _ hm
  have hma : a ∈ mu.map (·.1) := List.mem_map.mpr ⟨_, hm, rfl⟩
  have nd := List.nodup_cons.mp S.nd
  have nL : L ≠ a := fun e => nd.1 (e ▸ hma)
  refine ⟨ns_keeps S.ns (fun o => k L o nL), fun p hp => ?_, ?_, fun b hb => ?_, fun b x hb e => k b x (fun q => ?_) (S.pres b x hb e), fun b its T => ?_, S.base⟩
  · rcases mem_set_addr hi nd.2 hp with rfl | ⟨hp', ne⟩
    · exact ha
    · exact k _ _ ne (S.led p hp')
  · rw [set_addr hi]; exact S.nd
  · rw [set_addr hi] at hb; exact S.mtb b hb
  · subst q
    rcases S.mtb b (.tail _ hma) with q | q
    · exact hb q
    · rw [e] at q; cases q
  · obtain ⟨ob, hb, hc, n, hd⟩ := S.tup b its T
    have ne : b ≠ a := by
      intro e
      rw [e, ho] at hb
      cases hb
      exact hnt _ _ ⟨hc, hd⟩
    exact ⟨ob, k b ob ne hb, hc, n, hd⟩
theorem St.set (S : St h₀ H ex L h m mu) (i : Nat) (hi : mu[i]? = some (a, o)) (hnt : NotTup o) (hs : Heap.SameBut a h h') (ha : h'.get? a = some o') : St h₀ H ex L h' m (mu.set i (a, o')) :=
  S.put i hi hnt (fun b x ne e => (hs.2 b ne).trans e) ha
/-- a change at the first entry, which is let go -/
theorem St.lose (S : St h₀ H ex L h m ((a, o) :: mu)) (hnt : NotTup o) (k : ∀ b x, b ≠ a → h.get? b = some x → h'.get? b = some x) : St h₀ H ex L h' m mu := by
  have ho := S.led _ (.head _)
  have nd := List.nodup_cons.mp S.nd
  have nL : L ≠ a := fun e => nd.1 (e ▸ .head _)
  have nd2 := List.nodup_cons.mp nd.2
  refine ⟨ns_keeps S.ns (fun o => k L o nL), fun p hp => k _ _ (fun e => nd2.1 (List.mem_map.mpr ⟨p, hp, e⟩)) (S.led p (.tail _ hp)), S.tail.nd, S.tail.mtb, fun b x hb e => k b x (fun q => ?_) (S.pres b x hb e), fun b its T => ?_, S.base⟩
  · subst q
    rcases S.mtb b (.tail _ (.head _)) with q | q
    · exact hb q
    · rw [e] at q; cases q
  · obtain ⟨ob, hb, hc, n, hd⟩ := S.tup b its T
    have ne : b ≠ a := by
      intro e
      rw [e, ho] at hb
      cases hb
      exact hnt _ _ ⟨hc, hd⟩
    exact ⟨ob, k b ob ne hb, hc, n, hd⟩

theorem St.store (S : St h₀ H ex L h m mu) (hs : Heap.SameBut L h h') (hn : h'.Ns L m') : St h₀ H ex L h' m' mu := by
  have k : ∀ b o, b ≠ L → h.get? b = some o → h'.get? b = some o := fun b o ne e => (hs.2 b ne).trans e
  have nd := List.nodup_cons.mp S.nd
  refine ⟨hn, fun p hp => k _ _ (fun e => nd.1 (e ▸ List.mem_map_of_mem hp)) (S.led p hp), S.nd, S.mtb, fun b x hb e => k b x (fun q => ?_) (S.pres b x hb e), fun b its T => ?_, S.base⟩
  · subst q
    rcases S.mtb b (.head _) with q | q
    · exact hb q
    · rw [e] at q; cases q
  · obtain ⟨ob, hb, hc, n, hd⟩ := S.tup b its T
    have ne : b ≠ L := by
      intro e
      obtain ⟨oL, es, ep, x, xd, _⟩ := S.ns
      rw [e, x] at hb
      cases hb
      rw [xd] at hd; cases hd
    exact ⟨ob, k b ob ne hb, hc, n, hd⟩

/-- a new segment: what is in the ledger's kept part stays open, all else is fixed -/
theorem St.rebase (S : St h₀ H ex L h m mu) (sub : mu'.Sublist mu) : St h₀ h (L :: mu'.map (·.1)) L h m mu' := by
  have S' := S.sub sub
  exact ⟨S.ns, S'.led, S'.nd, fun a ha => .inl ha, fun _ _ _ e => e, fun _ _ T => T, fun b o e => ⟨S.keep b o e, fun hm => by rw [S'.new hm] at e; cases e⟩⟩
/-- what the new segment fixes -/
theorem St.off (S : St h₀ H ex L h m mu) {b : Addr} {x : Obj} (hb : b ∉ L :: mu.map (·.1)) (sub : mu'.Sublist mu) : b ∉ L :: mu'.map (·.1) :=
  fun hm => hb (((sub.map (·.1)).cons_cons L).subset hm)
/-- a frame just entered -/
theorem St.start {h h₁ : Heap} {L : Addr} {m : Str → Option Value} (hn : h₁.Ns L m) (k : Kp h h₁) (hL : h.get? L = none) : St h h [] L h₁ m [] :=
  ⟨hn, fun _ hp => (nomatch hp), by simp, fun a ha => (by
    rcases List.mem_cons.mp ha with e | ha
    · exact .inr (e ▸ hL)
    · cases ha), fun b o _ e => k b o e, fun b its T => tup_keeps T (k b), fun b o e => ⟨e, fun hm => (nomatch hm)⟩⟩
end

/-- the written part and the names' tables stand in the base -/
structure Cx (w : World) (h : Heap) : Prop where
  X : (hd0.heap_1 w.params).In h
  T : X4 fun p loose mg mb => TopRead p loose mg mb h
theorem Cx.keeps {w : World} {h h' : Heap} (C : Cx w h) (k : Kp h h') : Cx w h' :=
  ⟨C.X.keeps k, let ⟨p, l, mg, mb, T⟩ := C.T; ⟨p, l, mg, mb, T.keeps k⟩⟩
theorem Cx.lim {w : World} {h : Heap} (C : Cx w h) : h.NoLimit := let ⟨_, _, _, _, T⟩ := C.T; T.nolimit
end Mine
set_option maxHeartbeats 200000
namespace Mine
noncomputable def upd (m : Str → Option Value) (x : Str) (v : Value) : Str → Option Value := fun y => if y = x then some v else m y
noncomputable abbrev Md (w : World) : Model := model pg w

section
variable {w : World} {A : Around} {E : Value → Shared → Prop} {h₀ H h : Heap} {g : Array GenState} {d : Drawn} {t : Nat} {os : OsState} {env : Env} {m : Str → Option Value} {mu : List (Addr × Obj)} {ex : List Addr}

theorem ldL {x : Str} {pos : Pos} {v : Value} {Q : Value → Shared → Prop} (S : St h₀ H ex env.locals h m mu) (hv : m x = some v) (hQ : Q v ⟨h, g, d, t, os⟩)
    (hk : env.scope.kind = .function := by rfl) (hx : env.kindOf x = some .local := by rfl) (hd : (x == ("__debug__" : Str)) = false := by rfl) :
    wpAny (Md w) A (eval (.Name x pos) env) Q E ⟨h, g, d, t, os⟩ :=
  wpAny_Name (wpAny_loadName_local hk hx S.ns hv hQ) hd
theorem ldG {x : Str} {pos : Pos} {v : Value} {Q : Value → Shared → Prop} (C : Cx w h₀) (S : St h₀ H ex env.locals h m mu) (e : nsIn (hd0.heap_1 w.params) mainGlobals x = some (some v)) (hQ : Q v ⟨h, g, d, t, os⟩)
    (hk : env.scope.kind = .function := by rfl) (hx : env.kindOf x = some .globalImplicit := by rfl) (hg : env.globals = mainGlobals := by rfl) (hd : (x == ("__debug__" : Str)) = false := by rfl) :
    wpAny (Md w) A (eval (.Name x pos) env) Q E ⟨h, g, d, t, os⟩ := by
  obtain ⟨p, l, mg, mb, T⟩ := C.T
  exact Name_function_global hk hx (loadGlobal_global (env := env) (hg ▸ T.g.keeps S.keep) (mg_of C.X T.g e) hQ) hd
theorem ldB {x : Str} {pos : Pos} {v : Value} {Q : Value → Shared → Prop} (C : Cx w h₀) (S : St h₀ H ex env.locals h m mu) (e : nsIn (hd0.heap_1 w.params) mainGlobals x = some none) (hv : bootBuiltins x = some v) (hQ : Q v ⟨h, g, d, t, os⟩)
    (hn : x ≠ "__name__" := by decide) (hk : env.scope.kind = .function := by rfl) (hx : env.kindOf x = some .globalImplicit := by rfl) (hg : env.globals = mainGlobals := by rfl) (hb : env.builtins = builtinsNs := by rfl) (hd : (x == ("__debug__" : Str)) = false := by rfl) :
    wpAny (Md w) A (eval (.Name x pos) env) Q E ⟨h, g, d, t, os⟩ := by
  obtain ⟨p, l, mg, mb, T⟩ := C.T
  exact Name_function_global hk hx (loadGlobal_builtin (env := env) (hg ▸ T.g.keeps S.keep) (mg_none_of C.X T.g e) (hb ▸ T.b.keeps S.keep) ((T.builtins x hn).trans hv) hQ) hd
theorem ldC {x : Str} {pos : Pos} {v : Value} {c : Addr} {Q : Value → Shared → Prop} (hc : env.cells.lookup x = some c) (hv : h.IsCell c (some v)) (hQ : Q v ⟨h, g, d, t, os⟩)
    (hk : env.scope.kind = .function := by rfl) (hx : env.kindOf x = some .cell := by rfl) (hd : (x == ("__debug__" : Str)) = false := by rfl) :
    wpAny (Md w) A (eval (.Name x pos) env) Q E ⟨h, g, d, t, os⟩ := wpAny_Name (wpAny_loadName_cell hk hx hc hv hQ) hd
theorem ldF {x : Str} {pos : Pos} {v : Value} {c : Addr} {Q : Value → Shared → Prop} (hc : env.cells.lookup x = some c) (hv : h.IsCell c (some v)) (hQ : Q v ⟨h, g, d, t, os⟩)
    (hk : env.scope.kind = .function := by rfl) (hx : env.kindOf x = some .free := by rfl) (hd : (x == ("__debug__" : Str)) = false := by rfl) (hn : (x == ("__classdict__" : Str)) = false := by rfl) :
    wpAny (Md w) A (eval (.Name x pos) env) Q E ⟨h, g, d, t, os⟩ := wpAny_Name (wpAny_loadName_free hk hx hc hv hQ hn) hd
theorem cI {i : Int} {k : Nat} {pos : Pos} {Q : Value → Shared → Prop} (hQ : Q (.int i t) ⟨h, g, d, t + 1, os⟩) : wpAny (Md w) A (eval (.Constant (.int i) k pos) env) Q E ⟨h, g, d, t, os⟩ := wpAny_Constant_int hQ
theorem cS {x : Str} {k : Nat} {pos : Pos} {Q : Value → Shared → Prop} (hQ : Q (.str x t) ⟨h, g, d, t + 1, os⟩) : wpAny (Md w) A (eval (.Constant (.str x) k pos) env) Q E ⟨h, g, d, t, os⟩ := wpAny_Constant_str hQ

theorem stL {x : Str} {v : Value} {Q : Unit → Shared → Prop} (S : St h₀ H ex env.locals h m mu)
    (hQ : ∀ h', St h₀ H ex env.locals h' (upd m x v) mu → Q () ⟨h', g, d, t + 1, os⟩)
    (hk : env.scope.kind = .function := by rfl) (hx : env.kindOf x = some .local := by rfl) : wpAny (Md w) A (storeName env x v) Q E ⟨h, g, d, t, os⟩ :=
  wpAny_storeName_local hx S.ns (fun h' hn hs => hQ h' (S.store hs hn)) (by rw [hk]; rfl)
end

section
variable {M : Model} {A : Around} {E : Value → Shared → Prop} {s : Shared} {env : Env} {Q : Flow → Shared → Prop} {rest : List Stmt}
theorem xAssign {x : Str} {pos' : Pos} {value : Expr} {pos : Pos} (hQ : wpAny M A (eval value env) (fun v s₁ => wpAny M A (storeName env x v) (fun _ s₂ => wpAny M A (execs rest env) Q E s₂) E s₁) E s)
    (hs : swapsWith value (some (.Name x pos')) pos.line env = pure false := by rfl) : wpAny M A (execs (.Assign [.Name x pos'] value pos :: rest) env) Q E s :=
  wpAny_execs_cons (wpAny_Assign_Name hQ hs)
theorem nameQ {α : Type} {x : Sem α} {Q : α → Shared → Prop} (hQ : ∀ Q' : α → Shared → Prop, (∀ v s', Q v s' → Q' v s') → wpAny M A x Q' E s) : wpAny M A x Q E s := hQ Q fun _ _ q => q
theorem nameT {target : Expr} {v : Value} {body : List Stmt} {E' : Value → Shared → Prop} (hQ : ∀ Q' : Flow → Shared → Prop, (∀ f s', Q f s' → Q' f s') → wpAny M A (assign target env v) (fun _ s₂ => wpAny M A (execs body env) Q' E' s₂) E s) :
    wpAny M A (assign target env v) (fun _ s₂ => wpAny M A (execs body env) Q E' s₂) E s := hQ Q fun _ _ q => q
theorem nameT3 {α β : Type} {x : Sem α} {y : Sem β} {z : Sem Flow} {E₁ E₂ : Value → Shared → Prop} (hQ : ∀ Q' : Flow → Shared → Prop, (∀ f s', Q f s' → Q' f s') → wpAny M A x (fun _ s₁ => wpAny M A y (fun _ s₂ => wpAny M A z Q' E₂ s₂) E₁ s₁) E s) :
    wpAny M A x (fun _ s₁ => wpAny M A y (fun _ s₂ => wpAny M A z Q E₂ s₂) E₁ s₁) E s := hQ Q fun _ _ q => q
noncomputable def NextQ (M : Model) (A : Around) (rest : List Stmt) (env : Env) (Q : Flow → Shared → Prop) (E : Value → Shared → Prop) (f : Flow) (s' : Shared) : Prop := match f with | .next => wpAny M A (execs rest env) Q E s' | f => Q f s'
noncomputable def LoopQ (M : Model) (A : Around) (rest : List Stmt) (env : Env) (Q : Flow → Shared → Prop) (E : Value → Shared → Prop) (r : Result) (s' : Shared) : Prop := match r with | .ok f => NextQ M A rest env Q E f s' | .error e => cameBackBy M A env E e s'
theorem xCons {st : Stmt} (hQ : wpAny M A (exec st env) (NextQ M A rest env Q E) E s) : wpAny M A (execs (st :: rest) env) Q E s := wpAny_execs_cons (wpAny_mono hQ (fun f s' h => by cases f <;> exact h) fun _ _ e => e)
theorem xIf {test : Expr} {body orelse : List Stmt} {pos : Pos} (hQ : wpAny M A (isTrue test env (eval test env)) (fun b s₂ => if b = true then wpAny M A (execs body env) (NextQ M A rest env Q E) E s₂ else wpAny M A (execs orelse env) (NextQ M A rest env Q E) E s₂) E s) :
    wpAny M A (execs (.If test body orelse pos :: rest) env) Q E s := xCons (wpAny_If hQ)
theorem xRet {e : Expr} {pos : Pos} (hQ : wpAny M A (eval e env) (fun v => Q (.ret v)) E s) : wpAny M A (execs (.Return (some e) pos :: rest) env) Q E s :=
  wpAny_execs_cons (wpAny_Return_some hQ)
theorem xNil (hQ : Q .next s) : wpAny M A (execs [] env) Q E s := wpAny_execs_nil hQ
theorem xFor {target iter : Expr} {body orelse : List Stmt} {pos : Pos} (hQ : wpAny M A (eval iter env) (fun x s₁ => wpAny M A (pyIter x) (fun it s₂ => codeAny M A (.forLoop target it body orelse env) (LoopQ M A rest env Q E) s₂) E s₁) E s)
    (hf : ∀ x, foldedSetIterable iter env x = pure x := by intro _; rfl) : wpAny M A (execs (.For target iter body orelse pos :: rest) env) Q E s :=
  xCons (wpAny_For (wpAny_mono hQ (fun x s₁ h => wpAny_mono h (fun it s₂ k => codeAny_mono k fun r s' q => by cases r <;> exact q) fun _ _ e => e) fun _ _ e => e) hf)
theorem xWhile {test : Expr} {body orelse : List Stmt} {pos : Pos} (hQ : codeAny M A (.whileLoop test body orelse env) (LoopQ M A rest env Q E) s) :
    wpAny M A (execs (.While test body orelse pos :: rest) env) Q E s := xCons (wpAny_While (codeAny_mono hQ fun r s' q => by cases r <;> exact q))
end

section
variable {w : World} {A : Around} {h : Heap} {g : Array GenState} {d : Drawn} {t : Nat} {os : OsState}
theorem enter {R : Result → Shared → Prop} {f : Addr} {args : Args} {binds : List (Str × Value)} {name qual : Str} {params : Arguments} {body : List Stmt} {scope : Scope} {dV kV doc pm cdv ct oc : Value} {an od : Option Addr} {osl : Array (Option Value)}
    (C : Cx w h) (ho : (hd0.heap_1 w.params).lookup f = some ⟨oc, od, .func (fnOf name qual params body scope dV kV doc pm an cdv ct), osl⟩) (hcd : codeIn (hd0.heap_1 w.params) cdv qual = true) (hroom : A.depth < recursionLimit)
    (hbind : BindsTo ⟨h, g, d, t, os⟩ (fnOf name qual params body scope dV kV doc pm an cdv ct) args binds) (hloc : ∀ y ∈ binds, scope.names.lookup y.1 = some .local)
    (hb : ∀ L h₁ t, St h h [] L h₁ (fun y => binds.reverse.lookup y) [] →
      wpAny (Md w) (A.deeper (envX qual scope L f cdv [])) (execs body (envX qual scope L f cdv [])) (fun fl s' => R (.ok (.ret (match fl with | .ret v => v | _ => .none))) s') (fun _ _ => False) ⟨h₁, g, d, t, os⟩)
    (hcell : ∀ x ∈ scope.names, x.2 ≠ .cell) (hco : scope.isCoroutine = false := by rfl) (hgen : scope.isGenerator = false := by rfl) (hk : scope.kind = .function := by rfl) :
    codeAny (Md w) A (.call (.ref f) args) R ⟨h, g, d, t, os⟩ :=
  codeAny_call_def (fd := fnOf name qual params body scope dV kV doc pm an cdv ct) (body := body) (binds := binds) hroom (C.X _ _ ho) rfl C.lim (codeRec_of C.X hcd) rfl hbind hcell hloc
    (fun h₁ hns hk₁ => wpAny_mono (hb h.objs.size h₁ _ (St.start hns hk₁ (fresh_none h))) (fun _ _ x => x) fun _ _ x => x.elim) hco hgen hk

end
section
variable {w : World} {A : Around} {E : Value → Shared → Prop} {h : Heap} {g : Array GenState} {d : Drawn} {t : Nat} {os : OsState}
noncomputable def RetV : Flow → Value
  | .ret v => v
  | _ => .none
theorem enterCall {Q : Value → Shared → Prop} {f : Addr} {args : List Value} {binds : List (Str × Value)} {name qual : Str} {params : Arguments} {body : List Stmt} {scope : Scope} {dV kV doc pm cdv ct oc : Value} {an od : Option Addr} {osl : Array (Option Value)}
    (C : Cx w h) (ho : (hd0.heap_1 w.params).lookup f = some ⟨oc, od, .func (fnOf name qual params body scope dV kV doc pm an cdv ct), osl⟩) (hcd : codeIn (hd0.heap_1 w.params) cdv qual = true) (hroom : A.depth < recursionLimit)
    (hbind : BindsTo ⟨h, g, d, t, os⟩ (fnOf name qual params body scope dV kV doc pm an cdv ct) ⟨args, []⟩ binds) (hloc : ∀ y ∈ binds, scope.names.lookup y.1 = some .local)
    (hb : ∀ L h₁ t, St h h [] L h₁ (fun y => binds.reverse.lookup y) [] →
      wpAny (Md w) (A.deeper (envX qual scope L f cdv [])) (execs body (envX qual scope L f cdv [])) (fun fl s' => Q (RetV fl) s') (fun _ _ => False) ⟨h₁, g, d, t, os⟩)
    (hcell : ∀ x ∈ scope.names, x.2 ≠ .cell) (hco : scope.isCoroutine = false := by rfl) (hgen : scope.isGenerator = false := by rfl) (hk : scope.kind = .function := by rfl) :
    wpAny (Md w) A (call (.ref f) args) Q E ⟨h, g, d, t, os⟩ :=
  wpAny_call (enter C ho hcd hroom hbind hloc (fun L h₁ t S => wpAny_mono (hb L h₁ t S) (fun fl s' q => by cases fl <;> exact q) fun _ _ x => x) hcell hco hgen hk)
theorem inst_keeps {h h' : Heap} {x C : Addr} {ox : Obj} {od : Option Obj} (I : PySem.W.InstAt h x ox C od) (k : Kp h h') : PySem.W.InstAt h' x ox C od := by
  obtain ⟨a, b, c, e⟩ := I
  refine ⟨k _ _ a, b, c, ?_⟩
  cases q : ox.dict with
  | none => rw [q] at e; cases od <;> exact e
  | some dx =>
    rw [q] at e
    cases od with
    | none => exact e
    | some o => exact k _ _ e
end
/-- the ledger's entry of a tuple's or a list's iterator -/
noncomputable def ItO (c : String) (l : Addr) (i : Nat) (o : Obj) : Prop := o.cls = .type c ∧ o.data = .fields #[.ref l, .int (i : Int) 0]
theorem ItO.notTup {c : String} {l : Addr} {i : Nat} {o : Obj} (x : ItO c l i o) : NotTup o := fun _ _ q => by rw [x.2] at q; cases q.2

section
variable {w : World} {A : Around} {h₀ H h : Heap} {g : Array GenState} {d : Drawn} {t : Nat} {os : OsState} {env : Env} {m : Str → Option Value} {mu : List (Addr × Obj)} {ex : List Addr}
/-- how a turn ends -/
noncomputable def TurnEnd (h₀ : Heap) (env : Env) (I : Addr) (oI : Obj) (g : Array GenState) (d : Drawn) (os : OsState) (F : Heap → List Addr → (Str → Option Value) → List (Addr × Obj) → Prop) (Qb : Shared → Prop) (Qr : Value → Shared → Prop) (f : Flow) (s : Shared) : Prop :=
  match f with
  | .brk => Qb s
  | .ret v => Qr v s
  | _ => X6 fun h H ex m mu t => A3 (s = ⟨h, g, d, t, os⟩) (St h₀ H ex env.locals h m ((I, oI) :: mu)) (F H ex m mu)
theorem TurnEnd.next {I : Addr} {oI : Obj} {F : Heap → List Addr → (Str → Option Value) → List (Addr × Obj) → Prop} {Qb : Shared → Prop} {Qr : Value → Shared → Prop} (S : St h₀ H ex env.locals h m ((I, oI) :: mu)) (f : F H ex m mu) : TurnEnd h₀ env I oI g d os F Qb Qr .next ⟨h, g, d, t, os⟩ :=
  ⟨h, H, ex, m, mu, t, rfl, S, f⟩

theorem forList {l : Addr} {vs : List Value} {target : Expr} {body : List Stmt} {R : Result → Shared → Prop} (F : Nat → Heap → List Addr → (Str → Option Value) → List (Addr × Obj) → Prop) {I : Addr} {oI : Obj}
    (hh : A.handled = none)
    (hl : ∀ i H ex h m mu oI, St h₀ H ex env.locals h m ((I, oI) :: mu) → F i H ex m mu → h.IsList l vs.toArray)
    (S : St h₀ H ex env.locals h m ((I, oI) :: mu)) (hI : ItO "list_iterator" l 0 oI) (hF : F 0 H ex m mu)
    (turn : ∀ i v oI H ex h m mu t, vs[i]? = some v → F i H ex m mu → ItO "list_iterator" l (i + 1) oI → St h₀ H ex env.locals h m ((I, oI) :: mu) →
      wpAny (Md w) A (letOwnedTupleGo target (.ref I) v) (fun _ s₁ => wpAny (Md w) A (assign target env v) (fun _ s₂ => wpAny (Md w) A (execs body env) (TurnEnd h₀ env I oI g d os (F (i + 1)) (R (.ok .next)) (fun v => R (.ok (.ret v)))) (fun _ _ => False) s₂) (fun _ _ => False) s₁) (fun _ _ => False) ⟨h, g, d, t, os⟩)
    (done : ∀ H ex h m mu t, F vs.length H ex m mu → St h₀ H ex env.locals h m mu → R (.ok .next) ⟨h, g, d, t, os⟩) :
    codeAny (Md w) A (.forLoop target (.ref I) body [] env) R ⟨h, g, d, t, os⟩ := by
  refine codeAny_forLoop_any (fun k s => X8 fun i oI H ex h m mu t => A6 (s = ⟨h, g, d, t, os⟩) (St h₀ H ex env.locals h m ((I, oI) :: mu)) (ItO "list_iterator" l i oI) (F i H ex m mu) (i ≤ vs.length) (k = vs.length + 1 - i)) ?_ (vs.length + 1) ⟨0, oI, H, ex, h, m, mu, t, rfl, S, hI, hF, Nat.zero_le _, rfl⟩
  rintro k s ⟨i, oI, H, ex, h, m, mu, t, rfl, S, hI, hF, hi, rfl⟩
  have hlst := hl i H ex h m mu oI S hF
  have hit : h.IsListIter I l i := ⟨oI, S.at 0 rfl, hI⟩
  by_cases hlt : i < vs.length
  · refine wpAny_pyNext_list_item hit hlst (x := vs[i]) (by simp [hlt]) fun h' ⟨oI', ho', hI'⟩ hs => ?_
    have S' := S.set 0 rfl hI.notTup hs ho'
    refine wpAny_mono (turn i vs[i] oI' H ex h' m mu t (by simp [hlt]) hF hI' S') (fun _ s₁ h1 => wpAny_mono h1 (fun _ s₂ h2 => wpAny_mono h2 (fun f s₃ h3 => ?_) fun _ _ x => x.elim) fun _ _ x => x.elim) fun _ _ x => x.elim
    have fin : (X6 fun h H ex m mu t => A3 (s₃ = ⟨h, g, d, t, os⟩) (St h₀ H ex env.locals h m ((I, oI') :: mu)) (F (i + 1) H ex m mu)) → ∃ m_1, (m_1 < vs.length + 1 - i) ∧ (X8 fun i oI H ex h m mu t => A6 (s₃ = ⟨h, g, d, t, os⟩) (St h₀ H ex env.locals h m ((I, oI) :: mu)) (ItO "list_iterator" l i oI) (F i H ex m mu) (i ≤ vs.length) (m_1 = vs.length + 1 - i)) := by
      rintro ⟨h, H, ex, m, mu, t, rfl, S, f⟩
      exact ⟨vs.length + 1 - (i + 1), by omega, i + 1, oI', H, ex, h, m, mu, t, rfl, S, hI', f, hlt, rfl⟩
    cases f with
    | next => exact fin h3
    | cont => exact fin h3
    | brk => exact h3
    | ret v => exact h3
  · have hin : i = vs.length := by omega
    subst hin
    exact wpAny_pyNext_list_end hh hit hlst (by simp) fun h' he => wpAny_execs_nil (done H ex h' m mu t hF (S.lose hI.notTup fun b x ne e => he b x ne e))
theorem forTup {l : Addr} {vs : List Value} {target : Expr} {body : List Stmt} {R : Result → Shared → Prop} (F : Nat → Heap → List Addr → (Str → Option Value) → List (Addr × Obj) → Prop) {I : Addr} {oI : Obj}
    (hh : A.handled = none)
    (hl : ∀ i H ex h m mu oI, St h₀ H ex env.locals h m ((I, oI) :: mu) → F i H ex m mu → h.IsTuple l vs.toArray)
    (S : St h₀ H ex env.locals h m ((I, oI) :: mu)) (hI : ItO "tuple_iterator" l 0 oI) (hF : F 0 H ex m mu)
    (turn : ∀ i v oI H ex h m mu t, vs[i]? = some v → F i H ex m mu → ItO "tuple_iterator" l (i + 1) oI → St h₀ H ex env.locals h m ((I, oI) :: mu) →
      wpAny (Md w) A (letOwnedTupleGo target (.ref I) v) (fun _ s₁ => wpAny (Md w) A (assign target env v) (fun _ s₂ => wpAny (Md w) A (execs body env) (TurnEnd h₀ env I oI g d os (F (i + 1)) (R (.ok .next)) (fun v => R (.ok (.ret v)))) (fun _ _ => False) s₂) (fun _ _ => False) s₁) (fun _ _ => False) ⟨h, g, d, t, os⟩)
    (done : ∀ H ex h m mu t, F vs.length H ex m mu → St h₀ H ex env.locals h m mu → R (.ok .next) ⟨h, g, d, t, os⟩) :
    codeAny (Md w) A (.forLoop target (.ref I) body [] env) R ⟨h, g, d, t, os⟩ := by
  refine codeAny_forLoop_any (fun k s => X8 fun i oI H ex h m mu t => A6 (s = ⟨h, g, d, t, os⟩) (St h₀ H ex env.locals h m ((I, oI) :: mu)) (ItO "tuple_iterator" l i oI) (F i H ex m mu) (i ≤ vs.length) (k = vs.length + 1 - i)) ?_ (vs.length + 1) ⟨0, oI, H, ex, h, m, mu, t, rfl, S, hI, hF, Nat.zero_le _, rfl⟩
  rintro k s ⟨i, oI, H, ex, h, m, mu, t, rfl, S, hI, hF, hi, rfl⟩
  have hlst := hl i H ex h m mu oI S hF
  have hit : h.IsTupleIter I l i := ⟨oI, S.at 0 rfl, hI⟩
  by_cases hlt : i < vs.length
  · refine wpAny_pyNext_tuple_item hit hlst (x := vs[i]) (by simp [hlt]) fun h' ⟨oI', ho', hI'⟩ hs => ?_
    have S' := S.set 0 rfl hI.notTup hs ho'
    refine wpAny_mono (turn i vs[i] oI' H ex h' m mu t (by simp [hlt]) hF hI' S') (fun _ s₁ h1 => wpAny_mono h1 (fun _ s₂ h2 => wpAny_mono h2 (fun f s₃ h3 => ?_) fun _ _ x => x.elim) fun _ _ x => x.elim) fun _ _ x => x.elim
    have fin : (X6 fun h H ex m mu t => A3 (s₃ = ⟨h, g, d, t, os⟩) (St h₀ H ex env.locals h m ((I, oI') :: mu)) (F (i + 1) H ex m mu)) → ∃ m_1, (m_1 < vs.length + 1 - i) ∧ (X8 fun i oI H ex h m mu t => A6 (s₃ = ⟨h, g, d, t, os⟩) (St h₀ H ex env.locals h m ((I, oI) :: mu)) (ItO "tuple_iterator" l i oI) (F i H ex m mu) (i ≤ vs.length) (m_1 = vs.length + 1 - i)) := by
      rintro ⟨h, H, ex, m, mu, t, rfl, S, f⟩
      exact ⟨vs.length + 1 - (i + 1), by omega, i + 1, oI', H, ex, h, m, mu, t, rfl, S, hI', f, hlt, rfl⟩
    cases f with
    | next => exact fin h3
    | cont => exact fin h3
    | brk => exact h3
    | ret v => exact h3
  · have hin : i = vs.length := by omega
    subst hin
    exact wpAny_pyNext_tuple_end hh hit hlst (by simp) fun h' he => wpAny_execs_nil (done H ex h' m mu t hF (S.lose hI.notTup fun b x ne e => he b x ne e))
end

section
variable {w : World} {A : Around} {E : Value → Shared → Prop} {h₀ H h : Heap} {ex : List Addr} {g : Array GenState} {d : Drawn} {t : Nat} {os : OsState} {env : Env} {m : Str → Option Value} {mu : List (Addr × Obj)}
/-- an attribute that the object's own table holds -/
theorem attrOwn {x C : Addr} {ox : Obj} {od : Obj} {name : Str} {expr : Bool} {v : Value} {attr : Option Value} {Q : Value → Shared → Prop} (X : Cx w h) (I : PySem.W.InstAt h x ox C (some od))
    (hg : plainGet (hd0.heap_1 w.params) C name = true) (hh : hasDictIn (hd0.heap_1 w.params) C = true) (ha : findIn (hd0.heap_1 w.params) (.ref C) name = some attr) (hn : noGet (hd0.heap_1 w.params) attr = true) (hl : lookIn name od = some (some v)) (hv : handedIn v = true)
    (hQ : Q v ⟨h, g, d, t + 1, os⟩) : wpAny (Md w) A (getAttr (.ref x) name expr) Q E ⟨h, g, d, t, os⟩ :=
  get_value (s := ⟨h, g, d, t, os⟩) X.X I (plainGet_of hg).1 (findObj_own hh ha hn hl) hv hQ
theorem attrName {x attr : Str} {xp pos : Pos} {Q : Value → Shared → Prop} {s : Shared} (hQ : wpAny (Md w) A (eval (.Name x xp) env) (fun o s₁ => wpAny (Md w) A (getAttr o attr true) Q E s₁) E s) :
    wpAny (Md w) A (eval (.Attribute (.Name x xp) attr pos) env) Q E s := Attribute_Name_ hQ (by rfl)

theorem goTup {elts : List Expr} {x1 : Nat} {pos : Pos} {I l T : Addr} {i : Nat} {o : Obj} {Q : Unit → Shared → Prop} (hI : h.get? I = some o) (x : ItO "tuple_iterator" l i o) (hQ : Q () ⟨h, g, d, t, os⟩) :
    wpAny (Md w) A (letOwnedTupleGo (.Tuple elts x1 pos) (.ref I) (.ref T)) Q E ⟨h, g, d, t, os⟩ := by
  unfold letOwnedTupleGo
  refine wpAny_bind (wpAny_load (s := ⟨h, g, d, t, os⟩) hI ?_)
  rw [x.1, x.2]
  exact wpAny_pure hQ
theorem goList {elts : List Expr} {x1 : Nat} {pos : Pos} {I l T : Addr} {i : Nat} {o : Obj} {Q : Unit → Shared → Prop} (hI : h.get? I = some o) (x : ItO "list_iterator" l i o) (hQ : Q () ⟨h, g, d, t, os⟩) :
    wpAny (Md w) A (letOwnedTupleGo (.Tuple elts x1 pos) (.ref I) (.ref T)) Q E ⟨h, g, d, t, os⟩ :=
  wpAny_letOwnedTupleGo_listiter (s := ⟨h, g, d, t, os⟩) ⟨o, hI, x⟩ hQ
theorem goName {x : Str} {pos : Pos} {I v : Value} {Q : Unit → Shared → Prop} {s : Shared} (hQ : Q () s) : wpAny (Md w) A (letOwnedTupleGo (.Name x pos) I v) Q E s := wpAny_pure hQ

/-- names for a pair's two items -/
theorem asgPair {a b : Str} {pa pb pos : Pos} {k : Nat} {T : Addr} {x y : Value} {Q : Unit → Shared → Prop} (S : St h₀ H ex env.locals h m mu) (hh : A.handled = none) (ht : h.IsTuple T #[x, y])
    (hQ : ∀ h' t, St h₀ H ex env.locals h' (fun z => if z = b then some y else if z = a then some x else m z) mu → Q () ⟨h', g, d, t, os⟩)
    (hk : env.scope.kind = .function := by rfl) (ha : env.kindOf a = some .local := by rfl) (hb : env.kindOf b = some .local := by rfl) :
    wpAny (Md w) A (assign (.Tuple [.Name a pa, .Name b pb] k pos) env (.ref T)) Q E ⟨h, g, d, t, os⟩ := by
  refine wpAny_assign_Tuple hh ht rfl rfl fun h' he => ?_
  have S' : St h₀ H ex env.locals h' m mu := S.keeps fun c o e => he c o (fun q => Nat.lt_irrefl _ (Heap.lt_size (q ▸ e))) e
  show wpAny (Md w) A (assignInOrder [assign (.Name a pa) env, assign (.Name b pb) env] [x, y]) Q E ⟨h', g, d, t, os⟩
  refine wpAny_assignInOrder_more (wpAny_assign_Name (stL S' (fun h1 S1 => ?_) hk ha))
  refine wpAny_assignInOrder_more (wpAny_assign_Name (stL S1 (fun h2 S2 => ?_) hk hb))
  exact wpAny_assignInOrder_none (hQ h2 _ S2)
/-- a tuple's item at a place that a name holds -/
theorem itemTup {value : Expr} {x : Str} {p pos : Pos} {Q : Value → Shared → Prop} {s : Shared}
    (hQ : wpAny (Md w) A (eval value env) (fun o s₁ => wpAny (Md w) A (eval (.Name x p) env) (fun i s₂ => X6 fun T its k u j v => A8 (o = .ref T) (i = .int k u) (s₂.heap.IsTuple T its) (-(2 ^ 63) ≤ k) (k < 2 ^ 63) (seqIndex? k its.size = some j) (its[j]? = some v) (Q v s₂)) E s₁) E s)
    (ht : ∀ o r, letTemporaryGo value o r = pure () := by intro _ _; rfl) :
    wpAny (Md w) A (eval (.Subscript value (.Name x p) pos) env) Q E s := by
  refine wpAny_Subscript_Name (T := "tuple") slot_tuple_getitem.lookup (wpAny_mono hQ (fun o s₁ h1 => wpAny_mono h1 (fun i s₂ h2 => ?_) fun _ _ e => e) fun _ _ e => e) ht
  obtain ⟨T, its, k, u, j, v, rfl, rfl, hT, a, b, c, e, q⟩ := h2
  exact ⟨⟨_, hT.choose_spec.1, hT.choose_spec.2.1⟩, getItem_tuple hT a b c e q⟩
end
end Mine
set_option maxHeartbeats 200000
namespace Mine

section
variable {w : World} {A : Around} {E : Value → Shared → Prop} {h : Heap} {g : Array GenState} {d : Drawn} {t : Nat} {os : OsState}

theorem instLooks {x C : Addr} {ox : Obj} {od : Option Obj} {b : Value} {r : Bool} (X : Cx w h) (I : PySem.W.InstAt h x ox C od) (e : subIn (hd0.heap_1 w.params) (.ref C) b = some r) : Looks (Md w) h (isInstance (.ref x) b) r :=
  I.type.andThen (looks_subIn X.X e)

/-- a method of a built-in base, found by way of the own class -/
theorem methBi {x C : Addr} {ox : Obj} {od : Obj} {name : Str} {id : String} {pl : Sem Bool} {Q : Value × List Value → Shared → Prop} (X : Cx w h) (I : PySem.W.InstAt h x ox C (some od))
    {ga : String} (hg : findIn (hd0.heap_1 w.params) (.ref C) "__getattribute__" = some (some (.builtin ga))) (hga : findIn (hd0.heap_1 w.params) (.ref C) "__getattr__" = some none)
    (hf : findIn (hd0.heap_1 w.params) (.ref C) name = some (some (.builtin id))) (ht : typeIn (hd0.heap_1 w.params) (.builtin id) = some (.type "method_descriptor")) (hs : lookIn name od = some none)
    (hQ : Q (.builtin id, [.ref x]) ⟨h, g, d, t, os⟩) (hcan : Manifest.canonical ga = "object.__getattribute__" := by decide +kernel) : wpAny (Md w) A (getMethod (.ref x) name pl) Q E ⟨h, g, d, t, os⟩ := by
  unfold getMethod specialOf
  refine wpAny_bind (wpAny_bind (I.type.here ((looks_findIn X.X hg).here ?_)))
  dsimp only
  rw [hcan, if_neg (by decide)]
  refine wpAny_bind (wpAny_bind (I.type.here ((looks_findIn X.X hga).here ?_)))
  refine wpAny_bind (wpAny_bind (I.type.here ((looks_findIn X.X hf).here (wpAny_bind ((looks_typeIn X.X ht).here ?_)))))
  rw [if_neg (by decide +kernel)]
  refine wpAny_bind (wpAny_loadPart (s := ⟨h, g, d, t, os⟩) I.at_ ?_)
  have hd := I.dict
  cases e : ox.dict with
  | none => exact wpAny_bind (wpAny_rule (wpAny_pure hQ))
  | some dx =>
    rw [e] at hd
    refine wpAny_bind (wpAny_bind (wpAny_loadPart (s := ⟨h, g, d, t, os⟩) hd ?_))
    rw [nsLook_of hs]
    exact wpAny_pure (wpAny_bind (wpAny_rule (wpAny_pure hQ)))
theorem methFn {x C f : Addr} {ox : Obj} {od : Obj} {name : Str}  {pl : Sem Bool} {Q : Value × List Value → Shared → Prop} (X : Cx w h) (I : PySem.W.InstAt h x ox C (some od))
    {ga : String} (hg : findIn (hd0.heap_1 w.params) (.ref C) "__getattribute__" = some (some (.builtin ga))) (hga : findIn (hd0.heap_1 w.params) (.ref C) "__getattr__" = some none)
    (hf : findIn (hd0.heap_1 w.params) (.ref C) name = some (some (.ref f))) (ht : typeIn (hd0.heap_1 w.params) (.ref f) = some (.type "function")) (hs : lookIn name od = some none)
    (hQ : Q (.ref f, [.ref x]) ⟨h, g, d, t, os⟩) (hcan : Manifest.canonical ga = "object.__getattribute__" := by decide +kernel) : wpAny (Md w) A (getMethod (.ref x) name pl) Q E ⟨h, g, d, t, os⟩ := by
  unfold getMethod specialOf
  refine wpAny_bind (wpAny_bind (I.type.here ((looks_findIn X.X hg).here ?_)))
  dsimp only
  rw [hcan, if_neg (by decide)]
  refine wpAny_bind (wpAny_bind (I.type.here ((looks_findIn X.X hga).here ?_)))
  refine wpAny_bind (wpAny_bind (I.type.here ((looks_findIn X.X hf).here (wpAny_bind ((looks_typeIn X.X ht).here ?_)))))
  rw [if_neg (by decide +kernel)]
  refine wpAny_bind (wpAny_loadPart (s := ⟨h, g, d, t, os⟩) I.at_ ?_)
  have hd := I.dict
  cases e : ox.dict with
  | none => exact wpAny_bind (wpAny_rule (wpAny_pure hQ))
  | some dx =>
    rw [e] at hd
    refine wpAny_bind (wpAny_bind (wpAny_loadPart (s := ⟨h, g, d, t, os⟩) hd ?_))
    rw [nsLook_of hs]
    exact wpAny_pure (wpAny_bind (wpAny_rule (wpAny_pure hQ)))
theorem checkOwn {M : Model} {s : Shared} {i owner n : String} {self : Value} {rest : List Value} {kw : List (Str × Value)} {Q : Unit → Shared → Prop}
    (hk : builtinKind i = some .method ∨ builtinKind i = some .slot) (hs : splitId i = some (owner, n)) (hi : Looks M s.heap (isInstance self (.type owner)) true) (ha : argsOk i ⟨self :: rest, kw⟩) (q : Q () s) :
    wpAny M A (checkBuiltinCall i ⟨self :: rest, kw⟩) Q E s := by
  rcases hk with hk | hk
  all_goals
    simp only [checkBuiltinCall, hk, hs]
    refine wpAny_bind (hi.here ?_)
    simp only [Bool.not_true, Bool.false_eq_true, if_false]
    cases hsig : Manifest.signature? i with
    | none => exact wpAny_pure q
    | some sig =>
      simp only [argsOk, hsig] at ha
      have h2 : Bind.checkArgs i sig ⟨self :: rest, kw⟩ = pure () := ha
      show wpAny M A (Bind.checkArgs i sig ⟨self :: rest, kw⟩) Q E s
      rw [h2]; exact wpAny_pure q
theorem callOwn {id owner n : String} {b : Builtin} {self : Value} {rest : List Value} {Q : Value → Shared → Prop} (hp : plainId id = true) (hk : builtinKind id = some .method ∨ builtinKind id = some .slot) (hs : splitId id = some (owner, n))
    (hi : Looks (Md w) h (isInstance self (.type owner)) true) (hb : entryFor table id = some b) (ha : argsOk id ⟨self :: rest, []⟩)
    (hc : wpAny (Md w) A.in1 (b ⟨self :: rest, []⟩) (fun fin s' => ∃ v, fin = .done (.ret v) ∧ Q v s') E ⟨h, g, d, t, os⟩) :
    wpAny (Md w) A (call (.builtin id) (self :: rest)) Q E ⟨h, g, d, t, os⟩ := by
  refine wpAny_call (codeAny_call_builtin hp hb (checkOwn hk hs hi ha (wpAny_mono hc (fun fin s' h' => ?_) fun _ _ h' => h')))
  obtain ⟨v, rfl, hv⟩ := h'; exact hv

/-- the accumulator's object -/
noncomputable def AccO (dl : Addr) (its : List Value) (o : Obj) : Prop := o.cls = .ref 138 ∧ o.dict = some dl ∧ ∃ n, o.data = .seq its.toArray n
theorem AccO.notTup {dl : Addr} {its : List Value} {o : Obj} (x : AccO dl its o) : NotTup o := fun _ _ q => by rw [x.1] at q; cases q.1
theorem AccO.inst {a dl : Addr} {its : List Value} {o od : Obj} (x : AccO dl its o) (ha : h.get? a = some o) (hd : h.get? dl = some od) : PySem.W.InstAt h a o 138 (some od) :=
  ⟨ha, x.1, (by obtain ⟨_, _, n, e⟩ := x; unfold notCls; rw [e]), by rw [x.2.1]; exact hd⟩
/-- its table: no method's name stands in it -/
noncomputable def AccD (od : Obj) : Prop := ∀ name : Str, name ≠ ("_initial_size" : Str) → lookIn name od = some none

theorem cwFn {f : Addr} {pos : Pos} {env : Env} {first : List Value} {e : Expr} {rest : List Expr} {s : Shared} {Q : Value → Shared → Prop} (hk : keepIn (hd0.heap_1 w.params) (.ref f) = true)
    (hQ : wpAny (Md w) A (spliced (backTo pos (starEach (e :: rest) env))) (fun vs s₁ => Cx w s₁.heap ∧ wpAny (Md w) A (call (.ref f) (first ++ vs)) Q E s₁) E s)
    (he : starEach (e :: rest) env = (false, eval e env) :: starEach rest env := by rfl) (hplain : (backTo pos (starEach rest env)).any (·.1) = false := by rfl) :
    wpAny (Md w) A (callWith pos (.ref f) first (backTo pos (starEach (e :: rest) env)) []) Q E s := by
  rw [he] at hQ ⊢
  exact callWith_of (P := fun h => Cx w h) (by show ((false || (backTo pos (starEach rest env)).any (·.1)) || false) = false; rw [hplain]; rfl) (fun h C => keeps_K hk h C.X) (evalArgs_plain hQ)
theorem cwFn0 {f : Addr} {pos : Pos} {env : Env} {first : List Value} {Q : Value → Shared → Prop} (C : Cx w h) (hk : keepIn (hd0.heap_1 w.params) (.ref f) = true)
    (hQ : wpAny (Md w) A (call (.ref f) (first ++ [])) Q E ⟨h, g, d, t, os⟩) : wpAny (Md w) A (callWith pos (.ref f) first (backTo pos (starEach [] env)) []) Q E ⟨h, g, d, t, os⟩ :=
  callWith_of (P := fun h => Cx w h) rfl (fun h C => keeps_K hk h C.X) (evalArgs_nil3 ⟨C, hQ⟩)
theorem cwBi {id : String} {pos : Pos} {env : Env} {first : List Value} {e : Expr} {rest : List Expr} {s : Shared} {Q : Value → Shared → Prop}
    (hQ : wpAny (Md w) A (spliced (backTo pos (starEach (e :: rest) env))) (fun vs s₁ => wpAny (Md w) A (call (.builtin id) (first ++ vs)) Q E s₁) E s)
    (he : starEach (e :: rest) env = (false, eval e env) :: starEach rest env := by rfl) (hplain : (backTo pos (starEach rest env)).any (·.1) = false := by rfl) :
    wpAny (Md w) A (callWith pos (.builtin id) first (backTo pos (starEach (e :: rest) env)) []) Q E s := by
  rw [he] at hQ ⊢
  exact callWith_of (P := fun _ => True) (by show ((false || (backTo pos (starEach rest env)).any (·.1)) || false) = false; rw [hplain]; rfl) (fun h _ => ⟨.machine, .inr (.inl rfl), Looks.of_pure rfl⟩) (evalArgs_plain (wpAny_mono hQ (fun _ _ q => ⟨trivial, q⟩) fun _ _ e => e))
theorem cwBi0 {id : String} {pos : Pos} {env : Env} {first : List Value} {s : Shared} {Q : Value → Shared → Prop}
    (hQ : wpAny (Md w) A (call (.builtin id) (first ++ [])) Q E s) : wpAny (Md w) A (callWith pos (.builtin id) first (backTo pos (starEach [] env)) []) Q E s :=
  callWith_of (P := fun _ => True) rfl (fun h _ => ⟨.machine, .inr (.inl rfl), Looks.of_pure rfl⟩) (evalArgs_nil3 ⟨trivial, hQ⟩)

theorem xExpr {M : Model} {s : Shared} {env : Env} {Q : Flow → Shared → Prop} {rest : List Stmt} {e : Expr} {pos : Pos} (hQ : wpAny M A (eval e env) (fun v s' => match v with | .ref _ => False | _ => wpAny M A (execs rest env) Q E s') E s)
    (hi : interactive env = false := by rfl) (hs : swapsWith e none pos.line env = pure false := by rfl) : wpAny M A (execs (.Expr e pos :: rest) env) Q E s := by
  refine xCons (wpAny_Expr (wpAny_mono hQ (fun v s' q => ?_) fun _ _ x => x) hi hs)
  cases v <;> exact q

theorem acc_append {Q : Value → Shared → Prop} {a dl : Addr} {its : List Value} {o od : Obj} {x : Value} (C : Cx w h) (ho : h.get? a = some o) (hA : AccO dl its o) (hd : h.get? dl = some od) (hz : its.length ≤ 1000)
    (hQ : ∀ h' o', (∀ b x, b ≠ a → h.get? b = some x → h'.get? b = some x) → h'.get? a = some o' → AccO dl (its ++ [x]) o' → Q .none ⟨h', g, d, t, os⟩) :
    wpAny (Md w) A (call (.builtin "list.append") [.ref a, x]) Q E ⟨h, g, d, t, os⟩ := by
  refine callOwn (owner := "list") (n := "append") (by decide +kernel) (.inl (by decide +kernel)) (by decide +kernel) (instLooks C (hA.inst ho hd) (by k_is)) PySem.F.entry_list_append (PySem.F.args_list_append_2 _ _) ?_
  show wpAny _ _ (updateSeq a (·.push x) >>= fun _ => ret .none) _ _ _
  obtain ⟨hc, hdl, n, hdat⟩ := hA
  obtain ⟨n', hd'⟩ := Obj.data_mapSeq hdat (·.push x)
  refine wpAny_bind (wpAny_updateSeq (s := ⟨h, g, d, t, os⟩) ho hdat (wpAny_pure ⟨.none, rfl, ?_⟩) (by simp [sizeLine]; omega) (by simp [sizeLine]; omega))
  refine hQ _ _ (fun b x ne e => (Heap.get?_update_ne _ _ _ _ ne).trans e) (Heap.get?_update_self _ ho (Obj.isFreed_of_seq hd')) ⟨(Obj.cls_mapSeq ..).trans hc, ?_, n', ?_⟩
  · rw [← hdl]; cases o; rename_i c1 c2 c3 c4; cases c3 <;> rfl
  · rw [hd']; simp
theorem push_spec {Q : Value → Shared → Prop} {a dl : Addr} {its : List Value} {o od : Obj} {x y : Value}
    (C : Cx w h) (hroom : A.depth < recursionLimit) (ho : h.get? a = some o) (hA : AccO dl its o) (hd : h.get? dl = some od) (hD : AccD od) (hz : its.length ≤ 1000)
    (hQ : ∀ h' t T o', (∀ b x, b ≠ a → h.get? b = some x → h'.get? b = some x) → h'.get? a = some o' → AccO dl (its ++ [.ref T]) o' → h'.IsTuple T #[x, y] → h.get? T = none → Q .none ⟨h', g, d, t, os⟩) :
    wpAny (Md w) A (call (.ref 82) [.ref a, x, y]) Q E ⟨h, g, d, t, os⟩ := by
  refine enterCall (binds := [(Str.ofString "self", .ref a), (Str.ofString "fws", x), (Str.ofString "string", y)]) C (by k_is) (by k_is) hroom (BindsTo.of_eq rfl) (locs rfl) (fun L h₁ t S => ?_) (by decide)
  refine xExpr (MethodCall_ (ldL S rfl (methBi (C.keeps S.keep) (hA.inst (S.keep _ _ ho) (S.keep _ _ hd)) (by k_is) (by k_is) (by k_is) (by k_is) (hD _ (by decide)) ?_)) (by rfl))
  refine cwBi (spliced_more (wpAny_Tuple (spliced_more (ldL S rfl (spliced_more (ldL S rfl (spliced_none ⟨by simp [sizeLine], spliced_none ?_⟩)))))))
  have S1 := S.alloc { cls := .type "tuple", data := .seq [x, y].toArray } rfl
  have hT := S1.at 0 rfl
  have k1 : Kp h (h₁.push { cls := .type "tuple", data := .seq [x, y].toArray }) := S1.keep
  refine acc_append (C.keeps k1) (k1 _ _ ho) hA (k1 _ _ hd) hz fun h' o' k ho' hA' => ?_
  have na : h₁.objs.size ≠ a := fun e => by
    have := S1.new (a := h₁.objs.size) (by simp)
    rw [e, ho] at this; cases this
  refine xNil (hQ h' _ _ o' (fun b z ne e => k b z ne (k1 b z e)) ho' hA' ⟨_, k _ _ na hT, rfl, _, rfl⟩ (S1.new (by simp)))
end
end Mine
set_option maxHeartbeats 200000
namespace Mine

section
variable {w : World} {A : Around} {E : Value → Shared → Prop} {h : Heap} {g : Array GenState} {d : Drawn} {t : Nat} {os : OsState}

theorem subOwn {env : Env} {value : Expr} {lower upper : Option Expr} {p pos : Pos} {Q : Value → Shared → Prop} {s : Shared}
    (hQ : wpAny (Md w) A (eval value env) (fun o s₁ => wpAny (Md w) A (eval (.Slice lower upper none p) env) (fun i s₂ => (X5 fun x C ox od id => A4 (o = .ref x) (PySem.W.InstAt s₂.heap x ox C od) (Cx w s₂.heap) (findIn (hd0.heap_1 w.params) (.ref C) "__getitem__" = some (some (.builtin id)))) ∧ wpAny (Md w) A (getItem o i) Q E s₂) E s₁) E s)
    (ht : ∀ o r, letTemporaryGo value o r = pure () := by intro _ _; rfl) :
    wpAny (Md w) A (eval (.Subscript value (.Slice lower upper none p) pos) env) Q E s := by
  rw [eval_Subscript]
  refine wpAny_bind (wpAny_mono hQ (fun o s₁ h₁ => wpAny_bind (wpAny_holding (wpAny_mono h₁ (fun i s₂ h₂ => wpAny_bind (wpAny_standAt ?_)) fun _ _ x => x))) fun _ _ x => x)
  obtain ⟨⟨x, C, ox, od, id, rfl, I, X, hf⟩, h2⟩ := h₂
  have fin : wpAny (Md w) A (operate [i, .ref x] (getItem (.ref x) i)) (fun r s₃ => wpAny (Md w) A (letTemporaryGo value (.ref x) r >>= fun _ => pure r) Q E s₃) E s₂ :=
    wpAny_operating (wpAny_mono h2 (fun r s₃ h₃ => wpAny_bind (wpAny_of_eq (ht (.ref x) r) (wpAny_pure h₃))) fun _ _ x => x)
  refine wpAny_bind ?_
  unfold getitemInPython specialOf
  refine wpAny_bind (wpAny_bind (I.type.here ((looks_findIn X.X hf).here (wpAny_pure ?_))))
  exact wpAny_bind fin

theorem specBi {x C : Addr} {ox : Obj} {od : Option Obj} {name : Str} {id : String} {args : List Value} {Q : Option Value → Shared → Prop} (X : Cx w h) (I : PySem.W.InstAt h x ox C od)
    (hf : findIn (hd0.heap_1 w.params) (.ref C) name = some (some (.builtin id))) (hb : bindSpecial (.builtin id) (.ref x) = pure (.builtin id, [.ref x]))
    (hQ : wpAny (Md w) A (call (.builtin id) (.ref x :: args)) (fun v => Q (some v)) E ⟨h, g, d, t, os⟩) : wpAny (Md w) A (callSpecial? (.ref x) name args) Q E ⟨h, g, d, t, os⟩ := by
  unfold callSpecial? specialOf
  refine wpAny_bind (wpAny_bind (I.type.here ((looks_findIn X.X hf).here ?_)))
  refine wpAny_holding ?_
  rw [hb]
  exact wpAny_bind (wpAny_pure (wpAny_bind (wpAny_mono hQ (fun _ _ q => wpAny_pure q) fun _ _ e => e)))
theorem seqKey {x C : Addr} {ox : Obj} {od : Option Obj} {name : Str} {i : Value} {Q : Value → Shared → Prop} (X : Cx w h) (I : PySem.W.InstAt h x ox C od) (hq : noSeq (hd0.heap_1 w.params) C = true) (hQ : Q i ⟨h, g, d, t, os⟩) :
    wpAny (Md w) A (sequenceKey (.ref x) i name) Q E ⟨h, g, d, t, os⟩ := by
  unfold sequenceKey
  refine wpAny_bind (I.type.here ?_)
  refine wpAny_bind ((anyM_none X.X hq).here ?_)
  rw [if_pos (show (!false) = true from rfl)]
  exact wpAny_pure hQ
theorem getItemBi {x C : Addr} {ox : Obj} {od : Option Obj} {id : String} {i : Value} {Q : Value → Shared → Prop} (X : Cx w h) (I : PySem.W.InstAt h x ox C od) (hq : noSeq (hd0.heap_1 w.params) C = true)
    (hf : findIn (hd0.heap_1 w.params) (.ref C) "__getitem__" = some (some (.builtin id))) (hb : bindSpecial (.builtin id) (.ref x) = pure (.builtin id, [.ref x]))
    (hQ : wpAny (Md w) A (call (.builtin id) [.ref x, i]) Q E ⟨h, g, d, t, os⟩) : wpAny (Md w) A (getItem (.ref x) i) Q E ⟨h, g, d, t, os⟩ := by
  unfold getItem
  exact wpAny_holding (wpAny_bind (seqKey X I hq (wpAny_bind (specBi X I hf hb (wpAny_mono hQ (fun _ _ q => wpAny_pure q) fun _ _ e => e)))))
theorem setItemBi {x C : Addr} {ox : Obj} {od : Option Obj} {id : String} {i v : Value} {Q : Unit → Shared → Prop} (X : Cx w h) (I : PySem.W.InstAt h x ox C od) (hq : noSeq (hd0.heap_1 w.params) C = true)
    (hf : findIn (hd0.heap_1 w.params) (.ref C) "__setitem__" = some (some (.builtin id))) (hb : bindSpecial (.builtin id) (.ref x) = pure (.builtin id, [.ref x]))
    (hQ : wpAny (Md w) A (call (.builtin id) [.ref x, i, v]) (fun _ s' => Q () s') E ⟨h, g, d, t, os⟩) : wpAny (Md w) A (setItem (.ref x) i v) Q E ⟨h, g, d, t, os⟩ := by
  unfold setItem
  exact wpAny_holding (wpAny_bind (seqKey X I hq (wpAny_bind (specBi X I hf hb (wpAny_mono hQ (fun _ _ q => wpAny_pure q) fun _ _ e => e)))))

theorem acc_slice {Q : Value → Shared → Prop} {a dl sl : Addr} {its : List Value} {o od : Obj} {vl vu : Value} {lo hi : Option Int} (C : Cx w h) (ho : h.get? a = some o) (hA : AccO dl its o) (hd : h.get? dl = some od) (hz : its.length ≤ 1000)
    (hs : h.IsSliceOf sl vl vu .none) (pl : IsPart vl lo) (pu : IsPart vu hi)
    (hQ : Q (.ref h.objs.size) ⟨h.push { cls := .type "list", data := .seq (slicePick its.toArray lo hi none) }, g, d, t, os⟩) :
    wpAny (Md w) A (call (.builtin "list.__getitem__") [.ref a, .ref sl]) Q E ⟨h, g, d, t, os⟩ := by
  refine callOwn (owner := "list") (n := "__getitem__") (by decide +kernel) (by first | exact .inl (by decide +kernel) | exact .inr (by decide +kernel)) (by decide +kernel) (instLooks C (hA.inst ho hd) (by k_is)) entry_list_getitem (args_list_getitem _ _) ?_
  obtain ⟨hc, hdl, n, hdat⟩ := hA
  obtain ⟨os', hos, hcs, hds⟩ := id hs
  have hTs : (⟨h, g, d, t, os⟩ : Shared).TypeIs (.ref sl) "slice" := ⟨os', hos, hcs⟩
  show wpAny _ _ (Builtin.List.listSubscript? (.ref sl) >>= _) _ _ _
  refine wpAny_bind ?_
  unfold Builtin.List.listSubscript?
  refine wpAny_bind (wpAny_specialOf hTs slice_no_index ?_)
  simp only [Option.isNone_none, if_true]
  refine wpAny_pure ?_
  show wpAny _ _ (typeOf (.ref sl) >>= _) _ _ _
  refine wpAny_bind (wpAny_typeOf hTs ?_)
  rw [if_neg (by decide)]
  rw [listSliceParts_eq]
  refine wpAny_bind (wpAny_bind (wpAny_field (s := ⟨h, g, d, t, os⟩) hos hds (x := .none) rfl (wpAny_bind (wpAny_listPart .none ?_))))
  rw [if_neg (by decide)]
  refine wpAny_bind (wpAny_field (s := ⟨h, g, d, t, os⟩) hos hds (x := vl) rfl (wpAny_bind (wpAny_listPart pl ?_)))
  refine wpAny_bind (wpAny_field (s := ⟨h, g, d, t, os⟩) hos hds (x := vu) rfl (wpAny_bind (wpAny_listPart pu (wpAny_pure ?_))))
  refine wpAny_bind (m := Builtin.List.listItems (.ref a)) ?_
  unfold Builtin.List.listItems
  refine wpAny_bind (wpAny_seqItems (s := ⟨h, g, d, t, os⟩) ho hdat (wpAny_pure ?_))
  refine wpAny_bind (wpAny_of_eq (sliceIndices_raw lo hi none its.toArray.size (by simp)) ?_)
  exact wpAny_bind (wpAny_newObj_type (s := ⟨h, g, d, t, os⟩) (wpAny_pure ⟨_, rfl, hQ⟩) (Nat.le_trans (slicePick_size_le its.toArray lo hi none) (by simp [sizeLine]; omega)))

theorem acc_setslice {Q : Value → Shared → Prop} {a dl sl l : Addr} {its new : List Value} {o od : Obj} {vl vu : Value} {lo hi : Option Int} (C : Cx w h) (ho : h.get? a = some o) (hA : AccO dl its o) (hd : h.get? dl = some od) (hz : its.length ≤ 1000) (hz2 : new.length ≤ 1000)
    (hs : h.IsSliceOf sl vl vu .none) (pl : IsPart vl lo) (pu : IsPart vu hi) (hl : h.IsList l new.toArray)
    (hQ : ∀ h' o', (∀ b x, b ≠ a → h.get? b = some x → h'.get? b = some x) → h'.get? a = some o' →
      AccO dl (its.take (sliceBounds lo hi none its.length).1.toNat ++ new ++ its.drop (max (sliceBounds lo hi none its.length).1 (sliceBounds lo hi none its.length).2.1).toNat) o' → Q .none ⟨h', g, d, t, os⟩) :
    wpAny (Md w) A (call (.builtin "list.__setitem__") [.ref a, .ref sl, .ref l]) Q E ⟨h, g, d, t, os⟩ := by
  have hal : (a == l) = false := by
    obtain ⟨ol, hol, hcl, _⟩ := hl
    cases q : (a == l) with
    | false => rfl
    | true =>
      have : a = l := by simpa using q
      rw [← this, ho] at hol
      cases hol
      rw [hA.1] at hcl; cases hcl
  refine callOwn (owner := "list") (n := "__setitem__") (by decide +kernel) (by first | exact .inl (by decide +kernel) | exact .inr (by decide +kernel)) (by decide +kernel) (instLooks C (hA.inst ho hd) (by k_is)) entry_list_setitem (args_list_setitem _ _ _) ?_
  obtain ⟨hc, hdl, n, hdat⟩ := hA
  obtain ⟨os', hos, hcs, hds⟩ := id hs
  obtain ⟨ol, hol, hcl, nl, hdl'⟩ := hl
  have hTs : (⟨h, g, d, t, os⟩ : Shared).TypeIs (.ref sl) "slice" := ⟨os', hos, hcs⟩
  have hTl : (⟨h, g, d, t, os⟩ : Shared).TypeIs (.ref l) "list" := ⟨ol, hol, hcl⟩
  show wpAny _ _ (Builtin.List.listSubscript? (.ref sl) >>= _) _ _ _
  refine wpAny_bind ?_
  unfold Builtin.List.listSubscript?
  refine wpAny_bind (wpAny_specialOf hTs slice_no_index ?_)
  simp only [Option.isNone_none, if_true]
  refine wpAny_pure ?_
  show wpAny _ _ (typeOf (.ref sl) >>= _) _ _ _
  refine wpAny_bind (wpAny_typeOf hTs ?_)
  rw [if_neg (by decide)]
  rw [listSliceParts_eq]
  refine wpAny_bind (wpAny_bind (wpAny_field (s := ⟨h, g, d, t, os⟩) hos hds (x := .none) rfl (wpAny_bind (wpAny_listPart .none ?_))))
  rw [if_neg (by decide)]
  refine wpAny_bind (wpAny_field (s := ⟨h, g, d, t, os⟩) hos hds (x := vl) rfl (wpAny_bind (wpAny_listPart pl ?_)))
  refine wpAny_bind (wpAny_field (s := ⟨h, g, d, t, os⟩) hos hds (x := vu) rfl (wpAny_bind (wpAny_listPart pu (wpAny_pure ?_))))
  rw [show Builtin.List.listSameRef (.ref a) (.ref l) = false from hal, if_neg (by decide)]
  refine wpAny_bind ?_
  unfold Builtin.List.listAllItems
  refine wpAny_bind (wpAny_typeOf hTl ?_)
  rw [if_pos (by decide)]
  unfold Builtin.List.listItems
  refine wpAny_bind (wpAny_seqItems (s := ⟨h, g, d, t, os⟩) hol hdl' (wpAny_pure ?_))
  refine wpAny_bind (wpAny_bind (wpAny_seqItems (s := ⟨h, g, d, t, os⟩) ho hdat (wpAny_pure ?_)))
  refine wpAny_bind (wpAny_of_eq (sliceIndices_raw lo hi none its.toArray.size (by simp)) ?_)
  have e1 : (sliceBounds lo hi none its.toArray.size).2.2 = 1 := rfl
  show wpAny _ _ (if ((sliceBounds lo hi none its.toArray.size).2.2 == 1) = true then _ else _) _ _ _
  rw [e1, if_pos (by decide)]
  refine wpAny_bind (wpAny_rule ?_)
  show wpAny _ _ (if Builtin.List.listTooLong (its.toArray.size + new.toArray.size) = true then _ else _) _ _ _
  rw [if_neg (by simp [Builtin.List.listTooLong, sizeLine]; omega)]
  obtain ⟨n', hd'⟩ := Obj.data_mapSeq hdat (fun xs => xs.extract 0 (sliceBounds lo hi none its.toArray.size).1.toNat ++ new.toArray ++ xs.extract (max (sliceBounds lo hi none its.toArray.size).1 (sliceBounds lo hi none its.toArray.size).2.1).toNat xs.size)
  refine wpAny_bind (wpAny_updateSeq (s := ⟨h, g, d, t, os⟩) ho hdat (wpAny_bind (wpAny_letGo ?_)) (by simp [sizeLine]; omega) (by simp [sizeLine]; omega))
  refine wpAny_pure ⟨.none, rfl, ?_⟩
  refine hQ _ _ (fun b x ne e => (Heap.get?_update_ne _ _ _ _ ne).trans e) (Heap.get?_update_self _ ho (Obj.isFreed_of_seq hd')) ⟨(Obj.cls_mapSeq ..).trans hc, ?_, n', ?_⟩
  · rw [← hdl]; cases o; rename_i c1 c2 c3 c4; cases c3 <;> rfl
  · rw [hd']
    congr 1
    apply Array.toList_inj.mp
    simp only [Array.toList_append, Array.toList_extract, List.extract_eq_take_drop, List.size_toArray]
    simp
    exact List.take_of_length_le (by simp)
/-- how the caller's facts come out of a call that changes one object -/
theorem bounds_from (i n : Nat) (hi : i ≤ n) : sliceBounds (some (i : Int)) none none n = ((i : Int), (n : Int), 1) := by
  simp [sliceBounds]
  omega
theorem bounds_all (n : Nat) : sliceBounds none none none n = (0, (n : Int), 1) := by simp [sliceBounds]

theorem pop_from_at {Q : Value → Shared → Prop} {a dl : Addr} {its : List Value} {o od : Obj} {i : Nat} {args : List Value}
    (C : Cx w h) (hroom : A.depth < recursionLimit) (ho : h.get? a = some o) (hA : AccO dl its o) (hd : h.get? dl = some od) (hz : its.length ≤ 1000) (hi : i ≤ its.length)
    (ha : (∃ ti, args = [.ref a, .int i ti]) ∨ (args = [.ref a] ∧ i = 0))
    (hQ : ∀ h' t D oD o', (∀ b x, b ≠ a → h.get? b = some x → h'.get? b = some x) → h'.get? a = some o' → AccO dl (its.take i) o' → h.get? D = none → h'.get? D = some oD → (oD.cls = .type "list" ∧ ∃ n, oD.data = .seq (its.drop i).toArray n) → Q (.ref D) ⟨h', g, d, t, os⟩) :
    wpAny (Md w) A (call (.ref 90) args) Q E ⟨h, g, d, t, os⟩ := by
  obtain ⟨tj, ha⟩ : ∃ tj, (args = [.ref a, .int i tj]) ∨ (args = [.ref a] ∧ i = 0 ∧ tj = 389) := by
    rcases ha with ⟨ti, h⟩ | ⟨h1, h2⟩
    · exact ⟨ti, .inl h⟩
    · exact ⟨_, .inr ⟨h1, h2, rfl⟩⟩
  refine enterCall (binds := [(Str.ofString "self", .ref a), (Str.ofString "i", .int i tj)]) C (by k_is) (by k_is) hroom (by
    rcases ha with rfl | ⟨rfl, rfl, rfl⟩
    · exact binds_K C.X rfl (by k_is) rfl rfl rfl
    · exact binds_K C.X rfl (by k_is) rfl rfl rfl) (locs rfl) (fun L h₁ t S => ?_) (by decide)
  refine xAssign (subOwn (ldL S rfl (wpAny_Slice (wpAny_evalPart_some (ldL S rfl (wpAny_evalPart_none (wpAny_evalPart_none ?_)))))))
  have S1 := S.alloc { cls := .type "slice", data := .fields #[.int i tj, .none, .none] } rfl
  refine ⟨⟨a, 138, o, some od, "list.__getitem__", rfl, hA.inst (S1.keep _ _ ho) (S1.keep _ _ hd), C.keeps S1.keep, by k_is⟩, ?_⟩
  refine getItemBi (C.keeps S1.keep) (hA.inst (S1.keep _ _ ho) (S1.keep _ _ hd)) (by k_is) (by k_is) rfl ?_
  refine acc_slice (C.keeps S1.keep) (S1.keep _ _ ho) hA (S1.keep _ _ hd) hz ⟨_, S1.at 0 rfl, rfl, rfl⟩ (.int _ _) .none ?_
  rw [slicePick_from']
  have S2 := S1.alloc { cls := .type "list", data := .seq (its.drop i).toArray } rfl
  have hD0 : h.get? (h₁.push { cls := .type "slice", data := .fields #[.int (i : Int) tj, .none, .none] }).objs.size = none := S2.new (by simp)
  refine stL S2 fun h2 S3 => ?_
  refine xCons (wpAny_Assign_Subscript (wpAny_List (spliced_none ⟨by simp [sizeLine], ?_⟩)))
  have S4 := S3.alloc { cls := .type "list", data := .seq ([] : List Value).toArray } rfl
  refine ldL S4 rfl (wpAny_Slice (wpAny_evalPart_some (ldL S4 rfl (wpAny_evalPart_none (wpAny_evalPart_none ?_)))))
  have S5 := S4.alloc { cls := .type "slice", data := .fields #[.int i tj, .none, .none] } rfl
  refine setItemBi (C.keeps S5.keep) (hA.inst (S5.keep _ _ ho) (S5.keep _ _ hd)) (by k_is) (by k_is) rfl ?_
  refine acc_setslice (new := []) (C.keeps S5.keep) (S5.keep _ _ ho) hA (S5.keep _ _ hd) hz (by simp) ⟨_, S5.at 0 rfl, rfl, rfl⟩ (.int _ _) .none ⟨_, S5.at 1 rfl, rfl, _, rfl⟩ fun h6 o6 k6 ho6 hA6 => ?_
  have e : ∀ b ∈ L :: [(h2.push { cls := .type "list", data := .seq ([] : List Value).toArray }).objs.size, h2.objs.size, (h₁.push { cls := .type "slice", data := .fields #[.int (i : Int) tj, .none, .none] }).objs.size, h₁.objs.size], b ≠ a := by
    intro b hb e
    subst e
    have := S5.new hb
    rw [ho] at this; cases this
  have n6 := ns_keeps S5.ns (fun o => k6 _ _ (e _ (by simp)))
  refine xRet (wpAny_Name (wpAny_loadName_local rfl rfl n6 rfl ?_) rfl)
  refine hQ h6 _ _ _ o6 (fun b x ne q => k6 b x ne (S5.keep b x q)) ho6 ?_ hD0 (k6 _ _ (e _ (by simp)) (S5.at 2 rfl)) ⟨rfl, _, rfl⟩
  rw [bounds_from i its.length hi] at hA6
  have e2 : (max (i : Int) (its.length : Int)).toNat = its.length := by omega
  simpa [e2] using hA6
end
end Mine
set_option maxHeartbeats 200000
namespace Mine

section
variable {h₀ H h h' : Heap} {ex : List Addr} {L : Addr} {m : Str → Option Value} {mu mu' : List (Addr × Obj)}
/-- after a call that changed some entries -/
theorem St.after (S : St h₀ H ex L h m mu) (tc : List Addr) (hm : mu'.map (·.1) = mu.map (·.1)) (led' : ∀ p ∈ mu', h'.get? p.1 = some p.2)
    (k : ∀ b x, b ∉ tc → h.get? b = some x → h'.get? b = some x) (htc : ∀ a ∈ tc, a ∈ mu.map (·.1)) (hnt : ∀ p ∈ mu, p.1 ∈ tc → NotTup p.2) : St h₀ H ex L h' m mu' := by
  have nd := List.nodup_cons.mp S.nd
  have nL : L ∉ tc := fun e => nd.1 (htc _ e)
  refine ⟨ns_keeps S.ns (fun o => k L o nL), led', by rw [hm]; exact S.nd, fun a ha => S.mtb a (by rw [hm] at ha; exact ha), fun b x hb e => k b x (fun q => ?_) (S.pres b x hb e), fun b its T => ?_, S.base⟩
  · rcases S.mtb b (.tail _ (htc _ q)) with z | z
    · exact hb z
    · rw [e] at z; cases z
  · obtain ⟨ob, hb, hc, n, hd⟩ := S.tup b its T
    refine ⟨ob, k b ob (fun q => ?_) hb, hc, n, hd⟩
    obtain ⟨p, hp, rfl⟩ := List.mem_map.mp (htc _ q)
    have := S.led p hp
    rw [hb] at this
    cases this
    exact hnt p hp q _ _ ⟨hc, hd⟩
theorem St.startM {hB : Heap} {mu0 : List (Addr × Obj)} (hn : h'.Ns L m) (k0 : Kp hB h) (k : Kp h h') (hL : h.get? L = none) (hmu : ∀ p ∈ mu0, h.get? p.1 = some p.2) (nd : (mu0.map (·.1)).Nodup) (hnew : ∀ a ∈ mu0.map (·.1), hB.get? a = none) :
    St hB h (mu0.map (·.1)) L h' m mu0 := by
  refine ⟨hn, fun p hp => k _ _ (hmu p hp), List.nodup_cons.mpr ⟨fun e => ?_, nd⟩, fun a ha => ?_, fun b o _ e => k b o e, fun b its T => tup_keeps T (k b), fun b o e => ⟨k0 b o e, fun q => by rw [hnew b q] at e; cases e⟩⟩
  · obtain ⟨p, hp, e⟩ := List.mem_map.mp e
    have := hmu p hp
    rw [e, hL] at this; cases this
  · rcases List.mem_cons.mp ha with rfl | ha
    · exact .inr hL
    · exact .inl ha
end

section
variable {w : World} {A : Around} {E : Value → Shared → Prop} {h hB : Heap} {g : Array GenState} {d : Drawn} {t : Nat} {os : OsState} {mu0 : List (Addr × Obj)}
theorem enterCallM {Q : Value → Shared → Prop} {f : Addr} {args : List Value} {binds : List (Str × Value)} {name qual : Str} {params : Arguments} {body : List Stmt} {scope : Scope} {dV kV doc pm cdv ct oc : Value} {an od : Option Addr} {osl : Array (Option Value)}
    (C : Cx w hB) (k0 : Kp hB h) (hmu : ∀ p ∈ mu0, h.get? p.1 = some p.2) (nd : (mu0.map (·.1)).Nodup) (hnew : ∀ a ∈ mu0.map (·.1), hB.get? a = none)
    (ho : (hd0.heap_1 w.params).lookup f = some ⟨oc, od, .func (fnOf name qual params body scope dV kV doc pm an cdv ct), osl⟩) (hcd : codeIn (hd0.heap_1 w.params) cdv qual = true) (hroom : A.depth < recursionLimit)
    (hbind : BindsTo ⟨h, g, d, t, os⟩ (fnOf name qual params body scope dV kV doc pm an cdv ct) ⟨args, []⟩ binds) (hloc : ∀ y ∈ binds, scope.names.lookup y.1 = some .local)
    (hb : ∀ L h₁ t, St hB h (mu0.map (·.1)) L h₁ (fun y => binds.reverse.lookup y) mu0 →
      wpAny (Md w) (A.deeper (envX qual scope L f cdv [])) (execs body (envX qual scope L f cdv [])) (fun fl s' => Q (RetV fl) s') (fun _ _ => False) ⟨h₁, g, d, t, os⟩)
    (hcell : ∀ x ∈ scope.names, x.2 ≠ .cell) (hco : scope.isCoroutine = false := by rfl) (hgen : scope.isGenerator = false := by rfl) (hk : scope.kind = .function := by rfl) :
    wpAny (Md w) A (call (.ref f) args) Q E ⟨h, g, d, t, os⟩ :=
  wpAny_call (codeAny_call_def (fd := fnOf name qual params body scope dV kV doc pm an cdv ct) (body := body) (binds := binds) hroom (k0 _ _ (C.X _ _ ho)) rfl (C.keeps k0).lim (codeRec_of (C.keeps k0).X hcd) rfl hbind hcell hloc
    (fun h₁ hns hk₁ => wpAny_mono (hb h.objs.size h₁ _ (St.startM hns k0 hk₁ (fresh_none h) hmu nd hnew)) (fun fl s' q => by cases fl <;> exact q) fun _ _ x => x.elim) hco hgen hk)

theorem lookup_of_mem {α : Type} : ∀ {l : List (Str × α)} {n : Str} {c : α}, (l.map (·.1)).Nodup → (n, c) ∈ l → l.lookup n = some c
  | (k, v) :: r, n, c, hn, hm => by
    rw [List.lookup_cons]
    rw [List.map_cons, List.nodup_cons] at hn
    rcases List.mem_cons.mp hm with e | hm
    · cases e; simp
    · have : (n == k) = false := beq_eq_false_iff_ne.mpr fun e => hn.1 (e ▸ List.mem_map.mpr ⟨_, hm, rfl⟩)
      rw [this]
      exact lookup_of_mem hn.2 hm
/-- a function with cells -/
theorem enterCallC {Q : Value → Shared → Prop} {f : Addr} {args : List Value} {binds : List (Str × Value)} {name qual : Str} {params : Arguments} {body : List Stmt} {scope : Scope} {dV kV doc pm cdv ct oc : Value} {an od : Option Addr} {osl : Array (Option Value)}
    (C : Cx w h) (ho : (hd0.heap_1 w.params).lookup f = some ⟨oc, od, .func (fnOf name qual params body scope dV kV doc pm an cdv ct), osl⟩) (hcd : codeIn (hd0.heap_1 w.params) cdv qual = true) (hroom : A.depth < recursionLimit)
    (hbind : bindArgs (fnOf name qual params body scope dV kV doc pm an cdv ct) ⟨args, []⟩ = pure binds)
    (hkind : ∀ L, ∀ x ∈ binds, scope.names.lookup x.1 = some .local ∨ (scope.names.lookup x.1 = some .cell ∧ ((cellsFrom (L + 1) scope.names []).lookup x.1).isSome = true))
    (hb : ∀ L h₁ t mu cl, cl = cellsFrom (L + 1) scope.names [] → mu.map (·.1) = cl.map (·.2) → CellsAre (bindC (fun n => scope.names.lookup n) binds fun _ => none) cl mu → St h h [] L h₁ (bindL (fun n => scope.names.lookup n) binds fun _ => none) mu →
      wpAny (Md w) (A.deeper (envX qual scope L f cdv cl)) (execs body (envX qual scope L f cdv cl)) (fun fl s' => Q (RetV fl) s') (fun _ _ => False) ⟨h₁, g, d, t, os⟩)
    (hnd : ∀ L, ((cellsFrom (L + 1) scope.names []).map (·.1)).Nodup)
    (hco : scope.isCoroutine = false := by rfl) (hgen : scope.isGenerator = false := by rfl) (hk : scope.kind = .function := by rfl) :
    wpAny (Md w) A (call (.ref f) args) Q E ⟨h, g, d, t, os⟩ := by
  refine wpAny_call (codeAny_call_cells (fd := fnOf name qual params body scope dV kV doc pm an cdv ct) (body := body) (binds := binds) hroom (C.X _ _ ho) rfl C.lim (codeRec_of C.X hcd) rfl hbind rfl (hkind _) (fun s₁ x => ?_) hco hgen hk)
  obtain ⟨h₁, t', rfl⟩ := x.toInCall.same
  have key : ∀ cs : List (Str × Addr), (∀ n c, (n, c) ∈ cs → h₁.IsCell c ((bindC (fun n => scope.names.lookup n) binds fun _ => none) n)) → ∃ mu : List (Addr × Obj), mu.map (·.1) = cs.map (·.2) ∧ (∀ p ∈ mu, h₁.get? p.1 = some p.2) ∧ CellsAre (bindC (fun n => scope.names.lookup n) binds fun _ => none) cs mu := by
    intro cs
    induction cs with
    | nil => intro _; exact ⟨[], rfl, (fun p hp => nomatch hp), .nil⟩
    | cons c r ih =>
      intro hc
      obtain ⟨o, ho, hd⟩ := hc c.1 c.2 (.head _)
      obtain ⟨mu, e1, e2, e3⟩ := ih fun n c hm => hc n c (.tail _ hm)
      refine ⟨(c.2, o) :: mu, by rw [List.map_cons, List.map_cons, e1], fun p hp => ?_, .cons hd e3⟩
      rcases List.mem_cons.mp hp with rfl | hp
      · exact ho
      · exact e2 p hp
  have cellAt : ∀ n c, (n, c) ∈ cellsFrom (h.objs.size + 1) scope.names [] → h₁.IsCell c ((bindC (fun n => scope.names.lookup n) binds fun _ => none) n) := by
    intro n c hm
    exact x.cell n c (lookup_of_mem (hnd h.objs.size) hm)
  obtain ⟨mu, e1, e2, e3⟩ := key _ cellAt
  have S : St h h [] h.objs.size h₁ (bindL (fun n => scope.names.lookup n) binds fun _ => none) mu := by
    refine ⟨x.toInCall.ns, e2, ?_, fun a ha => ?_, fun b o _ e => x.toInCall.keep b o e, fun b its T => tup_keeps T (x.toInCall.keep b), fun b o e => ⟨e, fun hm => (nomatch hm)⟩⟩
    · rw [e1]
      refine List.nodup_cons.mpr ⟨fun e => ?_, ?_⟩
      · obtain ⟨p, hp, e⟩ := List.mem_map.mp e
        have := x.above p.1 p.2 hp
        rw [e] at this
        exact Nat.lt_irrefl _ this
      · exact List.pairwise_map.mpr x.apart
    · rw [e1] at ha
      refine .inr ?_
      rcases List.mem_cons.mp ha with rfl | ha
      · exact fresh_none h
      · obtain ⟨p, hp, rfl⟩ := List.mem_map.mp ha
        have := x.above p.1 p.2 hp
        cases q : h.get? p.2 with
        | none => rfl
        | some o => exact absurd (Heap.lt_size q) (Nat.not_lt.mpr (Nat.le_of_lt this))
  exact wpAny_mono (hb h.objs.size h₁ t' mu _ rfl e1 e3 S) (fun fl s' q => by cases fl <;> exact q) fun _ _ x => x.elim
end
end Mine
set_option maxHeartbeats 200000
namespace Mine

noncomputable def Tgt (e : Expr) : Prop := (∃ x p, e = .Name x p) ∨ ∃ l k p, e = .Tuple l k p
/-- an iterator: what it holds at the i-th turn, what it reads, what it gives -/
structure ItR (w : World) (A : Around) (target : Expr) (I : Addr) (n : Nat) (It : Nat → Obj → Prop) (Src : Heap → Prop) (P : Nat → Value → Heap → Prop) : Prop where
  nt : ∀ i o, It i o → NotTup o
  item : ∀ i (h : Heap) (g : Array GenState) (d : Drawn) (t : Nat) (os : OsState) oI (Q : Value → Shared → Prop) (Qn : Shared → Prop) (E : Value → Shared → Prop), i < n → h.get? I = some oI → It i oI → Src h →
    (∀ v h' oI' t', P i v h' → It (i + 1) oI' → h'.get? I = some oI' → (∀ b x, b ≠ I → h.get? b = some x → h'.get? b = some x) → Q v ⟨h', g, d, t', os⟩) →
    wpAny (Md w) A (pyNext (.ref I)) (fun r s => match r with | none => Qn s | some v => wpAny (Md w) A (letOwnedTupleGo target (.ref I) v) (fun _ s' => Q v s') E s) E ⟨h, g, d, t, os⟩
  done : ∀ (h : Heap) (g : Array GenState) (d : Drawn) (t : Nat) (os : OsState) oI (Q : Value → Shared → Prop) (Qn : Shared → Prop) (E : Value → Shared → Prop), h.get? I = some oI → It n oI → Src h →
    (∀ h' t', (∀ b x, b ≠ I → h.get? b = some x → h'.get? b = some x) → Qn ⟨h', g, d, t', os⟩) →
    wpAny (Md w) A (pyNext (.ref I)) (fun r s => match r with | none => Qn s | some v => wpAny (Md w) A (letOwnedTupleGo target (.ref I) v) (fun _ s' => Q v s') E s) E ⟨h, g, d, t, os⟩

section
variable {w : World} {A : Around} {h₀ H h hb : Heap} {g : Array GenState} {d : Drawn} {t : Nat} {os : OsState} {env : Env} {m : Str → Option Value} {mu : List (Addr × Obj)} {ex : List Addr} {target : Expr} {I : Addr} {n : Nat} {It : Nat → Obj → Prop} {Src : Heap → Prop} {P : Nat → Value → Heap → Prop}

theorem forIt (W : ItR w A target I n It Src P) {body : List Stmt} {R : Result → Shared → Prop} (F : Nat → Heap → List Addr → (Str → Option Value) → List (Addr × Obj) → Prop) {oI : Obj}
    (hsrc : ∀ i H ex h m mu oI, St h₀ H ex env.locals h m ((I, oI) :: mu) → F i H ex m mu → Src h)
    (S : St h₀ H ex env.locals h m ((I, oI) :: mu)) (hI : It 0 oI) (hF : F 0 H ex m mu)
    (turn : ∀ i v oI H ex h m mu t, i < n → P i v h → F i H ex m mu → It (i + 1) oI → St h₀ H ex env.locals h m ((I, oI) :: mu) →
      wpAny (Md w) A (assign target env v) (fun _ s₂ => wpAny (Md w) A (execs body env) (TurnEnd h₀ env I oI g d os (F (i + 1)) (R (.ok .next)) (fun v => R (.ok (.ret v)))) (fun _ _ => False) s₂) (fun _ _ => False) ⟨h, g, d, t, os⟩)
    (done : ∀ H ex h m mu t, F n H ex m mu → St h₀ H ex env.locals h m mu → R (.ok .next) ⟨h, g, d, t, os⟩) :
    codeAny (Md w) A (.forLoop target (.ref I) body [] env) R ⟨h, g, d, t, os⟩ := by
  refine codeAny_forLoop_any (fun k s => X8 fun i oI H ex h m mu t => A6 (s = ⟨h, g, d, t, os⟩) (St h₀ H ex env.locals h m ((I, oI) :: mu)) (It i oI) (F i H ex m mu) (i ≤ n) (k = n + 1 - i)) ?_ (n + 1) ⟨0, oI, H, ex, h, m, mu, t, rfl, S, hI, hF, Nat.zero_le _, rfl⟩
  rintro k s ⟨i, oI, H, ex, h, m, mu, t, rfl, S, hI, hF, hi, rfl⟩
  have hsr := hsrc i H ex h m mu oI S hF
  by_cases hlt : i < n
  · refine wpAny_mono (W.item i h g d t os oI (fun v s₁ => wpAny (Md w) A (assign target env v) (fun _ s₂ => wpAny (Md w) A (execs body env) (fun f s₃ => match f with
            | .next | .cont => ∃ k', (k' < n + 1 - i) ∧ (X8 fun i oI H ex h m mu t => A6 (s₃ = ⟨h, g, d, t, os⟩) (St h₀ H ex env.locals h m ((I, oI) :: mu)) (It i oI) (F i H ex m mu) (i ≤ n) (k' = n + 1 - i))
            | .brk => R (.ok .next) s₃
            | .ret v => R (.ok (.ret v)) s₃) (notedBy (Md w) A env fun e s' => R (.error e) s') s₂) (notedBy (Md w) A env fun e s' => R (.error e) s') s₁) (fun _ => False) _ hlt (S.at 0 rfl) hI hsr (fun v h' oI' t' hP hI' ho' hk => ?_)) (fun r s₁ h1 => by cases r with | none => exact h1.elim | some v => exact h1) fun _ _ x => x
    have S' := S.put 0 rfl (W.nt _ _ hI) hk ho'
    refine wpAny_mono (turn i v oI' H ex h' m mu t' hlt hP hF hI' S') (fun _ s₂ h2 => wpAny_mono h2 (fun f s₃ h3 => ?_) fun _ _ x => x.elim) fun _ _ x => x.elim
    have fin : (X6 fun h H ex m mu t => A3 (s₃ = ⟨h, g, d, t, os⟩) (St h₀ H ex env.locals h m ((I, oI') :: mu)) (F (i + 1) H ex m mu)) → ∃ m_1, (m_1 < n + 1 - i) ∧ (X8 fun i oI H ex h m mu t => A6 (s₃ = ⟨h, g, d, t, os⟩) (St h₀ H ex env.locals h m ((I, oI) :: mu)) (It i oI) (F i H ex m mu) (i ≤ n) (m_1 = n + 1 - i)) := by
      rintro ⟨h, H, ex, m, mu, t, rfl, S, f⟩
      exact ⟨n + 1 - (i + 1), by omega, i + 1, oI', H, ex, h, m, mu, t, rfl, S, hI', f, hlt, rfl⟩
    cases f with
    | next => exact fin h3
    | cont => exact fin h3
    | brk => exact h3
    | ret v => exact h3
  · have hin : i = n := by omega
    subst hin
    refine wpAny_mono (W.done h g d t os oI (fun _ _ => False) (fun s₁ => wpAny (Md w) A (execs [] env) (fun f s₃ => R (.ok f) s₃) (notedBy (Md w) A env fun e s' => R (.error e) s') s₁) (fun _ _ => False) (S.at 0 rfl) hI hsr (fun h' t' he => wpAny_execs_nil (done H ex h' m mu t' hF (S.lose (W.nt _ _ hI) he)))) (fun r s₁ h1 => by
      cases r with
      | none => exact h1
      | some v => exact wpAny_mono h1 (fun _ _ x => x.elim) fun _ _ x => x.elim) fun _ _ x => x.elim

theorem compLoop_go {R : Result → Shared → Prop} {elt iter : Expr} {ifs : List Expr} {scope : Scope} {pos : Pos} {it acc : Value} {s : Shared} (Iv : Nat → Shared → Prop)
    (turn : ∀ n s, Iv n s → wpAny (Md w) A (pyNext it) (fun r s₁ => match r with
      | none => R (.ok .next) s₁
      | some v => wpAny (Md w) A (letOwnedTupleGo target it v) (fun _ s₁' => wpAny (Md w) A (assign target env v) (fun _ s₂ =>
          wpAny (Md w) A (forIn ifs true fun c r => if r = true then do let ok ← isTrue c env (eval c env); pure (ForInStep.yield ok) else pure (ForInStep.yield r)) (fun ok s₃ =>
            if ok = true then wpAny (Md w) A (eval elt env) (fun x s₄ =>
              wpAny (Md w) A (call (.builtin "list.append") [acc, x]) (fun _ s₅ => ∃ m, m < n ∧ Iv m s₅) (notedBy (Md w) A env fun e s' => R (.error e) s') s₄) (notedBy (Md w) A env fun e s' => R (.error e) s') s₃
            else ∃ m, m < n ∧ Iv m s₃) (notedBy (Md w) A env fun e s' => R (.error e) s') s₂) (notedBy (Md w) A env fun e s' => R (.error e) s') s₁') (notedBy (Md w) A env fun e s' => R (.error e) s') s₁) (notedBy (Md w) A env fun e s' => R (.error e) s') s)
    (n : Nat) (h : Iv n s) :
    codeAny (Md w) A (.compLoop (.ListComp elt [⟨target, iter, ifs, 0⟩] scope pos) 0 it acc env) R s := by
  refine codeAny_loop rfl Iv (fun n s hI => ?_) n h
  show wpAny _ A ((compTurn (.ListComp elt [⟨target, iter, ifs, 0⟩] scope pos) 0 it acc env).onRaise (fun x => do noteFrame x env; theTreesLotGoes x)) _ _ s
  refine wpAny_noted ?_
  rw [compTurn_list]
  refine wpAny_bind (wpAny_standAt (wpAny_bind (wpAny_mono (turn n s hI) (fun r s₁ h₁ => ?_) fun _ _ h' => h')))
  cases r with
  | none => exact wpAny_pure h₁
  | some v =>
    refine wpAny_bind (wpAny_mono h₁ (fun _ s₁' h₁' => ?_) fun _ _ h' => h')
    refine wpAny_bind (wpAny_mono h₁' (fun _ s₂ h₂ => wpAny_bind (wpAny_mono h₂ (fun ok s₃ h₃ => ?_) fun _ _ h' => h')) fun _ _ h' => h')
    cases ok with
    | false => exact wpAny_pure ⟨rfl, h₃⟩
    | true =>
      exact wpAny_bind (wpAny_bind (wpAny_mono h₃ (fun x s₄ h₄ => wpAny_bind (wpAny_mono h₄ (fun _ s₅ h₅ => wpAny_pure (wpAny_pure ⟨rfl, h₅⟩)) fun _ _ h' => h')) fun _ _ h' => h'))

noncomputable abbrev LstP (ys : List Value) (k : Nat) : Obj := { cls := .type "list", data := .seq ys.toArray k }
theorem LstP.notTup (ys : List Value) (k : Nat) : NotTup (LstP ys k) := fun _ _ q => by have := q.1; simp at this
noncomputable def CompEnd (hb : Heap) (C D I : Addr) (oI oD : Obj) (g : Array GenState) (d : Drawn) (os : OsState) (G : Heap → Prop) (s : Shared) : Prop :=
  X5 fun H ex h m t => A3 (s = ⟨h, g, d, t, os⟩) (St hb H ex C h m [(I, oI), (D, oD)]) (G H)
theorem CompEnd.mk {C D : Addr} {oI oD : Obj} {G : Heap → Prop} (S : St hb H ex C h m [(I, oI), (D, oD)]) (f : G H) : CompEnd hb C D I oI oD g d os G ⟨h, g, d, t, os⟩ := ⟨H, ex, h, m, t, rfl, S, f⟩
noncomputable abbrev Tests (ifs : List Expr) (env : Env) : Sem Bool := forIn ifs true fun c r => if r = true then do let ok ← isTrue c env (eval c env); pure (ForInStep.yield ok) else pure (ForInStep.yield r)
theorem tests_nil {E : Value → Shared → Prop} {Q : Bool → Shared → Prop} {s : Shared} (h : Q true s) : wpAny (Md w) A (Tests [] env) Q E s := by
  unfold Tests; rw [List.forIn_nil]; exact wpAny_pure h
theorem tests_one {E : Value → Shared → Prop} {Q : Bool → Shared → Prop} {s : Shared} {c : Expr} (h : wpAny (Md w) A (isTrue c env (eval c env)) Q E s) : wpAny (Md w) A (Tests [c] env) Q E s := by
  unfold Tests
  rw [List.forIn_cons, if_pos rfl]
  refine wpAny_bind (wpAny_bind (wpAny_mono h (fun b s' hq => wpAny_pure ?_) fun _ _ e => e))
  dsimp only
  rw [List.forIn_nil]
  exact wpAny_pure hq

theorem compIn (W : ItR w A target I n It Src P) (F : Nat → List Value → Heap → Prop) {oI : Obj} {E' : Value → Shared → Prop} {elt iter : Expr} {ifs : List Expr} {scope : Scope} {pos : Pos} {cl : List (Str × Addr)} {RR : Value → Addr → Result → Shared → Prop}
    (hcell : ∀ y ∈ scope.names, y.2 ≠ .cell) (hkind : scope.kind = .function)
    (k0 : Kp hb h) (hn : hb.get? I = none) (hI : h.get? I = some oI) (h0 : It 0 oI) (hsrc : ∀ h', Kp hb h' → Src h') (hF : F 0 [] h) (hz : n ≤ 1000)
    (hself : ∀ (h : Heap) (g : Array GenState) (d : Drawn) (t : Nat) (os : OsState) (Q : Value → Shared → Prop) (E : Value → Shared → Prop), h.get? I = some oI → Q (.ref I) ⟨h, g, d, t, os⟩ → wpAny (Md w) A (pyIter (.ref I)) Q E ⟨h, g, d, t, os⟩)
    (turn : ∀ i v ys oI k H ex h m t C D, i < n → P i v h → F i ys H → It (i + 1) oI → St hb H ex C h m [(I, oI), (D, LstP ys k)] →
      wpAny (Md w) A (assign target (compEnvC scope cl C env) v) (fun _ s₂ => wpAny (Md w) A (Tests ifs (compEnvC scope cl C env)) (fun ok s₃ =>
        if ok = true then wpAny (Md w) A (eval elt (compEnvC scope cl C env)) (fun y s₄ => CompEnd hb C D I oI (LstP ys k) g d os (F (i + 1) (ys ++ [y])) s₄) (fun _ _ => False) s₃
        else CompEnd hb C D I oI (LstP ys k) g d os (F (i + 1) ys) s₃) (fun _ _ => False) s₂) (fun _ _ => False) ⟨h, g, d, t, os⟩)
    (hRR : ∀ D C h' t' m' ys k H, Kp hb h' → hb.get? D = none → hb.get? C = none → D ≠ C → h'.Ns C m' → h'.get? D = some (LstP ys k) → F n ys H → (∀ b its, H.IsTuple b its → h'.IsTuple b its) → RR (.ref D) C (.ok .next) ⟨h', g, d, t', os⟩) :
    wpAny (Md w) A (newList []) (fun acc s₃ => wpAny (Md w) A (newFunctionEnv scope env.globals cl [] env.qual none .none (some env)) (fun cenv s₄ =>
      codeAny (Md w) A (.compStart (.ListComp elt [⟨target, iter, ifs, 0⟩] scope pos) 0 (.ref I) acc { cenv with scope := relabel scope env }) (RR acc cenv.locals) s₄) E' s₃) E' ⟨h, g, d, t, os⟩ := by
  refine wpAny_newObj_type (wpAny_newFunctionEnv hcell (by intro y hy; simp at hy) (fun h₁ hns₁ hsb₁ => ?_) hkind)
  dsimp only at hns₁ hsb₁ ⊢
  generalize hH2 : h.push { cls := .type "list", dict := none, data := .seq ([] : List Value).toArray } = H2 at hns₁ hsb₁ ⊢
  have hC : H2.objs.size = h.objs.size + 1 := by rw [← hH2, Heap.size_push]
  have old : ∀ b o, h.get? b = some o → h₁.get? b = some o := fun b o e => hsb₁.extBut b o (by rw [hC]; exact Nat.ne_of_lt (Nat.lt_succ_of_lt (Heap.lt_size e))) (Heap.get?_push_of_some _ (hH2 ▸ Heap.get?_push_of_some _ e))
  have hDC : h.objs.size ≠ H2.objs.size := by rw [hC]; exact Nat.ne_of_lt (Nat.lt_succ_self _)
  have hDg : h₁.get? h.objs.size = some (LstP [] 0) := hsb₁.extBut _ _ hDC (Heap.get?_push_of_some _ (hH2 ▸ Heap.get?_push_size _ rfl))
  have hnD : hb.get? h.objs.size = none := by
    cases q : hb.get? h.objs.size with
    | none => rfl
    | some o => exact absurd (Heap.lt_size (k0 _ _ q)) (Nat.lt_irrefl _)
  have hnC : hb.get? H2.objs.size = none := by
    cases q : hb.get? H2.objs.size with
    | none => rfl
    | some o => exact absurd (Heap.lt_size (k0 _ _ q)) (by rw [hC]; exact Nat.not_lt.mpr (Nat.le_succ _))
  have hIlt := Heap.lt_size hI
  have S0 : St hb h [I] H2.objs.size h₁ (fun x => ([] : List (Str × Value)).reverse.lookup x) [(I, oI), (h.objs.size, LstP [] 0)] := by
    refine ⟨hns₁, fun p hp => ?_, ?_, fun a ha => ?_, fun b o _ e => old b o e, fun b its T => tup_keeps T (old b), fun b o e => ⟨k0 b o e, fun q => ?_⟩⟩
    · rcases List.mem_cons.mp hp with rfl | hp
      · exact old _ _ hI
      · rcases List.mem_cons.mp hp with rfl | hp
        · exact hDg
        · cases hp
    · simp only [List.map_cons, List.map_nil, List.nodup_cons, List.mem_cons, List.not_mem_nil, or_false, not_or]
      refine ⟨⟨?_, Ne.symm hDC⟩, ?_, by simp⟩
      · rw [hC]; exact fun e => absurd hIlt (by rw [← e]; exact Nat.not_lt.mpr (Nat.le_succ _))
      · exact fun e => absurd hIlt (by rw [e]; exact Nat.lt_irrefl _)
    · simp only [List.map_cons, List.map_nil, List.mem_cons, List.not_mem_nil, or_false] at ha
      rcases ha with rfl | rfl | rfl
      · right
        cases q : h.get? H2.objs.size with
        | none => rfl
        | some o => exact absurd (Heap.lt_size q) (by rw [hC]; exact Nat.not_lt.mpr (Nat.le_succ _))
      · exact .inl (.head _)
      · exact .inr (fresh_none h)
    · rcases List.mem_cons.mp q with rfl | q
      · rw [hn] at e; cases e
      · cases q
  have loop : ∀ s₃ : Shared, s₃ = ⟨h₁, g, d, t + ([] : List (Str × Value)).length, os⟩ →
      codeAny (Md w) A (.compLoop (.ListComp elt [⟨target, iter, ifs, 0⟩] scope pos) 0 (.ref I) (.ref h.objs.size) (compEnvC scope cl H2.objs.size env))
        (RR (.ref h.objs.size) H2.objs.size) s₃ := by
    rintro s₃ rfl
    refine compLoop_go (fun k s => X9 fun i ys oI q H ex h' m t => A7 (s = ⟨h', g, d, t, os⟩) (St hb H ex H2.objs.size h' m [(I, oI), (h.objs.size, LstP ys q)]) (It i oI) (F i ys H) (ys.length ≤ i) (i ≤ n) (k = n + 1 - i)) ?_ (n + 1) ⟨0, [], oI, 0, h, [I], h₁, _, _, rfl, S0, h0, hF, Nat.le_refl _, Nat.zero_le _, rfl⟩
    rintro k s ⟨i, ys, oI, q, H, ex, h', m, t, rfl, S, hI', hF', hly, hi, rfl⟩
    have hsr := hsrc h' S.keep
    by_cases hlt : i < n
    · refine wpAny_mono (W.item i h' g d t os oI _ (fun _ => False) _ hlt (S.at 0 rfl) hI' hsr (fun v h₂ oI' t' hP hI₂ ho' hk => ?_)) (fun r s₁ h1 => by cases r with | none => exact h1.elim | some v => exact h1) fun _ _ x => x
      have S' := S.put 0 rfl (W.nt _ _ hI') hk ho'
      refine wpAny_mono (turn i v ys oI' q H ex h₂ m t' H2.objs.size h.objs.size hlt hP hF' hI₂ S') (fun _ s₂ h2 => wpAny_mono h2 (fun ok s₃ h3 => ?_) fun _ _ x => x.elim) fun _ _ x => x.elim
      cases ok with
      | false =>
        simp only [Bool.false_eq_true, if_false] at h3 ⊢
        obtain ⟨H', ex', h3', m', t3, rfl, S3, f3⟩ := h3
        exact ⟨n + 1 - (i + 1), by omega, i + 1, ys, oI', q, H', ex', h3', m', t3, rfl, S3, hI₂, f3, by omega, hlt, rfl⟩
      | true =>
        simp only [if_true] at h3 ⊢
        refine wpAny_mono h3 (fun y s₄ h4 => ?_) fun _ _ x => x.elim
        obtain ⟨H', ex', h4', m', t4, rfl, S4, f4⟩ := h4
        refine wpAny_list_append_plain ⟨q, S4.at 1 rfl⟩ (fun h5 hp hsb => ?_) (by simp [sizeLine]; omega)
        obtain ⟨q', hp⟩ := hp
        rw [List.push_toArray] at hp
        have S5 := S4.set 1 rfl (LstP.notTup _ _) hsb hp
        exact ⟨n + 1 - (i + 1), by omega, i + 1, ys ++ [y], oI', q', H', ex', h5, m', t4, rfl, S5, hI₂, f4, by simp; omega, hlt, rfl⟩
    · have hin : i = n := by omega
      subst hin
      refine wpAny_mono (W.done h' g d t os oI (fun _ _ => False) (fun s₁ => RR (.ref h.objs.size) H2.objs.size (.ok .next) s₁) (fun _ _ => False) (S.at 0 rfl) hI' hsr (fun h₂ t' he => ?_)) (fun r s₁ h1 => by
        cases r with
        | none => exact h1
        | some v => exact wpAny_mono h1 (fun _ _ x => x.elim) fun _ _ x => x.elim) fun _ _ x => x.elim
      have S' := S.lose (W.nt _ _ hI') he
      exact hRR _ _ h₂ t' m ys q H S'.keep hnD hnC hDC S'.ns (S'.at 0 rfl) hF' S'.tup
  exact codeAny_compStart_list (loop _ rfl) (hself _ _ _ _ _ _ _ (old _ _ hI) (loop _ rfl))

theorem St.drop {hb : Heap} {ex : List Addr} {L C : Addr} {m m0 : Str → Option Value} {mu mu0 : List (Addr × Obj)} {h' : Heap} (S0 : St h₀ H ex L hb m0 mu0) (hbC : hb.get? C = none) (S : St h₀ H ex L h m mu) (hc : C ∉ L :: mu.map (·.1))
    (k : ∀ b x, b ≠ C → h.get? b = some x → h'.get? b = some x) : St h₀ H ex L h' m mu := by
  refine ⟨ns_keeps S.ns (fun o => k _ _ (fun e => hc (e ▸ .head _))), fun p hp => k _ _ (fun e => hc (e ▸ .tail _ (List.mem_map_of_mem hp))) (S.led p hp), S.nd, S.mtb, fun b x hb e => k b x (fun q => ?_) (S.pres b x hb e), fun b its T => tup_keeps (S.tup b its T) (k b · fun q => ?_), S.base⟩
  · have := S0.pres b x hb e
    rw [q, hbC] at this; cases this
  · obtain ⟨o, e, _⟩ := S0.tup b its T
    rw [q, hbC] at e; cases e

section
variable {E : Value → Shared → Prop} {elt iter : Expr} {ifs : List Expr} {scope : Scope} {pos : Pos} {cl : List (Str × Addr)}
theorem compEv {Q : Value → Shared → Prop} {s : Shared} (hclos : closureFor scope env = pure cl) (hkind : scope.kind = .function) (hnames : ∀ x ∈ scope.names, x.2 = .local → scope.names.lookup x.1 = some .local)
    (h : wpAny (Md w) A (eval iter env) (fun xv s₁ => wpAny (Md w) A (pyIter xv) (fun it s₂ => wpAny (Md w) A (newList []) (fun acc s₃ => wpAny (Md w) A (newFunctionEnv scope env.globals cl [] env.qual none .none (some env)) (fun cenv s₄ =>
      codeAny (Md w) A (.compStart (.ListComp elt [⟨target, iter, ifs, 0⟩] scope pos) 0 it acc { cenv with scope := relabel scope env }) (compPost (Md w) A E none Q acc cenv.locals) s₄) E s₃) E s₂) E s₁) E s)
    (hs : ∀ x, foldedSetIterable iter env x = pure x := by intro _; rfl) :
    wpAny (Md w) A (eval (.ListComp elt [⟨target, iter, ifs, 0⟩] scope pos) env) Q E s := by
  rw [eval_ListComp]
  exact wpAny_comprehension_free (use := none) rfl hs hclos hkind hnames h
theorem compQ {Q : Value → Shared → Prop} {F : List Value → Heap → Prop}
    (hQ : ∀ D h' t' ys k H, Kp hb h' → hb.get? D = none → h'.get? D = some (LstP ys k) → F ys H → (∀ b its, H.IsTuple b its → h'.IsTuple b its) → Q (.ref D) ⟨h', g, d, t', os⟩) :
    ∀ D C h' t' m' ys k H, Kp hb h' → hb.get? D = none → hb.get? C = none → D ≠ C → h'.Ns C m' → h'.get? D = some (LstP ys k) → F ys H → (∀ b its, H.IsTuple b its → h'.IsTuple b its) → compPost (Md w) A E none Q (.ref D) C (.ok .next) ⟨h', g, d, t', os⟩ := by
  intro D C h' t' m' ys k H hk hD hC hne hns hD' hF hT
  refine ⟨m', hns, fun h'' hs => hQ D h'' t' ys k H (fun b x e => ?_) hD (hs.extBut _ _ hne hD') hF fun b its T => ?_⟩
  · exact hs.extBut b x (fun q => by rw [q, hC] at e; cases e) (hk b x e)
  · refine tup_keeps (hT b its T) fun o => hs.extBut b o fun q => ?_
    obtain ⟨o, e, hc, n, hd⟩ := hT b its T
    obtain ⟨oL, es, ep, x, xd, _⟩ := hns
    rw [q] at e
    have e2 : h'.get? C = some oL := x
    rw [e] at e2
    cases e2
    rw [xd] at hd; cases hd
theorem xAsgComp {Q : Flow → Shared → Prop} {s : Shared} {y : Str} {py spos : Pos} {rest : List Stmt} (hsw : swapsWith (.ListComp elt [⟨target, iter, ifs, 0⟩] scope pos) (some (.Name y py)) spos.line env = pure true)
    (hclos : closureFor scope env = pure cl) (hkind : scope.kind = .function) (hnames : ∀ x ∈ scope.names, x.2 = .local → scope.names.lookup x.1 = some .local)
    (h : wpAny (Md w) A (eval iter env) (fun xv s₁ => wpAny (Md w) A (pyIter xv) (fun it s₂ => wpAny (Md w) A (newList []) (fun acc s₃ => wpAny (Md w) A (newFunctionEnv scope env.globals cl [] env.qual none .none (some env)) (fun cenv s₄ =>
      codeAny (Md w) A (.compStart (.ListComp elt [⟨target, iter, ifs, 0⟩] scope pos) 0 it acc { cenv with scope := relabel scope env }) (compPost (Md w) A E (some (assign (.Name y py) env)) (fun _ s' => wpAny (Md w) A (execs rest env) Q E s') acc cenv.locals) s₄) E s₃) E s₂) E s₁) E s)
    (hs : ∀ x, foldedSetIterable iter env x = pure x := by intro _; rfl) :
    wpAny (Md w) A (execs (.Assign [.Name y py] (.ListComp elt [⟨target, iter, ifs, 0⟩] scope pos) spos :: rest) env) Q E s := by
  refine xCons ?_
  rw [exec_Assign_Name_used _ _ _ _ hsw]
  refine wpAny_bind (wpAny_standAt (wpAny_bind ?_))
  show wpAny _ A (do let _ ← comprehension (.ListComp elt [⟨target, iter, ifs, 0⟩] scope pos) scope env _ (newList []) false (eval iter env) (some (assign (.Name y py) env))) _ _ s
  exact wpAny_bind (wpAny_mono (wpAny_comprehension_free (use := some (assign (.Name y py) env)) rfl hs hclos hkind hnames h) (fun _ s' hq => wpAny_pure (wpAny_pure hq)) fun _ _ e => e)
theorem asgQ {Q : Value → Shared → Prop} {F : List Value → Heap → Prop} {y : Str} {py : Pos} (S : St h₀ H ex env.locals hb m mu)
    (hQ : ∀ D h' t' ys k Hf, St h₀ H ex env.locals h' (fun z => if z = y then some (.ref D) else m z) ((D, LstP ys k) :: mu) → F ys Hf → (∀ b its, Hf.IsTuple b its → h'.IsTuple b its) → Q .none ⟨h', g, d, t', os⟩)
    (hk : env.scope.kind = .function := by rfl) (hx : env.kindOf y = some .local := by rfl) :
    ∀ D C h' t' m' ys k H, Kp hb h' → hb.get? D = none → hb.get? C = none → D ≠ C → h'.Ns C m' → h'.get? D = some (LstP ys k) → F ys H → (∀ b its, H.IsTuple b its → h'.IsTuple b its) → compPost (Md w) A E (some (assign (.Name y py) env)) Q (.ref D) C (.ok .next) ⟨h', g, d, t', os⟩ := by
  intro D C h' t' m' ys k Hf hkp hD hC hne hns hD' hF hT
  have S1 := S.add hkp hD hD'
  have hLC : env.locals ≠ C := by
    intro e
    obtain ⟨o, _, _, x, _⟩ := S.ns
    rw [e, hC] at x; cases x
  show wpAny _ A (assign (.Name y py) env (.ref D)) _ _ _
  refine wpAny_assign_Name (wpAny_storeName_local hx S1.ns (fun h₂ hn₂ hs₂ => ?_) (by rw [hk]; rfl))
  have S2 := S1.store hs₂ hn₂
  refine ⟨m', hns.sameBut hs₂ (Ne.symm hLC), fun h₃ hs₃ => hQ D h₃ _ ys k Hf (St.drop S hC S2 ?_ fun b x ne e => hs₃.extBut b x ne e) hF fun b its T => ?_⟩
  · intro hm
    rcases List.mem_cons.mp hm with e | hm
    · exact hLC e.symm
    · rcases List.mem_cons.mp hm with e | hm
      · exact hne e.symm
      · obtain ⟨p, hp, e⟩ := List.mem_map.mp hm
        have := S.led p hp
        rw [e, hC] at this; cases this
  · obtain ⟨o, e, hc, n, hd⟩ := hT b its T
    have n1 : b ≠ env.locals := fun q => by
      obtain ⟨oL, es, ep, x, xd, _⟩ := S1.ns
      rw [q] at e
      have e2 : h'.get? env.locals = some oL := x
      rw [e] at e2; cases e2
      rw [xd] at hd; cases hd
    have n2 : b ≠ C := fun q => by
      obtain ⟨oL, es, ep, x, xd, _⟩ := hns
      rw [q] at e
      have e2 : h'.get? C = some oL := x
      rw [e] at e2; cases e2
      rw [xd] at hd; cases hd
    exact ⟨o, hs₃.extBut b o n2 (hs₂.extBut b o n1 e), hc, n, hd⟩
end
end
end Mine
set_option maxHeartbeats 200000
namespace Mine
section
variable {w : World} {A : Around} {h : Heap} {g : Array GenState} {d : Drawn} {t : Nat} {os : OsState} {E : Value → Shared → Prop} {target : Expr}

/-- a list's or an own list's items -/
noncomputable def SeqAt (h : Heap) (l : Addr) (vs : List Value) : Prop := ∃ o n, h.get? l = some o ∧ o.data = .seq vs.toArray n
theorem SeqAt.list {l : Addr} {vs : List Value} (x : h.IsList l vs.toArray) : SeqAt h l vs := let ⟨o, a, _, n, b⟩ := x; ⟨o, n, a, b⟩

theorem goSeq {c : String} (hc : (["enumerate", "zip", "dict_itemiterator", "dict_reverseitemiterator", "odict_iterator", "itertools.zip_longest", "itertools.pairwise"].contains c) = false) {I l : Addr} {i : Nat} {o : Obj} {v : Value} {Q : Unit → Shared → Prop} (ht : Tgt target) (hI : h.get? I = some o) (x : ItO c l i o) (hQ : Q () ⟨h, g, d, t, os⟩) :
    wpAny (Md w) A (letOwnedTupleGo target (.ref I) v) Q E ⟨h, g, d, t, os⟩ := by
  rcases ht with ⟨n, p, rfl⟩ | ⟨l, k, p, rfl⟩
  · exact goName hQ
  · cases v with
    | ref T =>
      unfold letOwnedTupleGo
      refine wpAny_bind (wpAny_load (s := ⟨h, g, d, t, os⟩) hI ?_)
      rw [x.1, x.2]
      dsimp only
      rw [hc]
      exact wpAny_pure hQ
    | _ => exact wpAny_pure hQ

theorem nextSeq {it l : Addr} {i : Nat} {vs : List Value} {x : Value} {Q : Option Value → Shared → Prop} (hit : h.IsListIter it l i)
    (hl : SeqAt h l vs) (hx : vs[i]? = some x)
    (hQ : ∀ h', h'.IsListIter it l (i + 1) → Heap.SameBut it h h' → Q (some x) ⟨h', g, d, t, os⟩) :
    wpAny (Md w) A (pyNext (.ref it)) Q E ⟨h, g, d, t, os⟩ := by
  obtain ⟨o, ho, hc, hd⟩ := id hit
  obtain ⟨ol, nl, hol, hdl⟩ := hl
  have hit' : (⟨h, g, d, t, os⟩ : Shared).heap.IsListIter it l i := hit
  unfold pyNext
  refine wpAny_bind (wpAny_attempt (wpAny_callSpecial?_slot (name := Str.ofString "__next__") hit'.typeIs slot_listiter_next
    (wpAny_call_entry slot_listiter_next hit'.typeIs entry_listiter_next ?_ (args_listiter_next _))))
  show wpAny _ _ (field (.ref it) 0 >>= _) _ _ _
  refine wpAny_bind (wpAny_field (s := ⟨h, g, d, t, os⟩) ho hd (x := .ref l) rfl ?_)
  show wpAny _ _ (if (Value.ref l == Value.none) = true then _ else _) _ _ _
  rw [if_neg (show ¬ ((Value.ref l == Value.none) = true) from Bool.false_ne_true)]
  show wpAny _ _ (field (.ref it) 1 >>= _) _ _ _
  refine wpAny_bind (wpAny_field (s := ⟨h, g, d, t, os⟩) ho hd (x := .int i 0) rfl ?_)
  show wpAny _ _ (seqItems? (.ref l) >>= _) _ _ _
  refine wpAny_bind (wpAny_seqItems (s := ⟨h, g, d, t, os⟩) hol hdl ?_)
  simp only [Int.toNat_natCast, List.getElem?_toArray, hx]
  refine wpAny_bind (wpAny_setField (s := ⟨h, g, d, t, os⟩) ho hd (by simp) (wpAny_pure ⟨x, rfl, wpAny_pure (hQ _ ?_ (Heap.SameBut.update ..))⟩))
  exact ⟨_, Heap.get?_update_self _ ho (Obj.isFreed_of_fields (Obj.data_mapFields hd _)), (Obj.cls_mapFields ..).trans hc, by
    rw [Obj.data_mapFields hd]; simp [rawInt]⟩

theorem nextSeqEnd {it l : Addr} {i : Nat} {vs : List Value} {Q : Option Value → Shared → Prop} (hh : A.handled = none)
    (hit : h.IsListIter it l i) (hl : SeqAt h l vs) (hx : vs[i]? = none)
    (hQ : ∀ h', Heap.ExtBut it h h' → Q none ⟨h', g, d, t, os⟩) : wpAny (Md w) A (pyNext (.ref it)) Q E ⟨h, g, d, t, os⟩ := by
  obtain ⟨o, ho, hc, hd⟩ := id hit
  obtain ⟨ol, nl, hol, hdl⟩ := hl
  have hit' : (⟨h, g, d, t, os⟩ : Shared).heap.IsListIter it l i := hit
  unfold pyNext
  refine wpAny_bind (wpAny_attempt (wpAny_callSpecial?_slot (name := Str.ofString "__next__") hit'.typeIs slot_listiter_next
    (wpAny_call_entry slot_listiter_next hit'.typeIs entry_listiter_next ?_ (args_listiter_next _))))
  show wpAny _ _ (field (.ref it) 0 >>= _) _ _ _
  refine wpAny_bind (wpAny_field (s := ⟨h, g, d, t, os⟩) ho hd (x := .ref l) rfl ?_)
  show wpAny _ _ (if (Value.ref l == Value.none) = true then _ else _) _ _ _
  rw [if_neg (show ¬ ((Value.ref l == Value.none) = true) from Bool.false_ne_true)]
  show wpAny _ _ (field (.ref it) 1 >>= _) _ _ _
  refine wpAny_bind (wpAny_field (s := ⟨h, g, d, t, os⟩) ho hd (x := .int i 0) rfl ?_)
  show wpAny _ _ (seqItems? (.ref l) >>= _) _ _ _
  refine wpAny_bind (wpAny_seqItems (s := ⟨h, g, d, t, os⟩) hol hdl ?_)
  simp only [Int.toNat_natCast, List.getElem?_toArray, hx]
  refine wpAny_bind (wpAny_rule (wpAny_bind (wpAny_setField (s := ⟨h, g, d, t, os⟩) ho hd (by simp) ?_)))
  show wpAny _ _ (newExc (.type "StopIteration") [] >>= _) _ _ _
  refine wpAny_bind ?_
  simp only [newExc, newTuple]
  refine wpAny_bind (wpAny_newObj_type ?_ (by size_fits))
  refine wpAny_bind (m := firstArgMember _ _) (wpAny_of_eq (a := Value.none) (by first | rfl | (simp only [firstArgMember]; rfl)) ?_)
  refine wpAny_newObj_type ?_ (by size_fits)
  simp only [raiseNew]
  refine wpAny_bind (wpAny_handled ?_)
  rw [show A.in1.handled = none from hh]
  refine wpAny_bind (wpAny_pure (wpAny_throw ?_))
  refine wpAny_bind (wpAny_isInstance (T := "StopIteration") (b := true) ⟨_, Heap.get?_push_size _ rfl, rfl⟩ isSubtype_stop ?_)
  exact wpAny_pure (hQ _ (((Heap.SameBut.update ..).extBut.push _).push _))

theorem itSeq (hh : A.handled = none) (ht : Tgt target) (I l : Addr) (vs : List Value) : ItR w A target I vs.length (fun i o => ItO "list_iterator" l i o) (fun h => SeqAt h l vs) (fun i v _ => vs[i]? = some v) where
  nt := fun _ _ x => x.notTup
  item := fun i h g d t os oI Q Qn E hlt hI x hs hQ => by
    refine nextSeq ⟨oI, hI, x⟩ hs (x := vs[i]) (by simp [hlt]) fun h' ⟨o', ho', x'⟩ hsb => ?_
    exact goSeq (by decide) ht ho' x' (hQ _ h' o' t (by simp [hlt]) x' ho' fun b y ne e => hsb.extBut b y ne e)
  done := fun h g d t os oI Q Qn E hI x hs hQ => nextSeqEnd hh ⟨oI, hI, x⟩ hs (by simp) fun h' he => hQ h' t fun b y ne e => he b y ne e

theorem itTup (hh : A.handled = none) (ht : Tgt target) (I l : Addr) (vs : List Value) : ItR w A target I vs.length (fun i o => ItO "tuple_iterator" l i o) (fun h => h.IsTuple l vs.toArray) (fun i v _ => vs[i]? = some v) where
  nt := fun _ _ x => x.notTup
  item := fun i h g d t os oI Q Qn E hlt hI x hs hQ => by
    refine wpAny_pyNext_tuple_item (s := ⟨h, g, d, t, os⟩) ⟨oI, hI, x⟩ hs (x := vs[i]) (by simp [hlt]) fun h' ⟨o', ho', x'⟩ hsb => ?_
    exact goSeq (by decide) ht ho' x' (hQ _ h' o' t (by simp [hlt]) x' ho' fun b y ne e => hsb.extBut b y ne e)
  done := fun h g d t os oI Q Qn E hI x hs hQ => wpAny_pyNext_tuple_end (s := ⟨h, g, d, t, os⟩) hh ⟨oI, hI, x⟩ hs (by simp) fun h' he => hQ h' t fun b y ne e => he b y ne e

/-- plain targets -/
noncomputable abbrev RngO (x left step : Int) : Obj := { cls := .type "range_iterator", dict := none, data := .fields #[rawInt x, rawInt left, rawInt step], slots := #[] }
theorem itRange (hh : A.handled = none) (x : Str) (p : Pos) (I : Addr) (a c : Int) (n : Nat) : ItR w A (.Name x p) I n (fun i o => o = RngO (a + i * c) ((n : Int) - i) c) (fun _ => True) (fun i v _ => ∃ k, v = .int (a + i * c) k) where
  nt := fun _ _ x => by subst x; intro _ _ q; have := q.1; simp at this
  item := fun i h g d t os oI Q Qn E hlt hI x hs hQ => by
    subst x
    refine wpAny_pyNext_range_item (s := ⟨h, g, d, t, os⟩) hI (by omega) fun h' hi' hsb => goName ?_
    refine hQ _ h' _ _ ⟨_, rfl⟩ ?_ hi' fun b y ne e => hsb.extBut b y ne e
    have e1 : a + (i : Int) * c + c = a + ((i + 1 : Nat) : Int) * c := by rw [Int.natCast_add, Int.add_mul]; omega
    have e2 : (n : Int) - i - 1 = (n : Int) - ((i + 1 : Nat) : Int) := by omega
    rw [← e1, ← e2]
  done := fun h g d t os oI Q Qn E hI x hs hQ => by
    subst x
    exact wpAny_pyNext_range_end (s := ⟨h, g, d, t, os⟩) hh hI (by omega) fun h' he => hQ h' t fun b y ne e => he b y ne e
theorem itAscii (hh : A.handled = none) (x : Str) (p : Pos) (I : Addr) (z : Str) (tz : Tok) : ItR w A (.Name x p) I z.cps.size (fun i o => o.cls = .type "str_ascii_iterator" ∧ o.data = .fields #[.str z tz, .int i 0]) (fun _ => True) (fun i v _ => ∃ c k, z.cps[i]? = some c ∧ v = .str ⟨#[c]⟩ k) where
  nt := fun _ _ x => by intro _ _ q; rw [x.1] at q; have := q.1; simp at this
  item := fun i h g d t os oI Q Qn E hlt hI x hs hQ => by
    refine wpAny_pyNext_ascii_item (s := ⟨h, g, d, t, os⟩) ⟨oI, hI, x⟩ (c := z.cps[i]) (by simp [hlt]) fun h' ⟨o', ho', x'⟩ hsb => goName ?_
    exact hQ _ h' o' _ ⟨_, _, by simp [hlt], rfl⟩ x' ho' fun b y ne e => hsb.extBut b y ne e
  done := fun h g d t os oI Q Qn E hI x hs hQ =>
    wpAny_pyNext_ascii_end (s := ⟨h, g, d, t, os⟩) hh ⟨oI, hI, x⟩ (by simp) fun h' he => hQ h' t fun b y ne e => he b y ne e

variable {K : Type} [DecidableEq K] {knd : KeyKind pg w K}
theorem itKeys (hh : A.handled = none) (x : Str) (p : Pos) (I D : Addr) (kvs : List (K × Value)) (ep : Nat) : ItR w A (.Name x p) I kvs.length (fun i o => o.cls = .type "dict_keyiterator" ∧ o.data = .fields #[.ref D, .int i 0, .int kvs.length 0, .int ep 0]) (fun h => h.DictAt knd D kvs ep) (fun i v _ => ∃ k u, kvs[i]? = some (k, u) ∧ knd.is k v = true) where
  nt := fun _ _ x => by intro _ _ q; rw [x.1] at q; have := q.1; simp at this
  item := fun i h g d t os oI Q Qn E hlt hI x hs hQ => by
    refine wpAny_pyNext_dict_item (s := ⟨h, g, d, t, os⟩) ⟨oI, hI, x⟩ hs (k := kvs[i].1) (v := kvs[i].2) (by simp [hlt]) fun key h' hk ⟨o', ho', x'⟩ hsb => goName ?_
    exact hQ _ h' o' _ ⟨_, _, by simp [hlt]; rfl, hk⟩ x' ho' fun b y ne e => hsb.extBut b y ne e
  done := fun h g d t os oI Q Qn E hI x hs hQ =>
    wpAny_pyNext_dict_end (s := ⟨h, g, d, t, os⟩) hh ⟨oI, hI, x⟩ hs (by simp) fun h' he => hQ h' t fun b y ne e => he b y ne e
theorem itVals (hh : A.handled = none) (x : Str) (p : Pos) (I D : Addr) (kvs : List (K × Value)) (ep : Nat) : ItR w A (.Name x p) I kvs.length (fun i o => o.cls = .type "dict_valueiterator" ∧ o.data = .fields #[.ref D, .int i 0, .int kvs.length 0, .int ep 0]) (fun h => h.DictAt knd D kvs ep) (fun i v _ => ∃ k, kvs[i]? = some (k, v)) where
  nt := fun _ _ x => by intro _ _ q; rw [x.1] at q; have := q.1; simp at this
  item := fun i h g d t os oI Q Qn E hlt hI x hs hQ => by
    refine wpAny_pyNext_values_item (s := ⟨h, g, d, t, os⟩) ⟨oI, hI, x⟩ hs (k := kvs[i].1) (v := kvs[i].2) (by simp [hlt]) fun h' ⟨o', ho', x'⟩ hsb => goName ?_
    exact hQ _ h' o' _ ⟨_, by simp [hlt]; rfl⟩ x' ho' fun b y ne e => hsb.extBut b y ne e
  done := fun h g d t os oI Q Qn E hI x hs hQ =>
    wpAny_pyNext_values_end (s := ⟨h, g, d, t, os⟩) hh ⟨oI, hI, x⟩ hs (by simp) fun h' he => hQ h' t fun b y ne e => he b y ne e
noncomputable abbrev ItmO (d : Addr) (i n ep : Nat) (ok ov : Value) : Obj := { cls := .type "dict_itemiterator", dict := none, data := .fields #[.none, .bool false, .ref d, .int i 0, .int n 0, .int ep 0, ok, ov], slots := #[] }
theorem itItems (hh : A.handled = none) (l : List Expr) (k0 : Nat) (p : Pos) (I D : Addr) (kvs : List (K × Value)) (ep : Nat) : ItR w A (.Tuple l k0 p) I kvs.length (fun i o => ∃ ok ov, o = ItmO D i kvs.length ep ok ov) (fun h => h.DictAt knd D kvs ep) (fun i v h => X4 fun k u T key => A4 (kvs[i]? = some (k, u)) (knd.is k key = true) (v = .ref T) (h.IsTuple T #[key, u])) where
  nt := fun _ _ x => by obtain ⟨_, _, rfl⟩ := x; intro _ _ q; have := q.1; simp at this
  item := fun i h g d t os oI Q Qn E hlt hI x hs hQ => by
    obtain ⟨ok, ov, rfl⟩ := x
    refine wpAny_pyNext_items_item (s := ⟨h, g, d, t, os⟩) hI hs (k := kvs[i].1) (v := kvs[i].2) (by simp [hlt]) fun key h' hk ho' hT hsz hkp => ?_
    have hne : h.objs.size ≠ I := fun e => absurd (Heap.lt_size hI) (by rw [← e]; exact Nat.lt_irrefl _)
    refine wpAny_letOwnedTupleGo_items (s := ⟨h', g, d, t, os⟩) ho' fun h2 hi2 hsb => ?_
    refine hQ _ h2 _ _ ⟨kvs[i].1, kvs[i].2, _, _, by simp [hlt], hk, rfl, ⟨_, hsb.extBut _ _ hne hT, rfl, _, rfl⟩⟩ ⟨_, _, rfl⟩ hi2 fun b y ne e => hsb.extBut b y ne (hkp b y ne e)
  done := fun h g d t os oI Q Qn E hI x hs hQ => by
    obtain ⟨ok, ov, rfl⟩ := x
    exact wpAny_pyNext_items_end (s := ⟨h, g, d, t, os⟩) hh hI hs (by simp) fun h' he => hQ h' t fun b y ne e => he b y ne e
end
end Mine
set_option maxHeartbeats 400000
namespace Mine
/-- no exception is handled here, or one without a context of its own -/
noncomputable def Quiet (A : Around) (h : Heap) : Prop := A.handled = none ∨ ∃ x ox vs, A.handled = some (.ref x) ∧ h.get? x = some ox ∧ ox.data = .fields vs ∧ vs[2]? = some .none
theorem Quiet.on {A : Around} {h h' : Heap} (q : Quiet A h) (k : ∀ b o, h.get? b = some o → h'.get? b = some o) : Quiet A h' := by
  rcases q with q | ⟨x, ox, vs, a, b, r⟩
  · exact .inl q
  · exact .inr ⟨x, ox, vs, a, k _ _ b, r⟩
theorem Quiet.but {A : Around} {h h' : Heap} {I : Addr} (q : Quiet A h) (hI : ∀ x, A.handled = some (.ref x) → x ≠ I) (k : ∀ b o, b ≠ I → h.get? b = some o → h'.get? b = some o) : Quiet A h' := by
  rcases q with q | ⟨x, ox, vs, a, b, r⟩
  · exact .inl q
  · exact .inr ⟨x, ox, vs, a, k _ _ (hI x a) b, r⟩
theorem Quiet.ne {A : Around} {h : Heap} {I : Addr} {oI : Obj} (q : Quiet A h) (e : h.get? I = some oI) (hn : ∀ vs, oI.data = .fields vs → vs[2]? ≠ some .none) : ∀ x, A.handled = some (.ref x) → x ≠ I := by
  intro y hy ey
  rcases q with q | ⟨x, ox, vs, a, b, c, r⟩
  · rw [q] at hy; cases hy
  · rw [a] at hy
    cases hy
    subst ey
    rw [e] at b
    cases b
    exact hn vs c r
theorem entry_unchain : entryFor table "proto.unchain" = some Builtin.«proto.unchain» := entryFor_of_tree (by kernel_rfl)
section
variable {w : World} {A : Around} {E : Value → Shared → Prop} {h h' : Heap} {g : Array GenState} {d : Drawn} {t : Nat} {os : OsState}
theorem raiseQ {α : Type} {Q : α → Shared → Prop} {a : Addr} {oa : Obj} {va : Array Value} (hq : Quiet A h) (hne : ∀ x, A.handled = some (.ref x) → x ≠ a) (ha : h.get? a = some oa) (hd : oa.data = .fields va) (hsz : 2 < va.size)
    (hE : ∀ h', (∀ b o, b ≠ a → h.get? b = some o → h'.get? b = some o) → (∃ o', h'.get? a = some o' ∧ o'.cls = oa.cls) → E (.ref a) ⟨h', g, d, t, os⟩) :
    wpAny (Md w) A (raiseNew (.ref a) : Sem α) Q E ⟨h, g, d, t, os⟩ := by
  unfold raiseNew
  refine wpAny_bind (wpAny_handled ?_)
  rcases hq with hn | ⟨x, ox, vs, hA, hx, hdx, h2⟩
  · rw [hn]
    exact wpAny_bind (wpAny_pure (wpAny_throw (hE h (fun _ _ _ e => e) ⟨oa, ha, rfl⟩)))
  · have hxa := hne x hA
    rw [hA]
    show wpAny _ _ (if (Value.ref x != Value.ref a) = true then _ else _) _ _ _
    have hb : (Value.ref x != Value.ref a) = true := by simp [hxa]
    rw [if_pos hb]
    refine wpAny_bind (wpAny_holding (wpAny_runValue (codeAny_builtin entry_unchain ?_)))
    show wpAny _ _ (field (.ref x) 2 >>= _) _ _ _
    refine wpAny_bind (wpAny_field (s := ⟨h, g, d, t, os⟩) hx hdx h2 ?_)
    rw [if_pos (by rfl)]
    refine wpAny_pure ?_
    refine wpAny_bind ?_
    show wpAny _ _ (setField (.ref a) 2 (.ref x)) _ _ _
    refine wpAny_setField (s := ⟨h, g, d, t, os⟩) ha hd hsz (wpAny_throw (hE _ (fun b o ne e => (Heap.get?_update_other _ _ (Ne.symm ne)).trans e) ⟨_, Heap.get?_update_self _ ha (Obj.isFreed_of_fields (Obj.data_mapFields hd _)), Obj.cls_mapFields ..⟩))
theorem raiseStop {α : Type} {Q : α → Shared → Prop} (hq : Quiet A h)
    (hE : ∀ h' a, (∀ b o, h.get? b = some o → h'.get? b = some o) → (∃ o', h'.get? a = some o' ∧ o'.cls = .type "StopIteration") → E (.ref a) ⟨h', g, d, t, os⟩) :
    wpAny (Md w) A (newExc (.type "StopIteration") [] >>= fun e => (raiseNew e : Sem α)) Q E ⟨h, g, d, t, os⟩ := by
  refine wpAny_bind ?_
  simp only [newExc, newTuple]
  refine wpAny_bind (wpAny_newObj_type ?_ (by size_fits))
  refine wpAny_bind (m := firstArgMember _ _) (wpAny_of_eq (a := Value.none) (by first | rfl | (simp only [firstArgMember]; rfl)) ?_)
  refine wpAny_newObj_type ?_ (by size_fits)
  dsimp only
  generalize hH : h.push _ = H1
  have k1 : ∀ b o, h.get? b = some o → H1.get? b = some o := fun b o e => hH ▸ Heap.get?_push_of_some _ e
  refine raiseQ (oa := _) ((hq.on k1).on fun b o e => Heap.get?_push_of_some _ e) (fun x hA e => ?_) (Heap.get?_push_size _ rfl) rfl (by simp; omega) fun h' k hc => ?_
  · rcases hq with q | ⟨x', ox, vs, a, b, r⟩
    · rw [q] at hA; cases hA
    · rw [a] at hA
      cases hA
      subst e
      exact absurd (Heap.lt_size (k1 _ _ b)) (Nat.lt_irrefl _)
  · refine hE h' _ (fun b o e => k b o (fun q => ?_) (Heap.get?_push_of_some _ (k1 b o e))) hc
    exact absurd (Heap.lt_size (k1 b o e)) (by rw [q]; exact Nat.lt_irrefl _)
end
section
variable {w : World} {A : Around} {E : Value → Shared → Prop} {h : Heap} {g : Array GenState} {d : Drawn} {t : Nat} {os : OsState}
theorem seqEndQ {it l : Addr} {i : Nat} {vs : List Value} {Q : Option Value → Shared → Prop} (hq : Quiet A h)
    (hit : h.IsListIter it l i) (hl : SeqAt h l vs) (hx : vs[i]? = none)
    (hQ : ∀ h', Heap.ExtBut it h h' → Q none ⟨h', g, d, t, os⟩) : wpAny (Md w) A (pyNext (.ref it)) Q E ⟨h, g, d, t, os⟩ := by
  obtain ⟨o, ho, hc, hd⟩ := id hit
  obtain ⟨ol, nl, hol, hdl⟩ := hl
  have hit' : (⟨h, g, d, t, os⟩ : Shared).heap.IsListIter it l i := hit
  unfold pyNext
  refine wpAny_bind (wpAny_attempt (wpAny_callSpecial?_slot (name := Str.ofString "__next__") hit'.typeIs slot_listiter_next
    (wpAny_call_entry slot_listiter_next hit'.typeIs entry_listiter_next ?_ (args_listiter_next _))))
  show wpAny _ _ (field (.ref it) 0 >>= _) _ _ _
  refine wpAny_bind (wpAny_field (s := ⟨h, g, d, t, os⟩) ho hd (x := .ref l) rfl ?_)
  show wpAny _ _ (if (Value.ref l == Value.none) = true then _ else _) _ _ _
  rw [if_neg (show ¬ ((Value.ref l == Value.none) = true) from Bool.false_ne_true)]
  show wpAny _ _ (field (.ref it) 1 >>= _) _ _ _
  refine wpAny_bind (wpAny_field (s := ⟨h, g, d, t, os⟩) ho hd (x := .int i 0) rfl ?_)
  show wpAny _ _ (seqItems? (.ref l) >>= _) _ _ _
  refine wpAny_bind (wpAny_seqItems (s := ⟨h, g, d, t, os⟩) hol hdl ?_)
  simp only [Int.toNat_natCast, List.getElem?_toArray, hx]
  refine wpAny_bind (wpAny_rule (wpAny_bind (wpAny_setField (s := ⟨h, g, d, t, os⟩) ho hd (by simp) ?_)))
  refine raiseStop (A := A.in1) (Quiet.but hq (hq.ne ho fun vs e => by rw [hd] at e; cases e; simp) fun b o ne e => (Heap.get?_update_other _ _ (Ne.symm ne)).trans e) fun h' a k hc => ?_
  obtain ⟨o', ho', hc'⟩ := hc
  refine wpAny_bind (wpAny_isInstance (T := "StopIteration") (b := true) ⟨_, ho', hc'⟩ isSubtype_stop ?_)
  exact wpAny_pure (hQ h' fun b o ne e => k b o ((Heap.SameBut.update ..).extBut b o ne e))
theorem ascEndQ {it : Addr} {x : Str} {tx : Tok} {i : Nat} {Q : Option Value → Shared → Prop} (hq : Quiet A h)
    (hit : h.IsStrIter it "str_ascii_iterator" x tx i) (hx : x.cps[i]? = none)
    (hQ : ∀ h', Heap.ExtBut it h h' → Q none ⟨h', g, d, t, os⟩) : wpAny (Md w) A (pyNext (.ref it)) Q E ⟨h, g, d, t, os⟩ := by
  obtain ⟨o, ho, hc, hd⟩ := id hit
  have hit' : (⟨h, g, d, t, os⟩ : Shared).heap.IsStrIter it "str_ascii_iterator" x tx i := hit
  unfold pyNext
  refine wpAny_bind (wpAny_attempt (wpAny_callSpecial?_slot (name := Str.ofString "__next__") hit'.typeIs PySem.F.slot_str_ascii_iterator_next
    (wpAny_call_entry PySem.F.slot_str_ascii_iterator_next hit'.typeIs PySem.F.entry_str_ascii_iterator_next ?_ (PySem.F.args_str_ascii_iterator_next_1 _))))
  show wpAny _ _ (field (.ref it) 0 >>= _) _ _ _
  refine wpAny_bind (wpAny_field (s := ⟨h, g, d, t, os⟩) ho hd (x := .str x tx) rfl ?_)
  show wpAny _ _ (field (.ref it) 1 >>= _) _ _ _
  refine wpAny_bind (wpAny_field (s := ⟨h, g, d, t, os⟩) ho hd (x := .int i 0) rfl ?_)
  simp only [Int.toNat_natCast, hx]
  refine wpAny_bind (wpAny_rule (wpAny_bind (wpAny_setField (s := ⟨h, g, d, t, os⟩) ho hd (by simp) (wpAny_bind (wpAny_letGo ?_)))))
  refine raiseStop (A := A.in1) (Quiet.but hq (hq.ne ho fun vs e => by rw [hd] at e; cases e; simp) fun b o ne e => (Heap.get?_update_other _ _ (Ne.symm ne)).trans e) fun h' a k hc => ?_
  obtain ⟨o', ho', hc'⟩ := hc
  refine wpAny_bind (wpAny_isInstance (T := "StopIteration") (b := true) ⟨_, ho', hc'⟩ isSubtype_stop ?_)
  exact wpAny_pure (hQ h' fun b o ne e => k b o ((Heap.SameBut.update ..).extBut b o ne e))
theorem rngEndQ {it : Addr} {x left step : Int} {Q : Option Value → Shared → Prop} (hq : Quiet A h) (hit : IsRangeIter h it x left step) (hleft : left ≤ 0)
    (hQ : ∀ h', Heap.ExtBut it h h' → Q none ⟨h', g, d, t, os⟩) : wpAny (Md w) A (pyNext (.ref it)) Q E ⟨h, g, d, t, os⟩ := by
  have hT : (⟨h, g, d, t, os⟩ : Shared).TypeIs (.ref it) "range_iterator" := ⟨_, hit, rfl⟩
  unfold pyNext
  refine wpAny_bind (wpAny_attempt (wpAny_callSpecial?_slot (name := Str.ofString "__next__") hT PySem.F.slot_range_iterator_next
    (wpAny_call_entry PySem.F.slot_range_iterator_next hT PySem.F.entry_range_iterator_next ?_ (PySem.F.args_range_iterator_next_1 _))))
  show wpAny _ _ (field (.ref it) 0 >>= _) _ _ _
  refine wpAny_bind (wpAny_field (s := ⟨h, g, d, t, os⟩) hit rfl (x := rawInt x) rfl ?_)
  show wpAny _ _ (field (.ref it) 1 >>= _) _ _ _
  refine wpAny_bind (wpAny_field (s := ⟨h, g, d, t, os⟩) hit rfl (x := rawInt left) rfl ?_)
  show wpAny _ _ (field (.ref it) 2 >>= _) _ _ _
  refine wpAny_bind (wpAny_field (s := ⟨h, g, d, t, os⟩) hit rfl (x := rawInt step) rfl ?_)
  show wpAny _ _ (if left ≤ 0 then _ else _) _ _ _
  rw [if_pos hleft]
  refine wpAny_bind (wpAny_rule ?_)
  refine wpAny_bind ?_
  refine raiseStop (A := A.in1) hq fun h' a k hc => ?_
  obtain ⟨o', ho', hc'⟩ := hc
  refine wpAny_bind (wpAny_isInstance (T := "StopIteration") (b := true) ⟨_, ho', hc'⟩ isSubtype_stop ?_)
  exact wpAny_pure (hQ h' fun b o _ e => k b o e)
theorem tupEndQ {it l : Addr} {i : Nat} {items : Array Value} {Q : Option Value → Shared → Prop} (hq : Quiet A h)
    (hit : h.IsTupleIter it l i) (ht : h.IsTuple l items) (hx : items[i]? = none)
    (hQ : ∀ h', Heap.ExtBut it h h' → Q none ⟨h', g, d, t, os⟩) : wpAny (Md w) A (pyNext (.ref it)) Q E ⟨h, g, d, t, os⟩ := by
  obtain ⟨o, ho, hc, hd⟩ := id hit
  obtain ⟨ol, hol, hcl, nl, hdl⟩ := ht
  have hit' : (⟨h, g, d, t, os⟩ : Shared).heap.IsTupleIter it l i := hit
  unfold pyNext
  refine wpAny_bind (wpAny_attempt (wpAny_callSpecial?_slot (name := Str.ofString "__next__") hit'.typeIs PySem.F.slot_tuple_iterator_next
    (wpAny_call_entry PySem.F.slot_tuple_iterator_next hit'.typeIs PySem.F.entry_tuple_iterator_next ?_ (PySem.F.args_tuple_iterator_next_1 _))))
  show wpAny _ _ (field (.ref it) 0 >>= _) _ _ _
  refine wpAny_bind (wpAny_field (s := ⟨h, g, d, t, os⟩) ho hd (x := .ref l) rfl ?_)
  show wpAny _ _ (if (Value.ref l == Value.none) = true then _ else _) _ _ _
  rw [if_neg (show ¬ ((Value.ref l == Value.none) = true) from Bool.false_ne_true)]
  show wpAny _ _ (field (.ref it) 1 >>= _) _ _ _
  refine wpAny_bind (wpAny_field (s := ⟨h, g, d, t, os⟩) ho hd (x := .int i 0) rfl ?_)
  show wpAny _ _ (seqItems? (.ref l) >>= _) _ _ _
  refine wpAny_bind (wpAny_seqItems (s := ⟨h, g, d, t, os⟩) hol hdl ?_)
  simp only [Int.toNat_natCast, hx]
  refine wpAny_bind (wpAny_rule (wpAny_bind (wpAny_setField (s := ⟨h, g, d, t, os⟩) ho hd (by simp) ?_)))
  refine raiseStop (A := A.in1) (Quiet.but hq (hq.ne ho fun vs e => by rw [hd] at e; cases e; simp) fun b o ne e => (Heap.get?_update_other _ _ (Ne.symm ne)).trans e) fun h' a k hc => ?_
  obtain ⟨o', ho', hc'⟩ := hc
  refine wpAny_bind (wpAny_isInstance (T := "StopIteration") (b := true) ⟨_, ho', hc'⟩ isSubtype_stop ?_)
  exact wpAny_pure (hQ h' fun b o ne e => k b o ((Heap.SameBut.update ..).extBut b o ne e))
end
/-- where the handled exception stands -/
noncomputable def qa (A : Around) : List Addr := match A.handled with | some (.ref x) => [x] | _ => []
theorem Quiet.frame {A : Around} {h h' : Heap} (q : Quiet A h) (k : ∀ b ∈ qa A, ∀ o, h.get? b = some o → h'.get? b = some o) : Quiet A h' := by
  rcases q with q | ⟨x, ox, vs, a, b, r⟩
  · exact .inl q
  · exact .inr ⟨x, ox, vs, a, k x (by unfold qa; rw [a]; simp) _ b, r⟩
theorem Quiet.lt {A : Around} {h : Heap} (q : Quiet A h) : ∀ b ∈ qa A, b < h.objs.size := by
  intro b hb
  rcases q with q | ⟨x, ox, vs, a, e, r⟩
  · unfold qa at hb; rw [q] at hb; cases hb
  · unfold qa at hb
    rw [a] at hb
    have : b = x := by simpa using hb
    rw [this]; exact Heap.lt_size e
theorem walksListQ {w : World} (A : Around) (I l : Addr) (hne : l ≠ I) (items : Array Value) :
    Walks pg w A I ([I, l] ++ qa A) [I] items.size (fun i v => items[i]? = some v) (fun i h => h.IsListIter I l i ∧ h.IsList l items ∧ Quiet A h) where
  sub := fun b hb => by simp at hb; simp [hb]
  frame := fun _ _ _ st hk => ⟨st.1.at fun o e => hk I (by simp) o e, st.2.1.at fun o e => hk l (by simp) o e, st.2.2.frame fun b hb o e => hk b (List.mem_append_right _ hb) o e⟩
  item := fun i s Q E hi st hQ => by
    refine wpAny_pyNext_list_item st.1 st.2.1 (x := items[i]) (by simp [hi]) fun h' hit' hs' => ?_
    obtain ⟨oI, hoI, hcI, hdI⟩ := st.1
    exact hQ _ h' s.toks (by simp [hi]) ⟨hit', st.2.1.extBut hs'.extBut hne, st.2.2.but (st.2.2.ne hoI fun vs e => by rw [hdI] at e; cases e; simp) fun b o ne e => hs'.extBut b o ne e⟩ fun b o hb e => hs'.extBut b o (fun h => hb (by simp [h])) e
  done := fun s Q E st hQ => by
    obtain ⟨h, g, d, t, os⟩ := s
    have hl := st.2.1
    obtain ⟨ol, hol, hcl, nl, hdl⟩ := hl
    exact seqEndQ (vs := items.toList) st.2.2 st.1 ⟨ol, nl, hol, by simpa using hdl⟩ (by simp) fun h' he' => hQ h' t fun b o hb e => he' b o (fun h => hb (by simp [h])) e
  self := fun _ _ _ _ st hQ => wpAny_pyIter_listiter st.1 hQ
theorem walksTupQ {w : World} (A : Around) (I l : Addr) (hne : l ≠ I) (items : Array Value) :
    Walks pg w A I ([I, l] ++ qa A) [I] items.size (fun i v => items[i]? = some v) (fun i h => h.IsTupleIter I l i ∧ h.IsTuple l items ∧ Quiet A h) where
  sub := fun b hb => by simp at hb; simp [hb]
  frame := fun _ _ _ st hk => ⟨st.1.at fun o e => hk I (by simp) o e, st.2.1.at fun o e => hk l (by simp) o e, st.2.2.frame fun b hb o e => hk b (List.mem_append_right _ hb) o e⟩
  item := fun i s Q E hi st hQ => by
    refine wpAny_pyNext_tuple_item st.1 st.2.1 (x := items[i]) (by simp [hi]) fun h' hit' hs' => ?_
    obtain ⟨oI, hoI, hcI, hdI⟩ := st.1
    exact hQ _ h' s.toks (by simp [hi]) ⟨hit', st.2.1.extBut hs'.extBut hne, st.2.2.but (st.2.2.ne hoI fun vs e => by rw [hdI] at e; cases e; simp) fun b o ne e => hs'.extBut b o ne e⟩ fun b o hb e => hs'.extBut b o (fun h => hb (by simp [h])) e
  done := fun s Q E st hQ => by
    obtain ⟨h, g, d, t, os⟩ := s
    exact tupEndQ st.2.2 st.1 st.2.1 (by simp) fun h' he' => hQ h' t fun b o hb e => he' b o (fun h => hb (by simp [h])) e
  self := fun _ _ _ _ st hQ => wpAny_pyIter_tupleiter st.1 hQ
theorem walksAscQ {w : World} (A : Around) (I : Addr) (x : Str) (t : Tok) :
    Walks pg w A I ([I] ++ qa A) [I] x.cps.size (SignAt x) (fun i h => h.IsStrIter I "str_ascii_iterator" x t i ∧ Quiet A h) where
  sub := fun b hb => by simp at hb; simp [hb]
  frame := fun _ _ _ st hk => ⟨let ⟨o, ho, r⟩ := st.1; ⟨o, hk I (by simp) o ho, r⟩, st.2.frame fun b hb o e => hk b (List.mem_append_right _ hb) o e⟩
  item := fun i s Q E hi st hQ => by
    refine wpAny_pyNext_ascii_item st.1 (c := x.cps[i]) (by simp [hi]) fun h' hit' hs' => ?_
    obtain ⟨oI, hoI, hcI, hdI⟩ := st.1
    exact hQ _ h' (s.toks + 1) ⟨_, _, by simp [hi], rfl⟩ ⟨hit', st.2.but (st.2.ne hoI fun vs e => by rw [hdI] at e; cases e; simp) fun b o ne e => hs'.extBut b o ne e⟩ fun b o hb e => hs'.extBut b o (fun h => hb (by simp [h])) e
  done := fun s Q E st hQ => by
    obtain ⟨h, g, d, t, os⟩ := s
    exact ascEndQ st.2 st.1 (by simp) fun h' he' => hQ h' _ fun b o hb e => he' b o (fun h => hb (by simp [h])) e
  self := fun _ _ _ _ st hQ => wpAny_pyIter_striter_ascii st.1 hQ
section
variable {w : World} {A : Around} {target : Expr}
theorem itSeqQ (ht : Tgt target) (I l : Addr) (vs : List Value) : ItR w A target I vs.length (fun i o => ItO "list_iterator" l i o) (fun h => SeqAt h l vs ∧ Quiet A h) (fun i v _ => vs[i]? = some v) where
  nt := fun _ _ x => x.notTup
  item := fun i h g d t os oI Q Qn E hlt hI x hs hQ => by
    refine nextSeq ⟨oI, hI, x⟩ hs.1 (x := vs[i]) (by simp [hlt]) fun h' ⟨o', ho', x'⟩ hsb => ?_
    exact goSeq (by decide) ht ho' x' (hQ _ h' o' t (by simp [hlt]) x' ho' fun b y ne e => hsb.extBut b y ne e)
  done := fun h g d t os oI Q Qn E hI x hs hQ => seqEndQ hs.2 ⟨oI, hI, x⟩ hs.1 (by simp) fun h' he => hQ h' t fun b y ne e => he b y ne e
theorem itRangeQ (x : Str) (p : Pos) (I : Addr) (a c : Int) (n : Nat) : ItR w A (.Name x p) I n (fun i o => o = RngO (a + i * c) ((n : Int) - i) c) (fun h => Quiet A h) (fun i v _ => ∃ k, v = .int (a + i * c) k) where
  nt := fun _ _ x => by subst x; intro _ _ q; have := q.1; simp at this
  item := fun i h g d t os oI Q Qn E hlt hI x hs hQ => by
    subst x
    refine wpAny_pyNext_range_item (s := ⟨h, g, d, t, os⟩) hI (by omega) fun h' hi' hsb => goName ?_
    refine hQ _ h' _ _ ⟨_, rfl⟩ ?_ hi' fun b y ne e => hsb.extBut b y ne e
    have e1 : a + (i : Int) * c + c = a + ((i + 1 : Nat) : Int) * c := by rw [Int.natCast_add, Int.add_mul]; omega
    have e2 : (n : Int) - i - 1 = (n : Int) - ((i + 1 : Nat) : Int) := by omega
    rw [← e1, ← e2]
  done := fun h g d t os oI Q Qn E hI x hs hQ => by
    subst x
    exact rngEndQ hs hI (by omega) fun h' he => hQ h' t fun b y ne e => he b y ne e
theorem itAsciiQ (x : Str) (p : Pos) (I : Addr) (z : Str) (tz : Tok) : ItR w A (.Name x p) I z.cps.size (fun i o => o.cls = .type "str_ascii_iterator" ∧ o.data = .fields #[.str z tz, .int i 0]) (fun h => Quiet A h) (fun i v _ => ∃ c k, z.cps[i]? = some c ∧ v = .str ⟨#[c]⟩ k) where
  nt := fun _ _ x => by intro _ _ q; rw [x.1] at q; have := q.1; simp at this
  item := fun i h g d t os oI Q Qn E hlt hI x hs hQ => by
    refine wpAny_pyNext_ascii_item (s := ⟨h, g, d, t, os⟩) ⟨oI, hI, x⟩ (c := z.cps[i]) (by simp [hlt]) fun h' ⟨o', ho', x'⟩ hsb => goName ?_
    exact hQ _ h' o' _ ⟨_, _, by simp [hlt], rfl⟩ x' ho' fun b y ne e => hsb.extBut b y ne e
  done := fun h g d t os oI Q Qn E hI x hs hQ =>
    ascEndQ hs ⟨oI, hI, x⟩ (by simp) fun h' he => hQ h' t fun b y ne e => he b y ne e
end
end Mine
set_option maxHeartbeats 200000
namespace Mine
open PyProof.V
section
variable {w : World} {A : Around} {E : Value → Shared → Prop} {h h₀ H : Heap} {ex : List Addr} {g : Array GenState} {d : Drawn} {t : Nat} {os : OsState} {env : Env} {m : Str → Option Value} {mu : List (Addr × Obj)}

/-- a dict of texts and whole numbers -/
noncomputable def BkO (w : World) (c : List (Str × Int)) (o : Obj) : Prop := ∃ kvs, o.IsDictOf (strKind pg w) kvs ∧ FlatPairs PyData.str kvs (kdpD c)
theorem dictNotTup {K : Type} [DecidableEq K] {knd : KeyKind pg w K} {kvs : List (K × Value)} {o : Obj} (x : o.IsDictOf knd kvs) : NotTup o := fun _ _ q => by
  obtain ⟨es, ep, hx, hd, _⟩ := x
  rw [hd] at q; cases q.2
theorem kdpD_at {c : List (Str × Int)} {i : Nat} {k : Str} {dv : PyData} (e : (kdpD c)[i]? = some (PyData.str k, dv)) : ∃ n, c[i]? = some (k, n) ∧ dv = .int n := by
  unfold kdpD at e
  rw [List.getElem?_map] at e
  cases q : c[i]? with
  | none => rw [q] at e; cases e
  | some p => rw [q] at e; cases e; exact ⟨p.2, rfl, rfl⟩
theorem BkO.len {c : List (Str × Int)} {kvs : List (Str × Value)} (f : FlatPairs PyData.str kvs (kdpD c)) : kvs.length = c.length := by
  have := f.length
  rw [kdpD_length] at this; exact this.symm

noncomputable def sumC (c : List (Str × Int)) : Int := c.foldl (fun a p => a + p.2) 0
theorem getDict {D : Addr} {o : Obj} {K : Type} [DecidableEq K] {knd : KeyKind pg w K} {kvs : List (K × Value)} (ho : h.get? D = some o) (hd : o.IsDictOf knd kvs) : h.DictOf knd D kvs := Heap.dictOf_iff.mpr ⟨o, ho, hd⟩
theorem methDict {D : Addr} {o : Obj} {K : Type} [DecidableEq K] {knd : KeyKind pg w K} {kvs : List (K × Value)} {name : Str} {id : String} {pl : Sem Bool} {Q : Value × List Value → Shared → Prop} (ho : h.get? D = some o) (hd : o.IsDictOf knd kvs)
    (slot : Slot "dict" name id) (ty : typeOf (.builtin id) = pure (.type "method_descriptor")) (hQ : Q (.builtin id, [.ref D]) ⟨h, g, d, t, os⟩) : wpAny (Md w) A (getMethod (.ref D) name pl) Q E ⟨h, g, d, t, os⟩ :=
  have hD := getDict ho hd
  getMethod_builtin (s := ⟨h, g, d, t, os⟩) hD.typeIs PySem.F.plainAttrs_dict slot ty hD.mapOf.noDict hQ
theorem callName {x : Str} {p pos : Pos} {args : List Expr} {Q : Value → Shared → Prop} {s : Shared} {M : Model}
    (hQ : wpAny M A (eval (.Name x p) env) (fun f s₁ => wpAny M A (callWith pos f [] (backTo pos (starEach args env)) []) Q E s₁) E s) :
    wpAny M A (eval (.Call (.Name x p) args [] pos) env) Q E s := Call_Name rfl hQ

theorem xAugL {x : Str} {p pos : Pos} {op : Operator} {value : Expr} {v : Value} {rest : List Stmt} {Q : Flow → Shared → Prop} (S : St h₀ H ex env.locals h m mu) (hv : m x = some v)
    (hQ : wpAny (Md w) A (eval value env) (fun u s₂ => wpAny (Md w) A (inplaceOp op v u) (fun r s₃ => wpAny (Md w) A (storeName env x r) (fun _ s => wpAny (Md w) A (execs rest env) Q E s) E s₃) E s₂) E ⟨h, g, d, t, os⟩)
    (hk : env.scope.kind = .function := by rfl) (hx : env.kindOf x = some .local := by rfl) :
    wpAny (Md w) A (execs (.AugAssign (.Name x p) op value pos :: rest) env) Q E ⟨h, g, d, t, os⟩ :=
  xCons (wpAny_AugAssign_Name (wpAny_loadName_local hk hx S.ns hv hQ))

theorem foldl_take {α β : Type} (f : β → α → β) (a : β) (c : List α) (i : Nat) (x : α) (e : c[i]? = some x) : f ((c.take i).foldl f a) x = (c.take (i + 1)).foldl f a := by
  obtain ⟨hl, he⟩ := List.getElem?_eq_some_iff.mp e
  rw [List.take_succ_eq_append_getElem hl, List.foldl_append, he]; rfl

theorem count_calls_spec {Q : Value → Shared → Prop} {D : Addr} {o : Obj} {c : List (Str × Int)} (C : Cx w h) (hroom : A.depth < recursionLimit) (hh : A.handled = none) (ho : h.get? D = some o) (hB : BkO w c o) (lo : (D == sysModules) = false)
    (hQ : ∀ h' t t', Kp h h' → Q (.int (sumC c) t') ⟨h', g, d, t, os⟩) : wpAny (Md w) A (call (.ref 184) [.ref D]) Q E ⟨h, g, d, t, os⟩ := by
  obtain ⟨kvs, hd, hf⟩ := hB
  refine enterCall (binds := [(Str.ofString "callers", .ref D)]) C (by k_is) (by k_is) hroom (BindsTo.of_eq rfl) (locs rfl) (fun L h₁ t S => ?_) (by decide)
  refine xAssign (cI (stL S fun h2 S2 => ?_))
  refine xFor (MethodCall_ (ldL S2 rfl (methDict (S2.keep _ _ ho) hd PySem.F.slot_dict_values PySem.F.type_dict_values (cwBi0 ?_))) (by rfl))
  refine call_meetsIn (s := ⟨h2, g, d, _, os⟩) PySem.F.slot_dict_values (getDict (S2.keep _ _ ho) hd).typeIs PySem.F.entry_dict_values (PySem.F.args_dict_values_1 _) (meets_dict_values (strKind pg w) D lo) ⟨⟨kvs, getDict (S2.keep _ _ ho) hd⟩, ?_⟩
  have S3 := S2.alloc { cls := .type "dict_values", data := .fields #[.ref D] } rfl
  obtain ⟨ep, hat⟩ := (getDict ho hd).dictAt
  refine wpAny_pyIter_values ⟨_, S3.at 0 rfl, rfl, rfl⟩ (hat.keep S3.keep) ?_
  have S4 := S3.alloc { cls := .type "dict_valueiterator", data := .fields #[.ref D, .int 0 0, .int kvs.length 0, .int ep 0] } rfl
  have hlen : kvs.length = c.length := BkO.len hf
  refine forIt (itVals (A := A.deeper _) (knd := strKind pg w) hh _ _ _ D kvs ep) (fun i H ex m mu => ∃ tn, m "nc" = some (.int (sumC (c.take i)) tn)) (fun i H ex h' m mu oI S _ => hat.keep S.keep) S4 ⟨rfl, rfl⟩ ⟨_, rfl⟩ ?_ ?_
  · intro i v oI H ex h5 m mu t5 hlt qq10 qq11 hI S5
    refine nameT fun Q' hQ' => ?_
    obtain ⟨k, hv⟩ := qq10
    obtain ⟨tn, hm⟩ := qq11
    obtain ⟨dv, hdv, hfl⟩ := hf.at hv
    obtain ⟨n, hc, rfl⟩ := kdpD_at hdv
    obtain ⟨tv, rfl⟩ := hfl.int_inv
    refine wpAny_assign_Name (stL S5 fun h6 S6 => ?_)
    refine xAugL S6 hm (ldL S6 rfl (wpAny_iadd_int (stL S6 fun h7 S7 => ?_)))
    refine xNil (hQ' _ _ (TurnEnd.next S7 ?_))
    have e : sumC (c.take i) + n = sumC (c.take (i + 1)) := foldl_take (fun a p => a + p.2) 0 c i (k, n) hc
    rw [← e]
    exact ⟨_, if_pos rfl⟩
  · rintro H ex h5 m mu t5 ⟨tn, hm⟩ S5
    refine xRet (ldL S5 hm ?_)
    rw [hlen, List.take_length]
    exact hQ _ _ _ S5.keep

theorem strInv {k : Str} {key : Value} (e : (strKind pg w).is k key = true) : ∃ tk, key = .str k tk := by
  cases key <;> simp [PySem.strKind, Value.isStrOf] at e
  subst e; exact ⟨_, rfl⟩
theorem emptyBk : BkO w [] { cls := .type "dict", data := .dict #[] } :=
  ⟨[], ⟨#[], 0, ⟨rfl, rfl, rfl⟩, rfl, (by intro e he; simp at he), .nil, List.nodup_nil⟩, .nil⟩
theorem setBk {Q : Unit → Shared → Prop} {L D : Addr} {o : Obj} {c : List (Str × Int)} {i : Nat} {key : Value} {k : Str} {n : Int} {tn : Tok} (S : St h₀ H ex L h m mu) (hi : mu[i]? = some (D, o)) (hB : BkO w c o) (hkey : (strKind pg w).is k key = true) (hz : c.length ≤ 1000)
    (hQ : ∀ h' o', BkO w (kprPut c k n) o' → St h₀ H ex L h' m (mu.set i (D, o')) → Q () ⟨h', g, d, t + 1, os⟩) : wpAny (Md w) A (setItem (.ref D) key (.int n tn)) Q E ⟨h, g, d, t, os⟩ := by
  obtain ⟨kvs, hd, hf⟩ := hB
  refine wpAny_setItem_pairs (s := ⟨h, g, d, t, os⟩) hkey (getDict (S.at i hi) hd) (fun h' hm hs => ?_) (by rw [BkO.len hf]; simp [sizeLine]; omega)
  obtain ⟨o', ho', hd'⟩ := Heap.dictOf_iff.mp hm
  refine hQ h' o' ⟨_, hd', ?_⟩ (S.set i hi (dictNotTup hd) hs ho')
  have := hf.stored PyProof.V.same_str k (PyProof.V.Flat.int n tn)
  rw [kdpD_put] at this
  exact this
theorem inBk {Q : Value → Shared → Prop} {D : Addr} {o : Obj} {c : List (Str × Int)} {key : Value} {k : Str} (ho : h.get? D = some o) (hB : BkO w c o) (hkey : (strKind pg w).is k key = true) (lo : (D == sysModules) = false)
    (hQ : Q (.bool (kprHas c k)) ⟨h, g, d, t + 1, os⟩) : wpAny (Md w) A (compareOp .In key (.ref D)) Q E ⟨h, g, d, t, os⟩ := by
  obtain ⟨kvs, hd, hf⟩ := hB
  refine wpAny_in_of (s := ⟨h, g, d, t, os⟩) hkey lo (getDict ho hd).mapOf ?_
  have e : (valueAt kvs k).isSome = kprHas c k := by rw [hf.isSome PyProof.V.same_str k, kdpD_isSome]; rfl
  rw [e]; exact hQ
theorem getBk {Q : Value → Shared → Prop} {D : Addr} {o : Obj} {c : List (Str × Int)} {key : Value} {k : Str} (ho : h.get? D = some o) (hB : BkO w c o) (hkey : (strKind pg w).is k key = true) (hk : kprHas c k = true)
    (hQ : ∀ tn, Q (.int (kprLook c k 0) tn) ⟨h, g, d, t + 1, os⟩) : wpAny (Md w) A (getItem (.ref D) key) Q E ⟨h, g, d, t, os⟩ := by
  obtain ⟨kvs, hd, hf⟩ := hB
  obtain ⟨v, hv, hfl⟩ := hf.of_lookup PyProof.V.same_str (kdpD_item hk)
  obtain ⟨tn, rfl⟩ := hfl.int_inv
  exact wpAny_getItem_of (s := ⟨h, g, d, t, os⟩) hkey (getDict ho hd).mapOf hv (hQ tn)

noncomputable def addTo (a : List (Str × Int)) (p : Str × Int) : List (Str × Int) := if kprHas a p.1 then kprPut a p.1 (kprLook a p.1 0 + p.2) else kprPut a p.1 p.2
noncomputable def addC (ct cs : List (Str × Int)) : List (Str × Int) := cs.foldl addTo (ct.foldl (fun a p => kprPut a p.1 p.2) [])
theorem put_len (c : List (Str × Int)) (k : Str) (v : Int) : (kprPut c k v).length ≤ c.length + 1 := kdpPut_len c k v
theorem addTo_len (a : List (Str × Int)) (p : Str × Int) : (addTo a p).length ≤ a.length + 1 := by
  unfold addTo; split <;> exact put_len _ _ _
theorem foldl_len (f : List (Str × Int) → Str × Int → List (Str × Int)) (hf : ∀ a p, (f a p).length ≤ a.length + 1) : ∀ (c a : List (Str × Int)), (c.foldl f a).length ≤ a.length + c.length
  | [], a => by simp
  | p :: c, a => by
    have := foldl_len f hf c (f a p)
    have h2 := hf a p
    simp only [List.foldl_cons, List.length_cons]; omega

theorem add_callers_spec {Q : Value → Shared → Prop} {D1 D2 : Addr} {o1 o2 : Obj} {ct cs : List (Str × Int)} (C : Cx w h) (hroom : A.depth < recursionLimit) (hh : A.handled = none) (ho1 : h.get? D1 = some o1) (hB1 : BkO w ct o1) (lo1 : (D1 == sysModules) = false) (ho2 : h.get? D2 = some o2) (hB2 : BkO w cs o2) (lo2 : (D2 == sysModules) = false)
    (hz : ct.length + cs.length ≤ 900)
    (hQ : ∀ h' t D o', Kp h h' → h.get? D = none → h'.get? D = some o' → BkO w (addC ct cs) o' → (D == sysModules) = false → Q (.ref D) ⟨h', g, d, t, os⟩) : wpAny (Md w) A (call (.ref 177) [.ref D1, .ref D2]) Q E ⟨h, g, d, t, os⟩ := by
  obtain ⟨kvs1, hd1, hf1⟩ := id hB1
  obtain ⟨kvs2, hd2, hf2⟩ := id hB2
  have hl1 := BkO.len hf1
  have hl2 := BkO.len hf2
  obtain ⟨ep1, hat1⟩ := (getDict ho1 hd1).dictAt
  obtain ⟨ep2, hat2⟩ := (getDict ho2 hd2).dictAt
  refine enterCall (binds := [(Str.ofString "target", .ref D1), (Str.ofString "source", .ref D2)]) C (by k_is) (by k_is) hroom (BindsTo.of_eq rfl) (locs rfl) (fun L h₁ t S => ?_) (by decide)
  refine xAssign (wpAny_Dict_empty ?_)
  have S0 := S.alloc { cls := .type "dict", data := .dict #[] } rfl
  have loD : (h₁.objs.size == sysModules) = false := beq_eq_false_iff_ne.mpr (Nat.ne_of_gt (modules_low (C.keeps S.keep).lim))
  have hD0 : h.get? h₁.objs.size = none := S0.new (by simp)
  refine stL S0 fun h2 S2 => ?_
  refine xFor (MethodCall_ (ldL S2 rfl (methDict (S2.keep _ _ ho1) hd1 PySem.F.slot_dict_items PySem.F.type_dict_items (cwBi0 ?_))) (by rfl))
  refine call_meetsIn (s := ⟨h2, g, d, _, os⟩) PySem.F.slot_dict_items (getDict (S2.keep _ _ ho1) hd1).typeIs PySem.F.entry_dict_items (PySem.F.args_dict_items_1 _) (meets_dict_items (strKind pg w) D1 lo1) ⟨⟨kvs1, getDict (S2.keep _ _ ho1) hd1⟩, ?_⟩
  have S3 := S2.alloc { cls := .type "dict_items", data := .fields #[.ref D1] } rfl
  refine wpAny_pyIter_items ⟨_, S3.at 0 rfl, rfl, rfl⟩ (hat1.keep S3.keep) ?_
  have S4 := (S3.alloc (ItmO D1 (0 : Nat) kvs1.length ep1 .none .none) rfl).sub (mu' := [_, _]) (.cons_cons _ (.cons _ (.refl _)))
  refine forIt (itItems (A := A.deeper _) (knd := strKind pg w) hh _ _ _ _ D1 kvs1 ep1) (fun i H ex m mu => m "source" = some (.ref D2) ∧ m "new_callers" = some (.ref h₁.objs.size) ∧ ∃ oD, mu = [(h₁.objs.size, oD)] ∧ BkO w ((ct.take i).foldl (fun a p => kprPut a p.1 p.2) []) oD) (fun i H ex h' m mu oI S _ => hat1.keep S.keep) S4 ⟨_, _, rfl⟩ ⟨rfl, rfl, _, rfl, emptyBk⟩ ?_ ?_
  · intro i v oI H ex h5 m mu t5 hlt qq10 qq11 hI S5
    refine nameT fun Q' hQ' => ?_
    obtain ⟨k, u, T, key, hx, hkey, rfl, hT⟩ := qq10
    obtain ⟨m1, m2, oD, rfl, hB⟩ := qq11
    obtain ⟨dv, hdv, hfl⟩ := hf1.at hx
    obtain ⟨n, hc, rfl⟩ := kdpD_at hdv
    obtain ⟨tv, rfl⟩ := hfl.int_inv
    refine asgPair S5 hh hT fun h6 t6 S6 => ?_
    refine xCons (wpAny_Assign_Subscript (ldL S6 rfl (ldL S6 m2 (ldL S6 rfl (setBk S6 (i := 1) rfl hB hkey ?_ fun h7 o7 hB7 S7 => ?_)))))
    · have := foldl_len (fun a p => kprPut a p.1 p.2) (fun a p => put_len a p.1 p.2) (ct.take i) []
      simp at this; omega
    · refine xNil (hQ' _ _ (TurnEnd.next S7 ⟨m1, m2, o7, rfl, ?_⟩))
      have e := foldl_take (fun (a : List (Str × Int)) p => kprPut a p.1 p.2) [] ct i (k, n) hc
      rw [← e]; exact hB7
  · rintro H ex h5 m mu t5 ⟨m1, m2, oD, rfl, hB⟩ S5
    rw [hl1, List.take_length] at hB
    refine xFor (MethodCall_ (ldL S5 m1 (methDict (S5.keep _ _ ho2) hd2 PySem.F.slot_dict_items PySem.F.type_dict_items (cwBi0 ?_))) (by rfl))
    refine call_meetsIn (s := ⟨h5, g, d, _, os⟩) PySem.F.slot_dict_items (getDict (S5.keep _ _ ho2) hd2).typeIs PySem.F.entry_dict_items (PySem.F.args_dict_items_1 _) (meets_dict_items (strKind pg w) D2 lo2) ⟨⟨kvs2, getDict (S5.keep _ _ ho2) hd2⟩, ?_⟩
    have S6 := S5.alloc { cls := .type "dict_items", data := .fields #[.ref D2] } rfl
    refine wpAny_pyIter_items ⟨_, S6.at 0 rfl, rfl, rfl⟩ (hat2.keep S6.keep) ?_
    have S7 := (S6.alloc (ItmO D2 (0 : Nat) kvs2.length ep2 .none .none) rfl).sub (mu' := [_, _]) (.cons_cons _ (.cons _ (.refl _)))
    refine forIt (itItems (A := A.deeper _) (knd := strKind pg w) hh _ _ _ _ D2 kvs2 ep2) (fun i H ex m mu => m "new_callers" = some (.ref h₁.objs.size) ∧ ∃ oD, mu = [(h₁.objs.size, oD)] ∧ BkO w (addC ct (cs.take i)) oD) (fun i H ex h' m mu oI S _ => hat2.keep S.keep) S7 ⟨_, _, rfl⟩ ⟨m2, _, rfl, hB⟩ ?_ ?_
    · intro i v oI H ex h8 m mu t8 hlt qq10 qq11 hI S8
      refine nameT fun Q' hQ' => ?_
      obtain ⟨k, u, T, key, hx, hkey, rfl, hT⟩ := qq10
      obtain ⟨m2, oD, rfl, hB⟩ := qq11
      obtain ⟨dv, hdv, hfl⟩ := hf2.at hx
      obtain ⟨n, hc, rfl⟩ := kdpD_at hdv
      obtain ⟨tv, rfl⟩ := hfl.int_inv
      have hzz : (addC ct (cs.take i)).length ≤ 1000 := by
        have := foldl_len addTo addTo_len (cs.take i) (ct.foldl (fun a p => kprPut a p.1 p.2) [])
        have h2 := foldl_len (fun a p => kprPut a p.1 p.2) (fun a p => put_len a p.1 p.2) ct []
        unfold addC
        simp at this h2; omega
      have e := foldl_take addTo (ct.foldl (fun a p => kprPut a p.1 p.2) []) cs i (k, n) hc
      have e' : addTo (addC ct (cs.take i)) (k, n) = addC ct (cs.take (i + 1)) := e
      refine asgPair S8 hh hT fun h9 t9 S9 => ?_
      refine xIf (wpAny_isTrue_Compare1 (ldL S9 rfl (ldL S9 m2 (inBk (S9.at 1 rfl) hB hkey loD (wpAny_truthy_bool ?_)))))
      split
      · rename_i hhas
        refine xIf (wpAny_isTrue_value (callName (ldB C S9 (by k_is) rfl (cwBi ?_))) (by rfl))
        refine spliced_more (ldL S9 rfl (spliced_more (ldB C S9 (by k_is) rfl (spliced_none (PySem.IsiPair.int_tuple (wpAny_truthy_bool ?_))))))
        rw [if_neg (by decide)]
        refine xCons (wpAny_AugAssign_Subscript (ldL S9 m2 (ldL S9 rfl (getBk (S9.at 1 rfl) hB hkey hhas fun tn => ldL S9 rfl (wpAny_iadd_int (setBk S9 (i := 1) rfl hB hkey hzz fun h10 o10 hB10 S10 => ?_))))))
        refine xNil (xNil (xNil (hQ' _ _ (TurnEnd.next S10 ⟨m2, o10, rfl, ?_⟩))))
        rw [← e']
        unfold addTo
        rw [if_pos hhas]
        exact hB10
      · rename_i hhas
        refine xCons (wpAny_Assign_Subscript (ldL S9 rfl (ldL S9 m2 (ldL S9 rfl (setBk S9 (i := 1) rfl hB hkey hzz fun h10 o10 hB10 S10 => ?_)))))
        refine xNil (xNil (hQ' _ _ (TurnEnd.next S10 ⟨m2, o10, rfl, ?_⟩)))
        rw [← e']
        unfold addTo
        rw [if_neg hhas]
        exact hB10
    · rintro H ex h5 m mu t5 ⟨m2, oD, rfl, hB⟩ S5
      rw [hl2, List.take_length] at hB
      exact xRet (ldL S5 m2 (hQ _ _ _ _ S5.keep hD0 (S5.at 0 rfl) hB loD))
end
end Mine
set_option maxHeartbeats 200000
namespace Mine
section
variable {w : World} {A : Around} {E : Value → Shared → Prop} {h h₀ H : Heap} {ex : List Addr} {g : Array GenState} {d : Drawn} {t : Nat} {os : OsState} {env : Env} {m : Str → Option Value} {mu : List (Addr × Obj)} {l : Addr} {vs : List Value} {ns : List Int} {Q : Value → Shared → Prop}

theorem sumL (hh : A.handled = none) (hl : h.IsList l vs.toArray) (hi : IntsAre vs ns) (hQ : ∀ h' t t', Kp h h' → Q (.int ns.sum t') ⟨h', g, d, t, os⟩) :
    wpAny (Md w) A (call (.builtin "sum") [.ref l]) Q E ⟨h, g, d, t, os⟩ := by
  obtain ⟨xs, hx⟩ := hi.allInts.items
  have e := hi.numsOf
  rw [hx] at hl
  refine sum_intListG (s := ⟨h, g, d, t, os⟩) hh hl fun h' tk t' hk => ?_
  rw [preSum_eq, List.take_of_length_le (by simp), ← nums_intItems, ← hx]
  show Q (.int (numsOf vs).sum t') _
  rw [e]
  exact hQ h' tk t' hk
theorem sumT (hh : A.handled = none) (hl : h.IsTuple l vs.toArray) (hi : IntsAre vs ns) (hQ : ∀ h' t t', Kp h h' → Q (.int ns.sum t') ⟨h', g, d, t, os⟩) :
    wpAny (Md w) A (call (.builtin "sum") [.ref l]) Q E ⟨h, g, d, t, os⟩ := by
  obtain ⟨xs, hx⟩ := hi.allInts.items
  have e := hi.numsOf
  rw [hx] at hl
  refine call_sum_walkG (s := ⟨h, g, d, t, os⟩) (wpAny_pyIter_tuple (s := ⟨h, g, d, t, os⟩) hl ?_)
  have hlI : l ≠ h.objs.size := by
    obtain ⟨o, ho, _⟩ := hl
    exact Nat.ne_of_lt (Heap.lt_size ho)
  refine ⟨_, _, _, _, _, _, numAt xs, rfl, Walks.tuple (A := A.in1) hh _ l hlI (intItems xs), ⟨⟨_, Heap.get?_push_size _ rfl, rfl, rfl⟩, hl.push _⟩, ?_, (fun _ _ => intItems_at), fun h' tk t' hk => ?_⟩
  · intro b hb
    show b < (h.push _).objs.size
    rw [Heap.size_push]
    rcases List.mem_cons.mp hb with rfl | hb
    · exact Nat.lt_succ_self _
    · rcases List.mem_cons.mp hb with rfl | hb
      · obtain ⟨o, ho, _⟩ := hl
        exact Nat.lt_succ_of_lt (Heap.lt_size ho)
      · cases hb
  · have hs : (intItems xs).size = xs.size := by simp [intItems]
    rw [hs, preSum_eq, List.take_of_length_le (by simp), ← nums_intItems, ← hx]
    show Q (.int (numsOf vs).sum t') _
    rw [e]
    refine hQ h' tk t' fun b o eb => hk b o (fun hb => ?_) (Heap.get?_push_of_some _ eb)
    rcases List.mem_cons.mp hb with rfl | hb
    · exact absurd (Heap.lt_size eb) (Nat.lt_irrefl _)
    · cases hb
theorem lenL (hl : h.IsList l vs.toArray) (hz : vs.length ≤ 100000) (hQ : ∀ t t', Q (.int (vs.length : Nat) t') ⟨h, g, d, t, os⟩) : wpAny (Md w) A (call (.builtin "len") [.ref l]) Q E ⟨h, g, d, t, os⟩ := by
  refine call_len_list (s := ⟨h, g, d, t, os⟩) hl (by simp; omega) ?_
  simpa using hQ _ _
theorem sortRev {L : Addr} (S : St h₀ H ex L h m mu) (hl : h.IsList l vs.toArray) (hi : IntsAre vs ns) (h64 : vs.length < 64)
    (hQ : ∀ h' D vs' ns' e, St h₀ H ex L h' m ((D, LstP vs' e) :: mu) → IntsAre vs' ns' → ns'.Perm ns → ns'.Pairwise (· ≥ ·) → Q (.ref D) ⟨h', g, d, t, os⟩) :
    wpAny (Md w) A (call (.builtin "sorted") [.ref l] [(Str.ofString "reverse", .bool true)]) Q E ⟨h, g, d, t, os⟩ := by
  refine sorted_ints_rev (s := ⟨h, g, d, t, os⟩) hl hi h64 fun out ns' a1 a2 a3 => ?_
  obtain ⟨e, he⟩ := sortedAll_at h vs out
  refine hQ _ _ out.toList ns' e (S.add (fun _ _ => sortedAll_old) ?_ he) a1 a2 a3
  cases q : h.get? (h.objs.size + 1) with
  | none => rfl
  | some o => exact absurd (Heap.lt_size q) (Nat.not_lt.mpr (Nat.le_succ _))
theorem sortDown {a b : List Int} (p : a.Perm b) (ha : a.Pairwise (· ≥ ·)) (hb : b.Pairwise (· ≥ ·)) : a = b := by
  have h := lks_uniq ((List.reverse_perm a).trans (p.trans (List.reverse_perm b).symm)) (List.pairwise_reverse.mpr ha) (List.pairwise_reverse.mpr hb)
  simpa using congrArg List.reverse h
theorem callKw {x : Str} {p pos : Pos} {args : List Expr} {keywords : List Keyword} {s : Shared} {M : Model}
    (hQ : wpAny M A (eval (.Name x p) env) (fun f s₁ => wpAny M A (callWith pos f [] (backTo pos (starEach args env)) (backToKw pos (keywordEach keywords env))) Q E s₁) E s) :
    wpAny M A (eval (.Call (.Name x p) args keywords pos) env) Q E s := wpAny_Call_Name_kw hQ
end
section
variable {w : World} {A : Around} {h₀ H h hb : Heap} {g : Array GenState} {d : Drawn} {t : Nat} {os : OsState} {env : Env} {m : Str → Option Value} {mu : List (Addr × Obj)} {ex : List Addr} {target : Expr} {l : Addr} {vs : List Value}
variable {E' : Value → Shared → Prop} {elt iter : Expr} {ifs : List Expr} {scope : Scope} {pos : Pos} {cl : List (Str × Addr)} {RR : Value → Addr → Result → Shared → Prop}
theorem compSeqAt (hh : A.handled = none) (ht : Tgt target) (hl : SeqAt hb l vs) (F : Nat → List Value → Heap → Prop)
    (hcell : ∀ y ∈ scope.names, y.2 ≠ .cell) (hkind : scope.kind = .function) (hF : ∀ h, F 0 [] h) (hz : vs.length ≤ 1000)
    (turn : ∀ i v ys oI k H ex h m t C D I, vs[i]? = some v → F i ys H → St hb H ex C h m [(I, oI), (D, LstP ys k)] →
      wpAny (Md w) A (assign target (compEnvC scope cl C env) v) (fun _ s₂ => wpAny (Md w) A (Tests ifs (compEnvC scope cl C env)) (fun ok s₃ =>
        if ok = true then wpAny (Md w) A (eval elt (compEnvC scope cl C env)) (fun y s₄ => CompEnd hb C D I oI (LstP ys k) g d os (F (i + 1) (ys ++ [y])) s₄) (fun _ _ => False) s₃
        else CompEnd hb C D I oI (LstP ys k) g d os (F (i + 1) ys) s₃) (fun _ _ => False) s₂) (fun _ _ => False) ⟨h, g, d, t, os⟩)
    (hRR : ∀ D C h' t' m' ys k H, Kp hb h' → hb.get? D = none → hb.get? C = none → D ≠ C → h'.Ns C m' → h'.get? D = some (LstP ys k) → F vs.length ys H → (∀ b its, H.IsTuple b its → h'.IsTuple b its) → RR (.ref D) C (.ok .next) ⟨h', g, d, t', os⟩) :
    wpAny (Md w) A (newList []) (fun acc s₃ => wpAny (Md w) A (newFunctionEnv scope env.globals cl [] env.qual none .none (some env)) (fun cenv s₄ =>
      codeAny (Md w) A (.compStart (.ListComp elt [⟨target, iter, ifs, 0⟩] scope pos) 0 (.ref hb.objs.size) acc { cenv with scope := relabel scope env }) (RR acc cenv.locals) s₄) E' s₃) E' ⟨hb.push { cls := .type "list_iterator", data := .fields #[.ref l, .int 0 0] }, g, d, t, os⟩ := by
  refine compIn (itSeq (A := A) hh ht hb.objs.size l vs) F hcell hkind (fun _ _ e => Heap.get?_push_of_some _ e) (fresh_none hb) (Heap.get?_push_size _ rfl) ⟨rfl, rfl⟩ (fun h' k => ?_) (hF _) hz (fun h g d t os Q E e q => ?_) (fun i v ys oI k H ex h m t C D hlt hv hF hI S => turn i v ys oI k H ex h m t C D _ hv hF S) hRR
  · obtain ⟨o, n, a, b⟩ := hl
    exact ⟨o, n, k _ _ a, b⟩
  · exact wpAny_pyIter_listiter (i := 0) ⟨_, e, rfl, rfl⟩ q
theorem compSeq (hh : A.handled = none) (ht : Tgt target) (hl : hb.IsList l vs.toArray) (F : Nat → List Value → Heap → Prop)
    (hcell : ∀ y ∈ scope.names, y.2 ≠ .cell) (hkind : scope.kind = .function) (hF : ∀ h, F 0 [] h) (hz : vs.length ≤ 1000)
    (turn : ∀ i v ys oI k H ex h m t C D I, vs[i]? = some v → F i ys H → St hb H ex C h m [(I, oI), (D, LstP ys k)] →
      wpAny (Md w) A (assign target (compEnvC scope cl C env) v) (fun _ s₂ => wpAny (Md w) A (Tests ifs (compEnvC scope cl C env)) (fun ok s₃ =>
        if ok = true then wpAny (Md w) A (eval elt (compEnvC scope cl C env)) (fun y s₄ => CompEnd hb C D I oI (LstP ys k) g d os (F (i + 1) (ys ++ [y])) s₄) (fun _ _ => False) s₃
        else CompEnd hb C D I oI (LstP ys k) g d os (F (i + 1) ys) s₃) (fun _ _ => False) s₂) (fun _ _ => False) ⟨h, g, d, t, os⟩)
    (hRR : ∀ D C h' t' m' ys k H, Kp hb h' → hb.get? D = none → hb.get? C = none → D ≠ C → h'.Ns C m' → h'.get? D = some (LstP ys k) → F vs.length ys H → (∀ b its, H.IsTuple b its → h'.IsTuple b its) → RR (.ref D) C (.ok .next) ⟨h', g, d, t', os⟩) :
    wpAny (Md w) A (pyIter (.ref l)) (fun it s₂ => wpAny (Md w) A (newList []) (fun acc s₃ => wpAny (Md w) A (newFunctionEnv scope env.globals cl [] env.qual none .none (some env)) (fun cenv s₄ =>
      codeAny (Md w) A (.compStart (.ListComp elt [⟨target, iter, ifs, 0⟩] scope pos) 0 it acc { cenv with scope := relabel scope env }) (RR acc cenv.locals) s₄) E' s₃) E' s₂) E' ⟨hb, g, d, t, os⟩ :=
  wpAny_pyIter_list (s := ⟨hb, g, d, t, os⟩) hl (compSeqAt hh ht (SeqAt.list hl) F hcell hkind hF hz turn hRR)
end
end Mine
set_option maxHeartbeats 400000
namespace Mine
section
variable {w : World} {A : Around} {E : Value → Shared → Prop} {h h₀ H : Heap} {ex : List Addr} {g : Array GenState} {d : Drawn} {t : Nat} {os : OsState} {env : Env} {m : Str → Option Value} {mu : List (Addr × Obj)} {l : Addr} {vs : List Value} {ns : List Int} {Q : Value → Shared → Prop}
theorem sumLQ (hq : Quiet A h) (hl : h.IsList l vs.toArray) (hi : IntsAre vs ns) (hQ : ∀ h' t t', Kp h h' → Q (.int ns.sum t') ⟨h', g, d, t, os⟩) :
    wpAny (Md w) A (call (.builtin "sum") [.ref l]) Q E ⟨h, g, d, t, os⟩ := by
  obtain ⟨xs, hx⟩ := hi.allInts.items
  have e := hi.numsOf
  rw [hx] at hl
  refine call_sum_walkG (s := ⟨h, g, d, t, os⟩) (wpAny_pyIter_list (s := ⟨h, g, d, t, os⟩) hl ?_)
  have hlI : l ≠ h.objs.size := by
    obtain ⟨o, ho, _⟩ := hl
    exact Nat.ne_of_lt (Heap.lt_size ho)
  refine ⟨_, _, _, _, _, _, numAt xs, rfl, walksListQ A.in1 _ l hlI (intItems xs), ⟨⟨_, Heap.get?_push_size _ rfl, rfl, rfl⟩, hl.push _, hq.on fun b o e => Heap.get?_push_of_some _ e⟩, ?_, (fun _ _ => intItems_at), fun h' tk t' hk => ?_⟩
  · intro b hb
    show b < (h.push _).objs.size
    rw [Heap.size_push]
    rcases List.mem_append.mp hb with hb | hb
    · rcases List.mem_cons.mp hb with rfl | hb
      · exact Nat.lt_succ_self _
      · rcases List.mem_cons.mp hb with rfl | hb
        · obtain ⟨o, ho, _⟩ := hl
          exact Nat.lt_succ_of_lt (Heap.lt_size ho)
        · cases hb
    · exact Nat.lt_succ_of_lt (hq.lt b hb)
  · have hs : (intItems xs).size = xs.size := by simp [intItems]
    rw [hs, preSum_eq, List.take_of_length_le (by simp), ← nums_intItems, ← hx]
    show Q (.int (numsOf vs).sum t') _
    rw [e]
    refine hQ h' tk t' fun b o eb => hk b o (fun hb => ?_) (Heap.get?_push_of_some _ eb)
    rcases List.mem_cons.mp hb with rfl | hb
    · exact absurd (Heap.lt_size eb) (Nat.lt_irrefl _)
    · cases hb
theorem minQ {a b : Int} {ta tb : Tok} (hq : Quiet A h)
    (hQ : ∀ h' tk, Kp h h' → Q (if b < a then .int b tb else .int a ta) ⟨h', g, d, tk, os⟩) :
    wpAny (Md w) A (call (.builtin "min") [.int a ta, .int b tb]) Q E ⟨h, g, d, t, os⟩ := by
  have hT : (h.push { cls := .type "tuple", data := .seq #[.int a ta, .int b tb] }).IsTuple h.objs.size (intItems #[(a, ta), (b, tb)]) := ⟨_, Heap.get?_push_size _ rfl, rfl, 0, by simp [intItems]⟩
  refine call_min_two (s := ⟨h, g, d, t, os⟩) (wpAny_pyIter_tuple hT ?_)
  have hsz : (h.push { cls := .type "tuple", data := .seq #[.int a ta, .int b tb] }).objs.size = h.objs.size + 1 := Heap.size_push ..
  have hq2 : Quiet A ((h.push { cls := .type "tuple", data := .seq #[.int a ta, .int b tb] }).push { cls := .type "tuple_iterator", data := .fields #[.ref h.objs.size, .int 0 0] }) := (hq.on fun b o e => Heap.get?_push_of_some _ e).on fun b o e => Heap.get?_push_of_some _ e
  refine ⟨_, [_, h.objs.size] ++ qa A.in1, [_], _, _, _, _, rfl, walksTupQ A.in1 _ h.objs.size (by rw [hsz]; exact Nat.ne_of_lt (Nat.lt_succ_self _)) (intItems #[(a, ta), (b, tb)]),
    ⟨⟨_, Heap.get?_push_size _ rfl, rfl, rfl⟩, hT.push _, hq2⟩, fun c hc => ?_, by simp [intItems], CmpOf.ints_lt (numAt #[(a, ta), (b, tb)]) (fun _ _ => intItems_at), fun v h' tk hP hk => ?_⟩
  · show c < ((h.push _).push _).objs.size
    rw [Heap.size_push, hsz]
    rcases List.mem_append.mp hc with hc | hc
    · rcases List.mem_cons.mp hc with rfl | hc
      · rw [hsz]; exact Nat.lt_succ_self _
      · rcases List.mem_cons.mp hc with rfl | hc
        · exact Nat.lt_succ_of_lt (Nat.lt_succ_self _)
        · cases hc
    · exact Nat.lt_succ_of_lt (Nat.lt_succ_of_lt (hq.lt c hc))
  · have hold : ∀ c o, h.get? c = some o → h'.get? c = some o := fun c o e => by
      refine hk c o (fun hm => ?_) (Heap.get?_push_of_some _ (Heap.get?_push_of_some _ e))
      rcases List.mem_cons.mp hm with e1 | hm
      · have := Heap.lt_size e; rw [e1, hsz] at this; exact Nat.lt_irrefl _ (Nat.lt_of_succ_lt this)
      · cases hm
    have := hQ h' tk hold
    have hv : v = if b < a then Value.int b tb else Value.int a ta := by
      have hP' : (intItems #[(a, ta), (b, tb)])[argBest (fun i j => decide (numAt #[(a, ta), (b, tb)] i < numAt #[(a, ta), (b, tb)] j)) 1]? = some v := by
        have hsz2 : (intItems #[(a, ta), (b, tb)]).size - 1 = 1 := by simp [intItems]
        rw [← hsz2]; exact hP
      by_cases hba : b < a
      · have e : argBest (fun i j => decide (numAt #[(a, ta), (b, tb)] i < numAt #[(a, ta), (b, tb)] j)) 1 = 1 := by simp [argBest, numAt, hba]
        rw [e] at hP'
        simpa [intItems, hba] using hP'.symm
      · have e : argBest (fun i j => decide (numAt #[(a, ta), (b, tb)] i < numAt #[(a, ta), (b, tb)] j)) 1 = 0 := by simp [argBest, numAt, hba]
        rw [e] at hP'
        simpa [intItems, hba] using hP'.symm
    rw [hv]; exact this
theorem listStrQ {x : Str} {tx : Tok} (hq : Quiet A h) (ha : x.cps.all (· < 128) = true)
    (hQ : ∀ h' tk acc' c', Kp h h' → h'.get? h.objs.size = some { cls := .type "list", dict := none, data := .seq acc' c', slots := #[] } → ItemsOf (SignAt x) acc' x.cps.size → Q (.ref h.objs.size) ⟨h', g, d, tk, os⟩) (hn : x.cps.size ≤ sizeLine := by size_fits) :
    wpAny (Md w) A (call (.type "list") [.str x tx]) Q E ⟨h, g, d, t, os⟩ := by
  refine callType_codes (s := ⟨h, g, d, t, os⟩) (Q₁ := fun obj s₁ => obj = .ref h.objs.size ∧ s₁ = ⟨h.push { cls := .type "list", data := .seq #[] }, g, d, t, os⟩) PySem.F.called_list (PySem.F.typeCall_list_1 _) PySem.F.entry_list_init
    (code_list_new _ ⟨rfl, rfl⟩) fun obj s₁ h₁ => ?_
  obtain ⟨rfl, rfl⟩ := h₁
  have hS : (h.push { cls := .type "list", data := .seq #[] }).get? h.objs.size = some { cls := .type "list", data := .seq #[] } := Heap.get?_push_size _ rfl
  have hqS : ∀ y, A.handled = some (.ref y) → y ≠ h.objs.size := fun y hy e => by
    have := hq.lt y (by unfold qa; rw [hy]; simp)
    rw [e] at this; exact Nat.lt_irrefl _ this
  refine ⟨⟨_, hS, rfl⟩, PySem.F.args_list_init_2 _ _, ?_⟩
  have hq1 : Quiet A (h.push { cls := .type "list", data := .seq #[] }) := hq.on fun b o e => Heap.get?_push_of_some _ e
  generalize hH1 : h.push { cls := .type "list", data := .seq #[] } = h1 at hS hq1
  generalize hSe : h.objs.size = S at hS hqS
  show wpAny _ _ (do let old ← Builtin.List.listItems (.ref S); Builtin.List.listUpdate (.ref S) (fun _ => #[]); letGo old.toList.reverse; Builtin.List.listExtendWith (.ref S) (.str x tx) .none) _ _ _
  refine wpAny_bind ?_
  unfold Builtin.List.listItems
  refine wpAny_bind (wpAny_seqItems (s := ⟨h1, g, d, t, os⟩) hS rfl (wpAny_pure ?_))
  show wpAny _ _ (updateSeq S (fun _ => #[]) >>= fun _ => letGo (#[] : Array Value).toList.reverse >>= fun _ => Builtin.List.listExtendWith (.ref S) (.str x tx) .none) _ _ _
  refine wpAny_bind (wpAny_updateSeq (s := ⟨h1, g, d, t, os⟩) hS rfl ?_)
  have hS₂ := Heap.get?_update_self (Obj.mapSeq (fun _ => (#[] : Array Value))) hS rfl
  have oth : ∀ b o, b ≠ S → h1.get? b = some o → (h1.update S (Obj.mapSeq (fun _ => (#[] : Array Value)))).get? b = some o :=
    fun b o hb e => (Heap.get?_update_other _ _ (Ne.symm hb)).trans e
  refine wpAny_bind (wpAny_letGo ?_)
  have hq2 := hq1.but hqS oth
  generalize hH2 : h1.update S (Obj.mapSeq (fun _ => (#[] : Array Value))) = h2 at hS₂ oth hq2
  dsimp only
  have hSI : S ≠ h2.objs.size := Nat.ne_of_lt (Heap.lt_size hS₂)
  unfold Builtin.List.listExtendWith
  refine wpAny_bind (wpAny_typeOf (T := "str") (v := .str x tx) rfl ?_)
  have h1' : Builtin.List.listSameRef (.ref S) (.str x tx) = false := rfl
  have h2' : (Value.type "str" == Value.type "list") = false := by decide
  have h3' : (Value.type "str" == Value.type "tuple") = false := by decide
  simp only [h1', h2', h3', Bool.or_false, Bool.false_eq_true, if_false]
  refine wpAny_bind (wpAny_pyIter_ascii ha ?_)
  refine wpAny_bind (wpAny_holding ?_)
  unfold Builtin.List.listLengthHint
  refine wpAny_bind (wpAny_specialOf (T := "str") (v := .str x tx) rfl PySem.F.str_len ?_)
  wp_delta
  refine wpAny_bind (wpAny_isInstance (T := "str") (v := .str x tx) (b := true) rfl (by rw [isSubtype_type]; kernel_rfl) ?_)
  show wpAny _ _ (typeOf (Value.str x tx) >>= _) _ _ _
  refine wpAny_bind (wpAny_typeOf (T := "str") (v := .str x tx) rfl ?_)
  refine wpAny_pure ?_
  rw [if_neg (by decide)]
  have hSf : S ∉ [h2.objs.size] ++ qa A.in1.in1 := fun hm => by
    rcases List.mem_append.mp hm with hm | hm
    · exact hSI (List.mem_singleton.mp hm)
    · rcases hq with q | ⟨y, oy, vy, a, r⟩
      · unfold qa at hm
        have : A.in1.in1.handled = none := q
        rw [this] at hm; cases hm
      · unfold qa at hm
        have : A.in1.in1.handled = some (.ref y) := a
        rw [this] at hm
        have hSy : S = y := by simpa using hm
        exact hqS y a hSy.symm
  refine wpAny_pure ⟨plainId_quiet PySem.F.plain_extend_loop _, codeAny_extend_loopS (walksAscQ A.in1.in1 h2.objs.size x tx).toS hn _ hSf _ x.cps.size 0 _ _ _ rfl (Nat.zero_le _) ⟨⟨_, Heap.get?_push_size _ rfl, rfl, rfl⟩, hq2.on fun b o e => Heap.get?_push_of_some _ e⟩ (Heap.get?_push_of_some _ hS₂) (ItemsOf.nil _) fun s' acc' c' hm hS' hacc => ?_⟩
  rw [Moved.eq_with hm]
  subst hSe
  refine ⟨rfl, hQ s'.heap s'.toks acc' c' (fun b ob e => ?_) hS' hacc⟩
  have hbS : b ≠ h.objs.size := fun q => by exact absurd (Heap.lt_size e) (by rw [q]; exact Nat.lt_irrefl _)
  have e2 := oth b ob hbS (hH1 ▸ Heap.get?_push_of_some _ e)
  refine hm.heap b ob (fun hmem => ?_) (Heap.get?_push_of_some _ e2)
  rcases List.mem_cons.mp hmem with e' | hmem
  · exact hbS e'
  · exact absurd (Heap.lt_size e2) (by rw [List.mem_singleton.mp hmem]; exact Nat.lt_irrefl _)
end
section
variable {w : World} {A : Around} {h₀ H h hb : Heap} {g : Array GenState} {d : Drawn} {t : Nat} {os : OsState} {env : Env} {m : Str → Option Value} {mu : List (Addr × Obj)} {ex : List Addr} {target : Expr} {l : Addr} {vs : List Value}
variable {E' : Value → Shared → Prop} {elt iter : Expr} {ifs : List Expr} {scope : Scope} {pos : Pos} {cl : List (Str × Addr)} {RR : Value → Addr → Result → Shared → Prop}
theorem compSeqQ (hq : Quiet A hb) (ht : Tgt target) (hl : hb.IsList l vs.toArray) (F : Nat → List Value → Heap → Prop)
    (hcell : ∀ y ∈ scope.names, y.2 ≠ .cell) (hkind : scope.kind = .function) (hF : ∀ h, F 0 [] h) (hz : vs.length ≤ 1000)
    (turn : ∀ i v ys oI k H ex h m t C D I, vs[i]? = some v → F i ys H → St hb H ex C h m [(I, oI), (D, LstP ys k)] →
      wpAny (Md w) A (assign target (compEnvC scope cl C env) v) (fun _ s₂ => wpAny (Md w) A (Tests ifs (compEnvC scope cl C env)) (fun ok s₃ =>
        if ok = true then wpAny (Md w) A (eval elt (compEnvC scope cl C env)) (fun y s₄ => CompEnd hb C D I oI (LstP ys k) g d os (F (i + 1) (ys ++ [y])) s₄) (fun _ _ => False) s₃
        else CompEnd hb C D I oI (LstP ys k) g d os (F (i + 1) ys) s₃) (fun _ _ => False) s₂) (fun _ _ => False) ⟨h, g, d, t, os⟩)
    (hRR : ∀ D C h' t' m' ys k H, Kp hb h' → hb.get? D = none → hb.get? C = none → D ≠ C → h'.Ns C m' → h'.get? D = some (LstP ys k) → F vs.length ys H → (∀ b its, H.IsTuple b its → h'.IsTuple b its) → RR (.ref D) C (.ok .next) ⟨h', g, d, t', os⟩) :
    wpAny (Md w) A (pyIter (.ref l)) (fun it s₂ => wpAny (Md w) A (newList []) (fun acc s₃ => wpAny (Md w) A (newFunctionEnv scope env.globals cl [] env.qual none .none (some env)) (fun cenv s₄ =>
      codeAny (Md w) A (.compStart (.ListComp elt [⟨target, iter, ifs, 0⟩] scope pos) 0 it acc { cenv with scope := relabel scope env }) (RR acc cenv.locals) s₄) E' s₃) E' s₂) E' ⟨hb, g, d, t, os⟩ := by
  refine wpAny_pyIter_list (s := ⟨hb, g, d, t, os⟩) hl ?_
  refine compIn (itSeqQ (A := A) ht hb.objs.size l vs) F hcell hkind (fun _ _ e => Heap.get?_push_of_some _ e) (fresh_none hb) (Heap.get?_push_size _ rfl) ⟨rfl, rfl⟩ (fun h' k => ?_) (hF _) hz (fun h g d t os Q E e q => ?_) (fun i v ys oI k H ex h m t C D hlt hv hF hI S => turn i v ys oI k H ex h m t C D _ hv hF S) hRR
  · obtain ⟨o, n, a, b⟩ := SeqAt.list hl
    exact ⟨⟨o, n, k _ _ a, b⟩, hq.on k⟩
  · exact wpAny_pyIter_listiter (i := 0) ⟨_, e, rfl, rfl⟩ q
end
end Mine
set_option maxHeartbeats 200000
namespace Mine
section
variable {w : World} {A : Around} {E : Value → Shared → Prop} {h h₀ H : Heap} {ex : List Addr} {g : Array GenState} {d : Drawn} {t : Nat} {os : OsState} {env : Env} {m : Str → Option Value} {mu : List (Addr × Obj)} {vs : List Value} {ns : List Int}

noncomputable def cbAt (row : List Int) (k : Nat) : Bool := decide ((row.take k).sum > (k : Int) * ((k : Int) - 1) + ((row.drop k).map fun x => if (k : Int) < x then (k : Int) else x).sum)
noncomputable def canRow (row : List Int) : Bool := if row.sum.fmod 2 = 1 then false else (List.range row.length).all fun j => !cbAt row (j + 1)
noncomputable def sdesc (ns : List Int) : List Int := ns.mergeSort fun a b => decide (a ≥ b)
noncomputable def canBe (ns : List Int) : Bool := canRow (sdesc ns)
theorem sdesc_perm (ns : List Int) : (sdesc ns).Perm ns := List.mergeSort_perm ns _
theorem sdesc_down (ns : List Int) : (sdesc ns).Pairwise (· ≥ ·) := by
  have := List.pairwise_mergeSort (le := fun (a b : Int) => decide (a ≥ b)) (fun a b c h1 h2 => by simp at *; omega) (fun a b => by simp; omega) ns
  exact this.imp fun h => by simpa using h

theorem stC {x : Str} {c : Addr} {v : Value} {v0 : Option Value} {i : Nat} {oc : Obj} {Q : Unit → Shared → Prop} (S : St h₀ H ex env.locals h m mu) (hc : env.cells.lookup x = some c) (hi : mu[i]? = some (c, oc)) (hd : oc.data = .cell v0)
    (hQ : ∀ h' oc', oc'.data = .cell (some v) → St h₀ H ex env.locals h' m (mu.set i (c, oc')) → Q () ⟨h', g, d, t, os⟩)
    (hk : env.scope.kind = .function := by rfl) (hx : env.kindOf x = some .cell := by rfl) : wpAny (Md w) A (storeName env x v) Q E ⟨h, g, d, t, os⟩ :=
  wpAny_storeName_cell (s := ⟨h, g, d, t, os⟩) hk hx hc ⟨oc, S.at i hi, hd⟩ fun h' ⟨oc', ho', hd'⟩ hs => hQ h' oc' hd' (S.set i hi (fun _ _ q => by rw [hd] at q; cases q.2) hs ho')
theorem cwBiKw {id : String} {pos : Pos} {first : List Value} {e : Expr} {rest : List Expr} {kws : List Keyword} {s : Shared} {Q : Value → Shared → Prop}
    (hQ : wpAny (Md w) A (spliced (backTo pos (starEach (e :: rest) env))) (fun vs s₁ => wpAny (Md w) A (evalAll ((backToKw pos (keywordEach kws env)).map (·.2))) (fun kvs s₂ => wpAny (Md w) A (call (.builtin id) (first ++ vs) (((backToKw pos (keywordEach kws env)).filterMap (·.1)).zip kvs)) Q E s₂) E s₁) E s)
    (he : starEach (e :: rest) env = (false, eval e env) :: starEach rest env := by rfl) (hplain : (backTo pos (starEach rest env)).any (·.1) = false := by rfl)
    (hkw : (backToKw pos (keywordEach kws env)).any (·.1.isNone) = false := by rfl) (hall : (backToKw pos (keywordEach kws env)).all (·.1.isSome) = true := by rfl) :
    wpAny (Md w) A (callWith pos (.builtin id) first (backTo pos (starEach (e :: rest) env)) (backToKw pos (keywordEach kws env))) Q E s := by
  rw [he] at hQ ⊢
  refine callWith_builtin_kwB (by show (false || (backTo pos (starEach rest env)).any (·.1)) = false; rw [hplain]; rfl) hkw (evalArgs_kwB hall ?_)
  exact hQ

theorem rngFor {L : Addr} {a b : Int} {ta tb : Tok} {n : Nat} {R : Value → Shared → Prop} (S : St h₀ H ex L h m mu) (hn : b = a + n) (ha : 0 ≤ a) (hb : b ≤ 1000000)
    (hQ : ∀ h' I t, St h₀ H ex L h' m ((I, RngO a n 1) :: mu) → R (.ref I) ⟨h', g, d, t, os⟩) :
    wpAny (Md w) A (call (.type "range") [.int a ta, .int b tb]) (fun x s₁ => wpAny (Md w) A (pyIter x) R E s₁) E ⟨h, g, d, t, os⟩ := by
  refine call_range_2 (s := ⟨h, g, d, t, os⟩) ?_
  have S1 := S.alloc { cls := .type "range", data := .fields #[.int a ta, .int b tb, .int 1 t] } rfl
  refine wpAny_pyIter_range (S1.at 0 rfl) (small_one (by omega) (by omega) (by omega) (by omega)) ?_
  have e : Builtin.Range.rangeSize a b 1 = (n : Int) := by
    rw [rangeSize_one]; split <;> omega
  rw [e]
  exact hQ _ _ _ ((S1.alloc (RngO a n 1) rfl).sub (.cons_cons _ (.cons _ (.refl _))))
theorem lstAt {D : Addr} {vs : List Value} {k : Nat} (e : h.get? D = some (LstP vs k)) : h.IsList D vs.toArray := ⟨_, e, rfl, k, rfl⟩
theorem bit (b : Bool) (x y : Int) : (x == y) = decide (x = y) := by by_cases h : x = y <;> simp [h]
theorem ints_snoc {a : List Value} {b : List Int} (x : IntsAre a b) (n : Int) (tk : Tok) : IntsAre (a ++ [.int n tk]) (b ++ [n]) := by
  induction x with
  | nil => exact .cons n tk .nil
  | cons m t _ ih => exact .cons m t ih
theorem map_take_snoc {α β : Type} (f : α → β) (c : List α) (i : Nat) (x : α) (e : c[i]? = some x) : (c.take (i + 1)).map f = (c.take i).map f ++ [f x] := by
  obtain ⟨hl, he⟩ := List.getElem?_eq_some_iff.mp e
  rw [List.take_succ_eq_append_getElem hl, List.map_append, he]; rfl
theorem can_be_specQ {wl : Addr} {Q : Value → Shared → Prop} (C : Cx w h) (hroom : A.depth < recursionLimit) (hq : Quiet A h) (hl : h.IsList wl vs.toArray) (hi : IntsAre vs ns) (hz : ns.length ≤ 40)
    (hQ : ∀ h' t, Kp h h' → Q (.bool (canBe ns)) ⟨h', g, d, t, os⟩) : wpAny (Md w) A (call (.ref 296) [.ref wl]) Q E ⟨h, g, d, t, os⟩ := by
  have hlen := hi.length
  refine enterCallC (binds := [(Str.ofString "wishes", .ref wl)]) C (by k_is) (by k_is) hroom rfl (fun L x hx => ?_) (fun L h₁ t mu cl hcl hmu hcs S => ?_) (fun L => by show ([Str.ofString "k"] : List Str).Nodup; decide)
  · rcases List.mem_cons.mp hx with rfl | hx
    · exact .inl rfl
    · cases hx
  have hcl' : cl = [(Str.ofString "k", L + 1)] := hcl
  subst hcl'
  obtain ⟨oc, rfl, hoc⟩ := hcs.one
  refine xAssign (callKw (ldB C S (by k_is) rfl (cwBiKw ?_)))
  refine spliced_more (ldL S rfl (spliced_none (kws_cons ?_)))
  refine wpAny_Constant_bool (kws_nil ?_)
  show wpAny _ _ (call (.builtin "sorted") [.ref wl] [(Str.ofString "reverse", .bool true)]) _ _ _
  have hl1 : h₁.IsList wl vs.toArray := hl.at (S.keep _)
  have h64 : vs.length < 64 := by rw [hlen]; exact Nat.lt_of_le_of_lt hz (by decide)
  refine sortRev S hl1 hi h64 ?_
  intro h2 D vs' ns' e S2 hi' hp hd
  have hrow : ns' = sdesc ns := sortDown (hp.trans (sdesc_perm ns).symm) hd (sdesc_down ns)
  subst hrow
  have hlr : (sdesc ns).length = ns.length := hp.length_eq
  have hlv : vs'.length = (sdesc ns).length := hi'.length
  refine stL S2 fun h3 S3 => ?_
  refine xIf (wpAny_isTrue_Compare1 (wpAny_BinOp (callName (ldB C S3 (by k_is) rfl (cwBi (spliced_more (ldL S3 rfl (spliced_none (sumLQ (hq.on S3.keep) (lstAt (S3.at 0 rfl)) hi' fun h4 t4 tk4 k4 => ?_)))))))))
  have S4 := S3.keeps k4
  refine cI (PySem.IsLeap.wpAny_mod_int (by decide) (cI (wpAny_eq_int (wpAny_truthy_bool ?_))))
  split
  · rename_i h1
    refine xRet (wpAny_Constant_bool ?_)
    have : canBe ns = false := by unfold canBe canRow; rw [if_pos (by simpa using h1)]
    exact this ▸ hQ _ _ S4.keep
  · rename_i h1
    have hne : ¬ (sdesc ns).sum.fmod 2 = 1 := by simpa using h1
    refine xNil (xFor (callName (ldB (v := .type "range") C S4 (by k_is) rfl ?_)))
    refine PyProof.Rows.callWith_type1 (spliced_more (cI (spliced_more (wpAny_BinOp ?_))))
    refine callName (ldB (v := .builtin "len") C S4 (by k_is) rfl (cwBi ?_))
    refine spliced_more (ldL S4 rfl (spliced_none ?_))
    have hz' : vs'.length ≤ 40 := by rw [hlv, hlr]; exact hz
    refine lenL (lstAt (S4.at 0 rfl)) (Nat.le_trans hz' (by decide)) fun t5 tk5 => ?_
    refine cI (wpAny_add_int (spliced_none ?_))
    refine rngFor S4 (n := vs'.length) (Int.add_comm _ _) (by decide) (by omega) fun h6 I t6 S6 => ?_
    refine forIt (itRangeQ (A := A.deeper _) _ _ I 1 1 vs'.length) (fun i H ex m mu => m "row" = some (.ref D) ∧ ∃ oc v0, mu = [(D, LstP vs' e), (L + 1, oc)] ∧ oc.data = .cell v0 ∧ ∀ j < i, cbAt (sdesc ns) (j + 1) = false) (fun _ _ _ _ _ _ _ S _ => hq.on S.keep) S6 (by simp) ⟨rfl, _, _, rfl, hoc, fun j hj => absurd hj (Nat.not_lt_zero _)⟩ ?_ ?_
    · intro i v oI H ex h7 m mu t7 hlt qq10 qq11 hI S7
      refine nameT fun Q' hQ' => ?_
      obtain ⟨tk7, hv⟩ := qq10
      obtain ⟨m1, oc1, v0, rfl, hoc1, hall⟩ := qq11
      have ek : (1 : Int) + (i : Int) * 1 = ((i + 1 : Nat) : Int) := by omega
      rw [ek] at hv
      subst hv
      refine wpAny_assign_Name (stC S7 rfl (i := 2) rfl hoc1 fun h8 oc2 hoc2 S8 => ?_)
      refine xIf (wpAny_isTrue_Compare1 (callName (ldB (v := .builtin "sum") C S8 (by k_is) rfl (cwBi ?_))))
      refine spliced_more ?_
      refine wpAny_Subscript_list_slice (ldL S8 m1 (wpAny_evalPart_none (wpAny_evalPart_some (ldC rfl ⟨oc2, S8.at 2 rfl, hoc2⟩ ?_))))
      refine ⟨D, vs'.toArray, none, some ((i + 1 : Nat) : Int), rfl, lstAt (S8.at 1 rfl), (by simp [sizeLine]; omega), .none, .int _ _, ?_⟩
      rw [slicePick_upto']
      have S9 := (S8.alloc { cls := .type "slice", data := .fields #[.none, .int ((i + 1 : Nat) : Int) tk7, .none] } rfl).alloc { cls := .type "list", data := .seq (vs'.take (i + 1)).toArray } rfl
      rw [Heap.size_push] at S9
      refine spliced_none ?_
      refine sumLQ (hq.on S9.keep) (lstAt (S9.at 0 rfl)) (hi'.take (i + 1)) fun h10 t10 tk10 k10 => ?_
      have S10 : St h H ex L h10 m [(I, oI), (D, LstP vs' e), (L + 1, oc2)] := (S9.keeps k10).sub (.cons _ (.cons _ (.refl _)))
      have hb1 : Builtin.Int.intBits ((i + 1 : Nat) : Int) ≤ 64 := intBits_le_64 (by omega) (by omega)
      refine wpAny_BinOp (wpAny_BinOp (ldC rfl ⟨oc2, S10.at 2 rfl, hoc2⟩ (wpAny_BinOp (ldC rfl ⟨oc2, S10.at 2 rfl, hoc2⟩ (cI (PySem.P.sub_int (PySem.P.mul_int ?_ (.of_left hb1))))))))
      refine callName (ldB (v := .builtin "sum") C S10 (by k_is) rfl (cwBi ?_))
      refine spliced_more ?_
      refine compEv (cl := [(Str.ofString "k", L + 1)]) rfl rfl (by decide) ?_
      refine wpAny_Subscript_list_slice (ldL S10 m1 (wpAny_evalPart_some (ldC rfl ⟨oc2, S10.at 2 rfl, hoc2⟩ (wpAny_evalPart_none ?_))))
      refine ⟨D, vs'.toArray, some ((i + 1 : Nat) : Int), none, rfl, lstAt (S10.at 1 rfl), (by simp [sizeLine]; omega), .int _ _, .none, ?_⟩
      rw [slicePick_from']
      have S11 := (S10.alloc { cls := .type "slice", data := .fields #[.int ((i + 1 : Nat) : Int) tk7, .none, .none] } rfl).alloc { cls := .type "list", data := .seq (vs'.drop (i + 1)).toArray } rfl
      rw [Heap.size_push] at S11
      have C11 := C.keeps S11.keep
      have hcell := S11.at 4 rfl
      have hd11 : IntsAre (vs'.drop (i + 1)) ((sdesc ns).drop (i + 1)) := hi'.drop (i + 1)
      refine compSeqQ (hq.on S11.keep) (.inl ⟨_, _, rfl⟩) (lstAt (S11.at 0 rfl)) (fun j ys _ => IntsAre ys ((((sdesc ns).drop (i + 1)).take j).map fun x => if ((i + 1 : Nat) : Int) < x then ((i + 1 : Nat) : Int) else x)) (by decide) rfl (fun _ => .nil) (by simp; omega) ?_ ?_
      · intro j v ys oI' k' H' ex' h12 m' t12 C' D' I' hv hF S12
        obtain ⟨n, tn, rfl, hn⟩ := IntsAre.at hd11 _ _ hv
        refine wpAny_assign_Name (stL S12 fun h13 S13 => tests_nil ?_)
        rw [if_pos rfl]
        refine callName (ldB (v := .builtin "min") C11 S13 (by k_is) rfl (cwBi ?_))
        refine spliced_more (ldL S13 rfl (spliced_more (ldC rfl ⟨oc2, S13.keep _ _ hcell, hoc2⟩ (spliced_none ?_))))
        refine minQ ((hq.on S11.keep).on S13.keep) fun h14 t14 k14 => ?_
        have S14 := S13.keeps k14
        refine CompEnd.mk S14 ?_
        rw [map_take_snoc _ _ _ _ hn]
        split
        · exact ints_snoc hF _ _
        · exact ints_snoc hF _ _
      · refine compQ fun D' h12 t12 ys k' H' kp hD' hg hF _ => ?_
        have hF : IntsAre ys (((sdesc ns).drop (i + 1)).map fun x => if ((i + 1 : Nat) : Int) < x then ((i + 1 : Nat) : Int) else x) := by
          have := hF
          rw [hd11.length, List.take_length] at this
          exact this
        have S12 : St h H ex L h12 m [(D', LstP ys k'), (I, oI), (D, LstP vs' e), (L + 1, oc2)] := (S11.add kp hD' hg).sub (.cons_cons _ (.cons _ (.cons _ (.refl _))))
        refine spliced_none ?_
        refine sumLQ (hq.on S12.keep) (lstAt (S12.at 0 rfl)) hF fun h13 t13 tk13 k13 => ?_
        have S13 := (S12.keeps k13).tail
        refine wpAny_add_int (PySem.P.gt_int (wpAny_truthy_bool ?_))
        split
        · rename_i hgt
          refine xRet (wpAny_Constant_bool ?_)
          have : canBe ns = false := by
            unfold canBe canRow
            rw [if_neg hne, List.all_eq_false]
            refine ⟨i, List.mem_range.mpr (by rw [← hlv]; exact hlt), ?_⟩
            have : cbAt (sdesc ns) (i + 1) = true := hgt
            rw [this]; simp
          exact hQ' (.ret _) _ (this ▸ hQ _ _ S13.keep)
        · rename_i hgt
          refine xNil (xNil (hQ' _ _ (TurnEnd.next S13 ⟨m1, oc2, _, rfl, hoc2, fun j hj => ?_⟩)))
          rcases Nat.lt_succ_iff_lt_or_eq.mp hj with hj | rfl
          · exact hall j hj
          · have : ¬ cbAt (sdesc ns) (j + 1) = true := hgt
            simpa using this
    · rintro H ex h7 m mu t7 ⟨m1, oc1, v0, rfl, hoc1, hall⟩ S7
      refine xRet (wpAny_Constant_bool ?_)
      have : canBe ns = true := by
        unfold canBe canRow
        rw [if_neg hne, List.all_eq_true]
        intro j hj
        rw [hall j (by rw [hlv]; exact List.mem_range.mp hj)]; rfl
      exact this ▸ hQ _ _ S7.keep
theorem can_be_spec {wl : Addr} {Q : Value → Shared → Prop} (C : Cx w h) (hroom : A.depth < recursionLimit) (hh : A.handled = none) (hl : h.IsList wl vs.toArray) (hi : IntsAre vs ns) (hz : ns.length ≤ 40)
    (hQ : ∀ h' t, Kp h h' → Q (.bool (canBe ns)) ⟨h', g, d, t, os⟩) : wpAny (Md w) A (call (.ref 296) [.ref wl]) Q E ⟨h, g, d, t, os⟩ := can_be_specQ C hroom (.inl hh) hl hi hz hQ
end
end Mine
set_option maxHeartbeats 400000
namespace Mine
section
variable {w : World} {A : Around} {E : Value → Shared → Prop} {h h₀ H : Heap} {ex : List Addr} {g : Array GenState} {d : Drawn} {t : Nat} {os : OsState} {env : Env} {m : Str → Option Value} {mu : List (Addr × Obj)} {a b : Int} {ta tb : Tok} {x y : Str} {Q : Value → Shared → Prop}
theorem addI (hQ : Q (.int (a + b) t) ⟨h, g, d, t + 1, os⟩) : wpAny (Md w) A (binaryOp .Add (.int a ta) (.int b tb)) Q E ⟨h, g, d, t, os⟩ := wpAny_add_int hQ
theorem iaddI (hQ : Q (.int (a + b) t) ⟨h, g, d, t + 1, os⟩) : wpAny (Md w) A (inplaceOp .Add (.int a ta) (.int b tb)) Q E ⟨h, g, d, t, os⟩ := wpAny_iadd_int hQ
theorem subI (hQ : Q (.int (a - b) t) ⟨h, g, d, t + 1, os⟩) : wpAny (Md w) A (binaryOp .Sub (.int a ta) (.int b tb)) Q E ⟨h, g, d, t, os⟩ := PySem.P.sub_int hQ
theorem mulI (hm : IntMulOk a b) (hQ : Q (.int (a * b) t) ⟨h, g, d, t + 1, os⟩) : wpAny (Md w) A (binaryOp .Mult (.int a ta) (.int b tb)) Q E ⟨h, g, d, t, os⟩ := PySem.P.mul_int hQ hm
theorem modI (hb : b ≠ 0) (hQ : Q (.int (a.fmod b) t) ⟨h, g, d, t + 1, os⟩) : wpAny (Md w) A (binaryOp .Mod (.int a ta) (.int b tb)) Q E ⟨h, g, d, t, os⟩ := PySem.IsLeap.wpAny_mod_int hb hQ
theorem ltI (hQ : Q (.bool (decide (a < b))) ⟨h, g, d, t, os⟩) : wpAny (Md w) A (compareOp .Lt (.int a ta) (.int b tb)) Q E ⟨h, g, d, t, os⟩ := wpAny_lt_int hQ
theorem leI (hQ : Q (.bool (decide (a ≤ b))) ⟨h, g, d, t, os⟩) : wpAny (Md w) A (compareOp .LtE (.int a ta) (.int b tb)) Q E ⟨h, g, d, t, os⟩ := PySem.P.le_int hQ
theorem gtI (hQ : Q (.bool (decide (a > b))) ⟨h, g, d, t, os⟩) : wpAny (Md w) A (compareOp .Gt (.int a ta) (.int b tb)) Q E ⟨h, g, d, t, os⟩ := PySem.P.gt_int hQ
theorem geI (hQ : Q (.bool (decide (a ≥ b))) ⟨h, g, d, t, os⟩) : wpAny (Md w) A (compareOp .GtE (.int a ta) (.int b tb)) Q E ⟨h, g, d, t, os⟩ := PySem.P.ge_int hQ
theorem eqI (hQ : Q (.bool (a == b)) ⟨h, g, d, t, os⟩) : wpAny (Md w) A (compareOp .Eq (.int a ta) (.int b tb)) Q E ⟨h, g, d, t, os⟩ := wpAny_eq_int hQ
theorem eqS (hQ : Q (.bool (x.cps.toList == y.cps.toList)) ⟨h, g, d, t, os⟩) : wpAny (Md w) A (compareOp .Eq (.str x ta) (.str y tb)) Q E ⟨h, g, d, t, os⟩ := PySem.P.eq_str hQ
/-- a store of a value into a name, the value made by a tree -/
theorem xSet {y : Str} {py : Pos} {value : Expr} {pos : Pos} {rest : List Stmt} {Q : Flow → Shared → Prop} {s : Shared} (hQ : wpAny (Md w) A (eval value env) (fun v s₁ => wpAny (Md w) A (storeName env y v) (fun _ s₂ => wpAny (Md w) A (execs rest env) Q E s₂) E s₁) E s)
    (hs : swapsWith value (some (.Name y py)) pos.line env = pure false := by rfl) : wpAny (Md w) A (execs (.Assign [.Name y py] value pos :: rest) env) Q E s := xAssign hQ hs
theorem tup2 {e₁ e₂ : Expr} {k : Nat} {pos : Pos} {s : Shared} (hQ : wpAny (Md w) A (eval e₁ env) (fun v₁ s₁ => wpAny (Md w) A (eval e₂ env) (fun v₂ s₂ => ∀ h g d t os, s₂ = ⟨h, g, d, t, os⟩ → Q (.ref h.objs.size) ⟨h.push { cls := .type "tuple", data := .seq [v₁, v₂].toArray }, g, d, t, os⟩) E s₁) E s)
    (h1 : starEach [e₁, e₂] env = (false, eval e₁ env) :: starEach [e₂] env := by rfl) (h2 : starEach [e₂] env = (false, eval e₂ env) :: starEach [] env := by rfl) : wpAny (Md w) A (eval (.Tuple [e₁, e₂] k pos) env) Q E s := by
  refine wpAny_Tuple (spliced_more (wpAny_mono hQ (fun v₁ s₁ q1 => spliced_more (wpAny_mono q1 (fun v₂ s₂ q2 => spliced_none ⟨by simp [sizeLine], ?_⟩) fun _ _ e => e) h2) fun _ _ e => e) h1)
  obtain ⟨h, g, d, t, os⟩ := s₂
  exact q2 h g d t os rfl
end
end Mine
set_option maxHeartbeats 400000
namespace Mine
section
variable {w : World} {A : Around} {E : Value → Shared → Prop} {h h₀ H : Heap} {ex : List Addr} {g : Array GenState} {d : Drawn} {t : Nat} {os : OsState} {env : Env} {m : Str → Option Value} {mu : List (Addr × Obj)}
open Builtin Builtin.ObjectAttr

noncomputable def stripRefs : List Value → List Value
  | .ref _ :: r => stripRefs r
  | l => l
theorem refuse_strip (self : Value) : ∀ l : List Value, refuseLoop self "__setattr__" l = refuseLoop self "__setattr__" (stripRefs l)
  | [] => rfl
  | v :: r => by
    cases v <;> first | rfl | (rw [refuseLoop_ref]; exact refuse_strip self r)
theorem has_strip : ∀ l : List Value, (stripRefs l).contains (.type "object") = true → l.contains (.type "object") = true
  | [], e => e
  | v :: r, e => by
    cases v <;> first | exact e | (rw [List.contains_cons, has_strip r e, Bool.or_true])
noncomputable def okMro (l : List Value) : Bool := stripRefs l == [.type "object"] || stripRefs l == [.type "list", .type "object"] || stripRefs l == [.type "Exception", .type "BaseException", .type "object"]
theorem ok_cases {l : List Value} (e : okMro l = true) : stripRefs l = [.type "object"] ∨ stripRefs l = [.type "list", .type "object"] ∨ stripRefs l = [.type "Exception", .type "BaseException", .type "object"] := by
  unfold okMro at e
  simp only [Bool.or_eq_true, beq_iff_eq] at e
  rcases e with (e | e) | e
  · exact .inl e
  · exact .inr (.inl e)
  · exact .inr (.inr e)
theorem refuse_ok (self : Value) {l : List Value} (e : okMro l = true) : refuseLoop self "__setattr__" l = pure () := by
  rw [refuse_strip]
  rcases ok_cases e with e | e | e <;> rw [e] <;> kernel_rfl
theorem ok_has {l : List Value} (e : okMro l = true) : l.contains (.type "object") = true := by
  refine has_strip l ?_
  rcases ok_cases e with e | e | e <;> rw [e] <;> decide
noncomputable def okIn (K : Frag) (C : Addr) : Bool := (clsIn K C).any fun cd => okMro cd.mro

theorem setAt {R : Result → Shared → Prop} {x C dx : Addr} {ox od od' : Obj} {name : Str} {tk : Tok} {v : Value} {es : List DictEntry} {n : Nat} {i : Nat} {L : Addr} (X : Cx w h) (S : St h₀ H ex L h m mu) (hi : mu[i]? = some (dx, od))
    (I : PySem.W.InstAt h x ox C (some od)) (hdx : ox.dict = some dx) (hp : okIn (hd0.heap_1 w.params) C = true) (ht : takerIn (hd0.heap_1 w.params) C name = some none) (hh : (clsIn (hd0.heap_1 w.params) C).any (·.hasDict) = true)
    (hl : (lookIn name od).isSome = true) (e : Obj.putName name (PyData.keyHash w.params name) (.str name t) v od = od') (e' : od'.data = .dict es.toArray n) (hz : es.length ≤ 1000) (hnt : NotTup od)
    (hQ : ∀ h', St h₀ H ex L h' m (mu.set i (dx, od')) → R (.ok (.ret .none)) ⟨h', g, d, t + 1, os⟩) :
    codeAny (Md w) A (.call (.builtin "object.__setattr__") ⟨[.ref x, .str name tk, v], []⟩) R ⟨h, g, d, t, os⟩ := by
  have SF := PySem.F.store_object
  obtain ⟨cd, hc, ho⟩ := any_some hp
  obtain ⟨cd', hc', hd'⟩ := any_some hh
  have hcc : cd' = cd := by rw [hc] at hc'; cases hc'; rfl
  subst hcc
  have X := X.X
  have ne : cd'.mro.isEmpty = false := by cases q : cd'.mro with | nil => rw [q] at ho; cases ho | cons _ _ => rfl
  have sub : Looks (Md w) h (isInstance (.ref x) (.type "object")) true := I.type.andThen (looks_mroIn X (by unfold mroIn; rw [hc, Option.bind_some, if_neg (by rw [ne]; decide), ok_has ho]))
  refine codeAny_call_builtin (s := ⟨h, g, d, t, os⟩) SF.slot.plain SF.entry (@check_slot (Md w) _ _ _ "object.__setattr__" "object" "__setattr__" (.ref x) [.str name tk, v] [] _ SF.kind SF.split sub (SF.args (.ref x) (.str name tk) v) ?_)
  obtain ⟨attr, ha, hr⟩ := Option.bind_eq_some_iff.mp ht
  have hm : Looks (Md w) h (mroOf (.ref C)) cd'.mro := (looks_clsIn X hc).andThen .now
  have L3 : Looks (Md w) h (storeTaker? attr) none := by
    cases attr with
    | none => cases hr; exact .now
    | some a =>
      obtain ⟨b, hb, hb'⟩ := Option.map_eq_some_iff.mp hr
      refine (looks_takesIn X hb).andThen ?_
      cases b with
      | true => cases hb'
      | false => exact .now
  rw [osa_eq, refuse_eq]
  refine wpAny_bind (wpAny_bind (I.type.here (wpAny_bind (hm.here ?_))))
  rw [refuse_ok _ ho]
  refine wpAny_pure (wpAny_bind (I.type.here (wpAny_bind ((looks_findIn X ha).here (wpAny_bind (L3.here ?_))))))
  have D := S.at i hi
  have hDx : (h.update dx (Obj.putName name (PyData.keyHash w.params name) (.str name t) v)).get? dx = some od' := by
    have hf : od'.isFreed = false := by obtain ⟨_, _, dd, _⟩ := od'; cases e'; rfl
    rw [← e]
    exact Heap.get?_update_self _ D (e ▸ hf)
  have S' := S.set i hi hnt (Heap.SameBut.update ..) hDx
  obtain ⟨hx, hcl, hn, -⟩ := I
  obtain ⟨oc, odi, oda, osl⟩ := ox
  dsimp only at hcl hdx
  subst hcl hdx
  refine wpAny_bind (wpAny_pure (wpAny_bind (wpAny_bind (wpAny_loadPart (s := ⟨h, g, d, t, os⟩) hx (wpAny_bind ((looks_clsIn X hc).here ?_))))))
  rw [hd']
  refine wpAny_pure (a := some dx) (wpAny_bind (wpAny_pure (wpAny_bind ?_)))
  unfold nsSet
  refine wpAny_bind (wpAny_bind (wpAny_askSetting (wpAny_pure (wpAny_bind (wpAny_mkText (wpAny_bind (wpAny_loadPart (s := ⟨h, g, d, t + 1, os⟩) D ?_)))))))
  have e'' := S'.at i (a := dx) (o := od') (by
    obtain ⟨hl2, he2⟩ := List.getElem?_eq_some_iff.mp hi
    simp [hl2])
  unfold lookIn at hl
  split at hl
  · rename_i es₀ n₀ q
    rw [q]
    dsimp only
    have c : (!es₀.any (·.key.isStr name) && es₀.any (·.refKey)) = false := by
      rw [← Array.any_toList, ← Array.any_toList]
      split at hl
      · rename_i en he
        rw [List.any_eq_true.mpr ⟨en, List.mem_of_find?_eq_some he, List.find?_some he⟩]; rfl
      · split at hl
        · cases hl
        · rename_i z; rw [Bool.not_eq_true] at z; rw [z, Bool.and_false]
    rw [aRefKeyMayBeTheName_at, c]
    refine wpAny_updatePart (s := ⟨h, g, d, t + 1, os⟩) D ?_
    refine wpAny_bind (wpAny_lookBehind (s := ⟨_, g, d, t + 1, os⟩) hDx (by rw [e']; exact pastItsLine_dict (by rw [List.size_toArray, sizeLine_eq]; omega)) ?_)
    exact wpAny_pure (hQ _ S')
  · cases hl
theorem getDictOf {es : List DictEntry} {n : Nat} : NotTup (dictOf es n) := fun _ _ q => by have := q.1; simp at this
/-- a store at an own object whose table is written out -/
theorem stAttr {Q : Unit → Shared → Prop} {x C dx : Addr} {ox : Obj} {name : Str} {v : Value} {es : List DictEntry} {n : Nat} {i : Nat} {L : Addr} (X : Cx w h) (S : St h₀ H ex L h m mu) (hi : mu[i]? = some (dx, dictOf es n))
    (I : PySem.W.InstAt h x ox C (some (dictOf es n))) (hdx : ox.dict = some dx) (hs : findIn (hd0.heap_1 w.params) (.ref C) "__setattr__" = some (some (.builtin "object.__setattr__"))) (hp : okIn (hd0.heap_1 w.params) C = true) (ht : takerIn (hd0.heap_1 w.params) C name = some none)
    (hh : hasDictIn (hd0.heap_1 w.params) C = true) (hl : (getL name es).isSome = true) (hz : es.length ≤ 900)
    (hQ : ∀ h' hsh tk, St h₀ H ex L h' m (mu.set i (dx, dictOf (putL name hsh (.str name tk) v es) (putN name es n))) → Q () ⟨h', g, d, t + 2, os⟩) :
    wpAny (Md w) A (setAttr (.ref x) name v) Q E ⟨h, g, d, t, os⟩ := by
  refine set_plain (s := ⟨h, g, d, t, os⟩) X.X I hs (setAt (t := t + 1) (es := putL name (PyData.keyHash w.params name) (.str name (t + 1)) v es) X S hi I hdx hp ht hh hl (putName_dict _ _ _ _ _ _) rfl ?_ getDictOf fun h' S' => hQ h' _ _ S')
  have : ∀ (es : List DictEntry) (hs : Int) (k v : Value), (putL name hs k v es).length ≤ es.length + 1 := by
    intro es hs k v
    induction es with
    | nil => simp [putL]
    | cons e r ih => unfold putL; split <;> simp <;> omega
  exact Nat.le_trans (this _ _ _ _) (by omega)
end
section
variable {w : World} {A : Around} {E : Value → Shared → Prop} {h h₀ H : Heap} {ex : List Addr} {g : Array GenState} {d : Drawn} {t : Nat} {os : OsState} {env : Env} {m : Str → Option Value} {mu : List (Addr × Obj)}
noncomputable def InitR (x : Addr) (Q : Value → Shared → Prop) (r : Result) (s' : Shared) : Prop := match r with
  | .ok (.ret v) => v = .none ∧ Q (.ref x) s'
  | _ => False
theorem enterM {R : Result → Shared → Prop} {hB : Heap} {mu0 : List (Addr × Obj)} {f : Addr} {args : List Value} {binds : List (Str × Value)} {name qual : Str} {params : Arguments} {body : List Stmt} {scope : Scope} {dV kV doc pm cdv ct oc : Value} {an od : Option Addr} {osl : Array (Option Value)}
    (C : Cx w hB) (k0 : Kp hB h) (hmu : ∀ p ∈ mu0, h.get? p.1 = some p.2) (nd : (mu0.map (·.1)).Nodup) (hnew : ∀ a ∈ mu0.map (·.1), hB.get? a = none)
    (ho : (hd0.heap_1 w.params).lookup f = some ⟨oc, od, .func (fnOf name qual params body scope dV kV doc pm an cdv ct), osl⟩) (hcd : codeIn (hd0.heap_1 w.params) cdv qual = true) (hroom : A.depth < recursionLimit)
    (hbind : BindsTo ⟨h, g, d, t, os⟩ (fnOf name qual params body scope dV kV doc pm an cdv ct) ⟨args, []⟩ binds) (hloc : ∀ y ∈ binds, scope.names.lookup y.1 = some .local)
    (hb : ∀ L h₁ t, St hB h (mu0.map (·.1)) L h₁ (fun y => binds.reverse.lookup y) mu0 →
      wpAny (Md w) (A.deeper (envX qual scope L f cdv [])) (execs body (envX qual scope L f cdv [])) (fun fl s' => R (.ok (.ret (RetV fl))) s') (fun _ _ => False) ⟨h₁, g, d, t, os⟩)
    (hcell : ∀ x ∈ scope.names, x.2 ≠ .cell) (hco : scope.isCoroutine = false := by rfl) (hgen : scope.isGenerator = false := by rfl) (hk : scope.kind = .function := by rfl) :
    codeAny (Md w) A (.call (.ref f) ⟨args, []⟩) R ⟨h, g, d, t, os⟩ :=
  codeAny_call_def (fd := fnOf name qual params body scope dV kV doc pm an cdv ct) (body := body) (binds := binds) hroom (k0 _ _ (C.X _ _ ho)) rfl (C.keeps k0).lim (codeRec_of (C.keeps k0).X hcd) rfl hbind hcell hloc
    (fun h₁ hns hk₁ => wpAny_mono (hb h.objs.size h₁ _ (St.startM hns k0 hk₁ (fresh_none h) hmu nd hnew)) (fun fl s' q => by cases fl <;> exact q) fun _ _ x => x.elim) hco hgen hk
/-- a plain own class made -/
theorem makeObj {Q : Value → Shared → Prop} {Cl fI : Addr} {rest : List Value} (X : Cx w h) (hm : makesIn (hd0.heap_1 w.params) Cl = true)
    (hi : findIn (hd0.heap_1 w.params) (.ref Cl) "__init__" = some (some (.ref fI))) (hf : typeIn (hd0.heap_1 w.params) (.ref fI) = some (.type "function"))
    (hQ : ∀ h' x dx A', A'.depth ≤ A.depth + 1 → A'.handled = A.handled → Kp h h' → (∀ p ∈ [(x, instObj Cl dx), (dx, dictOf [] 0)], h'.get? p.1 = some p.2) → ([(x, instObj Cl dx), (dx, dictOf [] 0)].map (·.1)).Nodup → (∀ a ∈ [(x, instObj Cl dx), (dx, dictOf [] 0)].map (·.1), h.get? a = none) →
      codeAny (Md w) A' (.call (.ref fI) ⟨.ref x :: rest, []⟩) (InitR x Q) ⟨h', g, d, t, os⟩) :
    wpAny (Md w) A (call (.ref Cl) rest) Q E ⟨h, g, d, t, os⟩ := by
  have e1 : (h.push emptyDict).objs.size = h.objs.size + 1 := Heap.size_push ..
  have k : Kp h ((h.push emptyDict).push (instObj Cl h.objs.size)) := fun b o e => Heap.get?_push_of_some _ (Heap.get?_push_of_some _ e)
  have gd : ((h.push emptyDict).push (instObj Cl h.objs.size)).get? h.objs.size = some (dictOf [] 0) := Heap.get?_push_of_some _ (Heap.get?_push_size _ rfl)
  have gx : ((h.push emptyDict).push (instObj Cl h.objs.size)).get? (h.objs.size + 1) = some (instObj Cl h.objs.size) := by
    rw [← e1]; exact Heap.get?_push_size _ rfl
  have nx : h.get? (h.objs.size + 1) = none := by
    cases q : h.get? (h.objs.size + 1) with
    | none => rfl
    | some o => exact absurd (Heap.lt_size q) (Nat.not_lt.mpr (Nat.le_succ _))
  refine wpAny_call (make_core (makes_of X.X hm) (looks_findIn X.X hi) (fun self => bind_fn X.X self hf) (.inl rfl) ?_)
  have hq := hQ ((h.push emptyDict).push (instObj Cl h.objs.size)) (h.objs.size + 1) h.objs.size (A.under (.builtin "type.__call__" ⟨.ref Cl :: rest, []⟩)) ?_ rfl k ?_ ?_ ?_
  · refine codeAny_mono hq fun r s' z => ?_
    rcases r with e | (v | _ | _ | _) <;> first | exact z | exact z.elim
  · show A.depth + _ ≤ _
    refine Nat.add_le_add_left ?_ _
    show Code.weight _ ≤ 1
    unfold Code.weight
    simp [Code.frames, Code.isCreation, Code.isGuard, Code.isCaller, guardIds, Code.isFrame]
  · intro p hp
    rcases List.mem_cons.mp hp with rfl | hp
    · exact gx
    · rcases List.mem_cons.mp hp with rfl | hp
      · exact gd
      · cases hp
  · simp
  · intro a ha
    simp only [List.map_cons, List.map_nil, List.mem_cons, List.not_mem_nil, or_false] at ha
    rcases ha with rfl | rfl
    · exact nx
    · exact fresh_none h
end
end Mine
set_option maxHeartbeats 400000
namespace Mine
section
variable {w : World} {A : Around} {E : Value → Shared → Prop} {h h₀ H : Heap} {ex : List Addr} {g : Array GenState} {d : Drawn} {t : Nat} {os : OsState} {env : Env} {m : Str → Option Value} {mu : List (Addr × Obj)} {l b : Addr} {vs ws : List Value} {ns : List Int}
noncomputable def LstO (vs : List Value) (o : Obj) : Prop := o.cls = .type "list" ∧ ∃ n, o.data = .seq vs.toArray n
theorem LstO.notTup {vs : List Value} {o : Obj} (x : LstO vs o) : NotTup o := fun _ _ q => by rw [x.1] at q; have := q.1; simp at this
theorem LstO.isList {vs : List Value} {o : Obj} (x : LstO vs o) (e : h.get? l = some o) : h.IsList l vs.toArray := ⟨o, e, x.1, x.2⟩
theorem LstO.lst (vs : List Value) (k : Nat) : LstO vs (LstP vs k) := ⟨rfl, k, rfl⟩
theorem addL {Q : Value → Shared → Prop} (hl : h.IsList l vs.toArray) (hb : h.IsList b ws.toArray) (hsz : vs.length + ws.length ≤ 100000)
    (hQ : Q (.ref h.objs.size) ⟨h.push (LstP (vs ++ ws) 0), g, d, t, os⟩) : wpAny (Md w) A (binaryOp .Add (.ref l) (.ref b)) Q E ⟨h, g, d, t, os⟩ := by
  obtain ⟨⟨cls, dd, data, sl⟩, ho, hc, n, hd⟩ := id hl
  obtain ⟨⟨cls2, dd2, data2, sl2⟩, ho2, hc2, n2, hd2⟩ := id hb
  simp only at hc hd hc2 hd2
  subst hc hd hc2 hd2
  have e : vs.toArray ++ ws.toArray = (vs ++ ws).toArray := by simp
  refine concat_meets (s := ⟨h, g, d, t, os⟩) ⟨_, ho, rfl⟩ ⟨_, ho2, rfl⟩ noFill_list_add seq_list_add PySem.F.slot_list_add PySem.F.entry_list_add (PySem.F.args_list_add_2 _ _) (list_addW l b vs.toArray ws.toArray n n2 dd dd2 sl sl2 (by simp [sizeLine]; omega)) ⟨ho, ho2, ?_⟩
  rw [e]
  exact hQ
theorem mulL0 {Q : Value → Shared → Prop} {items : Array Value} {k0 : Nat} {x : Int} {u : Tok} (hl : h.get? l = some { cls := .type "list", dict := none, data := .seq items k0, slots := #[] })
    (hlo : -(2 ^ 63 : Int) ≤ x) (hhi : x < 2 ^ 63) (hsz : items.size * x.toNat ≤ 2 ^ 24)
    (hQ : Q (.ref h.objs.size) ⟨h.push { cls := .type "list", data := .seq (List.foldl (fun x1 x2 => x1 ++ x2) #[] (List.replicate (if items.isEmpty = true then 0 else x.toNat) items)) }, g, d, t, os⟩) : wpAny (Md w) A (binaryOp .Mult (.ref l) (.int x u)) Q E ⟨h, g, d, t, os⟩ :=
  wpAny_binaryOp_repeat_ref (s := ⟨h, g, d, t, os⟩) (T := "list") (U := "int") (by decide) ⟨_, hl, rfl⟩ (fun s' => typeIs_int s' x u) noFill_list_mul PySem.F.fills_int_mul PySem.F.slot_int_rmul repeat_list PySem.F.slot_int_index.lookup
    (call_meets PySem.F.slot_int_rmul (typeIs_int _ x u) PySem.F.entry_int_rmul (PySem.F.args_int_rmul_2 _ _) (int___rmul___int_list x u l items k0)
      ⟨hl, rfl, ⟨_, hl, rfl⟩, call_meets PySem.F.slot_list_mul ⟨_, hl, rfl⟩ PySem.F.entry_list_mul (PySem.F.args_list_mul_2 _ _)
        (AutoListH.list___mul___list_int_3 l items k0 x u (by simp [Builtin.List.listFitsIndex]; omega) (by omega) (by simp [Builtin.List.listTooLong, sizeLine]; omega))
        ⟨hl, hQ⟩⟩)
theorem mulL {Q : Value → Shared → Prop} {v : Value} {k0 : Nat} {k : Nat} {x : Int} {u : Tok} (hl : h.get? l = some (LstP [v] k0)) (hx : x = (k : Int)) (hk : k ≤ 100000)
    (hQ : Q (.ref h.objs.size) ⟨h.push (LstP (List.replicate k v) 0), g, d, t, os⟩) : wpAny (Md w) A (binaryOp .Mult (.ref l) (.int x u)) Q E ⟨h, g, d, t, os⟩ := by
  subst hx
  have e : (List.foldl (fun x1 x2 => x1 ++ x2) #[] (List.replicate (if ([v] : List Value).toArray.isEmpty = true then 0 else (k : Int).toNat) ([v] : List Value).toArray)) = (List.replicate k v).toArray := by
    rw [if_neg (by simp), Int.toNat_natCast]
    have : ∀ (k : Nat) (a : Array Value), List.foldl (fun x1 x2 => x1 ++ x2) a (List.replicate k ([v] : List Value).toArray) = a ++ (List.replicate k v).toArray := by
      intro k
      induction k with
      | zero => intro a; simp
      | succ k ih => intro a; rw [List.replicate_succ, List.foldl_cons, ih, List.replicate_succ]; apply Array.toList_inj.mp; simp
    rw [this]; simp
  refine mulL0 hl (by omega) (by omega) (by show 1 * _ ≤ _; rw [Int.toNat_natCast]; omega) ?_
  rw [e]
  exact hQ
theorem setL {Q : Unit → Shared → Prop} {L : Addr} {o : Obj} {i : Nat} {k : Nat} {u : Tok} {v : Value} (S : St h₀ H ex L h m mu) (hi : mu[i]? = some (l, o)) (ho : LstO vs o) (hk : k < vs.length) (hz : vs.length ≤ 100000)
    (hQ : ∀ h' o', LstO (vs.set k v) o' → St h₀ H ex L h' m (mu.set i (l, o')) → Q () ⟨h', g, d, t, os⟩) : wpAny (Md w) A (setItem (.ref l) (.int (k : Int) u) v) Q E ⟨h, g, d, t, os⟩ := by
  refine wpAny_setItem_list (s := ⟨h, g, d, t, os⟩) (ho.isList (S.at i hi)) (by omega) (by omega) (by simp; omega) fun h' hl hs => ?_
  obtain ⟨o', ho', hc, n, hd⟩ := hl
  refine hQ h' o' ⟨hc, n, ?_⟩ (S.set i hi ho.notTup hs ho')
  rw [hd]; simp
noncomputable def bump (cnt : List Int) (b : Nat) : List Int := (cnt ++ List.replicate (b + 1 - cnt.length) 0).set b ((cnt ++ List.replicate (b + 1 - cnt.length) 0).getD b 0 + 1)
noncomputable def wsRun : List Nat → List Int → Nat → Nat → Nat → List Int × Nat × Nat × Nat
  | [], cnt, b, n, nt => (cnt, b, n, nt)
  | c :: r, cnt, b, n, nt => if c = 32 then wsRun r cnt (b + 1) (n + 1) nt else if c = 9 then wsRun r (bump cnt b) 0 (n + 1) (nt + 1) else (cnt, b, n, nt)

theorem wsRun_cons (c : Nat) (r : List Nat) (cnt : List Int) (b n nt : Nat) : wsRun (c :: r) cnt b n nt = if c = 32 then wsRun r cnt (b + 1) (n + 1) nt else if c = 9 then wsRun r (bump cnt b) 0 (n + 1) (nt + 1) else (cnt, b, n, nt) := rfl
theorem spc : (Str.ofString " ").cps.toList = [32] := by decide +kernel
theorem tbc : (Str.ofString "\t").cps.toList = [9] := by decide +kernel
theorem St.perm {L : Addr} {mu' : List (Addr × Obj)} (S : St h₀ H ex L h m mu) (p : mu.Perm mu') : St h₀ H ex L h m mu' := by
  have pm : (mu.map (·.1)).Perm (mu'.map (·.1)) := p.map _
  exact ⟨S.ns, fun q hq => S.led q (p.mem_iff.mpr hq), (pm.cons L).nodup_iff.mp S.nd, fun a ha => S.mtb a ((pm.cons L).mem_iff.mpr ha), S.pres, S.tup, S.base⟩
theorem St.swap {L : Addr} {p q : Addr × Obj} {r : List (Addr × Obj)} (S : St h₀ H ex L h m (p :: q :: r)) : St h₀ H ex L h m (q :: p :: r) := S.perm (.swap _ _ _)
theorem itemL {value : Expr} {x : Str} {p pos : Pos} {Q : Value → Shared → Prop} {s : Shared}
    (hQ : wpAny (Md w) A (eval value env) (fun o s₁ => wpAny (Md w) A (eval (.Name x p) env) (fun i s₂ => X5 fun l vs k u v => A7 (o = .ref l) (i = .int k u) (s₂.heap.IsList l (vs : List Value).toArray) (0 ≤ k) (k < 2 ^ 63) (vs[k.toNat]? = some v) (Q v s₂)) E s₁) E s)
    (ht : ∀ o r, letTemporaryGo value o r = pure () := by intro _ _; rfl) :
    wpAny (Md w) A (eval (.Subscript value (.Name x p) pos) env) Q E s := by
  refine wpAny_Subscript_Name (T := "list") list_getitem_lookup (wpAny_mono hQ (fun o s₁ h1 => wpAny_mono h1 (fun i s₂ h2 => ?_) fun _ _ e => e) fun _ _ e => e) ht
  obtain ⟨l, vs, k, u, v, rfl, rfl, hl, a, b, e, q⟩ := h2
  exact ⟨hl.typeIs, wpAny_getItem_list hl a b (by simpa using e) q⟩
theorem ints_set : ∀ {vs : List Value} {ns : List Int}, IntsAre vs ns → ∀ (i : Nat) (n : Int) (tk : Tok), IntsAre (vs.set i (.int n tk)) (ns.set i n)
  | _, _, .nil, _, _, _ => .nil
  | _, _, .cons m t r, 0, n, tk => .cons n tk r
  | _, _, .cons m t r, i + 1, n, tk => .cons m t (ints_set r i n tk)
theorem mkList1 {Q : Value → Shared → Prop} {k : Int} {n : Nat} {p pos : Pos} {L : Addr} (S : St h₀ H ex L h m mu) (hQ : ∀ h' D tk t', h.get? D = none → Kp h h' → St h₀ H ex L h' m ((D, LstP [.int k tk] 0) :: mu) → Q (.ref D) ⟨h', g, d, t', os⟩) :
    wpAny (Md w) A (eval (.List [.Constant (.int k) n p] pos) env) Q E ⟨h, g, d, t, os⟩ :=
  wpAny_List (spliced_more (cI (spliced_none ⟨by simp [sizeLine], hQ _ _ t _ (fresh_none h) (fun _ _ e => Heap.get?_push_of_some _ e) (S.alloc (LstP [.int k t] 0) rfl)⟩)))
/-- an if whose ways meet again -/
theorem xIfJ (Φ : Shared → Prop) {test : Expr} {body orelse rest : List Stmt} {pos : Pos} {Q : Flow → Shared → Prop} {s : Shared} {M : Model}
    (hQ : wpAny M A (isTrue test env (eval test env)) (fun c s₁ => if c = true then wpAny M A (execs body env) (fun f s' => f = .next ∧ Φ s') E s₁ else wpAny M A (execs orelse env) (fun f s' => f = .next ∧ Φ s') E s₁) E s)
    (k : ∀ s', Φ s' → wpAny M A (execs rest env) Q E s') : wpAny M A (execs (.If test body orelse pos :: rest) env) Q E s := by
  refine xIf (wpAny_mono hQ (fun c s₁ h1 => ?_) fun _ _ e => e)
  cases c
  · simp only [Bool.false_eq_true, if_false] at h1 ⊢
    exact wpAny_mono h1 (fun f s' ⟨e, q⟩ => by subst e; exact k s' q) fun _ _ e => e
  · simp only [if_true] at h1 ⊢
    exact wpAny_mono h1 (fun f s' ⟨e, q⟩ => by subst e; exact k s' q) fun _ _ e => e
noncomputable def TurnEndB (h₀ : Heap) (env : Env) (I : Addr) (oI : Obj) (g : Array GenState) (d : Drawn) (os : OsState) (F G : Heap → List Addr → (Str → Option Value) → List (Addr × Obj) → Prop) (Qr : Value → Shared → Prop) (f : Flow) (s : Shared) : Prop :=
  match f with
  | .brk => X6 fun h H ex m mu t => A3 (s = ⟨h, g, d, t, os⟩) (St h₀ H ex env.locals h m mu) (G H ex m mu)
  | .ret v => Qr v s
  | _ => X6 fun h H ex m mu t => A3 (s = ⟨h, g, d, t, os⟩) (St h₀ H ex env.locals h m ((I, oI) :: mu)) (F H ex m mu)
theorem TurnEndB.next {I : Addr} {oI : Obj} {F G : Heap → List Addr → (Str → Option Value) → List (Addr × Obj) → Prop} {Qr : Value → Shared → Prop} (S : St h₀ H ex env.locals h m ((I, oI) :: mu)) (f : F H ex m mu) : TurnEndB h₀ env I oI g d os F G Qr .next ⟨h, g, d, t, os⟩ :=
  ⟨h, H, ex, m, mu, t, rfl, S, f⟩
theorem TurnEndB.brk {I : Addr} {oI : Obj} {F G : Heap → List Addr → (Str → Option Value) → List (Addr × Obj) → Prop} {Qr : Value → Shared → Prop} (S : St h₀ H ex env.locals h m ((I, oI) :: mu)) (f : G H ex m mu) : TurnEndB h₀ env I oI g d os F G Qr .brk ⟨h, g, d, t, os⟩ :=
  ⟨h, H, ex, m, mu, t, rfl, S.tail, f⟩
theorem forItB {target : Expr} {I : Addr} {n : Nat} {It : Nat → Obj → Prop} {Src : Heap → Prop} {P : Nat → Value → Heap → Prop} (W : ItR w A target I n It Src P) {body : List Stmt} {R : Result → Shared → Prop} (F : Nat → Heap → List Addr → (Str → Option Value) → List (Addr × Obj) → Prop)
    (G : Heap → List Addr → (Str → Option Value) → List (Addr × Obj) → Prop) {oI : Obj}
    (hsrc : ∀ i H ex h m mu oI, St h₀ H ex env.locals h m ((I, oI) :: mu) → F i H ex m mu → Src h)
    (S : St h₀ H ex env.locals h m ((I, oI) :: mu)) (hI : It 0 oI) (hF : F 0 H ex m mu)
    (turn : ∀ i v oI H ex h m mu t, i < n → P i v h → F i H ex m mu → It (i + 1) oI → St h₀ H ex env.locals h m ((I, oI) :: mu) →
      wpAny (Md w) A (assign target env v) (fun _ s₂ => wpAny (Md w) A (execs body env) (TurnEndB h₀ env I oI g d os (F (i + 1)) G (fun v => R (.ok (.ret v)))) (fun _ _ => False) s₂) (fun _ _ => False) ⟨h, g, d, t, os⟩)
    (done : ∀ H ex h m mu t, F n H ex m mu ∨ G H ex m mu → St h₀ H ex env.locals h m mu → R (.ok .next) ⟨h, g, d, t, os⟩) :
    codeAny (Md w) A (.forLoop target (.ref I) body [] env) R ⟨h, g, d, t, os⟩ := by
  refine forIt W F hsrc S hI hF (fun i v oI H ex h m mu t a b c e f => wpAny_mono (turn i v oI H ex h m mu t a b c e f) (fun _ s₂ h2 => wpAny_mono h2 (fun f s₃ h3 => ?_) fun _ _ x => x) fun _ _ x => x) fun H ex h m mu t a b => done H ex h m mu t (.inl a) b
  cases f with
  | brk =>
    obtain ⟨h, H, ex, m, mu, t, rfl, S, f⟩ := h3
    exact done H ex h m mu t (.inr f) S
  | next => exact h3
  | cont => exact h3
  | ret v => exact h3

noncomputable def WsO (h : Heap) (x : Addr) (r : List Int × Nat × Nat × Nat) : Prop := X9 fun dx es k N T vs t1 t2 t3 => A9 (h.get? x = some (instObj 287 dx)) (h.get? dx = some (dictOf es k)) (getL "n" es = some (some (.int r.2.2.1 t1))) (getL "nt" es = some (some (.int r.2.2.2 t2))) (getL "norm" es = some (some (.ref N))) (h.IsTuple N #[.ref T, .int r.2.1 t3]) (h.IsTuple T vs.toArray) (IntsAre vs r.1) (getL "equal" es = some none)
theorem instOwn {x C dx : Addr} {es : List DictEntry} {n : Nat} (e1 : h.get? x = some (instObj C dx)) (e2 : h.get? dx = some (dictOf es n)) : PySem.W.InstAt h x (instObj C dx) C (some (dictOf es n)) := ⟨e1, rfl, rfl, e2⟩
theorem ws_make {Q : Value → Shared → Prop} {z : Str} {tz : Tok} (C : Cx w h) (hroom : A.depth + 2 < recursionLimit) (hh : A.handled = none) (ha : z.cps.all (· < 128) = true) (hz : z.cps.size ≤ 500)
    (hQ : ∀ h' t x, Kp h h' → WsO h' x (wsRun z.cps.toList [] 0 0 0) → h.get? x = none → Q (.ref x) ⟨h', g, d, t, os⟩) : wpAny (Md w) A (call (.ref 287) [.str z tz]) Q E ⟨h, g, d, t, os⟩ := by
  refine makeObj C (by k_is) (fI := 242) (by k_is) (by k_is) fun h1 x dx A' hA1 hA2 k1 hled hnd hnew => ?_
  refine enterM (binds := [(Str.ofString "self", .ref x), (Str.ofString "ws", .str z tz)]) C k1 hled hnd hnew (by k_is) (by k_is) (by omega) (BindsTo.of_eq rfl) (locs rfl) (fun L h2 t S => ?_) (by decide)
  have Cs : ∀ {h'}, Kp h h' → Cx w h' := fun k => C.keeps k
  have C1 := C
  refine xCons (plainObj_wpAny_Assign_Attribute (ldL S rfl (ldL S rfl ?_)))
  refine stAttr (i := 1) (Cs S.keep) S rfl (instOwn (S.at 0 rfl) (S.at 1 rfl)) rfl (by k_is) (by kernel_rfl) (by k_is) (by k_is) rfl (by decide) fun h3 hs1 tk1 S3 => ?_
  refine xCons (Assign_Tuple_swapped ?_)
  refine wpAny_Tuple (spliced_more (attrName (ldG C1 S3 (by k_is) ?_)))
  refine cls_value (mc := .type "type") (Cs S3.keep).X (by k_is) (by k_is) rfl ?_
  refine spliced_more (attrName (ldG C1 S3 (by k_is) ?_))
  refine cls_value (mc := .type "type") (Cs S3.keep).X (by k_is) (by k_is) rfl ?_
  refine spliced_none ⟨by simp [sizeLine], ?_⟩
  rw [show ([(x, instObj 287 dx), (dx, dictOf [] 0)].set 1 (dx, dictOf (putL (Str.ofString "raw") hs1 (.str (Str.ofString "raw") tk1) (.str z tz) []) (putN (Str.ofString "raw") [] 0))) = [(x, instObj 287 dx), (dx, dictOf (putL (Str.ofString "raw") hs1 (.str (Str.ofString "raw") tk1) (.str z tz) []) (putN (Str.ofString "raw") [] 0))] from rfl] at S3
  have S4 := S3.alloc { cls := .type "tuple", data := .seq ([.str (Str.ofString " ") 587, .str (Str.ofString "\t") 588] : List Value).toArray } rfl
  show wpAny _ _ (unpackItems (.ref _) 2 none) _ _ _
  have hh2 : A'.handled = none := hA2.trans hh
  refine wpAny_unpackItems_tuple (items := ([.str (Str.ofString " ") 587, .str (Str.ofString "\t") 588] : List Value).toArray) hh2 ⟨_, S4.at 0 rfl, rfl, _, rfl⟩ fun h5 he => ?_
  have S5 : St h h1 _ L h5 _ [(x, instObj 287 dx), (dx, _)] := (S4.keeps fun c o e => he c o (fun q => Nat.lt_irrefl _ (Heap.lt_size (q ▸ e))) e).tail
  show wpAny _ _ (assignInOrder [bindName _ (Str.ofString "T"), bindName _ (Str.ofString "S")] [_, _]) _ _ _
  refine wpAny_assignInOrder_more (bindName_ (stL S5 fun h6 S6 => ?_))
  refine wpAny_assignInOrder_more (bindName_ (stL S6 fun h7 S7 => wpAny_assignInOrder_none ?_))
  refine xAssign (wpAny_List (spliced_none ⟨by simp [sizeLine], ?_⟩))
  have S8 := S7.alloc (LstP [] 0) rfl
  refine stL S8 fun h9 S9 => ?_
  refine xCons (wpAny_Assign_three (cI (wpAny_assign_Name (stL S9 fun h10 S10 => wpAny_assign_Name (stL S10 fun h11 S11 => wpAny_assign_Name (stL S11 fun h12 S12 => ?_))))))
  refine xFor (attrName (ldL S12 rfl ?_))
  refine attrOwn (Cs S12.keep) (instOwn (S12.at 1 rfl) (S12.at 2 rfl)) (by k_is) (by k_is) (by k_is) (by k_is) rfl rfl ?_
  refine wpAny_pyIter_ascii ha ?_
  dsimp only at S12 ⊢
  have S13 := S12.alloc { cls := .type "str_ascii_iterator", data := .fields #[.str z tz, .int 0 0] } rfl
  generalize hD1 : dictOf (putL (Str.ofString "raw") hs1 (.str (Str.ofString "raw") tk1) (.str z tz) []) (putN (Str.ofString "raw") [] 0) = D1 at S13
  generalize hI' : h12.objs.size = I' at S13
  let F : Nat → Heap → List Addr → (Str → Option Value) → List (Addr × Obj) → Prop := fun i H ex m mu => A4 (m "S" = some (.str (Str.ofString " ") 587)) (m "T" = some (.str (Str.ofString "\t") 588)) (m "self" = some (.ref x)) (X10 fun cnt vs b n nt tb tn tnt l o => A10 (m "count" = some (.ref l)) (m "b" = some (.int (b : Nat) tb)) (m "n" = some (.int (n : Nat) tn)) (m "nt" = some (.int (nt : Nat) tnt)) (mu = [(l, o), (x, instObj 287 dx), (dx, D1)]) (LstO vs o) (IntsAre vs cnt) (b ≤ i) (cnt.length ≤ i) (wsRun (z.cps.toList.drop i) cnt b n nt = wsRun z.cps.toList [] 0 0 0))
  let G : Heap → List Addr → (Str → Option Value) → List (Addr × Obj) → Prop := fun H ex m mu => (m "self" = some (.ref x)) ∧ (X10 fun cnt vs b n nt tb tn tnt l o => A10 (m "count" = some (.ref l)) (m "b" = some (.int (b : Nat) tb)) (m "n" = some (.int (n : Nat) tn)) (m "nt" = some (.int (nt : Nat) tnt)) (mu = [(l, o), (x, instObj 287 dx), (dx, D1)]) (LstO vs o) (IntsAre vs cnt) (b ≤ 500) (cnt.length ≤ 500) ((cnt, b, n, nt) = wsRun z.cps.toList [] 0 0 0))
  refine forItB (itAscii (A := A'.deeper _) hh2 _ _ I' z tz) F G
    (fun _ _ _ _ _ _ _ _ _ => trivial) S13 ⟨rfl, rfl⟩ ⟨rfl, rfl, rfl, [], [], 0, 0, 0, _, _, _, _, _, rfl, rfl, rfl, rfl, rfl, .lst _ _, .nil, Nat.le_refl _, Nat.le_refl _, rfl⟩ ?_ ?_
  · intro i v oI H ex h14 m mu t14 hlt hP hF hI S14
    refine nameT fun Q' hQ' => ?_
    obtain ⟨c, kc, hc, rfl⟩ := hP
    obtain ⟨mS, mT, mself, cnt, vs, b, n, nt, tb, tn, tnt, l, o, mc, mb, mn, mnt, rfl, ho, hi, hbi, hci, hrun⟩ := hF
    have hdrop : z.cps.toList.drop i = c :: z.cps.toList.drop (i + 1) := by
      have hc' : z.cps.toList[i]? = some c := by rw [Array.getElem?_toList]; exact hc
      obtain ⟨hl, he⟩ := List.getElem?_eq_some_iff.mp hc'
      rw [List.drop_eq_getElem_cons hl, he]
    rw [hdrop] at hrun
    rw [wsRun_cons] at hrun
    have hz500 : i < 500 := Nat.lt_of_lt_of_le hlt hz
    refine wpAny_assign_Name (stL S14 fun h15 S15 => ?_)
    refine xIf (wpAny_isTrue_Compare1 (ldL S15 rfl (ldL S15 mS (eqS (wpAny_truthy_bool ?_)))))
    split
    · rename_i h32
      have h32 : c = 32 := by rw [spc] at h32; simpa using h32
      rw [if_pos h32] at hrun
      refine xAssign (wpAny_BinOp (ldL S15 mn (cI (addI (stL S15 fun h16 S16 => ?_)))))
      refine xAssign (wpAny_BinOp (ldL S16 mb (cI (addI (stL S16 fun h17 S17 => ?_)))))
      exact xNil (xNil (hQ' _ _ (TurnEndB.next S17 ⟨mS, mT, mself, cnt, vs, b + 1, n + 1, nt, _, _, _, l, o, mc, rfl, rfl, mnt, rfl, ho, hi, by omega, by omega, hrun⟩)))
    · rename_i h32
      have h32 : ¬ c = 32 := by rw [spc] at h32; simpa using h32
      rw [if_neg h32] at hrun
      refine xIf (wpAny_isTrue_Compare1 (ldL S15 rfl (ldL S15 mT (eqS (wpAny_truthy_bool ?_)))))
      split
      · rename_i h9
        have h9 : c = 9 := by rw [tbc] at h9; simpa using h9
        rw [if_pos h9] at hrun
        refine xAssign (wpAny_BinOp (ldL S15 mn (cI (addI (stL S15 fun h16 S16 => ?_)))))
        refine xAssign (wpAny_BinOp (ldL S16 mnt (cI (addI (stL S16 fun h17 S17 => ?_)))))
        have hlen := hi.length
        refine xIfJ (fun s' => X9 fun h9 m l2 o2 vs2 t ta tb tc => A11 (s' = ⟨h9, g, d, t, os⟩) (St h H ex L h9 m [(I', oI), (l2, o2), (x, instObj 287 dx), (dx, D1)]) (LstO vs2 o2) (IntsAre vs2 (cnt ++ List.replicate (b + 1 - cnt.length) 0)) (m "S" = some (.str (Str.ofString " ") 587)) (m "T" = some (.str (Str.ofString "\t") 588)) (m "self" = some (.ref x)) (m "count" = some (.ref l2)) (m "b" = some (.int (b : Nat) tb)) (m "n" = some (.int ((n + 1 : Nat) : Int) ta)) (m "nt" = some (.int ((nt + 1 : Nat) : Int) tc))) ?_ ?_
        · refine (wpAny_isTrue_Compare1 (ldL S17 mb (callName (ldB (v := .builtin "len") C1 S17 (by k_is) rfl (cwBi (spliced_more (ldL S17 mc (spliced_none (lenL (ho.isList (S17.at 1 rfl)) (by omega) fun t18 tk18 => geI (wpAny_truthy_bool ?_))))))))))
          split
          · rename_i hge
            have hge : vs.length ≤ b := by simpa using hge
            refine xAssign (wpAny_BinOp (ldL S17 mc (wpAny_BinOp (mkList1 S17 fun h18 D tk18' t18' _ _ S18 => ?_))))
            refine wpAny_BinOp (wpAny_BinOp (ldL S18 mb (callName (ldB (v := .builtin "len") C1 S18 (by k_is) rfl (cwBi (spliced_more (ldL S18 mc (spliced_none (lenL (ho.isList (S18.at 2 rfl)) (by omega) fun t19 tk19 => ?_)))))))))
            refine subI (cI (addI ?_))
            have ek : (b : Int) - (vs.length : Int) + 1 = ((b + 1 - cnt.length : Nat) : Int) := by omega
            refine mulL (S18.at 0 rfl) ek (by omega) ?_
            have S19 := S18.alloc (LstP (List.replicate (b + 1 - cnt.length) (.int 0 tk18')) 0) rfl
            refine addL (ho.isList (S19.at 3 rfl)) (lstAt (S19.at 0 rfl)) (by rw [List.length_replicate]; omega) ?_
            have S20 := (S19.alloc (LstP (vs ++ List.replicate (b + 1 - cnt.length) (.int 0 tk18')) 0) rfl).sub (mu' := [_, (I', oI), (x, instObj 287 dx), (dx, D1)]) (.cons_cons _ (.cons _ (.cons _ (.cons_cons _ (.cons _ (.refl _))))))
            have hrep : ∀ k : Nat, IntsAre (List.replicate k (.int 0 tk18')) (List.replicate k 0) := by
              intro k
              induction k with
              | zero => exact .nil
              | succ k ih => exact .cons 0 _ ih
            refine stL S20.swap fun h21 S21 => ?_
            exact xNil ⟨rfl, _, _, _, _, _, _, _, _, _, rfl, S21, .lst _ _, hi.append (hrep _), mS, mT, mself, rfl, mb, rfl, rfl⟩
          · rename_i hge
            have hge : ¬ vs.length ≤ b := by simpa using hge
            refine xNil ⟨rfl, _, _, l, o, vs, _, _, _, _, rfl, S17, ho, ?_, mS, mT, mself, mc, mb, rfl, rfl⟩
            rw [show b + 1 - cnt.length = 0 by omega]
            simpa using hi
        · rintro s' ⟨h22, m22, l2, o2, vs2, t22, ta, tb2, tc, rfl, S22, ho2, hi2, nS, nT, nself, nc, nb, nn, nnt⟩
          have hl2 := hi2.length
          have hb2 : b < vs2.length := by rw [hl2, List.length_append, List.length_replicate]; omega
          obtain ⟨cb, tcb, hvb, hcb⟩ : ∃ cb tcb, vs2[b]? = some (.int cb tcb) ∧ (cnt ++ List.replicate (b + 1 - cnt.length) 0)[b]? = some cb := by
            obtain ⟨nn0, tt0, e1, e2⟩ := IntsAre.at hi2 b vs2[b] (by simp [hb2])
            exact ⟨nn0, tt0, by rw [← e1]; simp [hb2], e2⟩
          refine xCons (wpAny_Assign_Subscript (wpAny_BinOp (itemL (ldL S22 nc (ldL S22 nb ⟨l2, vs2, _, _, _, rfl, rfl, ho2.isList (S22.at 1 rfl), by omega, by omega, by simpa using hvb, ?_⟩)))))
          refine cI (addI (ldL S22 nc (ldL S22 nb (setL S22 (i := 1) rfl ho2 hb2 (by rw [hl2, List.length_append, List.length_replicate]; omega) fun h23 o23 ho23 S23 => ?_))))
          refine xAssign (cI (stL S23 fun h24 S24 => ?_))
          refine xNil (xNil (xNil (hQ' _ _ (TurnEndB.next S24 ⟨nS, nT, nself, bump cnt b, _, 0, n + 1, nt + 1, _, _, _, l2, o23, nc, rfl, nn, nnt, rfl, ho23, ?_, by omega, ?_, hrun⟩))))
          · unfold bump
            have : (cnt ++ List.replicate (b + 1 - cnt.length) 0).getD b 0 = cb := by rw [List.getD_eq_getElem?_getD, hcb]; rfl
            rw [this]
            exact ints_set hi2 b (cb + 1) _
          · unfold bump; rw [List.length_set, List.length_append, List.length_replicate]; omega
      · rename_i h9
        have h9 : ¬ c = 9 := by rw [tbc] at h9; simpa using h9
        rw [if_neg h9] at hrun
        refine xCons (wpAny_Break ?_)
        exact hQ' .brk _ (TurnEndB.brk S15 ⟨mself, cnt, vs, b, n, nt, _, _, _, l, o, mc, mb, mn, mnt, rfl, ho, hi, by omega, by omega, hrun⟩)
  · rintro H ex h14 m mu t14 hFG S14
    have hG : (m "self" = some (.ref x)) ∧ (X10 fun cnt vs b n nt tb tn tnt l o => A10 (m "count" = some (.ref l)) (m "b" = some (.int (b : Nat) tb)) (m "n" = some (.int (n : Nat) tn)) (m "nt" = some (.int (nt : Nat) tnt)) (mu = [(l, o), (x, instObj 287 dx), (dx, D1)]) (LstO vs o) (IntsAre vs cnt) (b ≤ 500) (cnt.length ≤ 500) ((cnt, b, n, nt) = wsRun z.cps.toList [] 0 0 0)) := by
      rcases hFG with ⟨mS, mT, mself, cnt, vs, b, n, nt, tb, tn, tnt, l, o, mc, mb, mn, mnt, e, ho, hi, hbi, hci, hrun⟩ | hG
      · refine ⟨mself, cnt, vs, b, n, nt, tb, tn, tnt, l, o, mc, mb, mn, mnt, e, ho, hi, Nat.le_trans hbi hz, Nat.le_trans hci hz, ?_⟩
        rw [List.drop_of_length_le (by simp)] at hrun
        exact hrun
      · exact hG
    obtain ⟨mself, cnt, vs, b, n, nt, tb, tn, tnt, l, o, mc, mb, mn, mnt, rfl, ho, hi, hb5, hc5, hrun⟩ := hG
    subst hD1
    have hlen := hi.length
    refine xCons (plainObj_wpAny_Assign_Attribute (ldL S14 mn (ldL S14 mself ?_)))
    refine stAttr (i := 2) (Cs S14.keep) S14 rfl (instOwn (S14.at 1 rfl) (S14.at 2 rfl)) rfl (by k_is) (by kernel_rfl) (by k_is) (by k_is) rfl (Nat.le_of_ble_eq_true (by rfl)) fun h15 hs15 tk15 S15 => ?_
    refine xCons (plainObj_wpAny_Assign_Attribute (ldL S15 mnt (ldL S15 mself ?_)))
    refine stAttr (i := 2) (Cs S15.keep) S15 rfl (instOwn (S15.at 1 rfl) (S15.at 2 rfl)) rfl (by k_is) (by kernel_rfl) (by k_is) (by k_is) rfl (Nat.le_of_ble_eq_true (by rfl)) fun h16 hs16 tk16 S16 => ?_
    refine xCons (plainObj_wpAny_Assign_Attribute (tup2 (callName (ldB (v := .type "tuple") C1 S16 (by k_is) rfl (PyProof.Rows.callWith_type1 (spliced_more (ldL S16 mc (spliced_none ?_))))))))
    refine call_tuple_list (ho.isList (S16.at 0 rfl)) (fun h17 k17 => ?_) (by simp [sizeLine]; omega)
    have S17 := (S16.keeps k17).alloc { cls := .type "tuple", data := .seq vs.toArray } rfl
    refine ldL S17 mb ?_
    intro h' g' d' t' os' e
    cases e
    have S18 := S17.alloc { cls := .type "tuple", data := .seq ([.ref h17.objs.size, .int (b : Int) tb] : List Value).toArray } rfl
    refine ldL S18 mself ?_
    refine stAttr (i := 4) (Cs S18.keep) S18 rfl (instOwn (S18.at 3 rfl) (S18.at 4 rfl)) rfl (by k_is) (by kernel_rfl) (by k_is) (by k_is) rfl (Nat.le_of_ble_eq_true (by rfl)) fun h19 hs19 tk19 S19 => ?_
    refine xCons (plainObj_wpAny_Assign_Attribute (wpAny_Compare1 (callName (ldB (v := .builtin "len") C1 S19 (by k_is) rfl (cwBi (spliced_more (ldL S19 mc (spliced_none (lenL (ho.isList (S19.at 2 rfl)) (by omega) fun t20 tk20 => cI (leI (ldL S19 mself ?_))))))))))) 
    refine stAttr (i := 4) (Cs S19.keep) S19 rfl (instOwn (S19.at 3 rfl) (S19.at 4 rfl)) rfl (by k_is) (by kernel_rfl) (by k_is) (by k_is) rfl (Nat.le_of_ble_eq_true (by rfl)) fun h20 hs20 tk21 S20 => ?_
    refine xNil ⟨rfl, ?_⟩
    refine hQ h20 _ x S20.keep ?_ (hnew x (by simp))
    rw [← hrun]
    exact ⟨dx, _, _, _, _, vs, _, _, _, S20.at 3 rfl, S20.at 4 rfl, rfl, rfl, rfl, ⟨_, S20.at 0 rfl, rfl, _, rfl⟩, ⟨_, S20.at 1 rfl, rfl, _, rfl⟩, hi, rfl⟩
end
end Mine
set_option maxHeartbeats 400000
namespace Mine
section
variable {w : World} {A : Around} {E : Value → Shared → Prop} {h h₀ H : Heap} {ex : List Addr} {g : Array GenState} {d : Drawn} {t : Nat} {os : OsState}
open Builtin
inductive BytesAre : List Value → List (Array UInt8) → Prop
  | nil : BytesAre [] []
  | cons (b : Array UInt8) (tk : Tok) {vs bs} : BytesAre vs bs → BytesAre (.bytes b tk :: vs) (b :: bs)
theorem BytesAre.snoc {vs : List Value} {bs : List (Array UInt8)} (x : BytesAre vs bs) (b : Array UInt8) (tk : Tok) : BytesAre (vs ++ [.bytes b tk]) (bs ++ [b]) := by
  induction x with
  | nil => exact .cons b tk .nil
  | cons c k _ ih => exact .cons c k ih
theorem BytesAre.at {vs : List Value} {bs : List (Array UInt8)} (x : BytesAre vs bs) : ∀ {i : Nat}, i < vs.length → ∃ b tk, vs[i]? = some (.bytes b tk) ∧ bs[i]? = some b := by
  induction x with
  | nil => intro i hi; simp at hi
  | cons b tk _ ih =>
    intro i hi
    cases i with
    | zero => exact ⟨b, tk, rfl, rfl⟩
    | succ i => simpa using ih (by simpa using hi)
theorem BytesAre.length {vs : List Value} {bs : List (Array UInt8)} (x : BytesAre vs bs) : vs.length = bs.length := by
  induction x with
  | nil => rfl
  | cons _ _ _ ih => simp [ih]
noncomputable def flat (bs : List (Array UInt8)) : Array UInt8 := bs.foldl (· ++ ·) #[]
theorem buf_join (id : String) (D : Array UInt8) (tk : Tok) : Bytes.takeBufferQuiet? id (.bytes D tk) 0 = pure (some (D, none)) := by kernel_rfl
theorem slot_bytes_join : Slot "bytes" "join" "bytes.join" :=
  .of (owner := "bytes") (n := "join") (by rw [typeLookup_type, builtinLookup_eq_fast]; kernel_rfl) (by decide +kernel) (by decide +kernel) (by decide +kernel)
    (by first | exact .inl (by decide +kernel) | exact .inr (by decide +kernel)) (by rw [isSubtype_type]; kernel_rfl)
theorem entry_bytes_join : entryFor table "bytes.join" = some Builtin.«bytes.join» := by first | exact entryFor_of_tree (by kernel_rfl) | exact entryFor_of_fast (by kernel_rfl)
theorem args_bytes_join (a b : Value) : argsOk "bytes.join" ⟨[a, b], []⟩ := by unfold argsOk; kernel_rfl
theorem joined_flat (bs : List (Array UInt8)) : Bytes.joined #[] bs = flat bs := by
  unfold Bytes.joined flat
  have : ∀ (l : List (Array UInt8)) (k : Nat) (a : Array UInt8), (l.zipIdx k).foldl (fun out (p, i) => (if i > 0 then out ++ #[] else out) ++ p) a = l.foldl (· ++ ·) a := by
    intro l
    induction l with
    | nil => intro k a; rfl
    | cons b r ih =>
      intro k a
      rw [List.zipIdx_cons, List.foldl_cons, List.foldl_cons, ih]
      congr 1
      show (if k > 0 then a ++ #[] else a) ++ b = a ++ b
      split <;> simp
  exact this bs 0 #[]
theorem letGoB {M : Model} {Q : Unit → Shared → Prop} {s : Shared} (keep : List Value) : ∀ l : List Value, Q () s → wpAny M A (Bytes.joinLetGo (l.map fun v => (v, none)) keep) Q E s
  | [], h => wpAny_pure h
  | v :: r, h => by
    unfold Bytes.joinLetGo
    refine wpAny_bind ?_
    show wpAny M A (letGo [v] _) _ _ _
    unfold letGo
    refine wpAny_bind (wpAny_holding (wpAny_point ?_))
    exact wpAny_pure (letGoB keep r h)
theorem sizes_fold (l : List (Array UInt8)) : ∀ a : Nat, l.foldl (fun x b => x + b.size) a = a + (l.map (·.size)).sum := by
  induction l with
  | nil => intro a; simp
  | cons b r ih => intro a; rw [List.foldl_cons, ih]; simp; omega
theorem flat_size (l : List (Array UInt8)) : ∀ a : Array UInt8, (l.foldl (· ++ ·) a).size = a.size + (l.map (·.size)).sum := by
  induction l with
  | nil => intro a; simp
  | cons b r ih => intro a; rw [List.foldl_cons, ih]; simp; omega
theorem flat_snoc (l : List (Array UInt8)) (b : Array UInt8) : flat (l ++ [b]) = flat l ++ b := by unfold flat; rw [List.foldl_append]; rfl
theorem join_spec {Q : Value → Shared → Prop} {tk : Tok} {Lp : Addr} {o : Obj} {its : List Value} {bs : List (Array UInt8)} (ho : h.get? Lp = some o) (hl : LstO its o) (hb : BytesAre its bs) (hne : its ≠ []) (hz : (bs.map (·.size)).sum ≤ 100000)
    (hQ : ∀ t' tk', Q (.bytes (flat bs) tk') ⟨h, g, d, t', os⟩) : wpAny (Md w) A (call (.builtin "bytes.join") [.bytes #[] tk, .ref Lp]) Q E ⟨h, g, d, t, os⟩ := by
  refine wpAny_call_entry slot_bytes_join (typeIs_bytes _ _ _) entry_bytes_join ?_ (args_bytes_join _ _)
  obtain ⟨hc, n, hd⟩ := hl
  show wpAny _ _ (Bytes.joinM .bytes ⟨[.bytes #[] tk, .ref Lp], []⟩) _ _ _
  unfold Bytes.joinM
  have hT : (⟨h, g, d, t, os⟩ : Shared).TypeIs (.ref Lp) "list" := ⟨o, ho, hc⟩
  refine wpAny_bind (wpAny_of_eq (a := (Value.bytes #[] tk, Value.ref Lp)) rfl ?_)
  show wpAny _ _ (Bytes.joinItems (.ref Lp) >>= _) _ _ _
  refine wpAny_bind ?_
  unfold Bytes.joinItems
  refine wpAny_bind (wpAny_typeOf hT ?_)
  rw [if_pos (by decide)]
  refine wpAny_pure (wpAny_bind (wpAny_seqItems (s := ⟨h, g, d, t, os⟩) ho hd ?_))
  dsimp only
  rw [if_pos (by decide)]
  rcases its with _ | ⟨x, _ | ⟨y, r⟩⟩
  · exact absurd rfl hne
  · cases hb with
    | cons b tk' hb' =>
      cases hb'
      refine wpAny_bind (wpAny_typeOf (typeIs_bytes _ _ _) ?_)
      rw [if_pos (by decide)]
      refine wpAny_bind (wpAny_rule (wpAny_pure ⟨_, rfl, ?_⟩))
      have : flat [b] = b := by simp [flat]
      exact this ▸ hQ t tk'
  · show wpAny _ _ (forIn [:(x :: y :: r).toArray.size] _ _ >>= _) _ _ _
    generalize hits : x :: y :: r = its at *
    refine wpAny_bind ?_
    rw [Std.Legacy.Range.forIn_eq_forIn_range']
    simp only [Std.Legacy.Range.size, Nat.sub_zero, Nat.add_sub_cancel, Nat.div_one]
    have hlen := hb.length
    have hnone : ∀ l : List Value, (∀ v ∈ l, ∃ b tk, v = .bytes b tk) → ((l.map fun v => (v, (none : Option Value))).any fun x => x.1.onHeap) = false := by
      intro l hl
      rw [List.any_map, List.any_eq_false]
      intro v hv
      obtain ⟨b, tk, rfl⟩ := hl v hv
      simp [Value.onHeap]
    have hall : ∀ v ∈ its, ∃ b tk, v = .bytes b tk := by
      intro v hv
      obtain ⟨i, hi⟩ := List.mem_iff_getElem?.mp hv
      obtain ⟨hl, he⟩ := List.getElem?_eq_some_iff.mp hi
      obtain ⟨b, tk, h1, _⟩ := hb.at hl
      rw [hi] at h1; cases h1; exact ⟨b, tk, rfl⟩
    refine wpAny_forIn_list _
      (fun rest' r s' => ∃ i, rest' = List.range' i (its.length - i) ∧ i ≤ its.length ∧ r = (⟨(bs.take i).toArray, (its.take i).map fun v => (v, none)⟩ : Array (Array UInt8) × List (Value × Option Value)) ∧ s' = ⟨h, g, d, t, os⟩)
      _ ?_ ?_ _ _ ⟨0, by simp, Nat.zero_le _, by simp, rfl⟩
    · rintro x rest' _ s' ⟨i, hr, hi, rfl, rfl⟩
      have hlt : i < its.length := by
        rcases Nat.lt_or_ge i its.length with h | h
        · exact h
        · rw [Nat.sub_eq_zero_of_le h] at hr; simp at hr
      obtain ⟨rfl, hrest⟩ : x = i ∧ rest' = List.range' (i + 1) (its.length - (i + 1)) := by
        have e : its.length - i = (its.length - (i + 1)) + 1 := by omega
        rw [e, List.range'_succ] at hr
        injection hr with h1 h2
        exact ⟨h1, h2⟩
      obtain ⟨b, tk', hv, hbv⟩ := hb.at hlt
      refine wpAny_bind (wpAny_seqItems (s := ⟨h, g, d, t, os⟩) ho hd ?_)
      dsimp only
      rw [hnone _ (fun v hv => hall v (List.mem_of_mem_take hv)), show (Bytes.Kind.bytes == Bytes.Kind.bytearray) = false from rfl]
      rw [if_neg (by decide)]
      have hx : its.toArray.getD x Value.none = .bytes b tk' := by simp [hv]
      rw [hx, buf_join]
      refine wpAny_bind (wpAny_holding (wpAny_pure (wpAny_bind (wpAny_seqItems (s := ⟨h, g, d, t, os⟩) ho hd ?_))))
      dsimp only
      rw [if_neg (by simp)]
      refine wpAny_pure ⟨x + 1, hrest, hlt, ?_, rfl⟩
      rw [List.take_add_one, hbv, List.take_add_one, hv]
      simp
    · rintro _ s' ⟨i, hr, hi, rfl, rfl⟩
      have hin : i = its.length := by
        have := congrArg List.length hr
        simp at this; omega
      subst hin
      rw [List.take_length, hlen, List.take_length]
      refine wpAny_bind (wpAny_of_eq (a := (#[] : Array UInt8)) rfl ?_)
      have htl : Bytes.tooLong (Array.foldl (fun x b => x + b.size) ((#[] : Array UInt8).size * (bs.toArray.size - 1)) bs.toArray) = false := by
        have : Array.foldl (fun x (b : Array UInt8) => x + b.size) ((#[] : Array UInt8).size * (bs.toArray.size - 1)) bs.toArray ≤ 100000 := by
          rw [List.foldl_toArray', sizes_fold] <;> simp <;> omega
        have h2 : ¬ (Array.foldl (fun x (b : Array UInt8) => x + b.size) ((#[] : Array UInt8).size * (bs.toArray.size - 1)) bs.toArray > sizeLine) := by rw [sizeLine_eq]; omega
        unfold Bytes.tooLong
        exact decide_eq_false h2
      dsimp only
      rw [htl, if_neg (by decide)]
      refine wpAny_bind (wpAny_mkBytes ?_ ?_)
      · refine wpAny_bind (wpAny_holding (wpAny_point (wpAny_bind (letGoB _ its ?_))))
        refine wpAny_pure ⟨_, rfl, ?_⟩
        rw [joined_flat]
        exact hQ _ _
      · show (Bytes.joined #[] bs).size ≤ _
        rw [joined_flat, flat, flat_size, sizeLine_eq]
        simp; omega
end
end Mine
set_option maxHeartbeats 1000000
namespace Mine
noncomputable def qCode : Array Nat := #[14, 8, 1, 2, 4294967295, 1, 1, 34, 0, 16, 34, 28, 22, 0, 4294967295, 7, 11, 13, 7, 21, 16, 34, 16, 92, 0, 15, 8, 6, 16, 92, 2, 15, 2, 0, 1, 16, 34, 1]
noncomputable def fr (s : Nat) (b : Bool) : Sre.Frame := { wait := .nextStart, pc := 9, pos := s, outermost := b }
noncomputable def kp : Sre.Kept := { lastmark := -1, lastindex := -1, whole := true, marks := #[] }
noncomputable def fP (p : Nat) (c : Int) (b : Bool) : Sre.Frame := { wait := .possMore, pc := 11, pos := p, outermost := b, count := c, kept := kp, loop := 0 }
noncomputable def fB (a p : Nat) : Sre.Frame := { wait := .nextBranch, pc := a, pos := p, outermost := false, kept := kp }
noncomputable def st (T : Array Nat) (s pc pos handed : Nat) (om : Bool) (fs : List Sre.Frame) (wt : Nat) (ls : Array Sre.Loop) (inn : Option Nat) (ans : Option Bool) (σ : Sre.Seen) : Sre.M :=
  { code := qCode, text := T, lim := T.size, start := s, lastStart := T.size, pc, pos, handed, outermost := om, marks := #[], frames := fs, weight := wt, loops := ls, inner := inn, answer := ans, seen := σ }
noncomputable def att (T : Array Nat) (s : Nat) (b : Bool) (σ : Sre.Seen) : Sre.M := st T s 9 s s b [fr s b] 1 #[] none none σ

theorem getD_of {T : Array Nat} {s c : Nat} (h : T[s]? = some c) : T.getD s 0 = c := by rw [Array.getD_eq_getD_getElem?, h]; rfl
theorem lt_of {T : Array Nat} {s c : Nat} (h : T[s]? = some c) : s < T.size := by
  obtain ⟨hl, _⟩ := Array.getElem?_eq_some_iff.mp h
  exact hl
theorem exec_lit (m : Sre.M) {x c : Nat} (h0 : m.code.getD m.pc 0 = 16) (h1 : m.code.getD (m.pc + 1) 0 = x) (hp : m.pos < m.lim) (hc : m.text.getD m.pos 0 = c) :
    m.exec = if c = x then { m with seen := m.seen.add 16, pc := m.pc + 2, pos := m.pos + 1 } else { m with seen := m.seen.add 16, answer := some false } := by
  have ho : Sre.ops[16]? = some .LITERAL := rfl
  have hn : ¬ m.pos ≥ m.lim := Nat.not_le.mpr hp
  unfold Sre.M.exec
  simp only [Sre.M.word, Nat.add_zero, h0, ho]
  rw [if_neg hn]
  simp only [Sre.accepts, h0, ho, h1, hc, Sre.itemWidth]
  by_cases e : c = x
  · subst e; simp
  · rw [beq_eq_false_iff_ne.mpr e, if_neg e]; rfl
theorem exec_any (m : Sre.M) {c : Nat} (h0 : m.code.getD m.pc 0 = 2) (hp : m.pos < m.lim) (hc : m.text.getD m.pos 0 = c) (hn : c ≠ 10) :
    m.exec = { m with seen := m.seen.add 2, pc := m.pc + 1, pos := m.pos + 1 } := by
  have ho : Sre.ops[2]? = some .ANY := rfl
  have hl : ¬ m.pos ≥ m.lim := Nat.not_le.mpr hp
  unfold Sre.M.exec
  simp only [Sre.M.word, Nat.add_zero, h0, ho]
  rw [if_neg hl]
  simp only [Sre.accepts, h0, ho, hc, Sre.itemWidth]
  rw [show (c != 10) = true by simpa using hn]
theorem skip1 {T : Array Nat} {s c : Nat} (b : Bool) (σ : Sre.Seen) (h : T[s]? = some c) (hc : c ≠ 34) : ∃ σ', (att T s b σ).step.step = att T (s + 1) false σ' := by
  have hl := lt_of h
  have hg := getD_of h
  have e1 : (att T s b σ).step = st T s 9 s s b [fr s b] 1 #[] none (some false) (σ.add 16) := by
    show Sre.M.exec (att T s b σ) = _
    rw [exec_lit (att T s b σ) (x := 34) rfl rfl hl hg, if_neg hc]
    rfl
  rw [e1]
  refine ⟨σ.add 16, ?_⟩
  show (if s < T.size then _ else _) = _
  rw [if_pos hl]
  rfl
noncomputable def lp1 : Array Sre.Loop := #[{ pc := 0, outer := none }]
theorem exec_in (m : Sre.M) {c : Nat} (h0 : m.code.getD m.pc 0 = 13) (hp : m.pos < m.lim) (hc : m.text.getD m.pos 0 = c) :
    m.exec = (match Sre.accepts m.code m.pc c (m.seen.add 13) with
      | .error why => ({ m with seen := m.seen.add 13 } : Sre.M).stick why
      | .ok (false, seen) => { m with seen := seen, answer := some false }
      | .ok (true, seen) => { m with seen := seen, pc := m.pc + Sre.itemWidth m.code m.pc, pos := m.pos + 1 }) := by
  have ho : Sre.ops[13]? = some .IN := rfl
  have hn : ¬ m.pos ≥ m.lim := Nat.not_le.mpr hp
  unfold Sre.M.exec
  simp only [Sre.M.word, Nat.add_zero, h0, ho]
  rw [if_neg hn]
  simp only [hc]
  rfl
theorem run_step {n : Nat} {m m' : Sre.M} (ho : m.outcome = none) (e : m.step = m') : Sre.M.runFor (n + 1) m = Sre.M.runFor n m' := by
  rw [Sre.M.runFor, ho, e]; rfl
noncomputable abbrev stl (T : Array Nat) (s pc pos handed : Nat) (fs : List Sre.Frame) (wt : Nat) (ans : Option Bool) (σ : Sre.Seen) : Sre.M := st T s pc pos handed false fs wt lp1 (some 0) ans σ
theorem s_branch (T : Array Nat) (s p h : Nat) (fs : List Sre.Frame) (σ : Sre.Seen) : ∃ σ', (stl T s 15 p h fs 2 none σ).step = stl T s 17 p p (fB 16 p :: fs) 3 none σ' := ⟨_, rfl⟩
theorem s_in_no {T : Array Nat} {s p h c : Nat} {fs : List Sre.Frame} {σ : Sre.Seen} (hc : T[p]? = some c) (h2 : c = 34 ∨ c = 92) : ∃ σ', (stl T s 17 p h fs 3 none σ).step = stl T s 17 p h fs 3 (some false) σ' := by
  rcases h2 with rfl | rfl
  · exact ⟨_, by
      show Sre.M.exec (stl T s 17 p h fs 3 none σ) = _
      rw [exec_in (stl T s 17 p h fs 3 none σ) rfl (lt_of hc) (getD_of hc)]; rfl⟩
  · exact ⟨_, by
      show Sre.M.exec (stl T s 17 p h fs 3 none σ) = _
      rw [exec_in (stl T s 17 p h fs 3 none σ) rfl (lt_of hc) (getD_of hc)]; rfl⟩
theorem s_in_yes {T : Array Nat} {s p h : Nat} {fs : List Sre.Frame} {σ : Sre.Seen} (hc : T[p]? = some 41) : ∃ σ', (stl T s 17 p h fs 3 none σ).step = stl T s 25 (p + 1) h fs 3 none σ' := ⟨_, by
  show Sre.M.exec (stl T s 17 p h fs 3 none σ) = _
  rw [exec_in (stl T s 17 p h fs 3 none σ) rfl (lt_of hc) (getD_of hc)]; rfl⟩
theorem s_alt2 (T : Array Nat) (s p q h : Nat) (fs : List Sre.Frame) (σ : Sre.Seen) : ∃ σ', (stl T s 17 q h (fB 16 p :: fs) 3 (some false) σ).step = stl T s 28 p p (fB 27 p :: fs) 3 none σ' := ⟨_, rfl⟩
theorem s_lit_yes {T : Array Nat} {s p h : Nat} {fs : List Sre.Frame} {σ : Sre.Seen} (hc : T[p]? = some 92) : ∃ σ', (stl T s 28 p h fs 3 none σ).step = stl T s 30 (p + 1) h fs 3 none σ' := ⟨_, by
  show Sre.M.exec (stl T s 28 p h fs 3 none σ) = _
  rw [exec_lit (stl T s 28 p h fs 3 none σ) (x := 92) rfl rfl (lt_of hc) (getD_of hc), if_pos rfl]; rfl⟩
theorem s_lit_no {T : Array Nat} {s p h : Nat} {fs : List Sre.Frame} {σ : Sre.Seen} (hc : T[p]? = some 34) : ∃ σ', (stl T s 28 p h fs 3 none σ).step = stl T s 28 p h fs 3 (some false) σ' := ⟨_, by
  show Sre.M.exec (stl T s 28 p h fs 3 none σ) = _
  rw [exec_lit (stl T s 28 p h fs 3 none σ) (x := 92) rfl rfl (lt_of hc) (getD_of hc), if_neg (by decide)]; rfl⟩
theorem s_any {T : Array Nat} {s p h : Nat} {fs : List Sre.Frame} {σ : Sre.Seen} (hc : T[p]? = some 34) : ∃ σ', (stl T s 30 p h fs 3 none σ).step = stl T s 31 (p + 1) h fs 3 none σ' := ⟨_, by
  show Sre.M.exec (stl T s 30 p h fs 3 none σ) = _
  rw [exec_any (stl T s 30 p h fs 3 none σ) rfl (lt_of hc) (getD_of hc) (by decide)]; rfl⟩
theorem s_jump31 (T : Array Nat) (s p h : Nat) (fs : List Sre.Frame) (σ : Sre.Seen) : ∃ σ', (stl T s 31 p h fs 3 none σ).step = stl T s 34 p h fs 3 none σ' := ⟨_, rfl⟩
theorem s_jump25 (T : Array Nat) (s p h : Nat) (fs : List Sre.Frame) (σ : Sre.Seen) : ∃ σ', (stl T s 25 p h fs 3 none σ).step = stl T s 34 p h fs 3 none σ' := ⟨_, rfl⟩
theorem s_succ (T : Array Nat) (s p h : Nat) (fs : List Sre.Frame) (σ : Sre.Seen) : ∃ σ', (stl T s 34 p h fs 3 none σ).step = stl T s 34 p p fs 3 (some true) σ' := ⟨_, rfl⟩
theorem s_byes (T : Array Nat) (s p q h a pc : Nat) (fs : List Sre.Frame) (σ : Sre.Seen) : ∃ σ', (stl T s pc q h (fB a p :: fs) 3 (some true) σ).step = stl T s a p h fs 2 (some true) σ' := ⟨_, rfl⟩
theorem s_alt3 (T : Array Nat) (s p q h : Nat) (fs : List Sre.Frame) (σ : Sre.Seen) : ∃ σ', (stl T s 28 q h (fB 27 p :: fs) 3 (some false) σ).step = stl T s 27 p h fs 2 (some false) σ' := ⟨_, rfl⟩
theorem resume_yes (m : Sre.M) (f : Sre.Frame) (hw : f.wait = .possMore) : m.resume f true = m.possessive f.loop (f.count + 1) (some f.pos) := by
  unfold Sre.M.resume; rw [hw]; rfl
theorem resume_no (m : Sre.M) (f : Sre.Frame) (hw : f.wait = .possMore) : m.resume f false = ({ m.putBack f.kept with handed := f.pos } : Sre.M).possessive f.loop f.count (some f.pos) := by
  unfold Sre.M.resume; rw [hw]; rfl
theorem step_resume (m : Sre.M) (f : Sre.Frame) (r : List Sre.Frame) (y : Bool) (ho : m.outcome = none) (ha : m.answer = some y) (hf : m.frames = f :: r) : m.step = ({ m with answer := none, frames := r, weight := m.weight - (1 + f.kept.marks.size), pc := f.pc, pos := f.pos, outermost := f.outermost } : Sre.M).resume f y := by
  unfold Sre.M.step
  rw [ho, ha, hf]; rfl
theorem s_more {T : Array Nat} {s p q h a : Nat} {c : Nat} {b : Bool} {σ : Sre.Seen} (hc : c < 100) (hne : p ≠ h) : ∃ σ', (stl T s a q h [fP p c b, fr s b] 2 (some true) σ).step = stl T s 15 h h [fP h ((c + 1 : Nat) : Int) b, fr s b] 2 none σ' := by
  refine ⟨σ, ?_⟩
  rw [step_resume _ (fP p c b) [fr s b] true rfl rfl rfl, resume_yes _ _ rfl]
  have em : ({ (stl T s a q h [fP p c b, fr s b] 2 (some true) σ) with answer := none, frames := [fr s b], weight := 2 - (1 + (fP p c b).kept.marks.size), pc := (fP p c b).pc, pos := (fP p c b).pos, outermost := (fP p c b).outermost } : Sre.M) = st T s 11 p h b [fr s b] 1 lp1 (some 0) none σ := rfl
  rw [show (fP p c b).loop = 0 from rfl, show (fP p c b).count = (c : Int) from rfl, show (fP p c b).pos = p from rfl]
  refine (congrArg (fun m => Sre.M.possessive m 0 ((c : Int) + 1) (some p)) em).trans ?_
  unfold Sre.M.possessive
  have w2 : (st T s 11 p h b [fr s b] 1 lp1 (some 0) none σ).word 2 = 0 := rfl
  have w3 : (st T s 11 p h b [fr s b] 1 lp1 (some 0) none σ).word 3 = 4294967295 := rfl
  simp only [w2, w3]
  rw [if_neg (by omega), if_pos (by
    have : (some p != some (st T s 11 p h b [fr s b] 1 lp1 (some 0) none σ).handed) = true := by
      show (some p != some h) = true
      simpa using hne
    rw [this]; simp [Sre.maxRepeat])]
  rfl
theorem s_end {T : Array Nat} {s p q h a : Nat} {c : Nat} {b : Bool} {σ : Sre.Seen} : ∃ σ', (stl T s a q h [fP p c b, fr s b] 2 (some false) σ).step = st T s 35 p p b [fr s b] 1 #[] none none σ' := by
  refine ⟨σ, ?_⟩
  rw [step_resume _ (fP p c b) [fr s b] false rfl rfl rfl, resume_no _ _ rfl]
  have em : ({ ({ (stl T s a q h [fP p c b, fr s b] 2 (some false) σ) with answer := none, frames := [fr s b], weight := 2 - (1 + (fP p c b).kept.marks.size), pc := (fP p c b).pc, pos := (fP p c b).pos, outermost := (fP p c b).outermost } : Sre.M).putBack (fP p c b).kept with handed := p } : Sre.M) = st T s 11 p p b [fr s b] 1 lp1 (some 0) none σ := rfl
  rw [show (fP p c b).loop = 0 from rfl, show (fP p c b).count = (c : Int) from rfl, show (fP p c b).pos = p from rfl]
  refine (congrArg (fun m => Sre.M.possessive m 0 (c : Int) (some p)) em).trans ?_
  unfold Sre.M.possessive
  have w2 : (st T s 11 p p b [fr s b] 1 lp1 (some 0) none σ).word 2 = 0 := rfl
  have w3 : (st T s 11 p p b [fr s b] 1 lp1 (some 0) none σ).word 3 = 4294967295 := rfl
  simp only [w2, w3]
  rw [if_neg (by omega), if_neg (by
    have : (some p != some (st T s 11 p p b [fr s b] 1 lp1 (some 0) none σ).handed) = false := by
      show (some p != some p) = false
      simp
    rw [this]; simp)]
  rfl
theorem s_lit35 {T : Array Nat} {s p h : Nat} {b : Bool} {σ : Sre.Seen} (hc : T[p]? = some 34) : ∃ σ', (st T s 35 p h b [fr s b] 1 #[] none none σ).step = st T s 37 (p + 1) h b [fr s b] 1 #[] none none σ' := ⟨_, by
  show Sre.M.exec (st T s 35 p h b [fr s b] 1 #[] none none σ) = _
  rw [exec_lit (st T s 35 p h b [fr s b] 1 #[] none none σ) (x := 34) rfl rfl (lt_of hc) (getD_of hc), if_pos rfl]; rfl⟩
theorem s_win (T : Array Nat) (s p h : Nat) (b : Bool) (σ : Sre.Seen) : ∃ σ', (st T s 37 p h b [fr s b] 1 #[] none none σ).step = st T s 37 p p b [fr s b] 1 #[] none (some true) σ' := by
  cases b <;> exact ⟨_, rfl⟩
theorem s_top (T : Array Nat) (s p h : Nat) (b : Bool) (σ : Sre.Seen) : ∃ σ', (st T s 37 p h b [fr s b] 1 #[] none (some true) σ).step = st T s 9 s h b [] 0 #[] none (some true) σ' := ⟨_, rfl⟩

theorem quote {T : Array Nat} {s : Nat} (b : Bool) (σ : Sre.Seen) (h0 : T[s]? = some 34) (h1 : T[s + 1]? = some 92) (h2 : T[s + 2]? = some 34) (h3 : T[s + 3]? = some 41) (h4 : T[s + 4]? = some 34) :
    ∃ m, Sre.M.runFor 27 (att T s b σ) = m ∧ m.outcome = some .matched ∧ m.start = s ∧ m.handed = s + 5 := by
  obtain ⟨σ1, e1⟩ : ∃ σ', (att T s b σ).step = st T s 11 (s + 1) s b [fr s b] 1 #[] none none σ' := ⟨_, by
    show Sre.M.exec (att T s b σ) = _
    rw [exec_lit (att T s b σ) (x := 34) rfl rfl (lt_of h0) (getD_of h0), if_pos rfl]; rfl⟩
  obtain ⟨σ2, e2⟩ : ∃ σ', (st T s 11 (s + 1) s b [fr s b] 1 #[] none none σ1).step = stl T s 15 (s + 1) (s + 1) [fP (s + 1) (0 : Nat) b, fr s b] 2 none σ' := ⟨_, rfl⟩
  obtain ⟨σ3, e3⟩ := s_branch T s (s + 1) (s + 1) [fP (s + 1) (0 : Nat) b, fr s b] σ2
  obtain ⟨σ4, e4⟩ := s_in_no (s := s) (h := s + 1) (fs := fB 16 (s + 1) :: [fP (s + 1) (0 : Nat) b, fr s b]) (σ := σ3) h1 (.inr rfl)
  obtain ⟨σ5, e5⟩ := s_alt2 T s (s + 1) (s + 1) (s + 1) [fP (s + 1) (0 : Nat) b, fr s b] σ4
  obtain ⟨σ6, e6⟩ := s_lit_yes (s := s) (h := s + 1) (fs := fB 27 (s + 1) :: [fP (s + 1) (0 : Nat) b, fr s b]) (σ := σ5) h1
  obtain ⟨σ7, e7⟩ := s_any (s := s) (h := s + 1) (fs := fB 27 (s + 1) :: [fP (s + 1) (0 : Nat) b, fr s b]) (σ := σ6) h2
  obtain ⟨σ8, e8⟩ := s_jump31 T s (s + 3) (s + 1) (fB 27 (s + 1) :: [fP (s + 1) (0 : Nat) b, fr s b]) σ7
  obtain ⟨σ9, e9⟩ := s_succ T s (s + 3) (s + 1) (fB 27 (s + 1) :: [fP (s + 1) (0 : Nat) b, fr s b]) σ8
  obtain ⟨σa, ea⟩ := s_byes T s (s + 1) (s + 3) (s + 3) 27 34 [fP (s + 1) (0 : Nat) b, fr s b] σ9
  obtain ⟨σb, eb⟩ := s_more (T := T) (s := s) (p := s + 1) (q := s + 1) (h := s + 3) (a := 27) (c := 0) (b := b) (σ := σa) (by decide) (by omega)
  obtain ⟨σc, ec⟩ := s_branch T s (s + 3) (s + 3) [fP (s + 3) (1 : Nat) b, fr s b] σb
  obtain ⟨σd, ed⟩ := s_in_yes (s := s) (h := s + 3) (fs := fB 16 (s + 3) :: [fP (s + 3) (1 : Nat) b, fr s b]) (σ := σc) h3
  obtain ⟨σe, ee⟩ := s_jump25 T s (s + 4) (s + 3) (fB 16 (s + 3) :: [fP (s + 3) (1 : Nat) b, fr s b]) σd
  obtain ⟨σf, ef⟩ := s_succ T s (s + 4) (s + 3) (fB 16 (s + 3) :: [fP (s + 3) (1 : Nat) b, fr s b]) σe
  obtain ⟨σg, eg⟩ := s_byes T s (s + 3) (s + 4) (s + 4) 16 34 [fP (s + 3) (1 : Nat) b, fr s b] σf
  obtain ⟨σh, eh⟩ := s_more (T := T) (s := s) (p := s + 3) (q := s + 3) (h := s + 4) (a := 16) (c := 1) (b := b) (σ := σg) (by decide) (by omega)
  obtain ⟨σi, ei⟩ := s_branch T s (s + 4) (s + 4) [fP (s + 4) (2 : Nat) b, fr s b] σh
  obtain ⟨σj, ej⟩ := s_in_no (s := s) (h := s + 4) (fs := fB 16 (s + 4) :: [fP (s + 4) (2 : Nat) b, fr s b]) (σ := σi) h4 (.inl rfl)
  obtain ⟨σk, ek⟩ := s_alt2 T s (s + 4) (s + 4) (s + 4) [fP (s + 4) (2 : Nat) b, fr s b] σj
  obtain ⟨σl, el⟩ := s_lit_no (s := s) (h := s + 4) (fs := fB 27 (s + 4) :: [fP (s + 4) (2 : Nat) b, fr s b]) (σ := σk) h4
  obtain ⟨σm, em⟩ := s_alt3 T s (s + 4) (s + 4) (s + 4) [fP (s + 4) (2 : Nat) b, fr s b] σl
  obtain ⟨σn, en⟩ := s_end (T := T) (s := s) (p := s + 4) (q := s + 4) (h := s + 4) (a := 27) (c := 2) (b := b) (σ := σm)
  obtain ⟨σo, eo⟩ := s_lit35 (s := s) (h := s + 4) (b := b) (σ := σn) h4
  obtain ⟨σp, ep⟩ := s_win T s (s + 5) (s + 4) b σo
  obtain ⟨σq, eq⟩ := s_top T s (s + 5) (s + 5) b σp
  refine ⟨_, rfl, ?_⟩
  rw [run_step rfl e1, run_step rfl e2, run_step rfl e3, run_step rfl e4, run_step rfl e5, run_step rfl e6, run_step rfl e7, run_step rfl e8, run_step rfl e9, run_step rfl ea, run_step rfl eb, run_step rfl ec, run_step rfl ed,
    run_step rfl ee, run_step rfl ef, run_step rfl eg, run_step rfl eh, run_step rfl ei, run_step rfl ej, run_step rfl ek, run_step rfl el, run_step rfl em, run_step rfl en, run_step rfl eo, run_step rfl ep, run_step rfl eq]
  exact ⟨rfl, rfl, rfl⟩
theorem runFor_add (a b : Nat) (m : Sre.M) : Sre.M.runFor (a + b) m = Sre.M.runFor b (Sre.M.runFor a m) := by
  induction a generalizing m with
  | zero => simp [Sre.M.runFor]
  | succ a ih =>
    rw [Nat.succ_add]
    show (if m.outcome.isSome = true then m else Sre.M.runFor (a + b) m.step) = Sre.M.runFor b (if m.outcome.isSome = true then m else Sre.M.runFor a m.step)
    by_cases h : m.outcome.isSome = true
    · rw [if_pos h, if_pos h]
      cases b with
      | zero => rfl
      | succ b => show m = (if m.outcome.isSome = true then m else _); rw [if_pos h]
    · rw [if_neg h, if_neg h, ih]
theorem runFor_done {m : Sre.M} (h : m.outcome.isSome = true) (n : Nat) : Sre.M.runFor n m = m := by
  cases n with
  | zero => rfl
  | succ n => show (if m.outcome.isSome = true then m else _) = m; rw [if_pos h]
theorem skipN {T : Array Nat} {e : Nat} : ∀ (k s : Nat) (b : Bool) (σ : Sre.Seen), s + k = e → (∀ j, s ≤ j → j < e → ∃ c, T[j]? = some c ∧ c ≠ 34) → ∃ b' σ', ∀ n, Sre.M.runFor (2 * k + n) (att T s b σ) = Sre.M.runFor n (att T e b' σ')
  | 0, s, b, σ, he, _ => by
    have : s = e := he
    subst this
    exact ⟨b, σ, fun n => by rw [Nat.mul_zero, Nat.zero_add]⟩
  | k + 1, s, b, σ, he, hT => by
    obtain ⟨c, hc, hn⟩ := hT s (Nat.le_refl _) (by omega)
    obtain ⟨σ1, e1⟩ := skip1 b σ hc hn
    obtain ⟨b', σ', h⟩ := skipN k (s + 1) false σ1 (by omega) fun j h1 h2 => hT j (by omega) h2
    refine ⟨b', σ', fun n => ?_⟩
    rw [show 2 * (k + 1) + n = (2 * k + n) + 1 + 1 by omega]
    have o1 : (att T s b σ).outcome = none := rfl
    rw [run_step o1 rfl]
    have o2 : (att T s b σ).step.outcome = none := by
      have e0 : (att T s b σ).step = st T s 9 s s b [fr s b] 1 #[] none (some false) (σ.add 16) := by
        show Sre.M.exec (att T s b σ) = _
        rw [exec_lit (att T s b σ) (x := 34) rfl rfl (lt_of hc) (getD_of hc), if_neg hn]
        rfl
      rw [e0]; rfl
    rw [run_step o2 e1]
    exact h n
theorem tailEnd (T : Array Nat) (b : Bool) (σ : Sre.Seen) : (Sre.M.runFor 3 (att T T.size b σ)).outcome = some .failed := by
  have e1 : (att T T.size b σ).step = st T T.size 9 T.size T.size b [fr T.size b] 1 #[] none (some false) (σ.add 16) := by
    show Sre.M.exec (att T T.size b σ) = _
    unfold Sre.M.exec
    have h0 : (att T T.size b σ).word 0 = 16 := rfl
    have ho : Sre.ops[16]? = some .LITERAL := rfl
    simp only [h0, ho]
    rw [if_pos (show (att T T.size b σ).pos ≥ (att T T.size b σ).lim from Nat.le_refl _)]
    rfl
  have e2 : ∃ σ', (st T T.size 9 T.size T.size b [fr T.size b] 1 #[] none (some false) (σ.add 16)).step = st T T.size 9 T.size T.size b [] 0 #[] none (some false) σ' := by
    refine ⟨σ.add 16, ?_⟩
    show (if T.size < T.size then _ else _) = _
    rw [if_neg (Nat.lt_irrefl _)]
    rfl
  obtain ⟨σ2, e2⟩ := e2
  rw [run_step rfl e1, run_step rfl e2]
  rfl
theorem search_att {T : Array Nat} {p : Nat} (h : p + 2 ≤ T.size) : ∃ σ, Sre.forSearch qCode T 0 p T.size false = att T p true σ := by
  refine ⟨({} : Sre.Seen).add 14, ?_⟩
  have hc : ¬ (p > T.size || T.size - p < 2) = true := by simp; omega
  show (if (p > T.size || T.size - p < 2) = true then _ else _) = _
  rw [if_neg hc]
  rfl
theorem search_short {T : Array Nat} {p : Nat} (h : ¬ p + 2 ≤ T.size) : (Sre.M.runFor 1 (Sre.forSearch qCode T 0 p T.size false)).outcome = some .failed := by
  have hc : (p > T.size || T.size - p < 2) = true := by simp; omega
  have e : Sre.forSearch qCode T 0 p T.size false = (if (p > T.size || T.size - p < 2) = true then _ else _) := rfl
  rw [e, if_pos hc]
  rfl
theorem search_found {T : Array Nat} {p s : Nat} (hp : p ≤ s) (hT : ∀ j, p ≤ j → j < s → ∃ c, T[j]? = some c ∧ c ≠ 34) (h0 : T[s]? = some 34) (h1 : T[s + 1]? = some 92) (h2 : T[s + 2]? = some 34) (h3 : T[s + 3]? = some 41) (h4 : T[s + 4]? = some 34) :
    ∃ m, Sre.M.runFor (2 * T.size + 30) (Sre.forSearch qCode T 0 p T.size false) = m ∧ m.outcome = some .matched ∧ m.start = s ∧ m.handed = s + 5 := by
  have hl := lt_of h4
  obtain ⟨σ, e⟩ := search_att (T := T) (p := p) (by omega)
  obtain ⟨b', σ', hs⟩ := skipN (T := T) (s - p) p true σ (by omega) hT
  obtain ⟨m, hm, a1, a2, a3⟩ := quote b' σ' h0 h1 h2 h3 h4
  refine ⟨m, ?_, a1, a2, a3⟩
  rw [e, show 2 * T.size + 30 = 2 * (s - p) + (27 + (2 * T.size + 3 - 2 * (s - p))) by omega, hs, runFor_add, hm]
  exact runFor_done (by rw [a1]; rfl) _
theorem search_none {T : Array Nat} {p : Nat} (hp : p ≤ T.size) (hT : ∀ j, p ≤ j → j < T.size → ∃ c, T[j]? = some c ∧ c ≠ 34) :
    (Sre.M.runFor (2 * T.size + 30) (Sre.forSearch qCode T 0 p T.size false)).outcome = some .failed := by
  by_cases h : p + 2 ≤ T.size
  · obtain ⟨σ, e⟩ := search_att h
    obtain ⟨b', σ', hs⟩ := skipN (T := T) (T.size - p) p true σ (by omega) hT
    rw [e, show 2 * T.size + 30 = 2 * (T.size - p) + (3 + (2 * T.size + 27 - 2 * (T.size - p))) by omega, hs, runFor_add]
    have := tailEnd T b' σ'
    rw [runFor_done (by rw [this]; rfl)]
    exact this
  · rw [show 2 * T.size + 30 = 1 + (2 * T.size + 29) by omega, runFor_add]
    have := search_short h
    rw [runFor_done (by rw [this]; rfl)]
    exact this
section
variable {M : Model} {A : Around} {E : Value → Shared → Prop} {s : Shared}
theorem drive {Q : Sre.M → Shared → Prop} : ∀ (turns : Nat) (N : Nat) (m : Sre.M), N ≤ turns * 4 → 0 < turns → (Sre.M.runFor N m).outcome.isSome = true → Q (Sre.M.runFor N m) s → wpAny M A (Builtin.Re.reDrive turns m) Q E s
  | 0, _, _, _, h, _, _ => absurd h (Nat.lt_irrefl _)
  | t + 1, N, m, hN, _, hd, hQ => by
    unfold Builtin.Re.reDrive
    show wpAny M A (if (Sre.M.runFor 4 m).outcome.isSome = true then _ else _) Q E s
    by_cases h4 : (Sre.M.runFor 4 m).outcome.isSome = true
    · rw [if_pos h4]
      have : Sre.M.runFor 4 m = Sre.M.runFor N m := by
        by_cases hle : 4 ≤ N
        · rw [show N = 4 + (N - 4) by omega, runFor_add, runFor_done h4]
        · rw [show 4 = N + (4 - N) by omega, runFor_add, runFor_done hd]
      refine wpAny_pure ?_
      show Q (Sre.M.runFor 4 m) s
      rw [this]
      exact hQ
    · rw [if_neg h4]
      have hle : 4 < N := by
        refine Nat.lt_of_not_le fun q => h4 ?_
        rw [show 4 = N + (4 - N) by omega, runFor_add, runFor_done hd]; exact hd
      have e : Sre.M.runFor N m = Sre.M.runFor (N - 4) (Sre.M.runFor 4 m) := by
        rw [← runFor_add]; congr 1; omega
      rw [e] at hd hQ
      exact wpAny_bind (wpAny_rule (drive t (N - 4) _ (by omega) (by omega) hd hQ))
theorem seenRules {Q : Unit → Shared → Prop} (σ : Sre.Seen) : ∀ (l : List Nat), Q () s → wpAny M A (forIn l () fun i _ => if σ.has i = true then do rule (Sre.names.getD i ""); pure (ForInStep.yield ()) else pure (ForInStep.yield ())) Q E s
  | [], h => by rw [List.forIn_nil]; exact wpAny_pure h
  | i :: r, h => by
    rw [List.forIn_cons]
    refine wpAny_bind ?_
    split
    · exact wpAny_bind (wpAny_rule (wpAny_pure (seenRules σ r h)))
    · exact wpAny_pure (seenRules σ r h)
theorem toEnd {Q : Option Sre.M → Shared → Prop} {N : Nat} {m m' : Sre.M} (hN : N ≤ 2 ^ 40) (e : Sre.M.runFor N m = m') (ho : (m'.outcome = some .matched ∧ Q (some m') s) ∨ (m'.outcome = some .failed ∧ Q none s)) : wpAny M A (Builtin.Re.reRunToEnd m) Q E s := by
  unfold Builtin.Re.reRunToEnd
  have hs : (Sre.M.runFor N m).outcome.isSome = true := by
    rw [e]; rcases ho with ⟨q, _⟩ | ⟨q, _⟩ <;> rw [q] <;> rfl
  refine wpAny_bind (drive (2 ^ 64) N m (Nat.le_trans hN (by decide)) (by decide) hs ?_)
  rw [e]
  refine wpAny_bind ?_
  refine seenRules (M := M) (A := A) (E := E) (s := s) m'.seen _ ?_
  rcases ho with ⟨q, h⟩ | ⟨q, h⟩ <;> rw [q] <;> exact wpAny_pure h
end
end Mine
set_option maxHeartbeats 400000
namespace Mine
section
variable {w : World} {A : Around} {E : Value → Shared → Prop} {h h₀ H : Heap} {ex : List Addr} {g : Array GenState} {d : Drawn} {t : Nat} {os : OsState} {env : Env} {m : Str → Option Value} {mu : List (Addr × Obj)}
open Builtin Builtin.Re
theorem buf_sre (D : Array UInt8) (tk : Tok) : Bytes.bufferQuiet? "_sre" (.bytes D tk) = pure (some D) := by kernel_rfl
theorem textOf (D : Array UInt8) (tk : Tok) : reTextOf (.bytes D tk) = pure (D.map (·.toNat), 1) := by
  unfold reTextOf
  rw [buf_sre]
  rfl
theorem noColl (D : Array UInt8) (tk : Tok) : reNoCollectionInside (.bytes D tk) 1 = pure () := by kernel_rfl
theorem litNo : ∀ tk, reLiteralCannotBeTurned (.bytes #[] tk) = pure () := by intro tk; kernel_rfl
noncomputable abbrev tgt (D : Array UInt8) (tk : Tok) : ReTarget := { pattern := .ref 43, string := .bytes D tk, code := qCode, text := D.map (·.toNat), kind := 1, groups := 0, pos := 0, lim := (D.map (·.toNat)).size }
theorem whole {Q : ReTarget → Shared → Prop} {D : Array UInt8} {tk : Tok} (X : Cx w h) (hQ : Q (tgt D tk) ⟨h, g, d, t, os⟩) : wpAny (Md w) A (reWholeTarget (.ref 43) (.bytes D tk)) Q E ⟨h, g, d, t, os⟩ := by
  have h43 := X.X 43 _ (by k_is)
  have h42 := X.X 42 _ (by k_is)
  unfold reWholeTarget
  refine wpAny_bind (wpAny_fieldsOf (s := ⟨h, g, d, t, os⟩) h43 rfl ?_)
  rw [textOf]
  refine wpAny_bind (wpAny_pure ?_)
  show wpAny _ _ (reNoCollectionInside (.bytes D tk) 1 >>= fun _ => reRawItems (.ref 42) >>= fun l => pure ({ pattern := .ref 43, string := .bytes D tk, code := l.map (·.toNat), text := D.map (·.toNat), kind := 1, groups := 0, pos := 0, lim := (D.map (·.toNat)).size } : ReTarget)) _ _ _
  rw [noColl]
  refine wpAny_bind (wpAny_pure (wpAny_bind ?_))
  unfold reRawItems
  refine wpAny_bind (wpAny_seqItems (s := ⟨h, g, d, t, os⟩) h42 rfl (wpAny_pure (wpAny_pure ?_)))
  have hc : ∀ c : Array Nat, c = qCode → Q ({ pattern := .ref 43, string := .bytes D tk, code := c, text := D.map (·.toNat), kind := 1, groups := 0, pos := 0, lim := (D.map (·.toNat)).size } : ReTarget) ⟨h, g, d, t, os⟩ := fun c e => by rw [e]; exact hQ
  exact hc _ (by kernel_rfl)

/-- the blocks: so many opening ones, the quoted one, so many closing ones -/
noncomputable def rend (k : Nat) : List (Nat × Nat) → List Nat
  | [] => List.replicate k 41
  | (n, m) :: r => List.replicate k 41 ++ List.replicate n 40 ++ [34, 92, 34, 41, 34] ++ rend m r
noncomputable def bare (k : Nat) : List (Nat × Nat) → List Nat
  | [] => List.replicate k 41
  | (n, m) :: r => List.replicate k 41 ++ List.replicate n 40 ++ bare m r
noncomputable def toB (l : List Nat) : Array UInt8 := (l.map (·.toUInt8)).toArray
theorem entry_subloop : entryFor table "re.Pattern.sub.loop" = some Builtin.«re.Pattern.sub.loop» := by first | exact entryFor_of_tree (by kernel_rfl) | exact entryFor_of_fast (by kernel_rfl)
theorem plain_subloop : plainId "re.Pattern.sub.loop" = true := by decide +kernel
theorem toB_append (a b : List Nat) : toB (a ++ b) = toB a ++ toB b := by simp [toB]
theorem nat_back : ∀ {l : List Nat}, (∀ c ∈ l, c < 256) → (l.map (·.toUInt8)).map (·.toNat) = l
  | [], _ => rfl
  | c :: r, h => by
    have h1 := h c (.head _)
    rw [List.map_cons, List.map_cons, nat_back fun x hx => h x (.tail _ hx)]
    congr 1
    show c.toUInt8.toNat = c
    simp [Nat.toUInt8, UInt8.toNat_ofNat']; omega
theorem toB_back {l : List Nat} (h : ∀ c ∈ l, c < 256) : (toB l).map (·.toNat) = l.toArray := by
  unfold toB
  rw [List.map_toArray, nat_back h]
theorem rend_small : ∀ (bs : List (Nat × Nat)) (k : Nat), ∀ c ∈ rend k bs, c < 256
  | [], k, c, hc => by simp [rend] at hc; omega
  | (n, m) :: r, k, c, hc => by
    simp only [rend, List.mem_append, List.mem_replicate, List.mem_cons, List.not_mem_nil, or_false] at hc
    rcases hc with ((h | h) | h) | h
    · omega
    · omega
    · omega
    · exact rend_small r m c h
theorem slice_toB (T : List Nat) (a b : Nat) : (T.toArray.extract a b).map (·.toUInt8) = toB ((T.drop a).take (b - a)) := by
  unfold toB
  apply Array.toList_inj.mp
  simp [List.extract_eq_take_drop]
theorem app_get {pre X : List Nat} (j : Nat) : (pre ++ X)[pre.length + j]? = X[j]? := by
  rw [List.getElem?_append_right (Nat.le_add_right _ _)]; congr 1; omega

theorem pushB {Q : Unit → Shared → Prop} {Lp : Addr} {its : List Value} {o : Obj} {v : Value} (hL : h₀.get? Lp = none) (hk : Kp h₀ h) (ho : h.get? Lp = some o) (hl : LstO its o) (hz : its.length ≤ 1000)
    (hQ : ∀ h' o', Kp h₀ h' → h'.get? Lp = some o' → LstO (its ++ [v]) o' → Q () ⟨h', g, d, t, os⟩) : wpAny (Md w) A (updateSeq Lp (·.push v)) Q E ⟨h, g, d, t, os⟩ := by
  obtain ⟨hc, n, hdat⟩ := hl
  obtain ⟨n', hd'⟩ := Obj.data_mapSeq hdat (·.push v)
  refine wpAny_updateSeq (s := ⟨h, g, d, t, os⟩) ho hdat ?_ (by simp [sizeLine]; omega) (by simp [sizeLine]; omega)
  refine hQ _ _ (fun b x e => (Heap.get?_update_ne _ _ _ _ (fun q => by rw [q, hL] at e; cases e)).trans (hk b x e)) (Heap.get?_update_self _ ho (Obj.isFreed_of_seq hd')) ⟨(Obj.cls_mapSeq ..).trans hc, n', ?_⟩
  rw [hd']; simp
theorem sliceB {Q : Value → Shared → Prop} {T : List Nat} {a b : Nat} (hTl : T.length ≤ 1000) (hQ : ∀ tk, Q (.bytes (toB ((T.drop a).take (b - a))) tk) ⟨h, g, d, t + 1, os⟩) : wpAny (Md w) A (reSlice T.toArray 1 a b) Q E ⟨h, g, d, t, os⟩ := by
  unfold reSlice
  rw [if_neg (by decide), slice_toB]
  refine wpAny_mkBytes (s := ⟨h, g, d, t, os⟩) (hQ t) ?_
  simp [toB, sizeLine]; omega
theorem sub_loop {R : Result → Shared → Prop} {tk tr : Tok} {T : List Nat} (X : Cx w h₀) (hT2 : ∀ c ∈ T, c < 256) (hTl : T.length ≤ 1000) {Lp : Addr} (hL : h₀.get? Lp = none) (J : List Nat)
    (hR : ∀ h t tk', Kp h₀ h → R (.ok (.ret (.bytes (toB J) tk'))) ⟨h, g, d, t, os⟩) :
    ∀ (bs : List (Nat × Nat)) (k n : Nat) (pre acc : List Nat) (its : List Value) (ps : List (Array UInt8)) (o : Obj) (h : Heap) (t : Nat), T = pre ++ rend k bs → J = acc ++ bare k bs → Kp h₀ h → h.get? Lp = some o → LstO its o → BytesAre its ps → flat ps = toB acc → its.length + 2 * bs.length + 2 ≤ 1000 → (bs = [] → its ≠ []) → J.length ≤ 1000 →
    codeAny (Md w) A (.builtin "re.Pattern.sub.loop" ⟨[.ref 43, .bytes (toB T) tk, .bytes #[] tr, rawInt 0, rawInt 0, rawInt n, rawInt pre.length, rawInt pre.length, .bool false, .ref Lp, .bool false], []⟩) R ⟨h, g, d, t, os⟩ := by
  have hD := toB_back hT2
  have tgtE : tgt (toB T) tk = { pattern := .ref 43, string := .bytes (toB T) tk, code := qCode, text := T.toArray, kind := 1, groups := 0, pos := 0, lim := T.length } := by
    unfold tgt; rw [hD]; simp
  intro bs
  induction bs with
  | nil =>
    intro k n pre acc its ps o h t hT hJ hk ho hl hb hf hn hne hJl
    refine codeAny_builtin entry_subloop ?_
    rw [Around.under_plainId plain_subloop]
    unfold Builtin.«re.Pattern.sub.loop»
    refine wpAny_bind (whole (X.keeps hk) ?_)
    rw [litNo, tgtE]
    show wpAny _ _ ((pure () : Sem Unit) >>= _) _ _ _
    refine wpAny_bind (wpAny_pure ?_)
    have hplen : pre.length ≤ T.length := by rw [hT]; simp
    have hs : (Sre.M.runFor (2 * T.toArray.size + 30) (Sre.forSearch qCode T.toArray 0 pre.length T.toArray.size false)).outcome = some .failed := by
      refine search_none (by simpa using hplen) fun j h1 h2 => ?_
      obtain ⟨i, rfl⟩ := Nat.exists_eq_add_of_le h1
      have hlt : i < k := by
        have : pre.length + i < T.length := by simpa using h2
        rw [hT] at this; simp [rend] at this; exact this
      refine ⟨41, ?_, by decide⟩
      rw [List.getElem?_toArray, hT, app_get]
      simp [rend, List.getElem?_replicate, hlt]
    show wpAny _ _ (reNextFound _ _ _ >>= _) _ _ _
    refine wpAny_bind ?_
    refine toEnd (N := 2 * T.toArray.size + 30) (by simp; omega) rfl (.inr ⟨?_, ?_⟩)
    · simpa using hs
    have endJ : ∀ (h : Heap) (t : Nat) (its : List Value) (ps : List (Array UInt8)) (o : Obj) (tj : Tok) (n' : Nat), Kp h₀ h → h.get? Lp = some o → LstO its o → BytesAre its ps → flat ps = toB J → its ≠ [] →
        wpAny (Md w) A.in1 (call (.builtin "bytes.join") [.bytes #[] tj, .ref Lp] >>= fun text => (ret text : Sem Fin)) (fun fin s' => match fin with | .done f => R (.ok f) s' | .again c' => c'.quiet = true ∧ codeAny (Md w) A c' R s') (fun e s' => R (.error e) s') ⟨h, g, d, t, os⟩ := by
      intro h t its ps o tj n' hk ho hl hb hf hne
      refine wpAny_bind (join_spec ho hl hb hne ?_ fun t' tk' => wpAny_pure (hf ▸ hR h t' tk' hk))
      have h1 := flat_size ps #[]
      have h2 : (flat ps).size = (toB J).size := by rw [hf]
      have h3 : (toB J).size = J.length := by simp [toB]
      unfold flat at h2
      simp at h1
      omega
    have e0 : toB (List.take (0 - 0) (List.drop 0 T)) = #[] := by simp [toB]
    show wpAny _ _ (if (pre.length : Int).toNat < T.length then (reSlice _ 1 _ _ >>= _) else _) _ _ _
    rw [Int.toNat_natCast]
    by_cases hk0 : 0 < k
    · rw [if_pos (by rw [hT]; simp [rend]; exact hk0)]
      refine wpAny_bind (sliceB hTl fun tks => ?_)
      refine wpAny_bind (pushB hL hk ho hl (by omega) fun h' o' hk' ho' hl' => ?_)
      show wpAny _ _ (reSlice _ 1 0 0 >>= _) _ _ _
      refine wpAny_bind (sliceB hTl fun tkj => ?_)
      obtain ⟨hc', n', hd'⟩ := id hl'
      refine wpAny_bind (wpAny_seqItems (s := ⟨h', g, d, _, os⟩) ho' hd' ?_)
      rw [e0]
      show wpAny _ _ (if (its ++ [_]).toArray.isEmpty = true then _ else (call (.builtin "bytes.join") [_, .ref Lp] >>= fun text => (ret text : Sem Fin))) _ _ _
      rw [if_neg (by simp)]
      refine endJ h' _ _ _ o' _ n' hk' ho' hl' (hb.snoc _ _) ?_ (by simp)
      rw [flat_snoc, hf, hJ, toB_append]
      congr 2
      rw [hT, show ({ pattern := .ref 43, string := .bytes (toB (pre ++ rend k [])) tk, code := qCode, text := (pre ++ rend k []).toArray, kind := 1, groups := 0, pos := 0, lim := (pre ++ rend k []).length } : ReTarget).lim = (pre ++ rend k []).length from rfl]
      simp [rend, bare]
    · have hk00 : k = 0 := by omega
      rw [if_neg (by rw [hT]; simp [rend, hk00])]
      show wpAny _ _ (reSlice _ 1 0 0 >>= _) _ _ _
      refine wpAny_bind (sliceB hTl fun tkj => ?_)
      obtain ⟨hc', n', hd'⟩ := id hl
      refine wpAny_bind (wpAny_seqItems (s := ⟨h, g, d, _, os⟩) ho hd' ?_)
      rw [e0]
      show wpAny _ _ (if its.toArray.isEmpty = true then _ else (call (.builtin "bytes.join") [_, .ref Lp] >>= fun text => (ret text : Sem Fin))) _ _ _
      rw [if_neg (by simpa using hne rfl)]
      refine endJ h _ _ _ o _ n' hk ho hl hb ?_ (hne rfl)
      rw [hf, hJ, hk00]; simp [bare]
  | cons b r ih =>
    obtain ⟨nn, mm⟩ := b
    intro k n pre acc its ps o h t hT hJ hk ho hl hb hf hn hne hJl
    refine codeAny_builtin entry_subloop ?_
    rw [Around.under_plainId plain_subloop]
    unfold Builtin.«re.Pattern.sub.loop»
    refine wpAny_bind (whole (X.keeps hk) ?_)
    rw [litNo, tgtE]
    show wpAny _ _ ((pure () : Sem Unit) >>= _) _ _ _
    refine wpAny_bind (wpAny_pure ?_)
    have hQ : ∀ j c, [34, 92, 34, 41, 34][j]? = some c → T.toArray[pre.length + (k + nn) + j]? = some c := by
      intro j c hc
      rw [List.getElem?_toArray, hT, Nat.add_assoc, app_get]
      simp only [rend]
      rw [List.append_assoc, List.getElem?_append_right (by simp), List.getElem?_append_left]
      · simpa using hc
      · obtain ⟨hl, _⟩ := List.getElem?_eq_some_iff.mp hc
        simpa using hl
    obtain ⟨mch, e1, e2, e3, e4⟩ := search_found (T := T.toArray) (p := pre.length) (s := pre.length + (k + nn)) (Nat.le_add_right _ _) (fun j h1 h2 => by
      obtain ⟨i, rfl⟩ := Nat.exists_eq_add_of_le h1
      have hlt : i < k + nn := by omega
      rw [List.getElem?_toArray, hT, app_get]
      simp only [rend]
      rw [List.append_assoc, List.getElem?_append_left (by simpa using hlt)]
      by_cases hik : i < k
      · exact ⟨41, by rw [List.getElem?_append_left (by simpa using hik)]; simp [List.getElem?_replicate, hik], by decide⟩
      · exact ⟨40, by rw [List.getElem?_append_right (by simpa using hik)]; simp [List.getElem?_replicate]; omega, by decide⟩)
      (hQ 0 34 rfl) (hQ 1 92 rfl) (hQ 2 34 rfl) (hQ 3 41 rfl) (hQ 4 34 rfl)
    show wpAny _ _ (reNextFound _ _ _ >>= _) _ _ _
    refine wpAny_bind ?_
    refine toEnd (N := 2 * T.toArray.size + 30) (by simp; omega) e1 (.inl ⟨e2, ?_⟩)
    have hpl : (pre ++ (List.replicate k 41 ++ List.replicate nn 40 ++ [34, 92, 34, 41, 34])).length = pre.length + (k + nn) + 5 := by simp; omega
    have again2 : ∀ (its1 : List Value) (ps1 : List (Array UInt8)) (o1 : Obj) (h1 : Heap) (t1 : Nat), Kp h₀ h1 → h1.get? Lp = some o1 → LstO its1 o1 → BytesAre its1 ps1 → flat ps1 = toB (acc ++ (List.replicate k 41 ++ List.replicate nn 40)) → its1.length ≤ its.length + 1 →
        wpAny (Md w) A.in1 (updateSeq Lp (·.push (.bytes #[] tr)) >>= fun _ => (again (.builtin "re.Pattern.sub.loop" ⟨[.ref 43, .bytes (toB T) tk, .bytes #[] tr, rawInt 0, rawInt 0, rawInt ((n : Int) + 1), rawInt mch.handed, rawInt mch.handed, .bool (mch.handed == (pre.length + (k + nn))), .ref Lp, .bool false], []⟩) : Sem PySem.Fin))
          (fun fin s' => match fin with | .done f => R (.ok f) s' | .again c' => c'.quiet = true ∧ codeAny (Md w) A c' R s') (fun e s' => R (.error e) s') ⟨h1, g, d, t1, os⟩ := by
      intro its1 ps1 o1 h1 t1 hk1 ho1 hl1 hb1 hf1 hn1
      simp only [List.length_cons] at hn
      refine wpAny_bind (pushB hL hk1 ho1 hl1 (by omega) fun h2 o2 hk2 ho2 hl2 => ?_)
      refine wpAny_pure ⟨plainId_quiet plain_subloop _, ?_⟩
      have eb : (mch.handed == (pre.length + (k + nn))) = false := by rw [e4]; simp
      rw [eb, e4, ← hpl]
      refine ih mm (n + 1) _ (acc ++ (List.replicate k 41 ++ List.replicate nn 40)) _ (ps1 ++ [#[]]) o2 h2 t1 ?_ ?_ hk2 ho2 hl2 (hb1.snoc _ _) ?_ ?_ (fun _ => by simp) hJl
      · rw [hT]; simp [rend]
      · rw [hJ]; simp [bare]
      · rw [flat_snoc, hf1]; simp
      · rw [List.length_append]; simp; omega
    show wpAny _ _ (if (pre.length : Int).toNat < mch.start then (reSlice _ 1 _ _ >>= _) else _) _ _ _
    rw [Int.toNat_natCast, e3]
    simp only [List.length_cons] at hn
    by_cases hk0 : 0 < k + nn
    · rw [if_pos (by omega)]
      refine wpAny_bind (sliceB hTl fun tks => ?_)
      refine wpAny_bind (pushB hL hk ho hl (by omega) fun h' o' hk' ho' hl' => ?_)
      show wpAny _ _ ((pure (Value.bytes #[] tr) : Sem Value) >>= _) _ _ _
      refine wpAny_bind (wpAny_pure ?_)
      show wpAny _ _ (if (Value.bytes #[] tr != Value.none) = true then (updateSeq Lp _ >>= _) else _) _ _ _
      rw [if_pos (show (Value.bytes #[] tr != Value.none) = true from rfl)]
      refine again2 _ _ o' h' _ hk' ho' hl' (hb.snoc _ _) ?_ (by simp)
      rw [flat_snoc, hf, toB_append]
      congr 2
      rw [hT]
      have e5 : List.drop pre.length (pre ++ rend k ((nn, mm) :: r)) = (List.replicate k 41 ++ List.replicate nn 40) ++ ([34, 92, 34, 41, 34] ++ rend mm r) := by simp [rend]
      rw [e5, Nat.add_sub_cancel_left, List.take_append_of_le_length (by simp), List.take_of_length_le (by simp)]
    · rw [if_neg (by omega)]
      show wpAny _ _ ((pure (Value.bytes #[] tr) : Sem Value) >>= _) _ _ _
      refine wpAny_bind (wpAny_pure ?_)
      show wpAny _ _ (if (Value.bytes #[] tr != Value.none) = true then (updateSeq Lp _ >>= _) else _) _ _ _
      rw [if_pos (show (Value.bytes #[] tr != Value.none) = true from rfl)]
      refine again2 _ _ o h _ hk ho hl hb ?_ (by omega)
      have h1 : k = 0 := by omega
      have h2 : nn = 0 := by omega
      rw [hf, h1, h2]; simp
theorem slot_sub : Slot "re.Pattern" "sub" "re.Pattern.sub" :=
  .of (owner := "re.Pattern") (n := "sub") (by rw [typeLookup_type, builtinLookup_eq_fast]; kernel_rfl) (by decide +kernel) (by decide +kernel) (by decide +kernel)
    (by first | exact .inl (by decide +kernel) | exact .inr (by decide +kernel)) (by rw [isSubtype_type]; kernel_rfl)
theorem entry_sub : entryFor table "re.Pattern.sub" = some Builtin.«re.Pattern.sub» := by first | exact entryFor_of_tree (by kernel_rfl) | exact entryFor_of_fast (by kernel_rfl)
theorem args_sub (a b c : Value) : argsOk "re.Pattern.sub" ⟨[a, b, c], []⟩ := by unfold argsOk; kernel_rfl
theorem plainAttrs_re : PlainAttrs "re.Pattern" :=
  ⟨⟨"object.__getattribute__", by rw [typeLookup_type, builtinLookup_eq_fast]; kernel_rfl, by decide +kernel⟩, by rw [typeLookup_type, builtinLookup_eq_fast]; kernel_rfl⟩
theorem named_sub (a b : Value) : reNamed "re.Pattern.sub" "sub" ["repl", "string", "count"] 2 [a, b] [] = pure [some a, some b, none] := by kernel_rfl
theorem noCall (tr : Tok) : specialOf (.bytes #[] tr) "__call__" = pure none := by kernel_rfl
theorem noStr (tr : Tok) : asStr? (.bytes #[] tr) = pure none := by kernel_rfl
theorem buf_sub (tr : Tok) : Bytes.bufferQuiet? "re.Pattern.sub" (.bytes #[] tr) = pure (some #[]) := by kernel_rfl
theorem type_sub : typeOf (.builtin "re.Pattern.sub") = pure (.type "method_descriptor") := by show builtinType _ = _; rw [builtinType_eq_fast]; kernel_rfl
theorem sub_spec {Q : Value → Shared → Prop} {tk tr : Tok} {bs : List (Nat × Nat)} (X : Cx w h) (hT : (rend 0 bs).length ≤ 1000) (hJ : (bare 0 bs).length ≤ 1000) (hne : bs ≠ []) (hb : bs.length ≤ 100)
    (hQ : ∀ h' t tk', Kp h h' → Q (.bytes (toB (bare 0 bs)) tk') ⟨h', g, d, t, os⟩) :
    wpAny (Md w) A (call (.builtin "re.Pattern.sub") [.ref 43, .bytes #[] tr, .bytes (toB (rend 0 bs)) tk]) Q E ⟨h, g, d, t, os⟩ := by
  have h43 := X.X 43 _ (by k_is)
  have hTp : (⟨h, g, d, t, os⟩ : Shared).TypeIs (.ref 43) "re.Pattern" := ⟨_, h43, rfl⟩
  refine wpAny_call (codeAny_call_builtin slot_sub.plain entry_sub (slot_sub.check _ _ _ _ _ _ _ _ hTp (args_sub _ _ _) ?_))
  show wpAny _ _ (reSubstitute "re.Pattern.sub" "sub" false _) _ _ _
  unfold reSubstitute
  show wpAny _ _ (reNamed "re.Pattern.sub" "sub" ["repl", "string", "count"] 2 [_, _] [] >>= _) _ _ _
  rw [named_sub]
  refine wpAny_bind (wpAny_pure ?_)
  show wpAny _ _ ((pure (0 : Int) : Sem Int) >>= _) _ _ _
  refine wpAny_bind (wpAny_pure ?_)
  show wpAny _ _ (specialOf (.bytes #[] tr) "__call__" >>= _) _ _ _
  rw [noCall]
  refine wpAny_bind (wpAny_pure ?_)
  show wpAny _ _ (asStr? (.bytes #[] tr) >>= _) _ _ _
  rw [noStr]
  refine wpAny_bind (wpAny_pure ?_)
  show wpAny _ _ (Bytes.bufferQuiet? "re.Pattern.sub" (.bytes #[] tr) >>= _) _ _ _
  rw [buf_sub]
  refine wpAny_bind (wpAny_pure ?_)
  show wpAny _ _ ((pure (!(#[] : Array UInt8).contains 92) : Sem Bool) >>= _) _ _ _
  rw [show (!(#[] : Array UInt8).contains 92) = true by simp]
  refine wpAny_bind (wpAny_pure ?_)
  show wpAny _ _ ((pure (Value.bytes #[] tr, 0) : Sem (Value × Int)) >>= _) _ _ _
  refine wpAny_bind (wpAny_pure ?_)
  show wpAny _ _ (holding [_] (reWholeTarget (.ref 43) (.bytes (toB (rend 0 bs)) tk)) >>= _) _ _ _
  refine wpAny_bind (wpAny_holding (whole X ?_))
  show wpAny _ _ (newList [] >>= fun v => (again (.builtin "re.Pattern.sub.loop" ⟨[.ref 43, .bytes (toB (rend 0 bs)) tk, .bytes #[] tr, rawInt 0, rawInt 0, rawInt 0, rawInt 0, rawInt 0, .bool false, v, .bool false], []⟩) : Sem PySem.Fin)) _ _ _
  refine wpAny_bind (wpAny_newList ?_)
  refine wpAny_pure ⟨plainId_quiet plain_subloop _, ?_⟩
  refine sub_loop (T := rend 0 bs) (h₀ := h) X (rend_small bs 0) hT (fresh_none h) (bare 0 bs) (fun h' t' tk' k => hQ h' t' tk' k) bs 0 0 [] [] [] [] (LstP [] 0) _ _ rfl rfl (fun _ _ e => Heap.get?_push_of_some _ e) (Heap.get?_push_size _ rfl) (.lst _ _) .nil rfl (by simp; omega) (fun e => absurd e hne) hJ
end
end Mine
set_option maxHeartbeats 400000
namespace Mine
section
variable {w : World} {A : Around} {E : Value → Shared → Prop} {h h₀ H : Heap} {ex : List Addr} {g : Array GenState} {d : Drawn} {t : Nat} {os : OsState} {env : Env} {m : Str → Option Value} {mu : List (Addr × Obj)}
open Builtin
theorem slot_bcount : Slot "bytes" "count" "bytes.count" :=
  .of (owner := "bytes") (n := "count") (by rw [typeLookup_type, builtinLookup_eq_fast]; kernel_rfl) (by decide +kernel) (by decide +kernel) (by decide +kernel)
    (by first | exact .inl (by decide +kernel) | exact .inr (by decide +kernel)) (by rw [isSubtype_type]; kernel_rfl)
theorem entry_bcount : entryFor table "bytes.count" = some Builtin.«bytes.count» := by first | exact entryFor_of_tree (by kernel_rfl) | exact entryFor_of_fast (by kernel_rfl)
theorem args_bcount (a b : Value) : argsOk "bytes.count" ⟨[a, b], []⟩ := by unfold argsOk; kernel_rfl
theorem type_bcount : typeOf (.builtin "bytes.count") = pure (.type "method_descriptor") := by show builtinType _ = _; rw [builtinType_eq_fast]; kernel_rfl
theorem search_eq (D : Array UInt8) (c : UInt8) (tk tc : Tok) : Bytes.searchArgs .bytes "count" ⟨[.bytes D tk, .bytes #[c] tc], []⟩ = pure (D, #[c], if (Bytes.window D.size none none).2 - (Bytes.window D.size none none).1 < (#[c] : Array UInt8).size then none else some ((Bytes.window D.size none none).1.toNat, (Bytes.window D.size none none).2.toNat)) := by kernel_rfl
noncomputable def occF (D : Array UInt8) (c : UInt8) (acc : List Nat × Nat) (i : Nat) : List Nat × Nat := if i ≥ acc.2 && D.extract i (i + (#[c] : Array UInt8).size) == #[c] then (i :: acc.1, i + (#[c] : Array UInt8).size) else acc
theorem ext_one (D : Array UInt8) (c : UInt8) (i : Nat) (hi : i < D.size) : (D.extract i (i + (#[c] : Array UInt8).size) == #[c]) = (D[i] == c) := by
  have e : D.extract i (i + (#[c] : Array UInt8).size) = #[D[i]] := by
    apply Array.toList_inj.mp
    rw [Array.toList_extract, List.extract_eq_take_drop]
    show List.take (i + 1 - i) (List.drop i D.toList) = [D[i]]
    rw [Nat.add_sub_cancel_left, List.drop_eq_getElem_cons (by simpa using hi)]
    simp
  rw [e]
  by_cases h : D[i] = c
  · simp [h]
  · have h1 : (#[D[i]] == #[c]) = false := by simpa using h
    rw [h1]; simp [h]
theorem occ_count (D : Array UInt8) (c : UInt8) : ∀ n, n ≤ D.size → (((List.range n).map (· + 0)).foldl (occF D c) ([], 0)).1.length = (D.toList.take n).count c ∧ (((List.range n).map (· + 0)).foldl (occF D c) ([], 0)).2 ≤ n
  | 0, _ => by simp
  | n + 1, h => by
    obtain ⟨h1, h2⟩ := occ_count D c n (by omega)
    rw [List.range_succ, List.map_append, List.foldl_append]
    generalize ((List.range n).map (· + 0)).foldl (occF D c) ([], 0) = r at h1 h2
    simp only [List.map_cons, List.map_nil, List.foldl_cons, List.foldl_nil, Nat.add_zero]
    have hl : n < D.toList.length := by simp; omega
    rw [List.take_succ_eq_append_getElem hl, List.count_append]
    unfold occF
    rw [ext_one D c n (by omega), show (decide (n ≥ r.2)) = true from decide_eq_true h2, Bool.true_and]
    have e : D.toList[n] = D[n] := by simp
    rw [e]
    by_cases q : D[n] = c
    · simp [q, h1]
    · have q' : (D[n] == c) = false := by simpa using q
      rw [q']
      simp [h1, q]
      omega
theorem count_spec {Q : Value → Shared → Prop} {D : Array UInt8} {c : UInt8} {tk tc : Tok} (hQ : ∀ t t', Q (.int ((D.toList.count c : Nat) : Int) t') ⟨h, g, d, t, os⟩) :
    wpAny (Md w) A (call (.builtin "bytes.count") [.bytes D tk, .bytes #[c] tc]) Q E ⟨h, g, d, t, os⟩ := by
  refine wpAny_call_entry slot_bcount (typeIs_bytes _ _ _) entry_bcount ?_ (args_bcount _ _)
  show wpAny _ _ (Bytes.searchArgs .bytes "count" _ >>= _) _ _ _
  rw [search_eq]
  refine wpAny_bind (wpAny_pure ?_)
  have hw : Bytes.window D.size none none = (0, (D.size : Int)) := by
    unfold Bytes.window
    simp
    rw [if_neg (by omega)]
    omega
  rw [hw]
  by_cases h0 : D.size = 0
  · rw [if_pos (by show (D.size : Int) - 0 < ((1 : Nat) : Int); omega)]
    have e : D.toList.count c = 0 := by
      have : D.toList = [] := by
        apply List.eq_nil_of_length_eq_zero; simpa using h0
      rw [this]; rfl
    show wpAny _ _ (retInt 0) _ _ _
    refine wpAny_bind (wpAny_mkInt (wpAny_pure ⟨_, rfl, ?_⟩))
    have := hQ (t + 1) t
    rw [e] at this
    exact this
  · rw [if_neg (by simp; omega)]
    show wpAny _ _ (if (#[c] : Array UInt8).isEmpty = true then _ else retInt _) _ _ _
    rw [if_neg (by simp)]
    refine wpAny_bind (wpAny_mkInt (wpAny_pure ⟨_, rfl, ?_⟩))
    have e : (Bytes.occurrences D #[c] (0 : Int).toNat (D.size : Int).toNat).length = D.toList.count c := by
      unfold Bytes.occurrences
      have h1 := (occ_count D c D.size (Nat.le_refl _)).1
      rw [List.take_of_length_le (by simp)] at h1
      rw [List.length_reverse]
      exact h1
    rw [e]
    exact hQ _ _
end
end Mine
set_option maxHeartbeats 200000
namespace Mine

noncomputable def sLt (x y : Str) : Bool := decide (x.cps.toList < y.cps.toList)
noncomputable def cmpV (way : Int) (a : Int) (x : Str) (b : Int) (y : Str) : Int := if a < b then -1 else if b < a then 1 else if sLt x y then -way else if sLt y x then way else 0

theorem retI {Q : Value → Shared → Prop} {i j : Int} {tk : Tok} {s : Shared} (e : i = j) (q : Q (.int j tk) s) : Q (.int i tk) s := e ▸ q
theorem compare_spec {w : World} {A : Around} {E : Value → Shared → Prop} {h : Heap} {g : Array GenState} {d : Drawn} {t : Nat} {os : OsState} {Q : Value → Shared → Prop}
    {c T T1 T2 l r : Addr} {oc od : Obj} {way a b : Int} {x y : Str} {i1 i2 i3 i4 i5 i6 i7 i8 : Tok}
    (C : Cx w h) (hroom : A.depth < recursionLimit) (hh : A.handled = none) (I : PySem.W.InstAt h c oc 166 (some od)) (hl : lookIn (Str.ofString "comp_select_list") od = some (some (.ref T)))
    (hT : h.IsTuple T #[.ref T1, .ref T2]) (hT1 : h.IsTuple T1 #[.int 0 i1, .int 1 i2]) (hT2 : h.IsTuple T2 #[.int 1 i3, .int way i4]) (hL : h.IsTuple l #[.int a i5, .str x i6]) (hR : h.IsTuple r #[.int b i7, .str y i8])
    (hQ : ∀ h' t t', Kp h h' → Q (.int (cmpV way a x b y) t') ⟨h', g, d, t, os⟩) :
    wpAny (Md w) A (call (.ref 163) [.ref c, .ref l, .ref r]) Q E ⟨h, g, d, t, os⟩ := by
  refine enterCall (binds := [(Str.ofString "self", .ref c), (Str.ofString "left", .ref l), (Str.ofString "right", .ref r)]) C (by k_is) (by k_is) hroom (BindsTo.of_eq rfl) (locs rfl) (fun L h₁ t S => ?_) (by decide)
  refine xFor ?_
  refine attrName (ldL S rfl ?_)
  refine attrOwn (C.keeps S.keep) (inst_keeps I S.keep) (by k_is) (by k_is) (by k_is) (by k_is) hl rfl ?_
  refine wpAny_pyIter_tuple (tup_keeps hT (S.keep _)) ?_
  have S1 := S.alloc { cls := .type "tuple_iterator", data := .fields #[.ref T, .int 0 0] } rfl
  refine forTup (vs := [.ref T1, .ref T2]) (fun i H ex m mu => A3 (m "left" = some (.ref l)) (m "right" = some (.ref r)) ((i = 0 ∨ (i = 1 ∧ a = b) ∨ (i = 2 ∧ a = b ∧ sLt x y = false ∧ sLt y x = false)))) hh (fun i H ex h m mu oI S _ => tup_keeps hT (S.keep _)) S1 ⟨rfl, rfl⟩ ⟨rfl, rfl, .inl rfl⟩ ?_ ?_
  · intro i v oI H ex h2 m mu t2 hv qq10 hI S2
    refine nameT3 fun Q' hQ' => ?_
    obtain ⟨e1, e2, hc⟩ := qq10
    rcases hc with rfl | ⟨rfl, eab⟩ | ⟨rfl, _⟩
    · cases hv
      refine goTup (S2.at 0 rfl) hI (asgPair S2 hh (tup_keeps hT1 (S2.keep _)) fun h3 t3 S3 => ?_)
      refine xAssign (itemTup (ldL S3 e1 (ldL S3 rfl ⟨_, _, _, _, 0, .int a i5, rfl, rfl, tup_keeps hL (S3.keep _), by decide, by decide, rfl, rfl, stL S3 fun h4 S4 => ?_⟩)))
      refine xAssign (itemTup (ldL S4 e2 (ldL S4 rfl ⟨_, _, _, _, 0, .int b i7, rfl, rfl, tup_keeps hR (S4.keep _), by decide, by decide, rfl, rfl, stL S4 fun h5 S5 => ?_⟩)))
      refine xIf (wpAny_isTrue_Compare1 (ldL S5 rfl (ldL S5 rfl (lt_int (wpAny_truthy_bool ?_)))))
      split
      · rename_i hlt
        refine xRet (wpAny_UnaryOp (ldL S5 rfl (neg_int ?_)))
        have e : -(1 : Int) = cmpV way a x b y := by simp [cmpV, of_decide_eq_true hlt]
        exact hQ' (.ret _) _ (retI e (hQ _ _ _ S5.keep))
      · rename_i hlt
        refine xNil (xIf (wpAny_isTrue_Compare1 (ldL S5 rfl (ldL S5 rfl (gt_int (wpAny_truthy_bool ?_))))))
        split
        · rename_i hgt
          refine xRet (ldL S5 rfl ?_)
          have e : (1 : Int) = cmpV way a x b y := by
            have h1 : ¬ a < b := by simpa using hlt
            simp [cmpV, h1, of_decide_eq_true hgt]
          exact hQ' (.ret _) _ (retI e (hQ _ _ _ S5.keep))
        · rename_i hgt
          refine xNil (xNil (hQ' _ _ (TurnEnd.next S5 ⟨e1, e2, .inr (.inl ⟨rfl, ?_⟩)⟩)))
          simp at hlt hgt
          omega
    · cases hv
      subst eab
      refine goTup (S2.at 0 rfl) hI (asgPair S2 hh (tup_keeps hT2 (S2.keep _)) fun h3 t3 S3 => ?_)
      refine xAssign (itemTup (ldL S3 e1 (ldL S3 rfl ⟨_, _, _, _, 1, .str x i6, rfl, rfl, tup_keeps hL (S3.keep _), by decide, by decide, rfl, rfl, stL S3 fun h4 S4 => ?_⟩)))
      refine xAssign (itemTup (ldL S4 e2 (ldL S4 rfl ⟨_, _, _, _, 1, .str y i8, rfl, rfl, tup_keeps hR (S4.keep _), by decide, by decide, rfl, rfl, stL S4 fun h5 S5 => ?_⟩)))
      refine xIf (wpAny_isTrue_Compare1 (ldL S5 rfl (ldL S5 rfl (lt_str (wpAny_truthy_bool ?_)))))
      have na : ¬ a < a := Int.lt_irrefl a
      split
      · rename_i hlt
        refine xRet (wpAny_UnaryOp (ldL S5 rfl (neg_int ?_)))
        have e : -way = cmpV way a x a y := by
          have q := of_decide_eq_true hlt
          unfold cmpV sLt
          rw [if_neg na, if_neg na, if_pos (decide_eq_true q)]
        exact hQ' (.ret _) _ (retI e (hQ _ _ _ S5.keep))
      · rename_i hlt
        refine xNil (xIf (wpAny_isTrue_Compare1 (ldL S5 rfl (ldL S5 rfl (P.gt_str (wpAny_truthy_bool ?_))))))
        split
        · rename_i hgt
          refine xRet (ldL S5 rfl ?_)
          have e : way = cmpV way a x a y := by
            unfold cmpV sLt
            rw [if_neg na, if_neg na, if_neg hlt, if_pos hgt]
          exact hQ' (.ret _) _ (retI e (hQ _ _ _ S5.keep))
        · rename_i hgt
          refine xNil (xNil (hQ' _ _ (TurnEnd.next S5 ⟨e1, e2, .inr (.inr ⟨rfl, rfl, ?_, ?_⟩)⟩)))
          · simpa [sLt] using hlt
          · simpa [sLt] using hgt
    · cases hv
  · rintro H ex h2 m mu t2 ⟨e1, e2, hc⟩ S2
    rcases hc with hc | ⟨hc, _⟩ | ⟨_, rfl, hx, hy⟩
    · cases hc
    · cases hc
    · refine xRet (cI ?_)
      have e : (0 : Int) = cmpV way a x a y := by simp [cmpV, hx, hy]
      exact retI e (hQ _ _ _ S2.keep)
end Mine
set_option maxHeartbeats 400000
namespace Mine
section
variable {w : World} {A : Around} {E : Value → Shared → Prop} {h h₀ H : Heap} {ex : List Addr} {g : Array GenState} {d : Drawn} {t : Nat} {os : OsState} {env : Env} {m : Str → Option Value} {mu : List (Addr × Obj)}
noncomputable def bdep : List (Nat × Nat) → Int
  | [] => 0
  | (n, m) :: r => (n : Int) - m + bdep r
theorem toB_count (c : Nat) (hc : c < 256) : ∀ l : List Nat, (∀ x ∈ l, x < 256) → (toB l).toList.count c.toUInt8 = l.count c
  | [], _ => rfl
  | x :: r, h => by
    have ih := toB_count c hc r fun y hy => h y (.tail _ hy)
    have hx := h x (.head _)
    unfold toB at ih ⊢
    simp only [List.map_cons] at ih ⊢
    rw [List.count_cons, List.count_cons]
    have e : (x.toUInt8 == c.toUInt8) = (x == c) := by
      by_cases q : x = c
      · simp [q]
      · have : ¬ x.toUInt8 = c.toUInt8 := fun e => by
          have e2 := congrArg UInt8.toNat e
          simp [Nat.toUInt8, UInt8.toNat_ofNat'] at e2
          omega
        rw [beq_eq_false_iff_ne.mpr this, beq_eq_false_iff_ne.mpr q]
    rw [e, ← ih]
theorem bare_counts : ∀ (bs : List (Nat × Nat)) (k : Nat), (((bare k bs).count 40 : Nat) : Int) - ((bare k bs).count 41 : Nat) = bdep bs - k
  | [], k => by simp [bare, bdep, List.count_replicate]
  | (n, m) :: r, k => by
    have ih := bare_counts r m
    simp only [bare, bdep, List.count_append, List.count_replicate]
    simp
    omega
theorem bare_small : ∀ (bs : List (Nat × Nat)) (k : Nat), ∀ c ∈ bare k bs, c < 256
  | [], k, c, hc => by simp [bare] at hc; omega
  | (n, m) :: r, k, c, hc => by
    simp only [bare, List.mem_append, List.mem_replicate] at hc
    rcases hc with (h | h) | h
    · omega
    · omega
    · exact bare_small r m c h
theorem methBytes {D : Array UInt8} {tk : Tok} {name : Str} {id : String} {pl : Sem Bool} {Q : Value × List Value → Shared → Prop} (slot : Slot "bytes" name id) (ty : typeOf (.builtin id) = pure (.type "method_descriptor")) (hQ : Q (.builtin id, [.bytes D tk]) ⟨h, g, d, t, os⟩) :
    wpAny (Md w) A (getMethod (.bytes D tk) name pl) Q E ⟨h, g, d, t, os⟩ :=
  getMethod_builtin (s := ⟨h, g, d, t, os⟩) (typeIs_bytes _ _ _) PySem.W.FB.plainAttrs_bytes slot ty (fun a e => by cases e) hQ
theorem cBy {x : List UInt8} {k : Nat} {pos : Pos} {Q : Value → Shared → Prop} (hQ : Q (.bytes x.toArray t) ⟨h, g, d, t + 1, os⟩) : wpAny (Md w) A (eval (.Constant (.bytes x) k pos) env) Q E ⟨h, g, d, t, os⟩ := PySem.W.Constant_bytes hQ
theorem paren_depth_spec {Q : Value → Shared → Prop} {args : List Value} {tk : Tok} {d0 : Int} {bs : List (Nat × Nat)} (C : Cx w h) (hroom : A.depth < recursionLimit)
    (ha : (∃ td, args = [.bytes (toB (rend 0 bs)) tk, .int d0 td]) ∨ (args = [.bytes (toB (rend 0 bs)) tk] ∧ d0 = 0)) (hT : (rend 0 bs).length ≤ 1000) (hJ : (bare 0 bs).length ≤ 1000) (hne : bs ≠ []) (hb : bs.length ≤ 100)
    (hQ : ∀ h' t tk', Kp h h' → Q (.int (d0 + bdep bs) tk') ⟨h', g, d, t, os⟩) : wpAny (Md w) A (call (.ref 51) args) Q E ⟨h, g, d, t, os⟩ := by
  obtain ⟨tj, ha⟩ : ∃ tj, (args = [.bytes (toB (rend 0 bs)) tk, .int d0 tj]) ∨ (args = [.bytes (toB (rend 0 bs)) tk] ∧ d0 = 0 ∧ tj = 335) := by
    rcases ha with ⟨ti, h⟩ | ⟨h1, h2⟩
    · exact ⟨ti, .inl h⟩
    · exact ⟨_, .inr ⟨h1, h2, rfl⟩⟩
  refine enterCall (binds := [(Str.ofString "data", .bytes (toB (rend 0 bs)) tk), (Str.ofString "depth", .int d0 tj)]) C (by k_is) (by k_is) hroom (by
    rcases ha with rfl | ⟨rfl, rfl, rfl⟩
    · exact binds_K C.X rfl (by k_is) rfl rfl rfl
    · exact binds_K C.X rfl (by k_is) rfl rfl rfl) (locs rfl) (fun L h₁ t S => ?_) (by decide)
  refine xAssign (MethodCall_ (ldG C S (by k_is) ?_) (by rfl))
  have h43 := (C.keeps S.keep).X 43 _ (by k_is)
  refine getMethod_builtin (s := ⟨h₁, g, d, _, os⟩) ⟨_, h43, rfl⟩ plainAttrs_re slot_sub type_sub (fun a e => by cases e; exact ⟨_, h43, rfl⟩) ?_
  refine cwBi (spliced_more (cBy (spliced_more (ldL S rfl (spliced_none ?_)))))
  refine sub_spec (C.keeps S.keep) hT hJ hne hb fun h2 t2 tk2 k2 => ?_
  have S2 := S.keeps k2
  refine stL S2 fun h3 S3 => ?_
  have cnt : ∀ c, c < 256 → ((toB (bare 0 bs)).toList.count c.toUInt8) = (bare 0 bs).count c := fun c hc => toB_count c hc _ (bare_small bs 0)
  refine xRet (wpAny_BinOp (wpAny_BinOp (ldL S3 rfl ?_)))
  refine MethodCall_ (ldL S3 rfl (methBytes slot_bcount type_bcount (cwBi (spliced_more (cBy (spliced_none (count_spec fun t4 tk4 => addI ?_))))))) (by rfl)
  refine MethodCall_ (ldL S3 rfl (methBytes slot_bcount type_bcount (cwBi (spliced_more (cBy (spliced_none (count_spec fun t5 tk5 => subI ?_))))))) (by rfl)
  have e1 := cnt 40 (by decide)
  have e2 := cnt 41 (by decide)
  have e3 := bare_counts bs 0
  refine retI ?_ (hQ _ _ _ S3.keep)
  have f1 : (Nat.toUInt8 40) = 40 := rfl
  have f2 : (Nat.toUInt8 41) = 41 := rfl
  rw [f1] at e1
  rw [f2] at e2
  rw [e1, e2]
  omega
end
end Mine
set_option maxHeartbeats 400000
namespace Mine
section
variable {w : World} {A : Around} {E : Value → Shared → Prop} {h h₀ H : Heap} {ex : List Addr} {g : Array GenState} {d : Drawn} {t : Nat} {os : OsState} {env : Env} {m : Str → Option Value} {mu : List (Addr × Obj)}
open MeetsSeq
theorem reads_tup {T : Addr} {its : Array Value} {xs : List PyData} {as : List Addr} (ht : h.IsTuple T its) (ra : ReadsAll h its.toList xs as) : Reads h (.ref T) (.tuple xs) as := by
  obtain ⟨o, ho, hc, n, hd⟩ := ht
  exact .tuple ho hc hd ra
theorem ws_equal {Q : Value → Shared → Prop} {x y : Addr} {rx ry : List Int × Nat × Nat × Nat} (C : Cx w h) (hroom : A.depth < recursionLimit) (hu : A.units + 70 < cLine) (hx : WsO h x rx) (hy : WsO h y ry)
    (hQ : ∀ h' t, Kp h h' → Q (.bool (decide (rx.1 = ry.1) && decide (rx.2.1 = ry.2.1))) ⟨h', g, d, t, os⟩) : wpAny (Md w) A (call (.ref 263) [.ref x, .ref y]) Q E ⟨h, g, d, t, os⟩ := by
  obtain ⟨dx, es, k, N, T, vs, t1, t2, t3, hx1, hx2, hx3, hx4, hx5, hx6, hx7, hx8, hx9⟩ := hx
  obtain ⟨dy, es', k', N', T', vs', t1', t2', t3', hy1, hy2, hy3, hy4, hy5, hy6, hy7, hy8, hy9⟩ := hy
  refine enterCall (binds := [(Str.ofString "self", .ref x), (Str.ofString "other", .ref y)]) C (by k_is) (by k_is) hroom (BindsTo.of_eq rfl) (locs rfl) (fun L h₁ t S => ?_) (by decide)
  refine xRet (wpAny_Compare1 (attrName (ldL S rfl ?_)))
  refine attrOwn (C.keeps S.keep) (instOwn (S.keep _ _ hx1) (S.keep _ _ hx2)) (by k_is) (by k_is) (by k_is) (by k_is) hx5 rfl ?_
  refine attrName (ldL S rfl ?_)
  refine attrOwn (C.keeps S.keep) (instOwn (S.keep _ _ hy1) (S.keep _ _ hy2)) (by k_is) (by k_is) (by k_is) (by k_is) hy5 rfl ?_
  have r1 : Reads h₁ (.ref N) (.tuple [.tuple (rx.1.map PyData.int), .int rx.2.1]) _ := reads_tup (tup_keeps hx6 (S.keep _)) (.cons (reads_tup (tup_keeps hx7 (S.keep _)) (readsAll_of_ints hx8)) (.cons (.int _ _) .nil))
  have r2 : Reads h₁ (.ref N') (.tuple [.tuple (ry.1.map PyData.int), .int ry.2.1]) _ := reads_tup (tup_keeps hy6 (S.keep _)) (.cons (reads_tup (tup_keeps hy7 (S.keep _)) (readsAll_of_ints hy8)) (.cons (.int _ _) .nil))
  have sh : ∀ (c : List Int) (b : Int), SeqAt.shaped (.tuple [.tuple (c.map PyData.int), .int b]) = true := by
    intro c b
    unfold SeqAt.shaped
    have h1 := PyProof.Rows.depthAll_ints c
    simp [PyData.canLay0, PyData.canLayAll0, W.canLayAll0_ints, PyData.depth, PyData.depthAll, h1]
  refine eq_dataH (s := ⟨h₁, g, d, _, os⟩) r1 r2 (sh _ _) (sh _ _) (by show A.units + 3 + 64 < _; omega) ?_
  have e : PyData.eqv (.tuple [.tuple (rx.1.map PyData.int), .int rx.2.1]) (.tuple [.tuple (ry.1.map PyData.int), .int ry.2.1]) = (decide (rx.1 = ry.1) && decide (rx.2.1 = ry.2.1)) := by
    simp [PyData.eqv, PyData.eqvAll, ked_eqvAll]
    congr 1
    by_cases q : rx.2.1 = ry.2.1
    · simp [q]
    · simp [q]
      omega
  rw [e]
  exact hQ _ _ S.keep
end
end Mine
set_option maxHeartbeats 400000
namespace Mine
section
variable {w : World} {A : Around} {E : Value → Shared → Prop} {h h₀ H : Heap} {ex : List Addr} {g : Array GenState} {d : Drawn} {t : Nat} {os : OsState} {env : Env} {m : Str → Option Value} {mu : List (Addr × Obj)} {Q : Value → Shared → Prop} {vs ws : List Value} {l b : Addr}
theorem tailTup {value slice : Expr} {T : Addr} {i : Int} {u : Tok} {k : Nat} {x : Value} (ht : h.IsTuple T vs.toArray) (hi : i = k) (hx : vs[k]? = some x) (hz : vs.length ≤ 100000) (hQ : Q x ⟨h, g, d, t, os⟩)
    (hs : subscripted slice false (.ref T) (.int i u) = operate [.ref T, .int i u] (getItem (.ref T) (.int i u)) := by with_unfolding_all rfl) :
    wpAny (Md w) A (subscriptTail value slice (.ref T) (.int i u)) Q E ⟨h, g, d, t, os⟩ := by
  subst hi
  obtain ⟨hl, _⟩ := List.getElem?_eq_some_iff.mp hx
  exact item_tupleT (s := ⟨h, g, d, t, os⟩) ht (by omega) (by omega) (seqIndex_of (Int.natCast_nonneg _) (by exact_mod_cast hl)) (by simpa using hx) hQ hs
theorem tailLst {value slice : Expr} {i : Int} {u : Tok} {k : Nat} {x : Value} (ht : h.IsList l vs.toArray) (hi : i = k) (hx : vs[k]? = some x) (hz : vs.length ≤ 100000) (hQ : Q x ⟨h, g, d, t, os⟩)
    (hs : subscripted slice false (.ref l) (.int i u) = operate [.ref l, .int i u] (getItem (.ref l) (.int i u)) := by with_unfolding_all rfl) :
    wpAny (Md w) A (subscriptTail value slice (.ref l) (.int i u)) Q E ⟨h, g, d, t, os⟩ := by
  subst hi
  obtain ⟨hl, _⟩ := List.getElem?_eq_some_iff.mp hx
  exact tail_any (s := ⟨h, g, d, t, os⟩) ht.typeIs slot_list_getitem.lookup (wpAny_getItem_list ht (Int.natCast_nonneg _) (by omega) (by simpa using hx) hQ) hs
theorem methList {name : Str} {id : String} {pl : Sem Bool} {o : Obj} {Q : Value × List Value → Shared → Prop} (ho : h.get? l = some o) (hd : o.dict = none) (hc : o.cls = .type "list") (slot : Slot "list" name id) (ty : typeOf (.builtin id) = pure (.type "method_descriptor")) (hQ : Q (.builtin id, [.ref l]) ⟨h, g, d, t, os⟩) :
    wpAny (Md w) A (getMethod (.ref l) name pl) Q E ⟨h, g, d, t, os⟩ :=
  getMethod_builtin (s := ⟨h, g, d, t, os⟩) ⟨o, ho, hc⟩ PySem.F.plainAttrs_list slot ty (fun a e => by cases e; exact ⟨_, ho, hd⟩) hQ
theorem extL {L : Addr} {i k k2 : Nat} (S : St h₀ H ex L h m mu) (hi : mu[i]? = some (l, LstP vs k)) (hb : h.get? b = some (LstP ws k2)) (hne : b ≠ l) (hz : vs.length + ws.length ≤ 100000)
    (hQ : ∀ h' k', St h₀ H ex L h' m (mu.set i (l, LstP (vs ++ ws) k')) → Q .none ⟨h', g, d, t, os⟩) : wpAny (Md w) A (call (.builtin "list.extend") [.ref l, .ref b]) Q E ⟨h, g, d, t, os⟩ := by
  have hl := S.at i hi
  refine call_meets (s := ⟨h, g, d, t, os⟩) PySem.F.slot_list_extend ⟨_, hl, rfl⟩ PySem.F.entry_list_extend (PySem.F.args_list_extend_2 _ _) (AutoSeq1.list_extend_list_list_0 l vs.toArray k b ws.toArray k2 (by simp [Builtin.List.listTooLong, sizeLine]; omega) (by simp [sizeLine]; omega) (by simp [sizeLine]; omega)) ⟨hl, hb, ?_⟩
  have e := IsL.update (h := h) (l := l) (items := vs.toArray) (n := k) hl (fun xs => xs ++ ws.toArray)
  have e2 : vs.toArray ++ ws.toArray = (vs ++ ws).toArray := by simp
  rw [e2] at e
  exact hQ _ _ (S.set i hi (LstP.notTup _ _) (Heap.SameBut.update ..) e)
theorem mulB {x : List UInt8} {n : Int} {tx u : Tok} (hb : x ≠ []) (h0 : 0 ≤ n) (hn : n ≤ 100000) (hs : x.length ≤ 16) (hQ : ∀ t' k, Q (.bytes ((List.replicate n.toNat x).flatten).toArray t') ⟨h, g, d, k, os⟩) :
    wpAny (Md w) A (binaryOp .Mult (.bytes x.toArray tx) (.int n u)) Q E ⟨h, g, d, t, os⟩ := bytes_mul_any (s := ⟨h, g, d, t, os⟩) hb (by omega) (by omega) hs hQ
theorem addB {x y : List Nat} {tx u : Tok} (hsz : x.length + y.length ≤ 100000) (hQ : ∀ t' k, Q (.bytes (toB (x ++ y)) t') ⟨h, g, d, k, os⟩) :
    wpAny (Md w) A (binaryOp .Add (.bytes (toB x) tx) (.bytes (toB y) u)) Q E ⟨h, g, d, t, os⟩ := by
  unfold toB at hQ ⊢
  exact bytes_add_K (s := ⟨h, g, d, t, os⟩) (d := (x ++ y).map (·.toUInt8)) (by simp; omega) (by simp) hQ

noncomputable def rowOf (cnt : List Int) : List Int := (List.range cnt.length).reverse.flatMap fun x => List.replicate (cnt.getD x 0).toNat (x : Int)
/-- the brackets' answer: none where a piece falls below nought -/
noncomputable def brGo (cnt row : List Int) : Nat → Nat → Int → Bool
  | 0, _, _ => true
  | fuel + 1, k, depth =>
    if row.getD (k - 1) 0 < (k : Int) then true
    else if depth + ((cnt.drop k).sum - (row.getD (k - 1) 0 + 1)) < 0 then false else brGo cnt row fuel (k + 1) (depth + ((cnt.drop k).sum - (row.getD (k - 1) 0 + 1)))
noncomputable def brackets (cnt : List Int) (n nt : Nat) : Bool := brGo cnt (rowOf cnt) (rowOf cnt).length 1 0 && decide (((n : Int) - nt).fmod 2 = 0)

theorem rngDown {L : Addr} {a : Int} {ta tb tc : Tok} {n : Nat} {R : Value → Shared → Prop} (S : St h₀ H ex L h m mu) (hn : a = (n : Int) - 1) (hb : n ≤ 1000000)
    (hQ : ∀ h' I t, St h₀ H ex L h' m ((I, RngO ((n : Int) - 1) n (-1)) :: mu) → R (.ref I) ⟨h', g, d, t, os⟩) :
    wpAny (Md w) A (call (.type "range") [.int a ta, .int (-1) tb, .int (-1) tc]) (fun x s₁ => wpAny (Md w) A (pyIter x) R E s₁) E ⟨h, g, d, t, os⟩ := by
  subst hn
  refine call_range_3 (s := ⟨h, g, d, t, os⟩) (by decide) ?_ (Or.inl (PyProof.noPylong_small (by omega)))
  have S1 := S.alloc { cls := .type "range", data := .fields #[.int ((n : Int) - 1) ta, .int (-1) tb, .int (-1) tc] } rfl
  have e : Builtin.Range.rangeSize ((n : Int) - 1) (-1) (-1) = (n : Int) := by
    unfold Builtin.Range.rangeSize
    rw [if_neg (by decide), show -(-1 : Int) = 1 from rfl, Int.ediv_one]
    split <;> omega
  refine wpAny_pyIter_range (S1.at 0 rfl) ?_ ?_
  · unfold Builtin.Range.small
    rw [e, if_neg (by decide)]
    simp only [Builtin.Range.rangeFitsLong, Bool.and_eq_true, Bool.or_eq_true, decide_eq_true_eq, beq_iff_eq]
    omega
  · rw [e]
    exact hQ _ _ _ ((S1.alloc (RngO ((n : Int) - 1) n (-1)) rfl).sub (.cons_cons _ (.cons _ (.refl _))))
theorem lenT {T : Addr} (ht : h.IsTuple T vs.toArray) (hz : vs.length ≤ 100000) (hQ : ∀ t t', Q (.int (vs.length : Nat) t') ⟨h, g, d, t, os⟩) : wpAny (Md w) A (call (.builtin "len") [.ref T]) Q E ⟨h, g, d, t, os⟩ := by
  refine PyProof.Rows.len_tuple (s := ⟨h, g, d, t, os⟩) ht (by simp; omega) ?_
  simpa using hQ _ _
theorem mkNil {L : Addr} {pos : Pos} (S : St h₀ H ex L h m mu) (hQ : ∀ h' D t', h.get? D = none → Kp h h' → St h₀ H ex L h' m ((D, LstP [] 0) :: mu) → Q (.ref D) ⟨h', g, d, t', os⟩) :
    wpAny (Md w) A (eval (.List [] pos) env) Q E ⟨h, g, d, t, os⟩ :=
  wpAny_List (spliced_none ⟨by simp [sizeLine], hQ _ _ t (fresh_none h) (fun _ _ e => Heap.get?_push_of_some _ e) (S.alloc (LstP [] 0) rfl)⟩)
theorem negI {a : Int} {ta : Tok} (hQ : Q (.int (-a) t) ⟨h, g, d, t + 1, os⟩) : wpAny (Md w) A (unaryOp .USub (.int a ta)) Q E ⟨h, g, d, t, os⟩ := neg_int hQ
theorem mem_le_sum : ∀ {l : List Int}, (∀ c ∈ l, 0 ≤ c) → ∀ c ∈ l, c ≤ l.sum
  | [], _, c, hc => by cases hc
  | a :: r, h, c, hc => by
    have hr : 0 ≤ r.sum := by
      have : ∀ l : List Int, (∀ c ∈ l, 0 ≤ c) → 0 ≤ l.sum := by
        intro l
        induction l with
        | nil => intro _; simp
        | cons a r ih => intro h; rw [List.sum_cons]; have := ih fun c hc => h c (.tail _ hc); have := h a (.head _); omega
      exact this r fun c hc => h c (.tail _ hc)
    rw [List.sum_cons]
    rcases List.mem_cons.mp hc with rfl | hc
    · omega
    · have := mem_le_sum (fun c hc => h c (.tail _ hc)) c hc
      have := h a (.head _)
      omega
theorem rend_snoc (n m : Nat) : ∀ (bs : List (Nat × Nat)) (k : Nat), rend k (bs ++ [(n, m)]) = rend k bs ++ rend 0 [(n, m)]
  | [], k => by simp [rend]
  | (a, b) :: r, k => by simp [rend, rend_snoc n m r b]
theorem bdep_snoc (n m : Nat) : ∀ bs : List (Nat × Nat), bdep (bs ++ [(n, m)]) = bdep bs + ((n : Int) - m)
  | [] => by simp [bdep]
  | (a, b) :: r => by simp [bdep, bdep_snoc n m r]; omega
theorem bare_le : ∀ (bs : List (Nat × Nat)) (k : Nat), (bare k bs).length ≤ (rend k bs).length
  | [], k => by simp [bare, rend]
  | (a, b) :: r, k => by have := bare_le r b; simp [bare, rend]; omega
theorem mulB1 {c : Nat} {cb : UInt8} {n : Nat} {i : Int} {tx u : Tok} (hc : c.toUInt8 = cb) (hi : i = n) (hn : n ≤ 1000) (hQ : ∀ t' k, Q (.bytes (toB (List.replicate n c)) t') ⟨h, g, d, k, os⟩) :
    wpAny (Md w) A (binaryOp .Mult (.bytes [cb].toArray tx) (.int i u)) Q E ⟨h, g, d, t, os⟩ := by
  subst hi hc
  refine mulB (by simp) (by omega) (by omega) (by simp) fun t' k => ?_
  have e : ((List.replicate ((n : Int).toNat) [c.toUInt8]).flatten).toArray = toB (List.replicate n c) := by
    rw [Int.toNat_natCast, List.flatten_replicate_singleton]
    unfold toB
    rw [List.map_replicate]
  rw [e]
  exact hQ t' k
theorem row_lt {cnt : List Int} {r : Int} (h : r ∈ rowOf cnt) : 0 ≤ r ∧ r < cnt.length := by
  unfold rowOf at h
  obtain ⟨x, hx, hr⟩ := List.mem_flatMap.mp h
  have hx' : x < cnt.length := by simpa using hx
  have := List.eq_of_mem_replicate hr
  omega
theorem by_brackets_spec {Q : Value → Shared → Prop} {x : Addr} {cnt : List Int} {b n nt : Nat} (C : Cx w h) (hroom : A.depth + 1 < recursionLimit) (hh : A.handled = none) (hx : WsO h x (cnt, b, n, nt))
    (hz : cnt.length ≤ 8) (hp : ∀ c ∈ cnt, 0 ≤ c) (hsum : cnt.sum ≤ 10)
    (hQ : ∀ h' t, Kp h h' → Q (.bool (brackets cnt n nt)) ⟨h', g, d, t, os⟩) : wpAny (Md w) A (call (.ref 303) [.ref x]) Q E ⟨h, g, d, t, os⟩ := by
  obtain ⟨dx, es, k, N, T, vs, t1, t2, t3, hx1, hx2, hx3, hx4, hx5, hx6, hx7, hx8, hx9⟩ := hx
  have hlen : vs.length = cnt.length := hx8.length
  have hx8 : IntsAre vs cnt := hx8
  refine enterCall (binds := [(Str.ofString "page", .ref x)]) C (by k_is) (by k_is) (by omega) (BindsTo.of_eq rfl) (locs rfl) (fun L h₁ t S => ?_) (by decide)
  refine xAssign (Subscript_ (attrName (ldL S rfl ?_)))
  refine attrOwn (C.keeps S.keep) (instOwn (S.keep _ _ hx1) (S.keep _ _ hx2)) (by k_is) (by k_is) (by k_is) (by k_is) hx5 rfl ?_
  refine cI (tailTup (vs := [.ref T, .int (b : Nat) t3]) (k := 0) (tup_keeps hx6 (S.keep _)) rfl rfl (by simp) ?_)
  refine stL S fun h2 S2 => ?_
  refine xAssign (mkNil S2 fun h3 RD t3' _ _ S3 => ?_)
  refine stL S3 fun h4 S4 => ?_
  refine xFor (callName (ldB (v := .type "range") C S4 (by k_is) rfl ?_))
  refine PyProof.Rows.callWith_type1 (spliced_more (wpAny_BinOp ?_))
  refine callName (ldB (v := .builtin "len") C S4 (by k_is) rfl (cwBi ?_))
  refine spliced_more (ldL S4 rfl (spliced_none ?_))
  refine lenT (tup_keeps hx7 (S4.keep _)) (by omega) fun t5 tk5 => cI (subI ?_)
  refine spliced_more (wpAny_UnaryOp (cI (negI (spliced_more (wpAny_UnaryOp (cI (negI (spliced_none ?_))))))))
  refine rngDown S4 (n := vs.length) rfl (by omega) fun h6 I t6 S6 => ?_
  have hel : ∀ c ∈ cnt, c ≤ 10 := fun c hc => Int.le_trans (mem_le_sum hp c hc) hsum
  have hTat : ∀ {h' : Heap}, Kp h h' → h'.IsTuple T vs.toArray := fun kk => tup_keeps hx7 (kk _)
  refine forIt (itRange (A := A.deeper _) hh _ _ I ((vs.length : Int) - 1) (-1) vs.length)
    (fun i H ex m mu => A4 (m "page" = some (.ref x)) (m "counts" = some (.ref T)) (m "row" = some (.ref RD)) (X2 fun rv kk => A3 (mu = [(RD, LstP rv kk)]) (IntsAre rv (((List.range cnt.length).reverse.take i).flatMap fun x => List.replicate (cnt.getD x 0).toNat (x : Int))) (rv.length ≤ 10 * i)))
    (fun _ _ _ _ _ _ _ _ _ => trivial) S6 (by simp) ⟨rfl, rfl, rfl, _, _, rfl, .nil, by simp⟩ ?_ ?_
  · intro i v oI H ex h7 m mu t7 hlt qq10 qq11 hI S7
    refine nameT fun Q' hQ' => ?_
    obtain ⟨tk7, rfl⟩ := qq10
    obtain ⟨m1, m2, m3, rv, kk, rfl, hrv, hrl⟩ := qq11
    have hlt' : i < cnt.length := by omega
    obtain ⟨j, hj⟩ : ∃ j, j = cnt.length - 1 - i := ⟨_, rfl⟩
    have ej : (vs.length : Int) - 1 + (i : Int) * (-1) = (j : Int) := by omega
    rw [ej]
    have hjl : j < vs.length := by omega
    obtain ⟨c, tc, hvj, hcj⟩ := IntsAre.at hx8 j vs[j] (by simp [hjl])
    have hc0 := hp c (List.mem_of_getElem? hcj)
    have hc1 := hel c (List.mem_of_getElem? hcj)
    refine wpAny_assign_Name (stL S7 fun h8 S8 => ?_)
    refine xExpr (MethodCall_ (ldL S8 m3 (methList (S8.at 1 rfl) rfl rfl PySem.F.slot_list_extend PySem.F.type_list_extend ?_)) (by rfl))
    refine cwBi (spliced_more (wpAny_BinOp (wpAny_List (spliced_more (ldL S8 rfl (spliced_none ⟨by simp [sizeLine], ?_⟩))))))
    have S9 := S8.alloc (LstP [.int (j : Int) tk7] 0) rfl
    refine Subscript_ (ldL S9 m2 (ldL S9 rfl (tailTup (k := j) (x := .int c tc) (hTat S9.keep) rfl (by simp [hjl, hvj]) (by omega) ?_)))
    refine mulL (k := c.toNat) (S9.at 0 rfl) (by omega) (by omega) ?_
    have S10 := S9.alloc (LstP (List.replicate c.toNat (.int (j : Int) tk7)) 0) rfl
    refine spliced_none ?_
    refine extL (i := 3) S10 rfl (S10.at 0 rfl) (fun e => ?_) (by rw [List.length_replicate]; omega) fun h11 k11 S11 => ?_
    · have := S10.nd
      simp only [List.map_cons, List.nodup_cons, List.mem_cons] at this
      exact this.2.1 (.inr (.inr (.inl e)))
    have S12 : St h H ex L h11 _ [(I, oI), (RD, LstP (rv ++ List.replicate c.toNat (.int (j : Int) tk7)) k11)] := S11.sub (.cons _ (.cons _ (.refl _)))
    have hrep : ∀ k : Nat, IntsAre (List.replicate k (.int (j : Int) tk7)) (List.replicate k (j : Int)) := by
      intro k
      induction k with
      | zero => exact .nil
      | succ k ih => exact .cons _ _ ih
    refine xNil (hQ' _ _ (TurnEnd.next S12 ⟨m1, m2, m3, _, _, rfl, ?_, ?_⟩))
    · have hget : (List.range cnt.length).reverse[i]? = some j := by
        rw [List.getElem?_reverse (by simpa using hlt'), List.length_range, List.getElem?_range (by omega), hj]
      obtain ⟨hl2, he2⟩ := List.getElem?_eq_some_iff.mp hget
      rw [List.take_succ_eq_append_getElem hl2, List.flatMap_append, he2]
      have hg : cnt.getD j 0 = c := by rw [List.getD_eq_getElem?_getD, hcj]; rfl
      simp only [List.flatMap_cons, List.flatMap_nil, List.append_nil, hg]
      exact hrv.append (hrep _)
    · rw [List.length_append, List.length_replicate]; omega
  · rintro H ex h7 m mu t7 ⟨m1, m2, m3, rv, kk, rfl, hrv, hrl⟩ S7
    have hrv : IntsAre rv (rowOf cnt) := by
      rw [List.take_of_length_le (by simp [hlen])] at hrv
      exact hrv
    have hrlen : rv.length = (rowOf cnt).length := hrv.length
    refine xAssign (cI (stL S7 fun h8 S8 => ?_))
    refine xAssign (cBy (stL S8 fun h9 S9 => ?_))
    refine xFor (callName (ldB (v := .type "range") C S9 (by k_is) rfl ?_))
    refine PyProof.Rows.callWith_type1 (spliced_more (cI (spliced_more (wpAny_BinOp ?_))))
    refine callName (ldB (v := .builtin "len") C S9 (by k_is) rfl (cwBi ?_))
    refine spliced_more (ldL S9 m3 (spliced_none ?_))
    refine lenL (lstAt (S9.at 0 rfl)) (by omega) fun t10 tk10 => cI (addI (spliced_none ?_))
    refine rngFor S9 (n := rv.length) (Int.add_comm _ _) (by decide) (by omega) fun h10 I2 t11 S10 => ?_
    refine forItB (itRange (A := A.deeper _) hh _ _ I2 1 1 rv.length)
      (fun i H ex m mu => A5 (m "page" = some (.ref x)) (m "counts" = some (.ref T)) (m "row" = some (.ref RD)) (mu = [(RD, LstP rv kk)]) (X3 fun bs td tw => A5 (m "depth" = some (.int (bdep bs) td)) (m "whole" = some (.bytes (toB (rend 0 bs)) tw)) (bs.length = i) ((rend 0 bs).length ≤ 24 * i) (brGo cnt (rowOf cnt) rv.length 1 0 = brGo cnt (rowOf cnt) (rv.length - i) (i + 1) (bdep bs))))
      (fun H ex m mu => m "page" = some (.ref x) ∧ brGo cnt (rowOf cnt) rv.length 1 0 = true)
      (fun _ _ _ _ _ _ _ _ _ => trivial) S10 (by simp) ⟨m1, m2, m3, rfl, [], _, _, rfl, rfl, rfl, by simp [rend], rfl⟩ ?_ ?_
    · intro i v oI H ex h12 m mu t12 hlt qq10 qq11 hI S12
      refine nameT fun Q' hQ' => ?_
      obtain ⟨tk12, rfl⟩ := qq10
      obtain ⟨m1, m2, m3, rfl, bs, td, tw, md, mw, hbl, hrl2, hgo⟩ := qq11
      have ek : (1 : Int) + (i : Int) * 1 = ((i + 1 : Nat) : Int) := by omega
      rw [ek]
      obtain ⟨r, tr, hvr, hr⟩ := IntsAre.at hrv i rv[i] (by simp [hlt])
      have hr1 := row_lt (List.mem_of_getElem? hr)
      have hg : (rowOf cnt).getD (i + 1 - 1) 0 = r := by rw [Nat.add_sub_cancel, List.getD_eq_getElem?_getD, hr]; rfl
      have hfuel : rv.length - i = (rv.length - (i + 1)) + 1 := by omega
      rw [hfuel, brGo, hg] at hgo
      refine wpAny_assign_Name (stL S12 fun h13 S13 => ?_)
      have em1 : ((i + 1 : Nat) : Int) - 1 = (i : Int) := by omega
      refine xIf (wpAny_isTrue_Compare1 (Subscript_ (ldL S13 m3 (wpAny_BinOp (ldL S13 rfl (cI (subI ?_)))))))
      refine tailLst (vs := rv) (k := i) (x := .int r tr) (lstAt (S13.at 1 rfl)) em1 (by simp [hlt, hvr]) (by omega) ?_
      refine ldL S13 rfl (ltI (wpAny_truthy_bool ?_))
      split
      · rename_i hlt2
        have hlt2 : r < ((i + 1 : Nat) : Int) := by simpa using hlt2
        rw [if_pos hlt2] at hgo
        refine xCons (wpAny_Break ?_)
        exact hQ' .brk _ (TurnEndB.brk S13 ⟨m1, hgo⟩)
      · rename_i hlt2
        have hlt2 : ¬ r < ((i + 1 : Nat) : Int) := by simpa using hlt2
        rw [if_neg hlt2] at hgo
        refine xNil ?_
        have hkc : i + 1 < vs.length := by omega
        obtain ⟨sm, hsm⟩ : ∃ sm : Nat, (cnt.drop (i + 1)).sum = (sm : Int) ∧ sm ≤ 10 := by
          have h0 : ∀ l : List Int, (∀ c ∈ l, 0 ≤ c) → 0 ≤ l.sum := by
            intro l
            induction l with
            | nil => intro _; simp
            | cons a r ih => intro h; rw [List.sum_cons]; have := ih fun c hc => h c (.tail _ hc); have := h a (.head _); omega
          have h1 := h0 (cnt.drop (i + 1)) fun c hc => hp c (List.mem_of_mem_drop hc)
          have h2 := h0 (cnt.take (i + 1)) fun c hc => hp c (List.mem_of_mem_take hc)
          have h3 : cnt.sum = (cnt.take (i + 1)).sum + (cnt.drop (i + 1)).sum := by rw [← List.sum_append, List.take_append_drop]
          exact ⟨(cnt.drop (i + 1)).sum.toNat, by omega, by omega⟩
        obtain ⟨hsm, hsm10⟩ := hsm
        refine xAssign (wpAny_BinOp (wpAny_BinOp (wpAny_BinOp (cBy ?_))))
        refine callName (ldB (v := .builtin "sum") C S13 (by k_is) rfl (cwBi ?_))
        refine spliced_more (Subscript_ (ldL S13 m2 (wpAny_Slice (wpAny_evalPart_some (ldL S13 rfl (wpAny_evalPart_none (wpAny_evalPart_none ?_)))))))
        have S14 := S13.alloc { cls := .type "slice", data := .fields #[.int ((i + 1 : Nat) : Int) tk12, .none, .none] } rfl
        have hT14 := hTat S14.keep
        refine tail_any (s := ⟨_, g, d, _, os⟩) hT14.typeIs PyProof.Rows.slot_tuple_getitem.lookup (PyProof.Rows.getItem_tuple_from hT14 ⟨_, S14.at 0 rfl, rfl, rfl⟩ (by omega) (by simp; omega) ?_ (by simp [sizeLine]; omega)) (by with_unfolding_all rfl)
        have S15 := S14.alloc { cls := .type "tuple", data := .seq (vs.drop (i + 1)).toArray } rfl
        refine spliced_none ?_
        refine sumT hh ⟨_, S15.at 0 rfl, rfl, _, rfl⟩ (hx8.drop (i + 1)) fun h16 t16 tk16 k16 => ?_
        have S16 : St h H ex L h16 _ [(I2, oI), (RD, LstP rv kk)] := (S15.keeps k16).sub (.cons _ (.cons _ (.refl _)))
        refine mulB1 (c := 40) rfl hsm (by omega) fun tk17 t17 => ?_
        refine cBy (addB (x := List.replicate sm 40) (y := [34, 92, 34, 41, 34]) (by simp; omega) fun tk18 t18 => ?_)
        refine wpAny_BinOp (cBy (wpAny_BinOp (Subscript_ (ldL S16 m3 (wpAny_BinOp (ldL S16 rfl (cI (subI ?_))))))))
        refine tailLst (vs := rv) (k := i) (x := .int r tr) (lstAt (S16.at 1 rfl)) em1 (by simp [hlt, hvr]) (by omega) ?_
        refine cI (addI ?_)
        refine mulB1 (c := 41) (n := (r + 1).toNat) rfl (by omega) (by omega) fun tk19 t19 => ?_
        refine addB (by simp; omega) fun tk20 t20 => ?_
        have esig : List.replicate sm 40 ++ [34, 92, 34, 41, 34] ++ List.replicate (r + 1).toNat 41 = rend 0 [(sm, (r + 1).toNat)] := by simp [rend]
        rw [esig]
        have hrl1 : (rend 0 [(sm, (r + 1).toNat)]).length ≤ 24 := by simp [rend]; omega
        refine stL S16 fun h21 S21 => ?_
        refine xAssign (callName (ldG C S21 (by k_is) (cwFn (by k_is) ?_)))
        refine spliced_more (ldL S21 rfl (spliced_more (ldL S21 md (spliced_none ⟨C.keeps S21.keep, ?_⟩))))
        refine paren_depth_spec (bs := [(sm, (r + 1).toNat)]) (C.keeps S21.keep) (by show A.depth + 1 < _; omega) (.inl ⟨_, rfl⟩) (by omega) (Nat.le_trans (bare_le _ _) (by omega)) (by simp) (by simp) fun h22 t22 tk22 k22 => ?_
        have S22 := S21.keeps k22
        have ed : bdep bs + bdep [(sm, (r + 1).toNat)] = bdep (bs ++ [(sm, (r + 1).toNat)]) := by rw [bdep_snoc]; simp [bdep]
        rw [ed]
        refine stL S22 fun h23 S23 => ?_
        refine xAssign (wpAny_BinOp (ldL S23 mw (ldL S23 rfl (addB (by omega) fun tk24 t24 => ?_))))
        rw [← rend_snoc]
        refine stL S23 fun h25 S25 => ?_
        have hrl3 : (rend 0 (bs ++ [(sm, (r + 1).toNat)])).length ≤ 24 * (i + 1) := by rw [rend_snoc, List.length_append]; omega
        refine xIf (wpAny_isTrue_Compare1 (callName (ldG C S25 (by k_is) (cwFn (by k_is) ?_))))
        refine spliced_more (ldL S25 rfl (spliced_none ⟨C.keeps S25.keep, ?_⟩))
        refine paren_depth_spec (bs := bs ++ [(sm, (r + 1).toNat)]) (d0 := 0) (C.keeps S25.keep) (by show A.depth + 1 < _; omega) (.inr ⟨rfl, rfl⟩) (by omega) (Nat.le_trans (bare_le _ _) (by omega)) (by simp) (by simp; omega) fun h26 t26 tk26 k26 => ?_
        have S26 := S25.keeps k26
        refine ldL S26 rfl (PySem.P.ne_int (wpAny_truthy_bool ?_))
        rw [Int.zero_add, bne_self_eq_false, if_neg (by decide)]
        refine xNil ?_
        have edep : bdep bs + ((cnt.drop (i + 1)).sum - (r + 1)) = bdep (bs ++ [(sm, (r + 1).toNat)]) := by rw [bdep_snoc, hsm]; omega
        rw [edep] at hgo
        refine xIf (wpAny_isTrue_Compare1 (ldL S26 rfl (cI (ltI (wpAny_truthy_bool ?_)))))
        split
        · rename_i hneg
          have hneg : bdep (bs ++ [(sm, (r + 1).toNat)]) < 0 := by simpa using hneg
          rw [if_pos hneg] at hgo
          refine xRet (wpAny_Constant_bool ?_)
          have : brackets cnt n nt = false := by unfold brackets; rw [← hrlen, hgo]; rfl
          exact hQ' (.ret _) _ (this ▸ hQ _ _ S26.keep)
        · rename_i hneg
          have hneg : ¬ bdep (bs ++ [(sm, (r + 1).toNat)]) < 0 := by simpa using hneg
          rw [if_neg hneg] at hgo
          refine xNil (xNil (hQ' _ _ (TurnEndB.next S26 ⟨m1, m2, m3, rfl, _, _, _, rfl, rfl, by simp [hbl], hrl3, hgo⟩)))
    · rintro H ex h12 m mu t12 hFG S12
      have hG : m "page" = some (.ref x) ∧ brGo cnt (rowOf cnt) rv.length 1 0 = true := by
        rcases hFG with ⟨m1, m2, m3, e, bs, td, tw, md, mw, hbl, hrl2, hgo⟩ | hG
        · refine ⟨m1, ?_⟩
          rw [hgo, Nat.sub_self]; rfl
        · exact hG
      obtain ⟨m1, hgo⟩ := hG
      refine xRet (wpAny_Compare1 (wpAny_BinOp (wpAny_BinOp (attrName (ldL S12 m1 ?_)))))
      refine attrOwn (C.keeps S12.keep) (instOwn (S12.keep _ _ hx1) (S12.keep _ _ hx2)) (by k_is) (by k_is) (by k_is) (by k_is) hx3 rfl ?_
      refine attrName (ldL S12 m1 ?_)
      refine attrOwn (C.keeps S12.keep) (instOwn (S12.keep _ _ hx1) (S12.keep _ _ hx2)) (by k_is) (by k_is) (by k_is) (by k_is) hx4 rfl ?_
      refine subI (cI (modI (by decide) (cI (eqI ?_))))
      have e : brackets cnt n nt = (((n : Int) - nt).fmod 2 == 0) := by
        unfold brackets
        rw [← hrlen, hgo, Bool.true_and]
        by_cases q : ((n : Int) - nt).fmod 2 = 0 <;> simp [q]
      rw [e] at hQ
      exact hQ h12 _ S12.keep
end
end Mine
set_option maxHeartbeats 400000
namespace Mine
section
variable {w : World} {A : Around} {E : Value → Shared → Prop} {h h₀ H : Heap} {ex : List Addr} {g : Array GenState} {d : Drawn} {t : Nat} {os : OsState} {env : Env} {m : Str → Option Value} {mu : List (Addr × Obj)} {Q : Value → Shared → Prop} {vs ws : List Value} {l b : Addr}
theorem sliceBt {value slice : Expr} {D : Array UInt8} {tb : Tok} {L : Addr} {lw up : Value} {lo hi : Option Int} (hl : IsPart lw lo) (hu : IsPart up hi) (hz : D.size ≤ 100000) (S : St h₀ H ex L h m mu)
    (hQ : ∀ h' t' k, St h₀ H ex L h' m mu → Q (.bytes (KBy.picked D lo hi) t') ⟨h', g, d, k, os⟩)
    (hs : subscripted slice false (.bytes D tb) (.ref h.objs.size) = operate [.ref h.objs.size, .bytes D tb] (getItem (.bytes D tb) (.ref h.objs.size)) := by with_unfolding_all rfl)
    (ht : ∀ r, letTemporaryGo value (.bytes D tb) r = pure () := by intro _; with_unfolding_all rfl) :
    wpAny (Md w) A (subscriptTail value slice (.bytes D tb) (.ref h.objs.size)) Q E ⟨h.push { cls := .type "slice", data := .fields #[lw, up, .none] }, g, d, t, os⟩ :=
  tail_of_ItemOn (s := ⟨h.push { cls := .type "slice", data := .fields #[lw, up, .none] }, g, d, t, os⟩) ⟨"bytes", _, PySem.W.FB.slot_bytes_getitem.lookup, typeIs_bytes _ _ _, getItem_meets (s := ⟨h.push { cls := .type "slice", data := .fields #[lw, up, .none] }, g, d, t, os⟩) (typeIs_bytes _ _ _) (by decide) PySem.W.FB.slot_bytes_getitem PySem.W.FB.entry_bytes_getitem (PySem.W.FB.args_bytes_getitem_2 _ _) (KBc.meets_slice2 D tb _ hl hu)
    ⟨Heap.IsSliceOf.new _ _ _ _, Nat.le_trans (KBc.size_picked_le D lo hi) (by rw [sizeLine_eq]; omega), fun t' k => hQ _ _ _ (S.pushed _)⟩⟩ hs ht
noncomputable def apB : List UInt8 := [65, 66, 67, 68, 69, 70, 71, 72, 73, 74, 75, 76, 77, 78, 79, 80]
theorem ap_picked : ∀ n, n < 16 → KBy.picked apB.toArray (some (n : Nat)) (some ((n : Nat) + 1 : Int)) = toB [65 + n] := by decide +kernel
theorem int2ap_spec {n : Nat} {tn : Tok} (C : Cx w h) (hroom : A.depth < recursionLimit) (hh : A.handled = none) (h1 : 1 ≤ n) (h2 : n ≤ 15)
    (hQ : ∀ h' t tk, Kp h h' → Q (.bytes (toB [65 + n]) tk) ⟨h', g, d, t, os⟩) : wpAny (Md w) A (call (.ref 58) [.int (n : Nat) tn]) Q E ⟨h, g, d, t, os⟩ := by
  refine enterCall (binds := [(Str.ofString "num", .int n tn)]) C (by k_is) (by k_is) (by omega) (BindsTo.of_eq rfl) (locs rfl) (fun L h₁ t S => ?_) (by decide)
  refine xAssign (cBy (stL S fun h2 S2 => ?_))
  refine xAssign (cBy (stL S2 fun h3 S3 => ?_))
  refine xAssign (callName (ldB (v := .type "int") C S3 (by k_is) rfl (PyProof.Rows.callWith_type1 (spliced_more (callName (ldB (v := .builtin "abs") C S3 (by k_is) rfl (cwBi (spliced_more (ldL S3 rfl (spliced_none (call_abs_int fun u tk => ?_)))))))))))
  rw [if_neg (by omega)]
  refine spliced_none (call_int_int ?_)
  refine stL S3 fun h4 S4 => ?_
  refine xWhile (codeAny_whileLoop (fun k s => X3 fun h5 m t => A4 (s = ⟨h5, g, d, t, os⟩) (St h h [] L h5 m []) ((∃ ta, m "AP" = some (.bytes apB.toArray ta))) (((k = 1 ∧ (∃ tv, m "val" = some (.bytes (toB []) tv)) ∧ ∃ tn, m "num" = some (.int n tn)) ∨ (k = 0 ∧ (∃ tv, m "val" = some (.bytes (toB [65 + n]) tv)) ∧ ∃ tn, m "num" = some (.int 0 tn))))) ?_ 1 ⟨h4, _, _, rfl, S4, ⟨_, rfl⟩, .inl ⟨rfl, ⟨_, rfl⟩, ⟨_, rfl⟩⟩⟩)
  rintro k s ⟨h5, m, t5, rfl, S5, ⟨ta, hAP⟩, hk⟩
  rcases hk with ⟨rfl, ⟨tv, hv⟩, ⟨tn, hn⟩⟩ | ⟨rfl, ⟨tv, hv⟩, ⟨tn, hn⟩⟩
  · refine wpAny_isTrue_value (ldL S5 hn (PySem.P.truthy_int ?_)) (by rfl)
    rw [show ((n : Int) != 0) = true by simp; omega, if_pos rfl]
    refine xCons (Assign_Tuple (callName (ldB (v := .builtin "divmod") C S5 (by k_is) rfl (cwBi (spliced_more (ldL S5 hn (spliced_more (cI (spliced_none ?_)))))))) (by rfl))
    refine divmod_int (s := ⟨h5, g, d, _, os⟩) (by decide) ?_
    have S6 := S5.pushed { cls := .type "tuple", data := .seq #[.int ((n : Int).fdiv 16) (t5 + 1), .int ((n : Int).fmod 16) (t5 + 1 + 1)] }
    have e1 : (n : Int).fdiv 16 = 0 := by rw [Int.fdiv_eq_ediv_of_nonneg _ (by decide)]; omega
    have e2 : (n : Int).fmod 16 = n := by rw [Int.fmod_eq_emod_of_nonneg _ (by decide)]; omega
    rw [e1, e2] at S6 ⊢
    dsimp only
    refine asgPair (x := .int 0 (t5 + 1)) (y := .int n (t5 + 1 + 1)) S6 hh ⟨_, Heap.get?_push_size _ rfl, rfl, _, rfl⟩ fun h7 t7 S7 => ?_
    refine xAssign (wpAny_BinOp (Subscript_ (ldL S7 hAP (wpAny_Slice (wpAny_evalPart_some (ldL S7 rfl (wpAny_evalPart_some (wpAny_BinOp (ldL S7 rfl (cI (addI (wpAny_evalPart_none ?_)))))))))))) 
    refine sliceBt (.int _ _) (.int _ _) (by decide) S7 fun h8 t8 tk8 S8 => ?_
    rw [ap_picked n (by omega)]
    refine ldL S8 hv (addB (by simp) fun t9 tk9 => ?_)
    refine stL S8 fun h9 S9 => xNil ⟨0, by decide, h9, _, _, rfl, S9, ⟨_, hAP⟩, .inr ⟨rfl, ⟨_, rfl⟩, ⟨_, rfl⟩⟩⟩
  · refine wpAny_isTrue_value (ldL S5 hn (PySem.P.truthy_int ?_)) (by rfl)
    rw [show ((0 : Int) != 0) = false by rfl, if_neg (by decide)]
    exact wpAny_execs_nil (xRet (ldL S5 hv (hQ _ _ _ S5.keep)))
end
end Mine
set_option maxHeartbeats 400000
namespace Mine
theorem slot_wrapper_get : Slot "wrapper_descriptor" "__get__" "wrapper_descriptor.__get__" := .of (owner := "wrapper_descriptor") (n := "__get__") (by rw [typeLookup_type, builtinLookup_eq_fast]; kernel_rfl) (by decide +kernel) (by decide +kernel) (by decide +kernel)
  (by first | exact .inl (by decide +kernel) | exact .inr (by decide +kernel)) (by rw [isSubtype_type]; kernel_rfl)
theorem entry_wrapper_get : entryFor table "wrapper_descriptor.__get__" = some Builtin.«wrapper_descriptor.__get__» := entryFor_of_tree (by kernel_rfl)
theorem args_wrapper_get (a b c : Value) : argsOk "wrapper_descriptor.__get__" ⟨[a, b, c], []⟩ := by unfold argsOk; kernel_rfl
theorem get_eq (x C : Addr) (id : String) : ∃ X : Sem Unit, Builtin.«wrapper_descriptor.__get__» ⟨[.builtin id, .ref x, .ref C], []⟩ =
    ((isInstance (.ref x) (.type (".".intercalate (id.cutAt '.').dropLast)) >>= fun b => if (!b) = true then X else pure ()) >>= fun _ => newFields "method-wrapper" [.builtin id, .ref x] >>= fun v => ret v) := ⟨_, rfl⟩
section
variable {w : World} {A : Around} {E : Value → Shared → Prop} {h h₀ H : Heap} {ex : List Addr} {g : Array GenState} {d : Drawn} {t : Nat} {os : OsState} {env : Env} {m : Str → Option Value} {mu : List (Addr × Obj)} {x C so D : Addr} {id : String}
noncomputable abbrev mwObj (id : String) (x : Addr) : Obj := { cls := .type "method-wrapper", data := .fields #[.builtin id, .ref x] }
theorem get_wrapper {Q : Value → Shared → Prop} (ho : ".".intercalate (id.cutAt '.').dropLast = "list") (hi : Looks (Md w) h (isInstance (.ref x) (.type "list")) true) (hty : typeOf (.builtin id) = pure (.type "wrapper_descriptor"))
    (hQ : Q (.ref h.objs.size) ⟨h.push (mwObj id x), g, d, t, os⟩) : wpAny (Md w) A (call (.builtin "wrapper_descriptor.__get__") [.builtin id, .ref x, .ref C]) Q E ⟨h, g, d, t, os⟩ := by
  refine wpAny_call_entry (s := ⟨h, g, d, t, os⟩) slot_wrapper_get hty entry_wrapper_get ?_ (args_wrapper_get _ _ _)
  obtain ⟨Xf, ef⟩ := get_eq x C id
  rw [ef, ho]
  refine wpAny_bind (wpAny_bind (hi.here ?_))
  refine wpAny_pure ?_
  unfold newFields
  refine wpAny_bind (wpAny_newObj_type (s := ⟨h, g, d, t, os⟩) (wpAny_pure ⟨_, rfl, hQ⟩) (by size_fits))
theorem super_gaB {l₀ l : List Value} {K : Frag} {name : Str} {tk : Tok} {Q : Fin → Shared → Prop}
    (hso : h.get? so = some { cls := .type "super", dict := none, data := .fields #[.ref D, .ref x, .ref C], slots := #[] }) (hno : Looks (Md w) h (opaqueClassAbove (.ref C)) none)
    (hC : Looks (Md w) h (mroOf (.ref C)) l₀) (hl : (l₀.dropWhile (· != .ref D)).drop 1 = l) (X : K.In h)
    (hf : alongIn K name l = some (some (.builtin id))) (ho : ".".intercalate (id.cutAt '.').dropLast = "list") (hi : Looks (Md w) h (isInstance (.ref x) (.type "list")) true) (hty : typeOf (.builtin id) = pure (.type "wrapper_descriptor"))
    (hxC : x ≠ C) (hn : (name == ("__class__" : Str)) = false)
    (hQ : Q (.done (.ret (.ref h.objs.size))) ⟨h.push (mwObj id x), g, d, t, os⟩) :
    wpAny (Md w) A (Builtin.«super.__getattribute__» ⟨[.ref so, .str name tk], []⟩) Q E ⟨h, g, d, t, os⟩ := by
  have hlk := slot_wrapper_get.lookup
  have hne : (Value.ref x == Value.ref C) = false := by simp [hxC]
  have hTf : (⟨h, g, d, t, os⟩ : Shared).TypeIs (.builtin id) "wrapper_descriptor" := hty
  have hdt : ({ cls := .type "super", dict := none, data := .fields #[.ref D, .ref x, .ref C], slots := #[] } : Obj).data = .fields #[.ref D, .ref x, .ref C] := rfl
  have f0 : (#[.ref D, .ref x, .ref C] : Array Value)[0]? = some (.ref D) := rfl
  have f1 : (#[.ref D, .ref x, .ref C] : Array Value)[1]? = some (.ref x) := rfl
  have f2 : (#[.ref D, .ref x, .ref C] : Array Value)[2]? = some (.ref C) := rfl
  unfold Builtin.«super.__getattribute__»
  repeat (first
    | (with_reducible refine wpAny_field hso hdt f0 ?_) | (with_reducible refine wpAny_field hso hdt f1 ?_) | (with_reducible refine wpAny_field hso hdt f2 ?_)
    | (with_reducible refine ks_wpAny_notOpaque hno ?_)
    | (with_reducible refine Looks.at hC ?_; rw [hl])
    | (refine ks_forIn_along X (fun _ _ => rfl) rfl ?_ hf)
    | (with_reducible refine wpAny_typeOf hTf ?_)
    | (with_reducible refine get_wrapper ho hi hty ?_)
    | (simp only [hn, hne, Bool.or_false, Bool.false_eq_true, if_false])
    | wp_step
    | dsimp only)
  all_goals exact hQ
theorem super_meth {l₀ l : List Value} {K : Frag} {name : Str} {pl : Sem Bool} {Q : Value × List Value → Shared → Prop}
    (hso : h.get? so = some { cls := .type "super", dict := none, data := .fields #[.ref D, .ref x, .ref C], slots := #[] }) (hno : Looks (Md w) h (opaqueClassAbove (.ref C)) none)
    (hC : Looks (Md w) h (mroOf (.ref C)) l₀) (hl : (l₀.dropWhile (· != .ref D)).drop 1 = l) (X : K.In h)
    (hf : alongIn K name l = some (some (.builtin id))) (ho : ".".intercalate (id.cutAt '.').dropLast = "list") (hi : Looks (Md w) h (isInstance (.ref x) (.type "list")) true) (hty : typeOf (.builtin id) = pure (.type "wrapper_descriptor"))
    (hxC : x ≠ C) (hn : (name == ("__class__" : Str)) = false)
    (hQ : Q (.ref h.objs.size, []) ⟨h.push (mwObj id x), g, d, t + 1, os⟩) : wpAny (Md w) A (getMethod (.ref so) name pl) Q E ⟨h, g, d, t, os⟩ := by
  have hlk := PySem.F.ks_slot_super_ga.lookup
  have hcan := PySem.F.ks_canon_super_ga
  have hT : ∀ t', (⟨h, g, d, t', os⟩ : Shared).TypeIs (.ref so) "super" := fun _ => ⟨_, hso, rfl⟩
  unfold getMethod
  refine wpAny_bind (wpAny_specialOf (hT _) hlk ?_)
  show wpAny _ _ (if (Manifest.canonical "super.__getattribute__" != "object.__getattribute__") = true then _ else _) _ _ _
  rw [if_pos hcan]
  unfold getAttr getAttrBy
  refine wpAny_bind (wpAny_bind (wpAny_mkText (wpAny_holding (wpAny_bind (wpAny_typeOf (hT _) (wpAny_bind (wpAny_of_eq hlk ?_)))))))
  show wpAny _ _ (getAttrByItsOwn (.ref so) (.str name t) (.type "super") (.builtin "super.__getattribute__") true false) _ _ _
  unfold getAttrByItsOwn hookBefore callGetattribute boundAndCalled
  refine wpAny_bind (wpAny_of_eq (show (if onTheHeap (.type "super") then typeLookup (.type "super") "__getattr__" else pure none) = pure none from rfl) ?_)
  refine wpAny_bind (wpAny_attempt (wpAny_holding ?_))
  show wpAny _ _ (bindSpecial (.builtin "super.__getattribute__") (.ref so) >>= _) _ _ _
  refine wpAny_bind (wpAny_of_eq (PySem.F.ks_slot_super_ga.bind _) ?_)
  refine wpAny_mono (Q := fun v s' => v = .ref h.objs.size ∧ s' = ⟨h.push (mwObj id x), g, d, t + 1, os⟩) (E := fun _ _ => False)
    (wpAny_call_entry PySem.F.ks_slot_super_ga (hT _) PySem.F.ks_entry_super_ga (super_gaB hso hno hC hl X hf ho hi hty hxC hn ⟨_, rfl, rfl, rfl⟩) (PySem.F.ks_gaArgs_super _ _)) (fun v s' hv => ?_) fun _ _ z => z.elim
  obtain ⟨rfl, rfl⟩ := hv
  exact wpAny_pure (wpAny_pure hQ)
end
section
variable {w : World} {A : Around} {E : Value → Shared → Prop} {h h₀ H hB : Heap} {ex : List Addr} {g : Array GenState} {d : Drawn} {t : Nat} {os : OsState} {env : Env} {m : Str → Option Value} {mu mu0 : List (Addr × Obj)} {x Cl so D L f cc cda : Addr} {id : String} {scope : Scope} {q : Str} {body : List Stmt} {odx : Option Obj} {ox : Obj}
theorem enterS {R : Result → Shared → Prop} {args : List Value} {binds : List (Str × Value)} {name qual : Str} {params : Arguments} {dV kV doc pm cdv ct oc : Value} {an od : Option Addr} {osl : Array (Option Value)}
    (C : Cx w hB) (k0 : Kp hB h) (hmu : ∀ p ∈ mu0, h.get? p.1 = some p.2) (nd : (mu0.map (·.1)).Nodup) (hnew : ∀ a ∈ mu0.map (·.1), hB.get? a = none)
    (ho : (hd0.heap_1 w.params).lookup f = some ⟨oc, od, .func (ksFn name qual params body scope dV kV doc pm an cdv ct cc), osl⟩) (hcd : codeIn (hd0.heap_1 w.params) cdv qual = true) (hroom : A.depth < recursionLimit)
    (hbind : BindsTo ⟨h, g, d, t, os⟩ (ksFn name qual params body scope dV kV doc pm an cdv ct cc) ⟨args, []⟩ binds) (hloc : ∀ y ∈ binds, scope.names.lookup y.1 = some .local)
    (hb : ∀ L h₁ t, St hB h (mu0.map (·.1)) L h₁ (fun y => binds.reverse.lookup y) mu0 →
      _root_.PySem.wpAt (Md w) (A.deeper (ksEnv qual scope L f cdv cc)) (.func body (ksEnv qual scope L f cdv cc)) (execs body (ksEnv qual scope L f cdv cc)) (fun fl s' => R (.ok (.ret (RetV fl))) s') (fun _ _ => False) ⟨h₁, g, d, t, os⟩)
    (hcell : ∀ x ∈ scope.names, x.2 ≠ .cell) (hco : scope.isCoroutine = false := by rfl) (hgen : scope.isGenerator = false := by rfl) (hk : scope.kind = .function := by rfl) :
    codeAny (Md w) A (.call (.ref f) ⟨args, []⟩) R ⟨h, g, d, t, os⟩ :=
  ks_codeAny_call_defAt (fd := ksFn name qual params body scope dV kV doc pm an cdv ct cc) (body := body) (binds := binds) hroom (k0 _ _ (C.X _ _ ho)) rfl (C.keeps k0).lim (codeRec_of (C.keeps k0).X hcd) rfl hbind hcell hloc
    (fun h₁ hns hk₁ => ks_wpAt_mono (hb h.objs.size h₁ _ (St.startM hns k0 hk₁ (fresh_none h) hmu nd hnew)) (fun fl s' q => by cases fl <;> exact q) fun _ _ x => x.elim) hco hgen hk
theorem superNode {p0 p1 : Pos} {attr : Str} {whole : Sem Value} {fd : FuncData} {ar : Arg} {vs : Array Value} {file : Str} {tf : Tok} {oc ccl cl : Value} {od cdd cld : Option Addr} {osl ccs csl : Array (Option Value)} {cdD : ClassData} {Q : Value → Shared → Prop}
    (C : Cx w h₀) (S : St h₀ H ex L h m mu)
    (hf : (hd0.heap_1 w.params).lookup f = some ⟨oc, od, .func fd, osl⟩) (hp : (fd.params.posonlyargs ++ fd.params.args).head? = some ar) (hv : m ar.arg = some (.ref x)) (I : PySem.W.InstAt h x ox Cl odx)
    (hcode : (hd0.heap_1 w.params).lookup cda = some ⟨ccl, cdd, .fields vs, ccs⟩) (hvs : vs[2]? = some (.str file tf)) (hfile : ((pg.main.file : Str) == file) = true)
    (hcell : (hd0.heap_1 w.params).lookup cc = some ⟨cl, cld, .cell (some (.ref D)), csl⟩) (hD : clsIn (hd0.heap_1 w.params) D = some cdD) (hsub : mroIn (hd0.heap_1 w.params) Cl (.ref D) = some true) (hsuper : nsIn (hd0.heap_1 w.params) mainGlobals "super" = some none)
    (hks : scope.names.lookup ("super" : Str) = some .globalImplicit) (hkc : scope.names.lookup ("__class__" : Str) = some .free) (hka : scope.names.lookup ar.arg = some .local) (hk : scope.kind = .function)
    (htop : (pg.main.scope.names.lookup ("super" : Str)).isSome = false)
    (hQ : ∀ so h', St h₀ H ex L h' m ((so, ks_superObj D x Cl) :: mu) → Q (.ref so) ⟨h', g, d, t, os⟩)
    (hat : (attr == ("__class__" : Str)) = false := by decide) :
    _root_.PySem.wpAt (Md w) A (.func body (ksEnv q scope L f (.ref cda) cc)) (attributeBase (.Call (.Name "super" p0) [] [] p1) attr (ksEnv q scope L f (.ref cda) cc) whole) Q E ⟨h, g, d, t, os⟩ := by
  have X := (C.keeps S.keep).X
  obtain ⟨pp, ll, mg, mb, T⟩ := C.T
  obtain ⟨oD, hD1, hD2⟩ : ∃ oD, h.get? D = some oD ∧ oD.data = .cls cdD := by
    unfold clsIn at hD
    split at hD
    · rename_i c d cd' sl ho
      cases hD
      exact ⟨_, X _ _ ho, rfl⟩
    · cases hD
  refine ks_wpAt_super_base (s := ⟨h, g, d, t, os⟩) (env := ksEnv q scope L f (.ref cda) cc) hks hkc hat rfl (X _ _ hf) rfl hp rfl (X _ _ hcode) rfl hvs hfile htop ?_
  refine ks_loadName_global hk hks (loadGlobal_builtin (env := ksEnv q scope L f (.ref cda) cc) (T.g.keeps S.keep) (mg_none_of C.X T.g hsuper) (T.b.keeps S.keep) ((T.builtins _ (by decide +kernel)).trans (show bootBuiltins "super" = some (.type "super") by rfl)) ⟨rfl, ?_⟩)
  refine wpAny_loadName_free hk hkc rfl ⟨_, X _ _ hcell, rfl⟩ ?_
  refine wpAny_loadName_local hk hka S.ns hv ?_
  refine ks_wpAny_isType_cls hD1 hD2 ⟨rfl, ?_⟩
  refine ks_wpAny_call_super hD1 hD2 I.at_ I.cls (fun c e => ?_) (looks_mroIn X hsub) (fun h' e k => ?_)
  · have := I.no
    unfold notCls at this
    rw [e] at this
    exact Bool.noConfusion this
  · exact hQ _ _ (S.add k (fresh_none h) e)
/-- a call of a slot that a method-wrapper holds -/
theorem call_mw {b : Builtin} {y : Addr} {rest : List Value} {Q : Value → Shared → Prop} (hy : h.get? y = some { mwObj id x with dict := none, slots := #[] }) (hp : plainId id = true) (hk : builtinKind id = some .slot) (hb : entryFor table id = some b) (ha : checkBoundCall id ⟨.ref x :: rest, []⟩ = pure ())
    (hQ : wpAny (Md w) A.in1 (b ⟨.ref x :: rest, []⟩) (fun fin s' => ∃ v, fin = .done (.ret v) ∧ Q v s') E ⟨h, g, d, t, os⟩) : wpAny (Md w) A (call (.ref y) rest) Q E ⟨h, g, d, t, os⟩ := by
  refine wpAny_call (codeAny_of_tree ?_)
  show wpAny _ A.in1 (callAny (.ref y) _) _ _ _
  unfold callAny
  refine wpAny_bind (wpAny_load (s := ⟨h, g, d, t, os⟩) hy ?_)
  dsimp only
  rw [if_pos (by decide)]
  show wpAny _ _ (checkBoundCall id ⟨.ref x :: rest, []⟩ >>= _) _ _ _
  rw [ha]
  refine wpAny_bind (wpAny_pure (wpAny_pure ⟨plainId_quiet hp _, codeAny_builtin hb ?_⟩))
  rw [Around.under_plainId hp _]
  refine wpAny_mono hQ (fun fin s' hh => ?_) fun _ _ e => e
  obtain ⟨v, rfl, hv⟩ := hh
  exact hv
theorem cwMw0 {y : Addr} {pos : Pos} {Q : Value → Shared → Prop} (hy : h.get? y = some { mwObj id x with dict := none, slots := #[] })
    (hQ : wpAny (Md w) A (call (.ref y) []) Q E ⟨h, g, d, t, os⟩) : wpAny (Md w) A (callWith pos (.ref y) [] (backTo pos (starEach [] env)) []) Q E ⟨h, g, d, t, os⟩ :=
  callWith_of (P := fun hh => hh.get? y = some { mwObj id x with dict := none, slots := #[] }) rfl (fun hh e => ⟨.machine, .inr (.inl rfl), (Looks.ld (part := none) e).andThen .now⟩) (evalArgs_nil3 ⟨hy, hQ⟩)
end
section
variable {w : World} {A : Around} {E : Value → Shared → Prop} {h h₀ H hB : Heap} {ex : List Addr} {g : Array GenState} {d : Drawn} {t : Nat} {os : OsState} {env : Env} {m : Str → Option Value} {mu mu0 : List (Addr × Obj)} {a dl : Addr} {its : List Value} {o od : Obj} {Q : Value → Shared → Prop}
theorem accMeth {name : Str} {pl : Sem Bool} {id : String} {so : Addr} {Q : Value × List Value → Shared → Prop} (C : Cx w h) (hso : h.get? so = some (ks_superObj 138 a 138)) (I : PySem.W.InstAt h a o 138 (some od))
    (hf : alongIn (hd0.heap_1 w.params) name [.type "list", .type "object"] = some (some (.builtin id))) (ho : ".".intercalate (id.cutAt '.').dropLast = "list") (hty : typeOf (.builtin id) = pure (.type "wrapper_descriptor"))
    (hn : (name == ("__class__" : Str)) = false) (hQ : Q (.ref h.objs.size, []) ⟨h.push (mwObj id a), g, d, t + 1, os⟩) : wpAny (Md w) A (getMethod (.ref so) name pl) Q E ⟨h, g, d, t, os⟩ := by
  have X := C.X
  obtain ⟨cd, hc, hm⟩ : ∃ cd, clsIn (hd0.heap_1 w.params) 138 = some cd ∧ cd.mro = [.ref 138, .type "list", .type "object"] := ⟨_, by k_is, rfl⟩
  refine super_meth hso (looks_opaque X (by k_is)) (l₀ := cd.mro) (fun A Q E s k q => wpAny_bind ((looks_clsIn X hc) A _ E s k (wpAny_pure q))) (by rw [hm]; decide) X hf ho (instLooks C I (by k_is)) hty (ks_ne X I hc) hn hQ
theorem part_count_spec (C : Cx w h) (hroom : A.depth < recursionLimit) (ho : h.get? a = some o) (hA : AccO dl its o) (hod : h.get? dl = some od) (hz : its.length ≤ 1000)
    (hQ : ∀ h' t t', Kp h h' → Q (.int its.length t') ⟨h', g, d, t, os⟩) : wpAny (Md w) A (call (.ref 135) [.ref a]) Q E ⟨h, g, d, t, os⟩ := by
  refine wpAny_call (enterS (binds := [(Str.ofString "self", .ref a)]) (mu0 := []) C (fun _ _ e => e) (by simp) (by simp) (by simp) (by k_is) (by k_is) hroom (BindsTo.of_eq rfl) (locs rfl) (fun L h1 t S => ?_) (by decide))
  refine ks_wpAt_execs_cons (ks_wpAt_Return_some (ks_wpAt_MethodCall ?_))
  refine superNode C S (by k_is) rfl rfl (hA.inst (S.keep _ _ ho) (S.keep _ _ hod)) (by k_is) rfl (by first | rfl | decide +kernel) (by k_is) (by k_is) (by k_is) (by k_is) (by rfl) (by rfl) (by rfl) (by rfl) (by decide +kernel) fun so h2 S2 => ?_
  refine accMeth (id := "list.__len__") (C.keeps S2.keep) (S2.at 0 rfl) (hA.inst (S2.keep _ _ ho) (S2.keep _ _ hod)) (by kernel_rfl) (by decide +kernel) (by kernel_rfl) (by decide) ?_
  have S3 := S2.alloc (mwObj "list.__len__" a) rfl
  refine cwMw0 (S3.at 0 rfl) (call_mw (S3.at 0 rfl) (by decide +kernel) (by decide +kernel) PySem.F.entry_list_len (by kernel_rfl) ?_)
  have hx := S3.keep _ _ ho
  obtain ⟨hc, hdl, n, hdat⟩ := hA
  show wpAny _ _ (do retInt (← seqSize a)) _ _ _
  unfold seqSize
  refine wpAny_bind (wpAny_bind (wpAny_loadPart hx ?_))
  rw [hdat]
  refine wpAny_pure (wpAny_bind (wpAny_mkInt (wpAny_pure ⟨_, rfl, ?_⟩)))
  have e : its.toArray.size = its.length := by simp
  rw [e]
  exact hQ _ _ _ S3.keep
end
end Mine
set_option maxHeartbeats 400000
namespace Mine
theorem entry_acc_new : True := trivial
section
open Builtin Builtin.ObjectAttr Builtin.Getset_descriptor
variable {w : World} {A : Around} {E : Value → Shared → Prop} {h h₀ H hB : Heap} {ex : List Addr} {g : Array GenState} {d : Drawn} {t : Nat} {os : OsState} {R : Result → Shared → Prop} {C : Addr}
structure MakesL (M : Model) (h : Heap) (C : Addr) : Prop where
  obj : X4 fun oc od cd sl => A4 (h.get? C = some ⟨oc, od, .cls cd, sl⟩) (cd.abstract = false) (cd.hasDel = false) (cd.mro.isEmpty = false)
  made : Looks M h (Bind.madeBy (.ref C)) (some "list.__new__")
  base : Looks M h (Bind.staticBase (.ref C)) (.ref C)
  self : Looks M h (isSubtype (.ref C) (.ref C)) true
  top : Looks M h (isSubtype (.ref C) (.type "list")) true
  call : Looks M h (specialOf (.ref C) "__call__") (some (.builtin "type.__call__"))
  typ : Looks M h (isInstance (.ref C) (.type "type")) true
noncomputable def makesLIn (K : Frag) (C : Addr) : Bool := match K.lookup C with
  | some ⟨_, _, .cls cd, sl⟩ => !cd.abstract && !cd.hasDel && (sl.toList[4]?).join == some (.builtin "list.__new__") && !cd.mro.isEmpty && cd.mro.contains (.ref C) && cd.mro.contains (.type "list") &&
      specialIn K (.ref C) "__call__" == some (some (.builtin "type.__call__")) && instIn K (.ref C) (.type "type") == some true
  | _ => false
theorem makesL_of {K : Frag} {M : Model} {h : Heap} (X : K.In h) {C : Addr} (e : makesLIn K C = true) : MakesL M h C := by
  unfold makesLIn at e
  split at e
  · rename_i oc od cd sl ho
    simp only [Bool.and_eq_true, Bool.not_eq_true', beq_iff_eq] at e
    obtain ⟨⟨⟨⟨⟨⟨⟨e1, e2⟩, e3⟩, e4⟩, e5⟩, e6⟩, e7⟩, e8⟩ := e
    have hc : clsIn K C = some cd := by unfold clsIn; rw [ho]
    have hm : Looks M h (mroOf (.ref C)) cd.mro := (looks_clsIn X hc).andThen .now
    obtain ⟨c, l, hl⟩ : ∃ c l, cd.mro = c :: l := by cases q : cd.mro with | nil => rw [q] at e4; cases e4 | cons c l => exact ⟨c, l, rfl⟩
    have made : Looks M h (Bind.madeBy (.ref C)) (some "list.__new__") := by
      intro A Q E s k q
      unfold Bind.madeBy
      refine wpAny_bind (hm A _ E s k ?_)
      rw [hl, List.forIn_cons]
      refine wpAny_bind (wpAny_bind (wpAny_bind (wpAny_bind (wpAny_loadPart (k _ _ (X _ _ ho)) (wpAny_pure ?_)))))
      dsimp only
      rw [← Array.getElem?_toList, e3]
      exact wpAny_pure (wpAny_pure (wpAny_pure q))
    refine ⟨⟨oc, od, cd, sl, X _ _ ho, e1, e2, e4⟩, made, ?_, looks_mroIn X ?_, looks_mroIn X ?_, looks_specialIn X e7, looks_instIn X e8⟩
    · intro A Q E s k q
      unfold Bind.staticBase
      refine wpAny_bind (hm A _ E s k ?_)
      rw [hl, List.forIn_cons]
      exact wpAny_bind (wpAny_bind (wpAny_bind (made A _ E s k (wpAny_pure (wpAny_pure (wpAny_pure q))))))
    · unfold mroIn; rw [hc, Option.bind_some, if_neg (by rw [e4]; decide), e5]
    · unfold mroIn; rw [hc, Option.bind_some, if_neg (by rw [e4]; decide), e6]
  · cases e
theorem kind_list_new : builtinKind "list.__new__" = some .builtinFn := by decide +kernel
theorem split_list_new : splitId "list.__new__" = some ("list", "__new__") := by decide +kernel
theorem row_list_new : Manifest.signature? "list.__new__" = some ⟨.any, "list", "list", .cls, [⟨"args", .varPos, false⟩, ⟨"kwargs", .varKw, false⟩]⟩ := by kernel_rfl
noncomputable abbrev accObj (C dx : Addr) : Obj := { cls := .ref C, dict := some dx, data := .seq #[] }
theorem new_L (Y : MakesL (Md w) h C)
    (hq : R (.ok (.ret (.ref (h.objs.size + 1)))) ⟨(h.push emptyDict).push (accObj C h.objs.size), g, d, t, os⟩) :
    codeAny (Md w) A (.call (.builtin "list.__new__") ⟨[.ref C], []⟩) R ⟨h, g, d, t, os⟩ := by
  obtain ⟨⟨oc, od, cd, sl, hC, e1, e2, e4⟩, made, base, self, top, call, typ⟩ := Y
  refine codeAny_call_builtin_code (plainId_quiet PySem.F.plain_list_new _) ?_
  simp only [checkBuiltinCall, kind_list_new, split_list_new, row_list_new]
  have args : Bind.checkArgs "list.__new__" ⟨.any, "list", "list", .cls, [⟨"args", .varPos, false⟩, ⟨"kwargs", .varKw, false⟩]⟩ ⟨[.ref C], []⟩ = pure () := by kernel_rfl
  rw [args]
  repeat (first | simp only [bne_self_eq_false, Bool.false_eq_true, if_false] | lk)
  refine codeAny_builtin_stack PySem.F.entry_list_new rfl fun p st => ?_
  have hown := owner_list_new
  simp only [hown]
  have fin : ∀ A', wpAny (Md w) A' (do
      let .ref d ← newDict | unsupported "internal:list.__new__"
      ret (← newObj (.ref C) (.seq #[]) (some d))) (fun fin s' => match fin with | .done f => R (.ok f) s' | .again c' => c'.quiet = true ∧ codeAny (model pg w) A c' R s') (fun e s' => R (.error e) s') ⟨h, g, d, t, os⟩ := by
    intro A'
    unfold newDict
    refine wpAny_bind (wpAny_newObj_type (s := ⟨h, g, d, t, os⟩) ?_ (by size_fits))
    show wpAny _ _ (newObj _ _ _ >>= _) _ _ _
    unfold newObj
    dsimp only
    rw [if_neg (by decide)]
    unfold newObjAsIs classHasDel
    refine wpAny_bind (wpAny_bind (wpAny_alloc (wpAny_bind (wpAny_bind (wpAny_load (Heap.get?_push_of_some _ (Heap.get?_push_of_some _ hC)) (wpAny_pure ?_))))))
    rw [e2]
    refine wpAny_pure (wpAny_pure ?_)
    show R _ _
    rw [Heap.size_push]
    exact hq
  repeat (first | simp only [bne_self_eq_false, Bool.false_eq_true, if_false, if_true, Bool.not_true] | exact fin _ | lk)
end

section
variable {w : World} {A : Around} {E : Value → Shared → Prop} {h h₀ H hB : Heap} {ex : List Addr} {g : Array GenState} {d : Drawn} {t : Nat} {os : OsState} {R : Result → Shared → Prop} {C : Addr}
open Builtin Builtin.ObjectAttr Builtin.Getset_descriptor
theorem acc_core {init : Value} (Y : MakesL (Md w) h C) (hi : Looks (Md w) h (typeLookup (.ref C) "__init__") (some init))
    (hb : ∀ self, Looks (Md w) h (bindSpecial init self) (init, [self]))
    (hq : codeAny (Md w) (A.under (.builtin "type.__call__" ⟨[.ref C], []⟩)) (.call init ⟨[.ref (h.objs.size + 1)], []⟩) (InitBack (h.objs.size + 1) R) ⟨(h.push emptyDict).push (accObj C h.objs.size), g, d, t, os⟩) :
    codeAny (Md w) A (.call (.ref C) ⟨[], []⟩) R ⟨h, g, d, t, os⟩ := by
  have Y' := Y
  obtain ⟨⟨oc, od, cd, sl, hC, e1, e2, e4⟩, made, base, self, top, call, typ⟩ := Y
  refine codeAny_of_tree ?_
  show wpAny _ _ (callAny (.ref C) _) _ _ _
  refine nd_load hC ?_
  show wpAny _ _ (callAny.viaDunder (.ref C) _) _ _ _
  unfold callAny.viaDunder
  refine wpAny_bind (call.at ?_)
  dsimp only
  rw [tc_bind]
  refine wpAny_bind (wpAny_pure (wpAny_bind (wpAny_pure ?_)))
  refine wpAny_pure (a := PySem.Fin.again (.call (.builtin "type.__call__") ⟨[.ref C], []⟩)) (And.intro rfl ?_)
  refine codeAny_call_builtin_at (Code.quiet_builtin _ (by decide +kernel)) entry_typeCall (check_slot tc_kind tc_split typ (tc_args _ _ _) ?_)
  unfold Builtin.«type.__call__»
  have hm : Looks (Md w) h (mroOf (.ref C)) cd.mro := ((Looks.ld (part := none) hC).andThen .now).andThen .now
  repeat (first | simp only [e4, Bool.false_eq_true, if_false] | with_reducible refine wpAny_call ?_ | lk)
  refine new_L Y' ?_
  have k : ∀ b o, h.get? b = some o → ((h.push emptyDict).push (accObj C h.objs.size)).get? b = some o := fun b o e => Heap.get?_push_of_some _ (Heap.get?_push_of_some _ e)
  have hx : ((h.push emptyDict).push (accObj C h.objs.size)).get? (h.objs.size + 1) = some (accObj C h.objs.size) := by heap_get
  have t1 : Looks (Md w) ((h.push emptyDict).push (accObj C h.objs.size)) (typeOf (.ref (h.objs.size + 1))) (.ref C) := (Looks.ld hx).andThen .now
  have s1 := self.keeps k
  have i1 := hi.keeps k
  have b1 := (hb (.ref (h.objs.size + 1))).keeps k
  unfold isInstance callSpecial? specialOf
  repeat (first | with_reducible refine wpAny_call ?_ | lk)
  refine codeAny_mono hq fun r s' z => ?_
  rcases r with e | (v | _ | _ | _) <;> first | exact z | exact z.elim | skip
  obtain ⟨rfl, z⟩ := z
  exact wpAny_pure (wpAny_pure z)
theorem makeAcc {Q : Value → Shared → Prop} {Cl fI : Addr} (X : Cx w h) (hm : makesLIn (hd0.heap_1 w.params) Cl = true)
    (hi : findIn (hd0.heap_1 w.params) (.ref Cl) "__init__" = some (some (.ref fI))) (hf : typeIn (hd0.heap_1 w.params) (.ref fI) = some (.type "function"))
    (hQ : ∀ h' x dx A', A'.depth ≤ A.depth + 1 → A'.handled = A.handled → Kp h h' → (∀ p ∈ [(x, accObj Cl dx), (dx, dictOf [] 0)], h'.get? p.1 = some p.2) → ([(x, accObj Cl dx), (dx, dictOf [] 0)].map (·.1)).Nodup → (∀ a ∈ [(x, accObj Cl dx), (dx, dictOf [] 0)].map (·.1), h.get? a = none) →
      codeAny (Md w) A' (.call (.ref fI) ⟨[.ref x], []⟩) (InitR x Q) ⟨h', g, d, t, os⟩) :
    wpAny (Md w) A (PySem.call (.ref Cl) []) Q E ⟨h, g, d, t, os⟩ := by
  have e1 : (h.push emptyDict).objs.size = h.objs.size + 1 := Heap.size_push ..
  have k : Kp h ((h.push emptyDict).push (accObj Cl h.objs.size)) := fun b o e => Heap.get?_push_of_some _ (Heap.get?_push_of_some _ e)
  have gd : ((h.push emptyDict).push (accObj Cl h.objs.size)).get? h.objs.size = some (dictOf [] 0) := Heap.get?_push_of_some _ (Heap.get?_push_size _ rfl)
  have gx : ((h.push emptyDict).push (accObj Cl h.objs.size)).get? (h.objs.size + 1) = some (accObj Cl h.objs.size) := by
    rw [← e1]; exact Heap.get?_push_size _ rfl
  have nx : h.get? (h.objs.size + 1) = none := by
    cases q : h.get? (h.objs.size + 1) with
    | none => rfl
    | some o => exact absurd (Heap.lt_size q) (Nat.not_lt.mpr (Nat.le_succ _))
  refine wpAny_call (acc_core (makesL_of X.X hm) (looks_findIn X.X hi) (fun self => bind_fn X.X self hf) ?_)
  have hq := hQ ((h.push emptyDict).push (accObj Cl h.objs.size)) (h.objs.size + 1) h.objs.size (A.under (.builtin "type.__call__" ⟨[.ref Cl], []⟩)) ?_ rfl k ?_ ?_ ?_
  · refine codeAny_mono hq fun r s' z => ?_
    rcases r with e | (v | _ | _ | _) <;> first | exact z | exact z.elim
  · show A.depth + _ ≤ _
    refine Nat.add_le_add_left ?_ _
    show Code.weight _ ≤ 1
    unfold Code.weight
    simp [Code.frames, Code.isCreation, Code.isGuard, Code.isCaller, guardIds, Code.isFrame]
  · intro p hp
    rcases List.mem_cons.mp hp with rfl | hp
    · exact gx
    · rcases List.mem_cons.mp hp with rfl | hp
      · exact gd
      · cases hp
  · simp
  · intro a ha
    simp only [List.map_cons, List.map_nil, List.mem_cons, List.not_mem_nil, or_false] at ha
    rcases ha with rfl | rfl
    · exact nx
    · exact fresh_none h
end
end Mine
set_option maxHeartbeats 400000
namespace Mine
section
variable {w : World} {A : Around} {E : Value → Shared → Prop} {h h₀ H hB : Heap} {ex : List Addr} {g : Array GenState} {d : Drawn} {t : Nat} {os : OsState} {m : Str → Option Value} {mu mu0 : List (Addr × Obj)} {a dl : Addr} {its : List Value} {o od : Obj} {Q : Value → Shared → Prop}
/-- its table, written out -/
noncomputable def AccE (od : Obj) : Prop := X4 fun hs tk v n => od = dictOf [⟨hs, .str (Str.ofString "_initial_size") tk, v⟩] n
theorem AccE.toD {od : Obj} (x : AccE od) : AccD od := by
  obtain ⟨hs, tk, v, n, rfl⟩ := x
  intro name hn
  rw [lookIn_dict]
  have e : (Value.str (Str.ofString "_initial_size") tk).isStr name = false := by
    show ((Str.ofString "_initial_size") == name) = false
    exact beq_eq_false_iff_ne.mpr fun q => hn q.symm
  unfold getL
  simp [List.find?, e]
  rfl
theorem acc_make {Q : Value → Shared → Prop} (C : Cx w h) (hroom : A.depth + 2 < recursionLimit)
    (hQ : ∀ h' t x dx o od, Kp h h' → h.get? x = none → h.get? dx = none → x ≠ dx → h'.get? x = some o → AccO dx [] o → h'.get? dx = some od → AccE od → Q (.ref x) ⟨h', g, d, t, os⟩) :
    wpAny (Md w) A (call (.ref 138) []) Q E ⟨h, g, d, t, os⟩ := by
  refine makeAcc C (by kernel_rfl) (fI := 75) (by k_is) (by k_is) fun h1 x dx A' hA1 hA2 k1 hled hnd hnew => ?_
  refine enterS (binds := [(Str.ofString "self", .ref x), (Str.ofString "initial_size", .int 0 370)]) C k1 hled hnd hnew (by k_is) (by k_is) (by omega) (binds_K (C.keeps k1).X rfl (by k_is) rfl rfl rfl) (locs rfl) (fun L h2 t S => ?_) (by decide)
  have Cs : ∀ {h'}, Kp h h' → Cx w h' := fun k => C.keeps k
  have hA0 : AccO dx [] (accObj 138 dx) := ⟨rfl, rfl, _, rfl⟩
  refine ks_wpAt_execs_cons (wpAt_of_wpAny (plainObj_wpAny_Assign_Attribute (ldL S rfl (ldL S rfl ?_))))
  refine stAttr (i := 1) (Cs S.keep) S rfl (hA0.inst (S.at 0 rfl) (S.at 1 rfl)) rfl (by k_is) (by kernel_rfl) (by k_is) (by k_is) rfl (by decide) fun h3 hs1 tk1 S3 => ?_
  have S3 : St h h1 [x, dx] L h3 _ [(x, accObj 138 dx), (dx, dictOf [⟨hs1, .str (Str.ofString "_initial_size") tk1, .int 0 370⟩] _)] := S3
  refine ks_wpAt_execs_cons (ks_wpAt_Expr_any (ks_wpAt_MethodCall ?_))
  refine superNode C S3 (by k_is) rfl rfl (hA0.inst (S3.at 0 rfl) (S3.at 1 rfl)) (by k_is) rfl (by first | rfl | decide +kernel) (by k_is) (by k_is) (by k_is) (by k_is) (by rfl) (by rfl) (by rfl) (by rfl) (by decide +kernel) fun so h4 S4 => ?_
  refine accMeth (id := "list.__init__") (C.keeps S4.keep) (S4.at 0 rfl) (hA0.inst (S4.at 1 rfl) (S4.at 2 rfl)) (by kernel_rfl) (by decide +kernel) (by kernel_rfl) (by decide) ?_
  have S5 := S4.alloc (mwObj "list.__init__" x) rfl
  refine cwMw0 (S5.at 0 rfl) (call_mw (S5.at 0 rfl) (by decide +kernel) (by decide +kernel) PySem.F.entry_list_init (by kernel_rfl) ?_)
  have hx := S5.at 2 (a := x) rfl
  show wpAny _ _ (Builtin.List.listItems (.ref x) >>= _) _ _ _
  unfold Builtin.List.listItems
  refine wpAny_bind (wpAny_bind (wpAny_seqItems (s := ⟨_, g, d, _, os⟩) hx rfl (wpAny_pure ?_)))
  show wpAny _ _ (updateSeq x (fun _ => #[]) >>= _) _ _ _
  refine wpAny_bind (wpAny_updateSeq (s := ⟨_, g, d, _, os⟩) hx rfl (wpAny_bind (wpAny_letGo (wpAny_pure ⟨.none, rfl, ?_⟩))))
  obtain ⟨n', hd'⟩ := Obj.data_mapSeq (o := accObj 138 dx) rfl (fun _ => (#[] : Array Value))
  have S6 := S5.set 2 rfl hA0.notTup (Heap.SameBut.update ..) (Heap.get?_update_self (Obj.mapSeq fun _ => #[]) hx (Obj.isFreed_of_seq hd'))
  refine wpAt_of_wpAny (wpAny_execs_nil ⟨rfl, hQ _ _ x dx _ _ S6.keep (hnew _ (by simp)) (hnew _ (by simp)) (by simpa using hnd) (S6.at 2 rfl) ⟨Obj.cls_mapSeq .., rfl, n', hd'⟩ (S6.at 3 rfl) ⟨_, _, _, _, rfl⟩⟩)
end
end Mine
set_option maxHeartbeats 400000
namespace Mine
section
variable {w : World} {A : Around} {E : Value → Shared → Prop} {h h₀ H hB : Heap} {ex : List Addr} {g : Array GenState} {d : Drawn} {t : Nat} {os : OsState} {m : Str → Option Value} {mu mu0 : List (Addr × Obj)} {a dl l : Addr} {its new : List Value} {o od : Obj} {Q : Value → Shared → Prop}
theorem reset_spec (C : Cx w hB) (k0 : Kp hB h) (na : hB.get? a = none) (nd : hB.get? dl = none) (ne : a ≠ dl) (hroom : A.depth < recursionLimit)
    (ho : h.get? a = some o) (hA : AccO dl its o) (hod : h.get? dl = some od) (hE : AccE od) (hl : h.IsList l new.toArray) (hz : its.length ≤ 1000) (hz2 : new.length ≤ 1000)
    (hQ : ∀ h' t o' od', (∀ b x, b ≠ a → b ≠ dl → h.get? b = some x → h'.get? b = some x) → h'.get? a = some o' → AccO dl new o' → h'.get? dl = some od' → AccE od' → Q .none ⟨h', g, d, t, os⟩) :
    wpAny (Md w) A (call (.ref 120) [.ref a, .ref l]) Q E ⟨h, g, d, t, os⟩ := by
  obtain ⟨hs, tk, v, n, rfl⟩ := hE
  refine enterCallM (mu0 := [(a, o), (dl, dictOf [⟨hs, .str (Str.ofString "_initial_size") tk, v⟩] n)]) (binds := [(Str.ofString "self", .ref a), (Str.ofString "startval", .ref l)]) C k0 ?_ (by simpa using ne) ?_ (by k_is) (by k_is) hroom (binds_K (C.keeps k0).X rfl (by k_is) rfl rfl rfl) (locs rfl) (fun L h1 t S => ?_) (by decide)
  · intro p hp
    rcases List.mem_cons.mp hp with rfl | hp
    · exact ho
    · rcases List.mem_cons.mp hp with rfl | hp
      · exact hod
      · cases hp
  · intro b hb
    simp only [List.map_cons, List.map_nil, List.mem_cons, List.not_mem_nil, or_false] at hb
    rcases hb with rfl | rfl
    · exact na
    · exact nd
  obtain ⟨ol, hol, hcl, nl, hdl⟩ := hl
  have la : l ≠ a := fun e => by
    subst e
    rw [ho] at hol
    cases hol
    rw [hA.1] at hcl; cases hcl
  have ld : l ≠ dl := fun e => by
    subst e
    rw [hod] at hol
    cases hol
    simp at hcl
  have Cs : ∀ {h'}, Kp hB h' → Cx w h' := fun k => C.keeps k
  refine xIf (wpAny_isTrue_Compare1 (ldL S rfl (PySem.wpAny_Constant_none (is_none (wpAny_truthy_bool ?_)))))
  rw [show (Value.ref l == Value.none) = false by simp, if_neg (by decide)]
  refine xNil ?_
  refine xCons (wpAny_Assign_Subscript (ldL S rfl ?_))
  refine ldL S rfl (wpAny_Slice (wpAny_evalPart_none (wpAny_evalPart_none (wpAny_evalPart_none ?_))))
  have S1 := S.alloc { cls := .type "slice", data := .fields #[.none, .none, .none] } rfl
  refine setItemBi (Cs S1.keep) (hA.inst (S1.at 1 rfl) (S1.at 2 rfl)) (by k_is) (by k_is) rfl ?_
  refine acc_setslice (Cs S1.keep) (S1.at 1 rfl) hA (S1.at 2 rfl) hz hz2 ⟨_, S1.at 0 rfl, rfl, rfl⟩ .none .none ⟨ol, S1.pres _ _ (by simp [la, ld]) hol, hcl, nl, hdl⟩ fun h2 o2 k2 ho2 hA2 => ?_
  have e : its.take (sliceBounds none none none its.length).1.toNat ++ new ++ its.drop (max (sliceBounds none none none its.length).1 (sliceBounds none none none its.length).2.1).toNat = new := by
    rw [bounds_all]
    simp
  rw [e] at hA2
  have S2 := (S1.put 1 rfl hA.notTup k2 ho2).tail
  have S2 : St hB h [a, dl] L h2 _ [(a, o2), (dl, dictOf [⟨hs, .str (Str.ofString "_initial_size") tk, v⟩] n)] := S2
  refine xCons (plainObj_wpAny_Assign_Attribute (cI (ldL S2 rfl ?_)))
  refine stAttr (i := 1) (Cs S2.keep) S2 rfl (hA2.inst (S2.at 0 rfl) (S2.at 1 rfl)) hA2.2.1 (by k_is) (by kernel_rfl) (by k_is) (by k_is) ?_ (by simp) fun h3 hs1 tk1 S3 => ?_
  · unfold getL
    simp [List.find?, Value.isStr]
  refine xNil (hQ h3 _ o2 _ (fun b x n1 n2 e => S3.pres b x (by simp [n1, n2]) e) (S3.at 0 rfl) hA2 (S3.at 1 rfl) ?_)
  exact ⟨hs, tk, _, _, rfl⟩
end
end Mine
set_option maxHeartbeats 400000
namespace Mine
section
variable {w : World} {M : Model} {A : Around} {E : Value → Shared → Prop} {h h' h₀ H hB : Heap} {ex : List Addr} {g : Array GenState} {d : Drawn} {t : Nat} {os : OsState} {env : Env} {m m' : Str → Option Value} {mu mu' mt : List (Addr × Obj)} {L c P D a dl : Addr} {ps : Array Value} {qual : Str} {ln cl : Int} {o : Obj}
/-- the builtins' module stands -/
noncomputable def BmAt (h : Heap) : Prop := X3 fun mg bm ob => A7 (h.Ns mainGlobals mg) (mg "__builtins__" = some (.ref bm)) (bm ≠ builtinsNs) (h.get? bm = some ob) (ob.cls = .type "module") (ob.dict = some builtinsNs) (ob.data = .plain)
theorem BmAt.keeps (x : BmAt h) (k : Kp h h') : BmAt h' :=
  let ⟨mg, bm, ob, a, b, c, e, r1, r2, r3⟩ := x; ⟨mg, bm, ob, a.keeps k, b, c, k _ _ e, r1, r2, r3⟩
theorem St.enter (S : St h₀ H ex L h m mu) (S' : St h₀ H ex L h' m' mu') (ha : mu'.map (·.1) = mu.map (·.1)) (hn : h.get? D = none) (hD : h'.get? D = some o) : St h₀ H ex L h' m' ((D, o) :: mu') := by
  have nL : D ≠ L := by
    intro e
    obtain ⟨oL, _, _, x, _⟩ := S.ns
    rw [← e, hn] at x; cases x
  have nm : D ∉ mu'.map (·.1) := by
    rw [ha]
    intro e
    obtain ⟨p, hp, rfl⟩ := List.mem_map.mp e
    have := S.led p hp
    rw [hn] at this; cases this
  refine ⟨S'.ns, fun p hp => ?_, ?_, fun b hb => ?_, S'.pres, S'.tup, S'.base⟩
  · rcases List.mem_cons.mp hp with rfl | hp
    · exact hD
    · exact S'.led p hp
  · have := S'.nd
    simp only [List.map_cons, List.nodup_cons, List.mem_cons] at this ⊢
    exact ⟨fun x => x.elim (fun e => nL e.symm) this.1, nm, this.2⟩
  · rcases List.mem_cons.mp hb with rfl | hb
    · exact S'.mtb _ (.head _)
    · rcases List.mem_cons.mp hb with e | hb
      · have e : b = D := e
        rw [e]
        cases q : H.get? D with
        | none => exact .inr rfl
        | some x =>
          refine .inl (Classical.byContradiction fun nx => ?_)
          have := S.pres D x nx q
          rw [hn] at this; cases this
      · exact S'.mtb _ (.tail _ hb)
/-- a code's table of one place at most -/
noncomputable def TabL (P : Addr) (qual : Str) (ln cl : Int) (mt : List (Addr × Obj)) : Prop := mt = [(P, tabObj #[])] ∨
  X4 fun c' oc vs t => A3 (mt = [(P, tabObj #[rawInt ln, rawInt cl, .ref c']), (c', oc)]) (oc.data = .fields vs) (vs[1]? = some (.str qual t))
theorem tabNotTup (ps : Array Value) : NotTup (tabObj ps) := fun _ _ q => by have := q.1; simp at this
theorem genCode {pos : Pos} {scope : Scope} {Q : Value → Shared → Prop} (S : St h₀ H ex L h m (mt ++ mu)) (hT : TabL P qual pos.line pos.col mt) (CH : CodeHd h c P) (hc : env.code = .ref c)
    (hQ : ∀ h' c' mt' tk, St h₀ H ex L h' m (mt' ++ mu) → TabL P qual pos.line pos.col mt' → h.objs.size ≤ h'.objs.size → Q (.ref c') ⟨h', g, d, tk, os⟩) : wpAny M A (genexprCode env pos qual scope) Q E ⟨h, g, d, t, os⟩ := by
  rcases hT with rfl | ⟨c', oc, vs, tt, rfl, hd, hv⟩
  · have hP := S.at 0 (a := P) rfl
    refine wpAny_genexprCodeX (s := ⟨h, g, d, t, os⟩) hc (CH.code hP trivial) (CH.tab hP) rfl fun c' h' tk hx hge hlt _ hrec htb _ => ?_
    have S' := S.put 0 rfl (tabNotTup _) (fun b x ne e => hx b x ne e) htb.2
    obtain ⟨c₂, oc, vs, tt, e, hoc, hd, hv⟩ := hrec
    cases e
    have S2 := (S.enter S' rfl (Heap.get?_none_of_le hge) hoc).swap
    refine hQ h' c' [(P, tabObj (#[] ++ #[rawInt pos.line, rawInt pos.col, .ref c'])), (c', oc)] tk S2 (.inr ⟨c', oc, vs, tt, rfl, hd, hv⟩) (Nat.le_trans hge (Nat.le_of_lt hlt))
  · have hP := S.at 0 (a := P) rfl
    refine wpAny_genexprCode_hit (s := ⟨h, g, d, t, os⟩) hc (CH.code hP trivial) (c' := .ref c') (by simp [codeAmong, rawInt]) ?_
    exact hQ h c' _ _ S (.inr ⟨c', oc, vs, tt, rfl, hd, hv⟩) (Nat.le_refl _)
end
section
variable {w : World} {A : Around} {E : Value → Shared → Prop} {h h' h₀ H hB : Heap} {ex : List Addr} {g : Array GenState} {d : Drawn} {t : Nat} {os : OsState} {env : Env} {m m' : Str → Option Value} {mu mu' mt : List (Addr × Obj)} {a dl : Addr} {its : List Value} {o od : Obj}
theorem seq_of_acc (ho : h.get? a = some o) (hA : AccO dl its o) : SeqAt h a its := let ⟨_, _, n, e⟩ := hA; ⟨o, n, ho, e⟩
theorem accIter {Q : Value → Shared → Prop} (C : Cx w h) (ho : h.get? a = some o) (hA : AccO dl its o) (hod : h.get? dl = some od)
    (hQ : Q (.ref h.objs.size) ⟨h.push { cls := .type "list_iterator", data := .fields #[.ref a, .int 0 0] }, g, d, t, os⟩) : wpAny (Md w) A (pyIter (.ref a)) Q E ⟨h, g, d, t, os⟩ := by
  have I := hA.inst ho hod
  have X := C.X
  have hf : findIn (hd0.heap_1 w.params) (.ref 138) "__iter__" = some (some (.builtin "list.__iter__")) := by k_is
  have hb : bindSpecial (.builtin "list.__iter__") (.ref a) = pure (.builtin "list.__iter__", [.ref a]) := rfl
  have cal : ∀ (Q' : Value → Shared → Prop) (E' : Value → Shared → Prop), Q' (.ref h.objs.size) ⟨h.push { cls := .type "list_iterator", data := .fields #[.ref a, .int 0 0] }, g, d, t, os⟩ →
      wpAny (Md w) A (call (.builtin "list.__iter__") [.ref a]) Q' E' ⟨h, g, d, t, os⟩ := by
    intro Q' E' q
    refine callOwn (owner := "list") (n := "__iter__") (by decide +kernel) (by first | exact .inl (by decide +kernel) | exact .inr (by decide +kernel)) (by decide +kernel) (instLooks C I (by k_is)) PySem.entry_list_iter (PySem.args_list_iter _) ?_
    show wpAny _ _ (do ret (← newFields "list_iterator" [.ref a, rawInt 0])) _ _ _
    exact wpAny_bind (wpAny_newObj_type (s := ⟨h, g, d, t, os⟩) (wpAny_pure ⟨_, rfl, q⟩))
  have fin : wpAny (Md w) A (call (.builtin "list.__iter__") [.ref a] >>= fun v => pure (some v)) (fun r s' => ∃ v, r = some v ∧ v = .ref h.objs.size ∧ s' = ⟨h.push { cls := .type "list_iterator", data := .fields #[.ref a, .int 0 0] }, g, d, t, os⟩) E ⟨h, g, d, t, os⟩ :=
    wpAny_bind (cal _ _ (wpAny_pure ⟨_, rfl, rfl, rfl⟩))
  have one : ∀ refuse : Sem Value, wpAny (Md w) A (callSpecialIfBoundUnlessNone? (.ref a) "__iter__" refuse) (fun r s' => ∃ v, r = some v ∧ v = .ref h.objs.size ∧ s' = ⟨h.push { cls := .type "list_iterator", data := .fields #[.ref a, .int 0 0] }, g, d, t, os⟩) E ⟨h, g, d, t, os⟩ := by
    intro refuse
    simp only [callSpecialIfBoundUnlessNone?, bindSpecialIfBound?]
    refine wpAny_holding (wpAny_bind (wpAny_bind (wpAny_bind (I.type.here ((looks_findIn X hf).here ?_)))))
    refine wpAny_bind (wpAny_askSetting (wpAny_ite ?_))
    split
    · rw [hb]
      exact wpAny_bind (wpAny_pure (wpAny_pure (by exact fin)))
    · rw [hb]
      exact wpAny_tryCatch (wpAny_bind (wpAny_pure (wpAny_pure (by exact fin))))
  unfold pyIter
  refine wpAny_bind (wpAny_bind (I.type.here ((looks_findIn X hf).here ?_)))
  show wpAny (Md w) A (callSpecialIfBoundUnlessNone? (.ref a) "__iter__" _ >>= _) Q E _
  refine wpAny_bind (wpAny_mono (one _) (fun r s' hr => ?_) fun _ _ z => z)
  obtain ⟨v, rfl, rfl, rfl⟩ := hr
  dsimp only
  refine wpAny_bind (wpAny_specialOf (T := "list_iterator") ⟨_, Heap.get?_push_size _ rfl, rfl⟩ slot_listiter_next.lookup ?_)
  exact wpAny_pure hQ
end
end Mine
set_option maxHeartbeats 400000
namespace Mine
section
variable {w : World} {A : Around} {E : Value → Shared → Prop} {h h' h₀ H hB : Heap} {ex : List Addr} {g : Array GenState} {d : Drawn} {t : Nat} {os : OsState} {env : Env} {m m' : Str → Option Value} {mu mu' mt : List (Addr × Obj)} {a dl : Addr} {its : List Value} {o od : Obj} {line : List (Str × Str)}
noncomputable def PairsAt (h : Heap) (its : List Value) (line : List (Str × Str)) : Prop := its.length = line.length ∧ ∀ (i : Nat) (p : Str × Str), line[i]? = some p → ∃ (T : Addr) (tx ty : Tok), its[i]? = some (Value.ref T) ∧ h.IsTuple T #[.str p.1 tx, .str p.2 ty]
noncomputable abbrev strQ : Str := (Str.ofString "_Accumulator.__str__" ++ ".<locals>.") ++ "<genexpr>"
noncomputable def catS (x y : Str) : Str := ⟨x.cps ++ y.cps⟩
noncomputable def allS (line : List (Str × Str)) : Str := ⟨(line.flatMap fun p => p.1.cps.toList ++ p.2.cps.toList).toArray⟩
theorem ldGx {x : Str} {pos : Pos} {v : Value} {Q : Value → Shared → Prop} (C : Cx w h) (e : nsIn (hd0.heap_1 w.params) mainGlobals x = some (some v)) (hQ : Q v ⟨h, g, d, t, os⟩)
    (hk : env.scope.kind = .function := by rfl) (hx : env.kindOf x = some .globalImplicit := by rfl) (hg : env.globals = mainGlobals := by rfl) (hd : (x == ("__debug__" : Str)) = false := by rfl) :
    wpAny (Md w) A (eval (.Name x pos) env) Q E ⟨h, g, d, t, os⟩ := by
  obtain ⟨p, l, mg, mb, T⟩ := C.T
  exact Name_function_global hk hx (loadGlobal_global (env := env) (hg ▸ T.g) (mg_of C.X T.g e) hQ) hd
theorem join2 (x y : Str) : Txt.join (Str.ofString "") [x, y] = catS x y := by
  unfold Txt.join
  rw [StrLaws.glued_eq_join]
  show x ++ Str.ofString "" ++ y = catS x y
  have : (Str.ofString "").cps = #[] := by decide +kernel
  show Str.mk ((x.cps ++ (Str.ofString "").cps) ++ y.cps) = _
  rw [this]
  simp [catS]
theorem joinAll (line : List (Str × Str)) : Txt.join (Str.ofString "") (line.map fun p => catS p.1 p.2) = allS line := by
  unfold Txt.join
  rw [StrLaws.glued_eq_join]
  have h0 : (Str.ofString "").cps = #[] := by decide +kernel
  have key : ∀ l : List (Str × Str), (Str.join (Str.ofString "") (l.map fun p => catS p.1 p.2)).cps = (l.flatMap fun p => p.1.cps.toList ++ p.2.cps.toList).toArray := by
    intro l
    induction l with
    | nil => rfl
    | cons p r ih =>
      cases r with
      | nil =>
        show (catS p.1 p.2).cps = _
        apply Array.toList_inj.mp
        simp [catS]
      | cons q r =>
        show ((catS p.1 p.2).cps ++ (Str.ofString "").cps) ++ (Str.join (Str.ofString "") ((q :: r).map fun p => catS p.1 p.2)).cps = _
        rw [ih, h0]
        apply Array.toList_inj.mp
        simp [catS]
  show Str.mk _ = Str.mk _
  rw [key]
noncomputable def LineSt (I a : Addr) (its : List Value) (line : List (Str × Str)) (N : Nat) (i : Nat) (hh : Heap) : Prop := hh.IsListIter I a i ∧ SeqAt hh a its ∧
  ∀ (j : Nat) (p : Str × Str), line[j]? = some p → ∃ (T : Addr) (tx ty : Tok), its[j]? = some (Value.ref T) ∧ hh.IsTuple T #[.str p.1 tx, .str p.2 ty] ∧ T < N ∧ T ≠ I
theorem LineSt.keeps {I : Addr} {N i : Nat} (x : LineSt I a its line N i h) (ha : a < N) (hI : I < N) (k : ∀ b ∈ List.range N, ∀ o, h.get? b = some o → h'.get? b = some o) : LineSt I a its line N i h' := by
  obtain ⟨⟨o1, e1, r1⟩, ⟨o2, n2, e2, r2⟩, x3⟩ := x
  refine ⟨⟨o1, k _ (List.mem_range.mpr hI) _ e1, r1⟩, ⟨o2, n2, k _ (List.mem_range.mpr ha) _ e2, r2⟩, fun j p hj => ?_⟩
  obtain ⟨T, tx, ty, e, hT, hl, hn⟩ := x3 j p hj
  exact ⟨T, tx, ty, e, tup_keeps hT (k _ (List.mem_range.mpr hl)), hl, hn⟩
theorem walkLine {I : Addr} {N : Nat} (hlen : its.length = line.length) (hI : I < N) (ha : a < N) (hIa : a ≠ I) (A' : Around) (hh : A'.handled = none) :
    WalksU pg w A' I (List.range N) [I] line.length (fun i vals => X3 fun p tx ty => (line[i]? = some p) ∧ (vals = #[.str p.1 tx, .str p.2 ty])) (LineSt I a its line N) (fun i T hh => T ≠ I ∧ LineSt I a its line N (i + 1) hh) where
  sub := fun b hb => by
    have : b = I := by simpa using hb
    subst this
    exact List.mem_range.mpr hI
  frame := fun i h h' st k => st.keeps ha hI k
  item := fun i s Q E hi st hQ => by
    obtain ⟨h, g, d, t, os⟩ := s
    obtain ⟨st1, st2, st3⟩ := id st
    obtain ⟨T, tx, ty, e, hT, hl, hn⟩ := st3 i line[i] (by simp [hi])
    refine nextSeq st1 st2 (x := .ref T) e fun h' hit hsb => ?_
    have k : ∀ b o, b ≠ I → h.get? b = some o → h'.get? b = some o := fun b o nb e => hsb.extBut b o nb e
    refine hQ T _ h' t ⟨line[i], tx, ty, by simp [hi], rfl⟩ (tup_keeps hT fun o => k _ o hn) ⟨hn, hit, ?_, fun j p hj => ?_⟩ fun b o hb e => k b o (by simpa using hb) e
    · obtain ⟨o2, n2, e2, r2⟩ := st2
      exact ⟨o2, n2, k _ _ hIa e2, r2⟩
    · obtain ⟨T', tx', ty', e', hT', hl', hn'⟩ := st3 j p hj
      exact ⟨T', tx', ty', e', tup_keeps hT' fun o => k _ o hn', hl', hn'⟩
  go := fun elts k pos i T s Q E hm hQ => by
    obtain ⟨h, g, d, t, os⟩ := s
    obtain ⟨oI, hoI, x⟩ := hm.2.1
    exact goSeq (by decide) (.inr ⟨_, _, _, rfl⟩) hoI x (hQ h hm.2 fun b o _ e => e)
  apart := fun i T h hm => by simpa using hm.1
  done := fun s Q E st hQ => by
    obtain ⟨h, g, d, t, os⟩ := s
    refine nextSeqEnd hh st.1 st.2.1 (by simp [hlen]) fun h' he => hQ h' t fun b o hb e => he b o (by simpa using hb) e
  self := fun i s Q E st hQ => wpAny_pyIter_listiter st.1 hQ
theorem methStr {D : Str} {tk : Tok} {name : Str} {id : String} {pl : Sem Bool} {Q : Value × List Value → Shared → Prop} (slot : Slot "str" name id) (ty : typeOf (.builtin id) = pure (.type "method_descriptor")) (hQ : Q (.builtin id, [.str D tk]) ⟨h, g, d, t, os⟩) :
    wpAny (Md w) A (getMethod (.str D tk) name pl) Q E ⟨h, g, d, t, os⟩ :=
  getMethod_builtin (s := ⟨h, g, d, t, os⟩) (typeIs_str _ _ _) PySem.F.plainAttrs_str slot ty (fun a e => by cases e) hQ
theorem acc_str_spec {Q : Value → Shared → Prop} (C : Cx w hB) (MB : BmAt hB) (k0 : Kp hB h) (hT : TabL 107 strQ 43 32 mt) (hmu : ∀ p ∈ mt, h.get? p.1 = some p.2) (nd : (mt.map (·.1)).Nodup) (hnew : ∀ a ∈ mt.map (·.1), hB.get? a = none)
    (hroom : A.depth + 1 < recursionLimit) (hh : A.handled = none) (ho : h.get? a = some o) (hA : AccO dl its o) (hod : h.get? dl = some od) (na : a ∉ mt.map (·.1)) (nl : dl ∉ mt.map (·.1)) (hp : PairsAt h its line) (hz : line.length ≤ 10) (hs : ∀ p ∈ line, p.1.cps.size ≤ 10 ∧ p.2.cps.size ≤ 10)
    (hQ : ∀ h' g' t tk mt', TabL 107 strQ 43 32 mt' → (∀ p ∈ mt', h'.get? p.1 = some p.2) → (mt'.map (·.1)).Nodup → (∀ b ∈ mt'.map (·.1), b ∈ mt.map (·.1) ∨ h.get? b = none) →
      (∀ b x, b ∉ mt.map (·.1) → h.get? b = some x → h'.get? b = some x) → (AllBare g → AllBare g') → Q (.str (allS line) tk) ⟨h', g', d, t, os⟩) :
    wpAny (Md w) A (call (.ref 112) [.ref a]) Q E ⟨h, g, d, t, os⟩ := by
  refine enterCallM (mu0 := mt) (binds := [(Str.ofString "self", .ref a)]) C k0 hmu nd hnew (by k_is) (by k_is) (by omega) (BindsTo.of_eq rfl) (locs rfl) (fun L h1 t S => ?_) (by decide)
  refine xRet (MethodCall_ (ldG C S (by k_is) ?_) (by rfl))
  refine methStr PySem.F.slot_str_join PySem.F.type_str_join ?_
  refine cwBi (spliced_more ?_)
  refine wpAny_GeneratorExp_walksQT (A := A.deeper _) hh rfl rfl (by decide) rfl rfl rfl (by decide) rfl (show A.depth + 1 < _ by omega) ?_ (by intro _; rfl)
  refine ldL S rfl ?_
  have keepA : ∀ {b x}, b ∉ mt.map (·.1) → h.get? b = some x → h1.get? b = some x := fun nb e => S.pres _ _ nb e
  refine accIter (C.keeps S.keep) (keepA na ho) hA (keepA nl hod) ?_
  have S1 := S.alloc { cls := .type "list_iterator", data := .fields #[.ref a, .int 0 0] } rfl
  refine ⟨(C.keeps S1.keep).lim, ?_⟩
  have S1' : St hB h (mt.map (·.1)) L _ _ (mt ++ [(h1.objs.size, { cls := .type "list_iterator", data := .fields #[.ref a, .int 0 0] })]) := S1.perm (by simpa using (List.perm_append_comm (l₁ := [_]) (l₂ := mt)))
  refine genCode (mt := mt) (c := 111) S1' hT (codeHd_of_K (C.keeps S1.keep).X (by kernel_rfl)) rfl fun h2 c' mt' tk2 S2 hT2 hsz2 => ?_
  obtain ⟨mg, bm, ob, b1, b2, b3, b4, b5, b6, b7⟩ := MB.keeps S2.keep
  refine wpAny_builtinsFor b1 b2 b3 b4 b5 b6 b7 ?_
  generalize hI : h1.objs.size = I at S2
  have hIlt : I < h2.objs.size := by
    rw [← hI]
    exact Nat.lt_of_lt_of_le (by rw [Heap.size_push]; exact Nat.lt_succ_self _) hsz2
  have hIa : h2.IsListIter I a 0 := ⟨_, S2.led (I, _) (List.mem_append_right _ (.head _)), rfl, rfl⟩
  have hao : h2.get? a = some o := S2.pres _ _ na ho
  have ha2 : a < h2.objs.size := Heap.lt_size hao
  have hIa2 : a ≠ I := fun e => by
    have := hIa
    rw [← e] at this
    obtain ⟨o', e1, e2, _⟩ := this
    rw [hao] at e1
    cases e1
    rw [hA.1] at e2; cases e2
  have st0 : LineSt I a its line h2.objs.size 0 h2 := by
    refine ⟨hIa, seq_of_acc hao hA, fun j p hj => ?_⟩
    obtain ⟨T, tx, ty, e, hT⟩ := hp.2 j p hj
    have hT2 := S2.tup _ _ hT
    refine ⟨T, tx, ty, e, hT2, (by obtain ⟨_, e, _⟩ := hT2; exact Heap.lt_size e), fun q => ?_⟩
    obtain ⟨o1, e1, e2, _⟩ := hT2
    obtain ⟨o3, e3, e4, _⟩ := hIa
    rw [q, e3] at e1
    cases e1
    rw [e4] at e2; simp at e2
  refine ⟨I, List.range h2.objs.size, [I], line.length, _, _, _, fun _ => true, fun i y => ∃ p u, line[i]? = some p ∧ y = .str (catS p.1 p.2) u, rfl, fun A' hA' => walkLine hp.1 hIlt ha2 hIa2 A' hA', ?_, st0, fun b hb => List.mem_range.mp hb, (C.keeps S2.keep).lim, ?_, ?_, ?_⟩
  · rintro i vals ⟨p, tx, ty, _, rfl⟩
    exact ⟨_, _, rfl⟩
  · intro hm
    have e : cStatics = I := by simpa using hm
    obtain ⟨mc, ⟨oc, _, _, hc, _⟩, _⟩ := C.lim
    have := S2.new (a := I) (by simp)
    rw [← e, hc] at this; cases this
  · intro href hhref
    have Cs : ∀ (hh : Heap), (∀ b ∈ List.range h2.objs.size, b ∉ [I] → ∀ o, href.get? b = some o → hh.get? b = some o) → Cx w hh := fun hh k => C.keeps fun b o e => by
      have e2 := S2.keep b o e
      refine k b (List.mem_range.mpr (Heap.lt_size e2)) (fun q => ?_) o (hhref b o e2)
      have q : b = I := by simpa using q
      have := S2.new (a := I) (by simp)
      rw [← q, e] at this; cases this
    refine ⟨fun A' E' i va vb s₂ m₂ hA' hP hn ha hb k => ?_, fun A' E' i va vb s₂ m₂ hA' hP _ hn ha hb k => ?_⟩
    · exact wpAny_pure ⟨rfl, s₂.heap, s₂.toks, rfl, fun _ _ e => e⟩
    · obtain ⟨h3, g3, d3, t3, os3⟩ := s₂
      obtain ⟨p, tx, ty, hpi, hv⟩ := hP
      obtain ⟨rfl, rfl⟩ : va = .str p.1 tx ∧ vb = .str p.2 ty := by simpa using congrArg Array.toList hv
      have C3 : Cx w h3 := Cs h3 k
      refine MethodCall_ (ldGx C3 (by k_is) ?_) (by rfl)
      refine methStr PySem.F.slot_str_join PySem.F.type_str_join ?_
      refine cwBi (spliced_more (wpAny_Tuple (spliced_more (wpAny_Name (wpAny_loadName_local rfl rfl hn ha ?_) rfl))))
      refine spliced_more (wpAny_Name (wpAny_loadName_local rfl rfl hn hb (spliced_none ⟨by simp [sizeLine], spliced_none ?_⟩)) rfl)
      have hT : ((⟨h3, g3, d3, t3, os3⟩ : Shared).heap.push { cls := .type "tuple", data := .seq [Value.str p.1 tx, .str p.2 ty].toArray }).get? h3.objs.size = some { cls := .type "tuple", dict := none, data := .seq [Value.str p.1 tx, .str p.2 ty].toArray, slots := #[] } := Heap.get?_push_size _ rfl
      have hsz : p.1.cps.size ≤ 10 ∧ p.2.cps.size ≤ 10 := hs p (List.mem_of_getElem? hpi)
      refine PyProof.Rows.join_tuple (D := h3.objs.size) (ys := [p.1, p.2]) ⟨_, hT, rfl, _, rfl⟩ ?_ ?_ fun t' k' => ?_
      · exact .cons _ _ (.cons _ _ .nil)
      · have l1 : p.1.length = p.1.cps.size := rfl
        have l2 : p.2.length = p.2.cps.size := rfl
        have l3 : (Str.ofString "").length = 0 := by decide +kernel
        simp [l1, l2, l3]; omega
      · rw [join2]
        exact ⟨⟨p, t', hpi, rfl⟩, _, _, rfl, fun b o e => Heap.get?_push_of_some _ e⟩
  · intro a' h5 tk gs hgb hlt hsz k5 W hat
    refine spliced_none ?_
    have hpass : passing (fun _ => true) line.length 0 = List.range line.length := by
      unfold passing
      simp
    rw [hpass, List.length_range] at W
    refine SC.joinGen (s := ⟨h5, g.push gs, d, tk, os⟩) W.in4_2 (fun i s' st => st.1.typeIs) hat ?_ (List.mem_cons_self ..) ?_ (fun s' l hm hacc => ?_) (Nat.le_trans hz (by rw [sizeLine_eq]; decide))
    · intro b hb
      show b < h5.objs.size
      rw [hsz]
      rcases List.mem_cons.mp hb with rfl | hb
      · exact Nat.lt_succ_self _
      · rcases List.mem_cons.mp hb with rfl | hb
        · exact Nat.lt_succ_of_lt hlt
        · exact Nat.lt_succ_of_lt (Nat.lt_trans (List.mem_range.mp hb) hlt)
    · rintro j v ⟨i, _, p, u, _, rfl⟩
      exact ⟨_, u, rfl⟩
    · have hl : l.map (·.1) = line.map fun p => catS p.1 p.2 := by
        have hlen : l.length = line.length := by simpa [strValues] using hacc.1
        refine List.ext_getElem (by simpa using hlen) fun j h1 h2 => ?_
        have hj : j < l.length := by simpa using h1
        obtain ⟨i, hi, p, u, hpi, e⟩ := hacc.2 j (.str l[j].1 l[j].2) (by simp [strValues, List.getElem?_eq_getElem hj])
        have : i = j := by
          rw [List.getElem?_range (by omega)] at hi
          exact (Option.some.inj hi).symm
        subst this
        have e1 : l[i].1 = catS p.1 p.2 := by injection e
        obtain ⟨hl2, e2⟩ := List.getElem?_eq_some_iff.mp hpi
        simp [e1, e2]
      rw [hl]
      refine ⟨joinOk_of ?_, fun t' k => ?_⟩
      · have l3 : (Str.ofString "").length = 0 := by decide +kernel
        have hsum : ∀ l : List (Str × Str), (∀ p ∈ l, p.1.cps.size ≤ 10 ∧ p.2.cps.size ≤ 10) → ((l.map fun p => catS p.1 p.2).map (·.length)).sum ≤ 20 * l.length := by
          intro l
          induction l with
          | nil => intro _; simp
          | cons p r ih =>
            intro hl
            have h1 := hl p (.head _)
            have h2 := ih fun q hq => hl q (.tail _ hq)
            have e : (catS p.1 p.2).length = p.1.cps.size + p.2.cps.size := by
              show (p.1.cps ++ p.2.cps).size = _
              simp
            simp only [List.map_cons, List.sum_cons, List.length_cons, e] at h2 ⊢
            omega
        have := hsum line hs
        rw [l3, Nat.mul_zero]; omega
      · rw [joinAll]
        obtain ⟨h6, g6, d6, t6, os6⟩ := s'
        have e1 : d6 = d := hm.drawn
        have e2 : os6 = os := hm.os
        subst e1 e2
        have km : ∀ b o, b ≠ I → h2.get? b = some o → h6.get? b = some o := fun b o nb e =>
          hm.heap b o (by
            have := Heap.lt_size e
            simp only [List.mem_cons, List.not_mem_nil, or_false, not_or]
            exact ⟨Nat.ne_of_lt this, nb⟩) (k5 b o e)
        have nd2 := (List.nodup_cons.mp S2.nd).2
        rw [List.map_append] at nd2
        have nI : ∀ b ∈ mt'.map (·.1), b ≠ I := fun b hb e => (List.nodup_append.mp nd2).2.2 b hb I (by simp) e
        refine hQ h6 g6 _ _ mt' hT2 (fun q hq => km _ _ (nI _ (List.mem_map_of_mem hq)) (S2.led q (List.mem_append_left _ hq))) (List.nodup_append.mp nd2).1 (fun b hb => ?_) (fun b x hb e => km b x (fun q => ?_) (S2.pres b x hb e)) (fun hg0 => (hg0.push hgb).moved hm.gens)
        · exact S2.mtb b (.tail _ (by rw [List.map_append]; exact List.mem_append_left _ hb))
        · rcases S2.mtb I (.tail _ (by rw [List.map_append]; exact List.mem_append_right _ (by simp))) with z | z
          · exact hb (q ▸ z)
          · rw [← q, e] at z; cases z
end
end Mine
set_option maxHeartbeats 200000
namespace Mine
noncomputable def canN (row : List Nat) : Bool := row.sum % 2 == 0 && (List.range row.length).all fun j => decide ((row.take (j + 1)).sum ≤ (j + 1) * j + ((row.drop (j + 1)).map (min (j + 1))).sum)
noncomputable def insD (x : Nat) : List Nat → List Nat
  | [] => [x]
  | y :: r => if y ≤ x then x :: y :: r else y :: insD x r
noncomputable def sortD : List Nat → List Nat
  | [] => []
  | x :: r => insD x (sortD r)
theorem insD_perm (x : Nat) : ∀ l, (insD x l).Perm (x :: l)
  | [] => .refl _
  | y :: r => by
    unfold insD
    split
    · exact .refl _
    · exact ((insD_perm x r).cons y).trans (.swap _ _ _)
theorem sortD_perm : ∀ l, (sortD l).Perm l
  | [] => .refl _
  | x :: r => (insD_perm x _).trans ((sortD_perm r).cons x)
theorem insD_down (x : Nat) : ∀ {l : List Nat}, l.Pairwise (· ≥ ·) → (insD x l).Pairwise (· ≥ ·)
  | [], _ => by simp [insD]
  | y :: r, h => by
    unfold insD
    split
    · rename_i hy
      refine List.pairwise_cons.mpr ⟨fun z hz => ?_, h⟩
      rcases List.mem_cons.mp hz with rfl | hz
      · exact hy
      · exact Nat.le_trans ((List.pairwise_cons.mp h).1 z hz) hy
    · rename_i hy
      have h' := List.pairwise_cons.mp h
      refine List.pairwise_cons.mpr ⟨fun z hz => ?_, insD_down x h'.2⟩
      have := (insD_perm x r).subset hz
      rcases List.mem_cons.mp this with rfl | hz
      · omega
      · exact h'.1 z hz
theorem sortD_down : ∀ l, (sortD l).Pairwise (· ≥ ·)
  | [] => .nil
  | x :: r => insD_down x (sortD_down r)
theorem sort_eq {a b : List Nat} (p : a.Perm b) (ha : a.Pairwise (· ≥ ·)) (hb : b.Pairwise (· ≥ ·)) : a = b := by
  refine p.eq_of_pairwise (fun x y _ _ h1 h2 => ?_) ha hb
  exact Nat.le_antisymm h2 h1
theorem sortD_of_perm {a b : List Nat} (p : a.Perm b) : sortD a = sortD b :=
  sort_eq ((sortD_perm a).trans (p.trans (sortD_perm b).symm)) (sortD_down a) (sortD_down b)
theorem sum_cast (l : List Nat) : (l.map Int.ofNat).sum = ((l.sum : Nat) : Int) := by
  induction l with
  | nil => rfl
  | cons x r ih => simp only [List.map_cons, List.sum_cons, ih, Int.ofNat_eq_natCast]; omega
theorem min_cast (k : Nat) (l : List Nat) : ((l.map Int.ofNat).map fun x => if (k : Int) < x then (k : Int) else x).sum = (((l.map (min k)).sum : Nat) : Int) := by
  induction l with
  | nil => rfl
  | cons x r ih =>
    simp only [List.map_cons, List.sum_cons, ih]
    have : (if (k : Int) < Int.ofNat x then (k : Int) else Int.ofNat x) = ((min k x : Nat) : Int) := by
      split <;> simp_all <;> omega
    rw [this]; omega
theorem canRow_nat (l : List Nat) : canRow (l.map Int.ofNat) = canN l := by
  unfold canRow canN
  rw [sum_cast, Int.fmod_eq_emod_of_nonneg _ (by decide)]
  by_cases h : l.sum % 2 = 0
  · rw [if_neg (by omega), h]
    simp only [beq_self_eq_true, Bool.true_and, List.length_map]
    congr 1
    funext j
    unfold cbAt
    rw [← List.map_take, ← List.map_drop, sum_cast, min_cast, ← decide_not]
    congr 1
    apply propext
    have e : ((j + 1 : Nat) : Int) * (((j + 1 : Nat) : Int) - 1) = (((j + 1) * j : Nat) : Int) := by
      rw [Int.natCast_mul]; congr 1; omega
    rw [e]
    omega
  · rw [if_pos (by omega)]
    have : (l.sum % 2 == 0) = false := by simpa using h
    rw [this]; rfl
theorem canBe_nat (l : List Nat) : canBe (l.map Int.ofNat) = canN (sortD l) := by
  unfold canBe
  have e : sdesc (l.map Int.ofNat) = (sortD l).map Int.ofNat := by
    refine sortDown ((sdesc_perm _).trans (((sortD_perm l).symm).map _)) (sdesc_down _) ?_
    refine List.pairwise_map.mpr ((sortD_down l).imp fun h => ?_)
    exact Int.ofNat_le.mpr h
  rw [e, canRow_nat]
theorem canBe_perm {a b : List Nat} (p : a.Perm b) : canBe (a.map Int.ofNat) = canBe (b.map Int.ofNat) := by
  rw [canBe_nat, canBe_nat, sortD_of_perm p]
/-- all falling rows of so many, each so much at most -/
noncomputable def descs : Nat → Nat → List (List Nat)
  | 0, _ => [[]]
  | n + 1, m => (List.range (m + 1)).flatMap fun x => (descs n x).map (x :: ·)
theorem mem_descs : ∀ {l : List Nat} {m : Nat}, l.Pairwise (· ≥ ·) → (∀ x ∈ l, x ≤ m) → l ∈ descs l.length m
  | [], m, _, _ => by simp [descs]
  | x :: r, m, h, hm => by
    have h' := List.pairwise_cons.mp h
    unfold descs
    refine List.mem_flatMap.mpr ⟨x, List.mem_range.mpr (by have := hm x (.head _); omega), List.mem_map.mpr ⟨r, mem_descs h'.2 h'.1, rfl⟩⟩
noncomputable def kwOk (d : List Nat) (w : Nat) : Bool :=
  if w ≤ (d.filter (0 < ·)).length then canN (sortD ((d.take w).map (· - 1) ++ d.drop w)) == canN (insD w d) else !canN (insD w d)
theorem kw_all : ∀ n, n < 6 → (descs n 5).all (fun d => (List.range 6).all fun w => kwOk d w) = true := by decide +kernel
theorem kw_at {rows : List Nat} {w : Nat} (hs : rows.Pairwise (· ≤ ·)) (hm : ∀ x ∈ rows, x ≤ 5) (hl : rows.length ≤ 5) (hw : w ≤ 5) : kwOk rows.reverse w = true := by
  have h1 := kw_all rows.length (by omega)
  have h2 : rows.reverse ∈ descs rows.length 5 := by
    have := mem_descs (l := rows.reverse) (m := 5) (List.pairwise_reverse.mpr (hs.imp fun h => h)) (fun x hx => hm x (List.mem_reverse.mp hx))
    rwa [List.length_reverse] at this
  exact List.all_eq_true.mp (List.all_eq_true.mp h1 _ h2) w (List.mem_range.mpr (by omega))
theorem ins_sort {rows : List Nat} (w : Nat) (hs : rows.Pairwise (· ≤ ·)) : insD w rows.reverse = sortD (w :: rows) :=
  sort_eq (((insD_perm w _).trans ((List.reverse_perm rows).cons w)).trans (sortD_perm _).symm) (insD_down w (List.pairwise_reverse.mpr (hs.imp fun h => h))) (sortD_down _)
theorem kw_step {rows : List Nat} {w : Nat} (hs : rows.Pairwise (· ≤ ·)) (hm : ∀ x ∈ rows, x ≤ 5) (hl : rows.length ≤ 5) (hw : w ≤ 5) (hp : w ≤ (rows.filter (0 < ·)).length) :
    canBe ((rows.take (rows.length - w) ++ (rows.drop (rows.length - w)).map (· - 1)).map Int.ofNat) = canBe ((w :: rows).map Int.ofNat) := by
  have h := kw_at hs hm hl hw
  unfold kwOk at h
  rw [if_pos (by rw [List.filter_reverse, List.length_reverse]; exact hp)] at h
  rw [canBe_nat, canBe_nat, ← ins_sort w hs, ← beq_iff_eq.mp h]
  congr 1
  refine sortD_of_perm ?_
  have e1 : rows.reverse.take w = (rows.drop (rows.length - w)).reverse := by rw [List.take_reverse]
  have e2 : rows.reverse.drop w = (rows.take (rows.length - w)).reverse := by rw [List.drop_reverse]
  rw [e1, e2, List.map_reverse]
  exact (List.perm_append_comm).trans (((List.reverse_perm _).symm).append (List.reverse_perm _).symm)
theorem kw_nag {rows : List Nat} {w : Nat} (hs : rows.Pairwise (· ≤ ·)) (hm : ∀ x ∈ rows, x ≤ 5) (hl : rows.length ≤ 5) (hw : w ≤ 5) (hp : (rows.filter (0 < ·)).length < w) :
    canBe ((w :: rows).map Int.ofNat) = false := by
  have h := kw_at hs hm hl hw
  unfold kwOk at h
  rw [if_neg (by rw [List.filter_reverse, List.length_reverse]; omega)] at h
  rw [canBe_nat, ← ins_sort w hs]
  simpa using h
end Mine
set_option maxHeartbeats 200000
namespace Mine
theorem bump_len (c : List Int) (b : Nat) : (bump c b).length = max c.length (b + 1) := by
  unfold bump; simp; omega
theorem bump_get (c : List Int) (b i : Nat) : (bump c b).getD i 0 = c.getD i 0 + if i = b then 1 else 0 := by
  unfold bump
  have pad : ∀ j, (c ++ List.replicate (b + 1 - c.length) 0).getD j 0 = c.getD j 0 := by
    intro j
    by_cases h : j < c.length
    · simp [List.getD_eq_getElem?_getD, List.getElem?_append_left h]
    · simp only [List.getD_eq_getElem?_getD, List.getElem?_append_right (Nat.le_of_not_lt h), List.getElem?_replicate, List.getElem?_eq_none (Nat.le_of_not_lt h)]
      split <;> rfl
  have hb : b < (c ++ List.replicate (b + 1 - c.length) 0).length := by simp; omega
  by_cases h : i = b
  · subst h
    rw [if_pos rfl, List.getD_eq_getElem?_getD, List.getElem?_set_self hb, pad]; rfl
  · rw [if_neg h, List.getD_eq_getElem?_getD, List.getElem?_set_ne (fun e => h e.symm), ← List.getD_eq_getElem?_getD, pad, Int.add_zero]
theorem ext_getD {a b : List Int} (hl : a.length = b.length) (h : ∀ i, a.getD i 0 = b.getD i 0) : a = b := by
  refine List.ext_getElem hl fun i h1 h2 => ?_
  have := h i
  simpa [List.getD_eq_getElem?_getD, h1, h2] using this
theorem bump_comm (c : List Int) (a b : Nat) : bump (bump c a) b = bump (bump c b) a := by
  refine ext_getD (by simp only [bump_len]; rw [Nat.max_assoc, Nat.max_comm (a + 1), ← Nat.max_assoc]) fun i => ?_
  simp only [bump_get]; exact Int.add_right_comm _ _ _
theorem foldl_bump_perm {l l' : List Nat} (p : l.Perm l') (c : List Int) : l.foldl bump c = l'.foldl bump c := by
  refine p.foldl_eq' (fun x _ y _ z => ?_) c
  exact bump_comm z x y
noncomputable def cntOf (l : List Nat) : List Int := l.foldl bump []
theorem foldl_bump_get (l : List Nat) (c : List Int) (i : Nat) : (l.foldl bump c).getD i 0 = c.getD i 0 + l.count i := by
  induction l generalizing c with
  | nil => simp
  | cons x r ih =>
    rw [List.foldl_cons, ih, bump_get, List.count_cons]
    by_cases h : i = x
    · subst h; simp; omega
    · have : (x == i) = false := by simpa using fun e => h e.symm
      simp [h, this]
theorem foldl_bump_len (l : List Nat) (c : List Int) (m : Nat) (hc : c.length ≤ m) (hl : ∀ x ∈ l, x < m) : (l.foldl bump c).length ≤ m := by
  induction l generalizing c with
  | nil => exact hc
  | cons x r ih =>
    refine ih _ ?_ fun y hy => hl y (.tail _ hy)
    have := hl x (.head _)
    rw [bump_len]; omega
theorem foldl_bump_nonneg (l : List Nat) (c : List Int) (hc : ∀ x ∈ c, 0 ≤ x) : ∀ x ∈ l.foldl bump c, 0 ≤ x := by
  have h0 : ∀ (a : List Int), (∀ i, 0 ≤ a.getD i 0) → ∀ x ∈ a, 0 ≤ x := fun a h x hx => by
    obtain ⟨i, hi, rfl⟩ := List.mem_iff_getElem.mp hx
    have := h i
    simpa [List.getD_eq_getElem?_getD, hi] using this
  refine h0 _ fun i => ?_
  rw [foldl_bump_get]
  have : 0 ≤ c.getD i 0 := by
    rw [List.getD_eq_getElem?_getD]
    cases q : c[i]? with
    | none => simp
    | some y => exact hc y (List.mem_of_getElem? q)
  omega
theorem foldl_bump_sum (l : List Nat) (c : List Int) : (l.foldl bump c).sum = c.sum + l.length := by
  have sumset : ∀ (a : List Int) (b : Nat), b < a.length → (a.set b (a.getD b 0 + 1)).sum = a.sum + 1 := by
    intro a
    induction a with
    | nil => intro b h; simp at h
    | cons x r ih =>
      intro b h
      cases b with
      | zero => simp; omega
      | succ b =>
        have := ih b (by simpa using h)
        simp only [List.set_cons_succ, List.sum_cons, List.getD_cons_succ, this]; omega
  induction l generalizing c with
  | nil => simp
  | cons x r ih =>
    rw [List.foldl_cons, ih]
    have : (bump c x).sum = c.sum + 1 := by
      unfold bump
      rw [sumset _ _ (by simp; omega)]
      simp
    rw [this, List.length_cons]; omega
theorem wsRun_spaces : ∀ (x : Nat) (rest : List Nat) (cnt : List Int) (b n nt : Nat), wsRun (List.replicate x 32 ++ rest) cnt b n nt = wsRun rest cnt (b + x) (n + x) nt
  | 0, rest, cnt, b, n, nt => by simp
  | x + 1, rest, cnt, b, n, nt => by
    rw [List.replicate_succ, List.cons_append, wsRun_cons, if_pos rfl, wsRun_spaces x]
    congr 1 <;> omega
noncomputable def pageT (l : List Nat) : List Nat := l.flatMap fun x => List.replicate x 32 ++ [9]
theorem wsRun_page : ∀ (l rest : List Nat) (cnt : List Int) (n nt : Nat), wsRun (pageT l ++ rest) cnt 0 n nt = wsRun rest (l.foldl bump cnt) 0 (n + l.sum + l.length) (nt + l.length)
  | [], rest, cnt, n, nt => by simp [pageT]
  | x :: r, rest, cnt, n, nt => by
    have e : pageT (x :: r) ++ rest = List.replicate x 32 ++ (9 :: (pageT r ++ rest)) := by simp [pageT]
    rw [e, wsRun_spaces, wsRun_cons, if_neg (by decide), if_pos rfl, Nat.zero_add, wsRun_page r rest]
    simp only [List.foldl_cons, List.sum_cons, List.length_cons]
    congr 1 <;> omega
theorem wsRun_thePage (l : List Nat) : wsRun (pageT l ++ [120, 32, 9]) [] 0 0 0 = (cntOf l, 0, l.sum + l.length, l.length) := by
  rw [wsRun_page, wsRun_cons, if_neg (by decide), if_neg (by decide)]
  simp [cntOf]
theorem wsRun_back (l : List Nat) : wsRun (pageT l) [] 0 0 0 = (cntOf l, 0, l.sum + l.length, l.length) := by
  have := wsRun_page l [] [] 0 0
  rw [List.append_nil] at this
  rw [this]
  simp [cntOf, wsRun]
theorem wsRun_shift (l : List Nat) (x : Nat) : wsRun (9 :: (pageT l ++ List.replicate x 32)) [] 0 0 0 = (cntOf (0 :: l), x, 1 + l.sum + l.length + x, 1 + l.length) := by
  rw [wsRun_cons, if_neg (by decide), if_pos rfl, wsRun_page]
  have := wsRun_spaces x [] (l.foldl bump (bump [] 0)) 0 (0 + 1 + l.sum + l.length) (0 + 1 + l.length)
  rw [List.append_nil] at this
  rw [this]
  simp [cntOf, wsRun]
theorem br_all : (descs 6 5).all (fun d => brackets (cntOf d) (d.sum + 6) 6 == canN d) = true := by decide +kernel
theorem brackets_can {l : List Nat} (h6 : l.length = 6) (h5 : ∀ x ∈ l, x ≤ 5) : brackets (cntOf l) (l.sum + l.length) l.length = canBe (l.map Int.ofNat) := by
  have hm : sortD l ∈ descs 6 5 := by
    have := mem_descs (sortD_down l) (fun x hx => h5 x ((sortD_perm l).subset hx))
    rwa [(sortD_perm l).length_eq, h6] at this
  have h := beq_iff_eq.mp (List.all_eq_true.mp br_all _ hm)
  rw [canBe_nat, ← h, h6]
  have e1 : cntOf (sortD l) = cntOf l := foldl_bump_perm (sortD_perm l) []
  have e2 : (sortD l).sum = l.sum := (sortD_perm l).sum_nat
  rw [e1, e2]
end Mine
set_option maxHeartbeats 400000
namespace Mine
section
variable {w : World} {A : Around} {E : Value → Shared → Prop} {h h' h₀ H hB : Heap} {ex : List Addr} {g : Array GenState} {d : Drawn} {t : Nat} {os : OsState} {env : Env} {m m' : Str → Option Value} {mu mu' mt : List (Addr × Obj)}
theorem tc_make {Q : Value → Shared → Prop} {v : Value} (C : Cx w h) (hroom : A.depth + 2 < recursionLimit)
    (hQ : ∀ h' t x dx hs tk n, Kp h h' → h.get? x = none → h.get? dx = none → x ≠ dx → h'.get? x = some (instObj 166 dx) → h'.get? dx = some (dictOf [⟨hs, .str (Str.ofString "comp_select_list") tk, v⟩] n) → Q (.ref x) ⟨h', g, d, t, os⟩) : wpAny (Md w) A (call (.ref 166) [v]) Q E ⟨h, g, d, t, os⟩ := by
  refine makeObj C (by k_is) (fI := 156) (by k_is) (by k_is) fun h1 x dx A' hA1 hA2 k1 hled hnd hnew => ?_
  refine enterM (binds := [(Str.ofString "self", .ref x), (Str.ofString "comp_select_list", v)]) C k1 hled hnd hnew (by k_is) (by k_is) (by omega) (BindsTo.of_eq rfl) (locs rfl) (fun L h2 t S => ?_) (by decide)
  refine xCons (plainObj_wpAny_Assign_Attribute (ldL S rfl (ldL S rfl ?_)))
  refine stAttr (i := 1) (C.keeps S.keep) S rfl (instOwn (S.at 0 rfl) (S.at 1 rfl)) rfl (by k_is) (by kernel_rfl) (by k_is) (by k_is) rfl (by decide) fun h3 hs1 tk1 S3 => ?_
  exact xNil ⟨rfl, hQ _ _ x dx hs1 tk1 _ S3.keep (hnew x (by simp)) (hnew dx (by simp)) (by simpa using hnd) (S3.at 0 rfl) (S3.at 1 rfl)⟩
/-- the guests' names -/
noncomputable def nm (k : Nat) : Str := ⟨#[66 + k]⟩
theorem dec_name : ∀ k, k < 6 → ∀ id, Builtin._codecs.runDecoder id Builtin._codecs.utf8Decoder none true [(66 + k).toUInt8].toArray 0 [] = pure ((nm k).cps, 1) := by
  intro k hk
  match k, hk with
  | 0, _ => intro _; kernel_rfl
  | 1, _ => intro _; kernel_rfl
  | 2, _ => intro _; kernel_rfl
  | 3, _ => intro _; kernel_rfl
  | 4, _ => intro _; kernel_rfl
  | 5, _ => intro _; kernel_rfl
theorem decodeN {k : Nat} {tk : Tok} {Q : Value → Shared → Prop} (hk : k < 6) (hQ : ∀ t' tk, Q (.str (nm k) tk) ⟨h, g, d, t', os⟩) : wpAny (Md w) A (call (.builtin "bytes.decode") [.bytes (toB [65 + (k + 1)]) tk]) Q E ⟨h, g, d, t, os⟩ := by
  have e : toB [65 + (k + 1)] = [(66 + k).toUInt8].toArray := by
    unfold toB
    rw [show 65 + (k + 1) = 66 + k by omega]
    rfl
  rw [e]
  exact KBd.decode (s := ⟨h, g, d, t, os⟩) (cs := []) (dec_name k hk) (by show (nm k).cps.size ≤ _; simp [nm]) fun t' k => hQ _ _
end
end Mine
set_option maxHeartbeats 400000
namespace Mine
section
variable {w : World} {A : Around} {E : Value → Shared → Prop} {h h' h₀ H hB : Heap} {ex : List Addr} {g : Array GenState} {d : Drawn} {t : Nat} {os : OsState} {env : Env} {m m' : Str → Option Value} {mu mu' mt : List (Addr × Obj)} {l : Addr} {vs : List Value}
theorem appL {L : Addr} {i k : Nat} {x : Value} {Q : Value → Shared → Prop} (S : St h₀ H ex L h m mu) (hi : mu[i]? = some (l, LstP vs k)) (hz : vs.length ≤ 100000)
    (hQ : ∀ h' k', St h₀ H ex L h' m (mu.set i (l, LstP (vs ++ [x]) k')) → Q .none ⟨h', g, d, t, os⟩) : wpAny (Md w) A (call (.builtin "list.append") [.ref l, x]) Q E ⟨h, g, d, t, os⟩ := by
  have hl := S.at i hi
  refine wpAny_call_entry (s := ⟨h, g, d, t, os⟩) PySem.F.slot_list_append ⟨_, hl, rfl⟩ PySem.F.entry_list_append ?_ (PySem.F.args_list_append_2 _ _)
  show wpAny _ _ (updateSeq l (·.push x) >>= fun _ => ret .none) _ _ _
  refine wpAny_bind (wpAny_updateSeq (s := ⟨h, g, d, t, os⟩) hl rfl (wpAny_pure ⟨.none, rfl, ?_⟩) (by simp [sizeLine]; omega) (by simp [sizeLine]; omega))
  have e := IsL.update (h := h) (l := l) (items := vs.toArray) (n := k) hl (fun xs => xs.push x)
  have e2 : vs.toArray.push x = (vs ++ [x]).toArray := by simp
  rw [e2] at e
  exact hQ _ _ (S.set i hi (LstP.notTup _ _) (Heap.SameBut.update ..) e)
noncomputable def spS (n : Nat) : Str := ⟨(List.replicate n 32).toArray⟩
noncomputable def rowT (rows : List (Nat × Nat)) : List (Str × Str) := rows.map fun r => (spS r.1, nm r.2)
theorem rowT_text (rows : List (Nat × Nat)) : (allS (rowT rows)).cps.toList = rows.flatMap fun r => List.replicate r.1 32 ++ [66 + r.2] := by
  simp [allS, rowT, spS, nm, List.flatMap_map]
/-- the runs of blanks in a text -/
noncomputable def runsGo : List Nat → List Nat → Nat → List Nat × Nat
  | [], ls, r => (ls, r)
  | c :: cs, ls, r => if c = 32 then runsGo cs ls (r + 1) else runsGo cs (ls ++ [r]) 0
theorem runsGo_cons (c : Nat) (cs ls : List Nat) (r : Nat) : runsGo (c :: cs) ls r = if c = 32 then runsGo cs ls (r + 1) else runsGo cs (ls ++ [r]) 0 := rfl
theorem runsGo_sp : ∀ (n : Nat) (cs ls : List Nat) (r : Nat), runsGo (List.replicate n 32 ++ cs) ls r = runsGo cs ls (r + n)
  | 0, cs, ls, r => by simp
  | n + 1, cs, ls, r => by
    rw [List.replicate_succ, List.cons_append, runsGo_cons, if_pos rfl, runsGo_sp n]
    congr 1; omega
theorem runsGo_rows : ∀ (rows : List (Nat × Nat)) (ls : List Nat), runsGo (rows.flatMap fun r => List.replicate r.1 32 ++ [66 + r.2]) ls 0 = (ls ++ rows.map (·.1), 0)
  | [], ls => by simp [runsGo]
  | r :: rows, ls => by
    rw [List.flatMap_cons, List.append_assoc, runsGo_sp, List.singleton_append, runsGo_cons, if_neg (by omega), Nat.zero_add, runsGo_rows rows]
    simp
theorem strsOf {x : Str} {acc : Array Value} (h : ItemsOf (SignAt x) acc x.cps.size) : StrsAre acc.toList (x.cps.toList.map fun c => (⟨#[c]⟩ : Str)) := by
  have key : ∀ (vs : List Value) (cs : List Nat), vs.length = cs.length → (∀ (j : Nat) (v : Value), vs[j]? = some v → ∃ c u, cs[j]? = some c ∧ v = Value.str ⟨#[c]⟩ u) → StrsAre vs (cs.map fun c => (⟨#[c]⟩ : Str)) := by
    intro vs
    induction vs with
    | nil => intro cs hl _; cases cs with | nil => exact .nil | cons _ _ => simp at hl
    | cons v r ih =>
      intro cs hl hv
      cases cs with
      | nil => simp at hl
      | cons c cs =>
        obtain ⟨c', u, e, rfl⟩ := hv 0 v rfl
        cases e
        exact .cons _ _ (ih cs (by simpa using hl) fun j v hj => hv (j + 1) v (by simpa using hj))
  refine key _ _ (by simpa using h.1) fun j v hj => ?_
  obtain ⟨c, u, e, rfl⟩ := h.2 j v (by simpa using hj)
  exact ⟨c, u, by simpa using e, rfl⟩
theorem letters : (Str.ofString "BCDEFG").cps.toList.map (fun c => (⟨#[c]⟩ : Str)) = (List.range 6).map nm := by decide +kernel
theorem listLettersQ {tk : Tok} {Q : Value → Shared → Prop} (hq : Quiet A h) (hQ : ∀ h' D vs k t, Kp h h' → h.get? D = none → h'.get? D = some (LstP vs k) → StrsAre vs ((List.range 6).map nm) → Q (.ref D) ⟨h', g, d, t, os⟩) :
    wpAny (Md w) A (call (.type "list") [.str (Str.ofString "BCDEFG") tk]) Q E ⟨h, g, d, t, os⟩ := by
  refine listStrQ hq (by decide +kernel) (fun h' tk' acc' c' k hD hI => ?_) (by decide +kernel)
  refine hQ h' _ acc'.toList c' tk' k (fresh_none h) ?_ (letters ▸ strsOf hI)
  simpa using hD
theorem listLetters {tk : Tok} {Q : Value → Shared → Prop} (hh : A.handled = none) (hQ : ∀ h' D vs k t, Kp h h' → h.get? D = none → h'.get? D = some (LstP vs k) → StrsAre vs ((List.range 6).map nm) → Q (.ref D) ⟨h', g, d, t, os⟩) :
    wpAny (Md w) A (call (.type "list") [.str (Str.ofString "BCDEFG") tk]) Q E ⟨h, g, d, t, os⟩ := listLettersQ (.inl hh) hQ
theorem nm_inj {j k : Nat} : (nm j == nm k) = decide (j = k) := by
  by_cases e : j = k
  · subst e; simp
  · have : nm j ≠ nm k := fun q => e (by have := congrArg (fun s : Str => s.cps[0]?) q; simpa [nm] using this)
    simp [this, e]
theorem lacks_spec {Q : Value → Shared → Prop} {wish k : Nat} {rows : List (Nat × Nat)} {tw tg tt : Tok} (C : Cx w h) (hroom : A.depth + 1 < recursionLimit) (hq : Quiet A h) (hk : k < 6) (hr : ∀ r ∈ rows, r.1 ≤ 5 ∧ r.2 < 6 ∧ r.2 ≠ k) (hz : rows.length ≤ 5)
    (h1 : ((rows.map (·.1)).filter (0 < ·)).length < wish) (h2 : canBe ((rows.map (·.1) ++ [wish]).map Int.ofNat) = false)
    (hQ : ∀ h' t, Kp h h' → Q (.bool true) ⟨h', g, d, t, os⟩) : wpAny (Md w) A (call (.ref 318) [.int (wish : Nat) tw, .str (nm k) tg, .str (allS (rowT rows)) tt]) Q E ⟨h, g, d, t, os⟩ := by
  refine enterCall (binds := [(Str.ofString "wish", .int (wish : Nat) tw), (Str.ofString "guest", .str (nm k) tg), (Str.ofString "text", .str (allS (rowT rows)) tt)]) C (by k_is) (by k_is) (by omega) (BindsTo.of_eq rfl) (locs rfl) (fun L h₁ t S => ?_) (by decide)
  refine xIf (isTrue_or (wpAny_isTrue_Compare1 (ldL S rfl ?_)))
  refine callName (ldB (v := .type "list") C S (by k_is) rfl (PyProof.Rows.callWith_type1 (spliced_more (cS (spliced_none ?_)))))
  refine listLettersQ (hq.on S.keep) fun h2 D vs kk t2 k2 hD0 hD hvs => ?_
  have S2 := S.add k2 hD0 hD
  refine notin_list_strs (s := ⟨h2, g, d, t2, os⟩) (lstAt (S2.at 0 rfl)) hvs (wpAny_truthy_bool ?_)
  have e1 : ((List.range 6).map nm).any (· == nm k) = true := List.any_eq_true.mpr ⟨nm k, List.mem_map.mpr ⟨k, List.mem_range.mpr hk, rfl⟩, by simp⟩
  rw [e1, if_neg (by decide)]
  refine isTrue_or (wpAny_isTrue_Compare1 (ldL S2 rfl (ldL S2 rfl (P.in_str (wpAny_truthy_bool ?_)))))
  have e2 : (!(Builtin.Str.occurrences (allS (rowT rows)) (nm k) 0 (allS (rowT rows)).length 1).isEmpty) = false := by
    unfold nm
    rw [StrLaws.found_one, rowT_text]
    refine decide_eq_false fun hm => ?_
    obtain ⟨r, hr1, hr2⟩ := List.mem_flatMap.mp hm
    have := hr r hr1
    rcases List.mem_append.mp hr2 with q | q
    · have := List.eq_of_mem_replicate q; omega
    · have : 66 + k = 66 + r.2 := by simpa using q
      omega
  rw [e2, if_neg (by decide)]
  refine isTrue_or_nil ?_
  rw [if_neg (by decide)]
  refine xNil (xAssign (mkNil S2 fun h3 LD t3 _ _ S3 => stL S3 fun h4 S4 => ?_))
  refine xAssign (cI (stL S4 fun h5 S5 => ?_))
  refine xFor (ldL S5 rfl ?_)
  have hsz : ∀ rows : List (Nat × Nat), (∀ r ∈ rows, r.1 ≤ 5) → (rows.flatMap fun r => List.replicate r.1 32 ++ [66 + r.2]).length ≤ 6 * rows.length := by
    intro rows
    induction rows with
    | nil => intro _; simp
    | cons r rs ih =>
      intro hr
      have := ih fun q hq => hr q (.tail _ hq)
      have := hr r (.head _)
      simp only [List.flatMap_cons, List.length_append, List.length_replicate, List.length_cons, List.length_nil] at *
      omega
  have hlen : (allS (rowT rows)).cps.size ≤ 30 := by
    have := hsz rows fun r hr' => (hr r hr').1
    rw [← rowT_text] at this
    have e : (allS (rowT rows)).cps.toList.length = (allS (rowT rows)).cps.size := by simp
    omega
  have hasc : (allS (rowT rows)).cps.all (· < 128) = true := by
    rw [← Array.all_toList, rowT_text, List.all_eq_true]
    intro c hc
    obtain ⟨r, hr1, hr2⟩ := List.mem_flatMap.mp hc
    have := hr r hr1
    rcases List.mem_append.mp hr2 with q | q
    · have := List.eq_of_mem_replicate q
      simp; omega
    · have : c = 66 + r.2 := by simpa using q
      simp; omega
  refine wpAny_pyIter_ascii hasc ?_
  dsimp only at S5 ⊢
  have S6 := S5.alloc { cls := .type "str_ascii_iterator", data := .fields #[.str (allS (rowT rows)) tt, .int 0 0] } rfl
  generalize hI' : h5.objs.size = I' at S6
  refine forIt (itAsciiQ (A := A.deeper _) _ _ I' (allS (rowT rows)) tt)
    (fun i H ex m mu => A3 (m "wish" = some (.int (wish : Nat) tw)) (m "lefts" = some (.ref LD)) (X5 fun ls r tr lv kk => A5 (m "run" = some (.int (r : Nat) tr)) (mu = [(LD, LstP lv kk)]) (IntsAre lv (ls.map Int.ofNat)) (ls.length ≤ i) (runsGo ((allS (rowT rows)).cps.toList.drop i) ls r = runsGo (allS (rowT rows)).cps.toList [] 0)))
    (fun _ _ _ _ _ _ _ S _ => hq.on S.keep) (S6.sub (.cons_cons _ (.cons_cons _ (.cons _ (.refl _))))) ⟨rfl, rfl⟩ ⟨rfl, rfl, [], 0, _, [], _, rfl, rfl, .nil, by simp, rfl⟩ ?_ ?_
  · intro i v oI H ex h7 m mu t7 hlt qq10 qq11 hI S7
    refine nameT fun Q' hQ' => ?_
    obtain ⟨c, kc, hc, rfl⟩ := qq10
    obtain ⟨mw, ml, ls, r, tr, lv, kk, mr, rfl, hls, hll, hrun⟩ := qq11
    have hc' : (allS (rowT rows)).cps.toList[i]? = some c := by simpa using hc
    obtain ⟨hl2, he2⟩ := List.getElem?_eq_some_iff.mp hc'
    have hdrop : (allS (rowT rows)).cps.toList.drop i = c :: (allS (rowT rows)).cps.toList.drop (i + 1) := by
      rw [List.drop_eq_getElem_cons hl2, he2]
    rw [hdrop, runsGo_cons] at hrun
    have hlv : lv.length = ls.length := by rw [hls.length, List.length_map]
    have hi30 : i < 30 := by
      have : i < (allS (rowT rows)).cps.size := by simpa using hl2
      omega
    refine wpAny_assign_Name (stL S7 fun h8 S8 => ?_)
    refine xIf (wpAny_isTrue_Compare1 (ldL S8 rfl (cS (eqS (wpAny_truthy_bool ?_)))))
    rw [spc]
    by_cases h32 : c = 32
    · subst h32
      rw [if_pos rfl] at hrun
      rw [if_pos (by decide)]
      refine xAssign (wpAny_BinOp (ldL S8 mr (cI (addI ?_))))
      rw [show ((r : Nat) : Int) + 1 = ((r + 1 : Nat) : Int) by omega]
      refine stL S8 fun h9 S9 => ?_
      refine xNil (xNil (hQ' _ _ (TurnEnd.next S9 ⟨mw, ml, ls, r + 1, _, lv, kk, rfl, rfl, hls, by omega, hrun⟩)))
    · rw [if_neg h32] at hrun
      rw [if_neg (by simpa using h32)]
      refine xExpr (MethodCall_ (ldL S8 ml (methList (S8.at 1 rfl) rfl rfl PySem.F.slot_list_append PySem.F.type_list_append ?_)) (by rfl))
      refine cwBi (spliced_more (ldL S8 mr (spliced_none ?_)))
      refine appL (i := 1) S8 rfl (by omega) fun h9 k9 S9 => ?_
      refine xAssign (cI (stL S9 fun h10 S10 => ?_))
      refine xNil (xNil (hQ' _ _ (TurnEnd.next S10 ⟨mw, ml, ls ++ [r], 0, _, _, k9, rfl, rfl, ?_, by rw [List.length_append]; simp; omega, hrun⟩)))
      rw [List.map_append]
      exact ints_snoc hls _ _
  · rintro H ex h7 m mu t7 ⟨mw, ml, ls, r, tr, lv, kk, mr, rfl, hls, hll, hrun⟩ S7
    have hend : ls = rows.map (·.1) := by
      rw [List.drop_of_length_le (by simp), rowT_text, runsGo_rows] at hrun
      have := congrArg Prod.fst hrun
      simpa [runsGo] using this
    subst hend
    refine xRet (BoolOp_and (wpAny_Compare1 (ldL S7 mw ?_)))
    refine callName (ldB (v := .builtin "len") C S7 (by k_is) rfl (cwBi ?_))
    refine spliced_more (compEv rfl rfl (by decide) (ldL S7 ml ?_))
    have hlv : lv.length = rows.length := by rw [hls.length]; simp
    refine compSeqQ (hq.on S7.keep) (.inl ⟨_, _, rfl⟩) (lstAt (S7.at 0 rfl)) (fun j ys _ => IntsAre ys ((((rows.map (·.1)).take j).filter (0 < ·)).map Int.ofNat)) (by decide) rfl (fun _ => .nil) (by omega) ?_ ?_
    · intro j v ys oI' k' H' ex' h12 m' t12 C' D' I' hv hF S12
      obtain ⟨n, tn, rfl, hn⟩ := IntsAre.at hls _ _ hv
      rw [List.getElem?_map] at hn
      obtain ⟨q, hq, rfl⟩ := Option.map_eq_some_iff.mp hn
      obtain ⟨hq1, hq2⟩ := List.getElem?_eq_some_iff.mp hq
      have htake : (rows.map (·.1)).take (j + 1) = (rows.map (·.1)).take j ++ [q] := by rw [List.take_succ_eq_append_getElem hq1, hq2]
      refine wpAny_assign_Name (stL S12 fun h13 S13 => tests_one (wpAny_isTrue_Compare1 (ldL S13 rfl (cI (gtI (wpAny_truthy_bool ?_))))))
      split
      · rename_i hpos
        have hpos : 0 < q := by simpa using hpos
        refine ldL S13 rfl (CompEnd.mk S13 ?_)
        rw [htake, List.filter_append, List.filter_cons_of_pos (by simpa using hpos), List.filter_nil, List.map_append]
        exact ints_snoc hF _ _
      · rename_i hpos
        have hpos : ¬ 0 < q := by simpa using hpos
        refine CompEnd.mk S13 ?_
        rw [htake, List.filter_append, List.filter_cons_of_neg (by simpa using hpos), List.filter_nil, List.append_nil]
        exact hF
    · refine compQ fun D' h12 t12 ys k' H' kp hD' hg hF _ => ?_
      have hF : IntsAre ys (((rows.map (·.1)).filter (0 < ·)).map Int.ofNat) := by
        have := hF
        rw [hlv, List.take_of_length_le (by simp)] at this
        exact this
      have S12 := S7.add kp hD' hg
      have hyl : ys.length = ((rows.map (·.1)).filter (0 < ·)).length := by rw [hF.length, List.length_map]
      have hyl2 : ys.length ≤ 5 := by
        rw [hyl]
        exact Nat.le_trans (List.length_filter_le _ _) (by simpa using hz)
      refine spliced_none (lenL (lstAt (S12.at 0 rfl)) (by omega) fun t13 tk13 => gtI (wpAny_truthy_bool ?_))
      rw [if_pos (by rw [hyl]; simpa using h1)]
      refine BoolOp_one (wpAny_UnaryOp ?_)
      refine callName (ldG C S12 (by k_is) (cwFn (by k_is) ?_))
      refine spliced_more (wpAny_BinOp (ldL S12 ml (wpAny_List (spliced_more (ldL S12 mw (spliced_none ⟨by simp [sizeLine], ?_⟩))))))
      have S13 := S12.alloc (LstP [.int (wish : Nat) tw] 0) rfl
      refine addL (lstAt (S13.at 2 rfl)) (lstAt (S13.at 0 rfl)) (by simp; omega) ?_
      have S14 := S13.alloc (LstP (lv ++ [.int (wish : Nat) tw]) 0) rfl
      refine spliced_none ⟨C.keeps S14.keep, ?_⟩
      refine can_be_specQ (ns := (rows.map (·.1) ++ [wish]).map Int.ofNat) (C.keeps S14.keep) (show A.depth + 1 < _ by omega) (hq.on S14.keep) (lstAt (S14.at 0 rfl)) ?_ (by simp; omega) fun h15 t15 k15 => ?_
      · rw [List.map_append]
        exact ints_snoc hls _ _
      · rw [‹canBe ((rows.map (·.1) ++ [wish]).map Int.ofNat) = false›]
        refine not_of (wpAny_truthy_bool ?_)
        exact hQ _ _ (S14.keeps k15).keep
end
end Mine
set_option maxHeartbeats 400000
namespace Mine
section
variable {w : World} {A : Around} {E : Value → Shared → Prop} {h h' h₀ H hB : Heap} {ex ex' : List Addr} {g : Array GenState} {d : Drawn} {t : Nat} {os : OsState} {env : Env} {m m' : Str → Option Value} {mu mu' mt : List (Addr × Obj)} {kvs : List (Str × Value)} {bs : List (List Nat)} {v : Value} {l : List Nat} {k : Nat}
noncomputable def bkC (l : List Nat) : List (Str × Int) := l.map fun j => (nm j, 1)
/-- a guest's book, off the ledger -/
noncomputable def BkAt (w : World) (h : Heap) (ex : List Addr) (v : Value) (l : List Nat) : Prop := X2 fun D o => A5 (v = Value.ref D) (h.get? D = some o) (D ∉ ex) (BkO w (bkC l) o) ((D == sysModules) = false)
noncomputable def Bs (w : World) (h : Heap) (ex : List Addr) (kvs : List (Str × Value)) (bs : List (List Nat)) : Prop := kvs.map (·.1) = (List.range bs.length).map nm ∧ ∀ (k : Nat) (l : List Nat), bs[k]? = some l → ∃ v, kvs[k]? = some (nm k, v) ∧ BkAt w h ex v l
theorem BkAt.on (x : BkAt w h ex v l) (k : ∀ b o, b ∉ ex → h.get? b = some o → h'.get? b = some o) (he : ∀ b o, h.get? b = some o → b ∉ ex → b ∉ ex') : BkAt w h' ex' v l := by
  obtain ⟨D, o, e, ho, hn, hB, lo⟩ := x
  exact ⟨D, o, e, k _ _ hn ho, he _ _ ho hn, hB, lo⟩
theorem Bs.on (x : Bs w h ex kvs bs) (k : ∀ b o, b ∉ ex → h.get? b = some o → h'.get? b = some o) (he : ∀ b o, h.get? b = some o → b ∉ ex → b ∉ ex') : Bs w h' ex' kvs bs := by
  refine ⟨x.1, fun i l hl => ?_⟩
  obtain ⟨v, hv, hb⟩ := x.2 i l hl
  exact ⟨v, hv, hb.on k he⟩
theorem Bs.len (x : Bs w h ex kvs bs) : kvs.length = bs.length := by
  have := congrArg List.length x.1
  simpa using this
theorem nm_ne {j k : Nat} (e : j ≠ k) : nm j ≠ nm k := fun q => e (by have := congrArg (fun s : Str => s.cps[0]?) q; simpa [nm] using this)
theorem Bs.nd (x : Bs w h ex kvs bs) : (kvs.map (·.1)).Nodup := by
  rw [x.1]
  exact List.Pairwise.map nm (fun a b e => nm_ne e) List.nodup_range
theorem Bs.value (x : Bs w h ex kvs bs) (hl : bs[k]? = some l) : ∃ v, valueAt kvs (nm k) = some v ∧ BkAt w h ex v l := by
  obtain ⟨v, hv, hb⟩ := x.2 k l hl
  exact ⟨v, valueAt_of_get x.nd hv, hb⟩
theorem Bs.nil : Bs w h ex [] [] := ⟨rfl, fun k l e => by simp at e⟩
theorem Bs.push (x : Bs w h ex kvs bs) (hb : BkAt w h ex v l) : Bs w h ex (stored kvs (nm bs.length) v) (bs ++ [l]) := by
  have hn : kvs.any (fun kv => kv.1 = nm bs.length) = false := by
    rw [List.any_eq_false]
    intro kv hkv
    have : kv.1 ∈ kvs.map (·.1) := List.mem_map_of_mem hkv
    rw [x.1] at this
    obtain ⟨j, hj, e⟩ := List.mem_map.mp this
    have hj := List.mem_range.mp hj
    rw [← e]
    simpa using nm_ne (by omega)
  unfold stored
  rw [hn]
  simp only [Bool.false_eq_true, if_false]
  refine ⟨by rw [List.map_append, x.1]; simp [List.range_succ], fun j l' hl' => ?_⟩
  by_cases hj : j < bs.length
  · rw [List.getElem?_append_left hj] at hl'
    obtain ⟨v', hv', hb'⟩ := x.2 j l' hl'
    exact ⟨v', by rw [List.getElem?_append_left (by rw [x.len]; exact hj)]; exact hv', hb'⟩
  · rw [List.getElem?_append_right (Nat.le_of_not_lt hj)] at hl'
    have : j = bs.length := by
      have := (List.getElem?_eq_some_iff.mp hl').1
      simp at this; omega
    subst this
    simp at hl'
    subst hl'
    exact ⟨v, by rw [← x.len]; simp, hb⟩
theorem Bs.set (x : Bs w h ex kvs bs) (hk : k < bs.length) (hb : BkAt w h ex v l) : Bs w h ex (stored kvs (nm k) v) (bs.set k l) := by
  have hk' : k < kvs.length := by rw [x.len]; exact hk
  obtain ⟨v0, hv0, _⟩ := x.2 k bs[k] (by simp [hk])
  have hy : kvs.any (fun kv => kv.1 = nm k) = true := List.any_eq_true.mpr ⟨_, List.mem_of_getElem? hv0, by simp⟩
  unfold stored
  rw [hy]
  simp only [if_true]
  refine ⟨?_, fun j l' hl' => ?_⟩
  · rw [List.length_set, ← x.1, List.map_map]
    refine List.map_congr_left fun kv _ => ?_
    show (if kv.1 = nm k then (kv.1, v) else kv).1 = kv.1
    split <;> rfl
  · rw [List.getElem?_set] at hl'
    split at hl'
    · rename_i e
      subst e
      cases hl'
      exact ⟨v, by rw [List.getElem?_map, hv0]; simp, hb⟩
    · rename_i e
      obtain ⟨v', hv', hb'⟩ := x.2 j l' hl'
      exact ⟨v', by rw [List.getElem?_map, hv']; simp [nm_ne (fun q => e q.symm)], hb'⟩
end
end Mine
set_option maxHeartbeats 400000
namespace Mine
/-- the questions of a sort, answered plainly -/
noncomputable def kasRun {α : Type} (lt : Nat → Nat → Bool) : KasT α → α
  | .ret a => a
  | .ask i j k => kasRun lt (k (lt i j))
noncomputable def kasIn {α : Type} (n : Nat) (lt : Nat → Nat → Bool) : KasT α → Bool
  | .ret _ => true
  | .ask i j k => decide (i < n) && decide (j < n) && kasIn n lt (k (lt i j))
theorem kasWp_run {α : Type} {cmp : Nat → Nat → (Bool → Shared → Prop) → Shared → Prop} {lt : Nat → Nat → Bool} {n : Nat} {s : Shared} (hc : ∀ i j C, i < n → j < n → C (lt i j) s → cmp i j C s) :
    ∀ (t : KasT α) (Q : α → Shared → Prop), kasIn n lt t = true → Q (kasRun lt t) s → t.kasWp cmp Q s
  | .ret a, Q, _, h => h
  | .ask i j k, Q, hi, h => by
    unfold kasIn at hi
    simp only [Bool.and_eq_true, decide_eq_true_eq] at hi
    exact hc i j _ hi.1.1 hi.1.2 (kasWp_run hc (k (lt i j)) Q hi.2 h)
noncomputable def rows (n : Nat) : Nat → List (List Nat)
  | 0 => [[]]
  | m + 1 => (rows n m).flatMap fun r => (List.range n).map (· :: r)
theorem mem_rows {n : Nat} : ∀ (l : List Nat), (∀ x ∈ l, x < n) → l ∈ rows n l.length
  | [], _ => by simp [rows]
  | x :: r, h => by
    unfold rows
    exact List.mem_flatMap.mpr ⟨r, mem_rows r fun y hy => h y (.tail _ hy), List.mem_map.mpr ⟨x, List.mem_range.mpr (h x (.head _)), rfl⟩⟩
noncomputable def ltR (r : List Nat) (i j : Nat) : Bool := decide (r.getD i 0 < r.getD j 0)
noncomputable def nodupB : List Nat → Bool
  | [] => true
  | x :: r => !r.contains x && nodupB r
theorem nodupB_of : ∀ {l : List Nat}, l.Nodup → nodupB l = true
  | [], _ => rfl
  | x :: r, h => by
    have h' := List.nodup_cons.mp h
    unfold nodupB
    rw [nodupB_of h'.2, Bool.and_true, Bool.not_eq_true']
    simpa using h'.1
noncomputable def srtOk (n : Nat) (r : List Nat) : Bool :=
  !nodupB r || (kasIn n (ltR r) (kas_sort n) && (kasRun (ltR r) (kas_sort n)).toList.isPerm (List.range n) && ((kasRun (ltR r) (kas_sort n)).toList.map (r.getD · 0) == List.range n))
theorem srt_all : ∀ n, n < 6 → 2 ≤ n → (rows n n).all (srtOk n) = true := by decide +kernel
theorem srt_at {n : Nat} {r : List Nat} (h2 : 2 ≤ n) (h5 : n < 6) (hl : r.length = n) (hr : ∀ x ∈ r, x < n) (hn : r.Nodup) :
    kasIn n (ltR r) (kas_sort n) = true ∧ (kasRun (ltR r) (kas_sort n)).toList.Perm (List.range n) ∧ (kasRun (ltR r) (kas_sort n)).toList.map (r.getD · 0) = List.range n := by
  have h := List.all_eq_true.mp (srt_all n h5 h2) r (by have := mem_rows r hr; rwa [hl] at this)
  unfold srtOk at h
  rw [nodupB_of hn, Bool.not_true, Bool.false_or] at h
  simp only [Bool.and_eq_true] at h
  exact ⟨h.1.1, List.isPerm_iff.mp h.1.2, beq_iff_eq.mp h.2⟩
noncomputable def klt (a b : Int × Int) : Bool := decide (a.1 < b.1) || (decide (a.1 = b.1) && decide (a.2 < b.2))
theorem klt_iff {a b : Int × Int} : klt a b = true ↔ a.1 < b.1 ∨ (a.1 = b.1 ∧ a.2 < b.2) := by simp [klt]
theorem countP_le {α : Type} {p q : α → Bool} (hpq : ∀ y, p y = true → q y = true) : ∀ l : List α, l.countP p ≤ l.countP q
  | [] => by simp
  | y :: r => by
    have := countP_le hpq r
    rw [List.countP_cons, List.countP_cons]
    cases hp : p y with
    | false => simp; omega
    | true => rw [hpq y hp]; simp; omega
theorem countP_lt {α : Type} {p q : α → Bool} (hpq : ∀ y, p y = true → q y = true) {x : α} (hp : p x = false) (hq : q x = true) : ∀ {l : List α}, x ∈ l → l.countP p < l.countP q
  | y :: r, h => by
    rw [List.countP_cons, List.countP_cons]
    rcases List.mem_cons.mp h with rfl | h
    · have := countP_le hpq r
      rw [hp, hq]; simp; omega
    · have := countP_lt hpq hp hq h
      cases hp' : p y with
      | false => simp; omega
      | true => rw [hpq y hp']; simp; omega
noncomputable def ranks (kd : List (Int × Int)) : List Nat := kd.map fun x => kd.countP fun y => klt y x
theorem ranks_get {kd : List (Int × Int)} {i : Nat} (hi : i < kd.length) : (ranks kd).getD i 0 = kd.countP fun y => klt y kd[i] := by
  unfold ranks
  simp [List.getD_eq_getElem?_getD, hi]
theorem rank_lt {kd : List (Int × Int)} {a b : Int × Int} (ha : a ∈ kd) (h : klt a b = true) : kd.countP (fun y => klt y a) < kd.countP (fun y => klt y b) := by
  refine countP_lt (fun y hy => ?_) (x := a) ?_ h ha
  · rw [klt_iff] at *
    omega
  · have : ¬ klt a a = true := by rw [klt_iff]; omega
    simpa using this
theorem rank_le {kd : List (Int × Int)} {a b : Int × Int} (h : ¬ klt a b = true) : kd.countP (fun y => klt y b) ≤ kd.countP (fun y => klt y a) := by
  refine countP_le (fun y hy => ?_) kd
  rw [klt_iff] at *
  omega
theorem ranks_ltR {kd : List (Int × Int)} {i j : Nat} (hi : i < kd.length) (hj : j < kd.length) : ltR (ranks kd) i j = klt kd[i] kd[j] := by
  unfold ltR
  rw [ranks_get hi, ranks_get hj]
  by_cases h : klt kd[i] kd[j] = true
  · rw [h]; exact decide_eq_true (rank_lt (List.getElem_mem hi) h)
  · have := rank_le (kd := kd) h
    rw [Bool.not_eq_true] at h
    rw [h]; exact decide_eq_false (by omega)
theorem ranks_nodup {kd : List (Int × Int)} (nd : kd.Nodup) : (ranks kd).Nodup := by
  unfold ranks
  rw [List.Nodup, List.pairwise_map]
  have : kd.Pairwise fun a b => a ∈ kd ∧ b ∈ kd ∧ a ≠ b := by
    refine List.Pairwise.imp_of_mem (fun ha hb h => ⟨ha, hb, h⟩) nd
  refine this.imp fun {a b} ⟨ha, hb, hne⟩ e => ?_
  by_cases h1 : klt a b = true
  · have := rank_lt ha h1; omega
  · by_cases h2 : klt b a = true
    · have := rank_lt hb h2; omega
    · rw [klt_iff] at h1 h2
      exact hne (Prod.ext (by omega) (by omega))
theorem ranks_lt {kd : List (Int × Int)} : ∀ x ∈ ranks kd, x < kd.length := by
  intro x hx
  obtain ⟨a, ha, rfl⟩ := List.mem_map.mp hx
  have : kd.countP (fun y => klt y a) < kd.countP (fun _ => true) := by
    refine countP_lt (fun _ _ => rfl) (x := a) ?_ rfl ha
    have : ¬ klt a a = true := by rw [klt_iff]; omega
    simpa using this
  simpa using this
/-- what a sort by so many plain pairs of numbers gives -/
theorem srt_keys {kd : List (Int × Int)} (h2 : 2 ≤ kd.length) (h5 : kd.length < 6) (nd : kd.Nodup) :
    ∃ lt : Nat → Nat → Bool, (∀ i j (hi : i < kd.length) (hj : j < kd.length), lt i j = klt kd[i] kd[j]) ∧ kasIn kd.length lt (kas_sort kd.length) = true ∧
      (kasRun lt (kas_sort kd.length)).toList.Perm (List.range kd.length) ∧ ((kasRun lt (kas_sort kd.length)).toList.map fun i => kd.getD i (0, 0)).Pairwise fun a b => klt a b = true := by
  obtain ⟨a, b, c⟩ := srt_at h2 h5 (by simp [ranks]) ranks_lt (ranks_nodup nd)
  refine ⟨ltR (ranks kd), fun i j hi hj => ranks_ltR hi hj, a, b, ?_⟩
  generalize (kasRun (ltR (ranks kd)) (kas_sort kd.length)).toList = p at b c
  have hp : ∀ i ∈ p, i < kd.length := fun i hi => List.mem_range.mp (b.subset hi)
  have hs : p.Pairwise fun i j => (ranks kd).getD i 0 < (ranks kd).getD j 0 := by
    have := List.pairwise_lt_range (n := kd.length)
    rw [← c, List.pairwise_map] at this
    exact this
  rw [List.pairwise_map]
  refine List.Pairwise.imp_of_mem (fun {i j} hi hj h => ?_) hs
  have e := ranks_ltR (hp i hi) (hp j hj)
  unfold ltR at e
  rw [decide_eq_true h] at e
  have e1 : kd.getD i (0, 0) = kd[i]'(hp i hi) := by simp [List.getD_eq_getElem?_getD, hp i hi]
  have e2 : kd.getD j (0, 0) = kd[j]'(hp j hj) := by simp [List.getD_eq_getElem?_getD, hp j hj]
  rw [e1, e2]; exact e.symm
/-- one falling order only -/
theorem klt_uniq {α : Type} {key : α → Int × Int} : ∀ {a b : List α}, a.Perm b → (a.map key).Pairwise (fun x y => klt x y = true) → (b.map key).Pairwise (fun x y => klt x y = true) → a = b
  | a, b, p, ha, hb => by
    rw [List.pairwise_map] at ha hb
    refine p.eq_of_pairwise (fun x y _ _ h1 h2 => ?_) ha hb
    rw [klt_iff] at h1 h2
    omega
end Mine
set_option maxHeartbeats 400000
namespace Mine
section
variable {w : World} {A : Around} {E : Value → Shared → Prop} {h h' : Heap} {g : Array GenState} {d : Drawn} {t : Nat} {os : OsState} {vs ks : List Value} {kd : List (Int × Int)}
/-- the keys made so far -/
noncomputable def KeysAt (h : Heap) (ks : List Value) (kd : List (Int × Int)) : Prop := ks.length ≤ kd.length ∧ ∀ (i : Nat) (v : Value), ks[i]? = some v → ∃ (T : Addr) (ta tb : Tok) (k : Int × Int), kd[i]? = some k ∧ v = Value.ref T ∧ h.IsTuple T #[.int k.1 ta, .int k.2 tb]
theorem KeysAt.keeps (x : KeysAt h ks kd) (k : ∀ b its, h.IsTuple b its → h'.IsTuple b its) : KeysAt h' ks kd :=
  ⟨x.1, fun i v e => let ⟨T, ta, tb, p, a, b, c⟩ := x.2 i v e; ⟨T, ta, tb, p, a, b, k _ _ c⟩⟩
theorem KeysAt.snoc {T : Addr} {ta tb : Tok} {k : Int × Int} (x : KeysAt h ks kd) (hk : kd[ks.length]? = some k) (hT : h.IsTuple T #[.int k.1 ta, .int k.2 tb]) : KeysAt h (ks ++ [.ref T]) kd := by
  refine ⟨by have := (List.getElem?_eq_some_iff.mp hk).1; simp; omega, fun i v e => ?_⟩
  by_cases hi : i < ks.length
  · rw [List.getElem?_append_left hi] at e
    exact x.2 i v e
  · rw [List.getElem?_append_right (Nat.le_of_not_lt hi)] at e
    have h0 : i - ks.length = 0 := by
      have := (List.getElem?_eq_some_iff.mp e).1
      simp at this; omega
    rw [h0] at e
    cases e
    have : i = ks.length := by omega
    subst this
    exact ⟨T, ta, tb, k, hk, rfl, hT⟩
theorem KeysAt.tups (x : KeysAt h ks kd) : ∃ fs : List Value, fs.length = ks.length ∧ KatTups h ks fs ∧ ∀ f ∈ fs, ∃ i t, f = Value.int i t := by
  have key : ∀ (ks : List Value), (∀ v ∈ ks, ∃ (T : Addr) (a b : Int) (ta tb : Tok), v = Value.ref T ∧ h.IsTuple T #[.int a ta, .int b tb]) → ∃ fs : List Value, fs.length = ks.length ∧ KatTups h ks fs ∧ ∀ f ∈ fs, ∃ i t, f = Value.int i t := by
    intro ks
    induction ks with
    | nil => intro _; exact ⟨[], rfl, .nil, fun _ hf => nomatch hf⟩
    | cons v r ih =>
      intro hv
      obtain ⟨fs, e, ht, hi⟩ := ih fun u hu => hv u (.tail _ hu)
      obtain ⟨T, a, b, ta, tb, rfl, o, ho, hc, n, hd⟩ := hv v (.head _)
      refine ⟨.int a ta :: fs, by simp [e], .cons ho hc hd rfl ht, fun f hf => ?_⟩
      rcases List.mem_cons.mp hf with rfl | hf
      · exact ⟨_, _, rfl⟩
      · exact hi f hf
  refine key ks fun v hv => ?_
  obtain ⟨i, hi⟩ := List.mem_iff_getElem?.mp hv
  obtain ⟨T, ta, tb, k, _, e, hT⟩ := x.2 i v hi
  exact ⟨T, _, _, ta, tb, e, hT⟩
theorem KeysAt.ask {i j : Nat} {C : Bool → Shared → Prop} (x : KeysAt h ks kd) (hl : ks.length = kd.length) (hi : i < kd.length) (hj : j < kd.length) (hC : C (klt kd[i] kd[j]) ⟨h, g, d, t, os⟩) :
    kas_ask pg w A (tuples' true) ks i j C ⟨h, g, d, t, os⟩ := by
  have at_ : ∀ (i : Nat) (hi : i < kd.length), ∃ (T : Addr) (ta tb : Tok), ks.getD i .none = .ref T ∧ h.IsTuple T #[.int kd[i].1 ta, .int kd[i].2 tb] := by
    intro i hi
    have hi' : i < ks.length := by omega
    obtain ⟨T, ta, tb, k, a, b, c⟩ := x.2 i ks[i] (by simp [hi'])
    have : k = kd[i] := by simpa [hi] using a.symm
    subst this
    exact ⟨T, ta, tb, by rw [List.getD_eq_getElem?_getD, List.getElem?_eq_getElem hi', Option.getD_some]; exact b, c⟩
  obtain ⟨T, ta, tb, e1, o1, ho1, hc1, n1, hd1⟩ := at_ i hi
  obtain ⟨U, ua, ub, e2, o2, ho2, hc2, n2, hd2⟩ := at_ j hj
  unfold kas_ask
  rw [e1, e2]
  refine kat_lt (s := ⟨h, g, d, t, os⟩) ho1 hd1 ho2 hd2 ?_
  show KatLex _ _ _ _ _ _ [(.int kd[i].1 ta, .int kd[j].1 ua), (.int kd[i].2 tb, .int kd[j].2 ub)] 0 _
  refine kat_cons (wpAny_eqBool_int ?_)
  by_cases h1 : kd[i].1 = kd[j].1
  · rw [beq_iff_eq.mpr h1]
    refine kat_yes (kat_cons (wpAny_eqBool_int ?_))
    by_cases h2 : kd[i].2 = kd[j].2
    · rw [beq_iff_eq.mpr h2]
      refine kat_yes (kat_nil ?_)
      have : klt kd[i] kd[j] = false := by simp [klt, h1, h2]
      rw [this] at hC
      exact hC
    · rw [beq_false_of_ne h2]
      refine kat_no ?_
      show wpAny _ _ (oneLt' false _ _) _ _ _
      refine kat_one _ _ (ltI ?_)
      have : klt kd[i] kd[j] = decide (kd[i].2 < kd[j].2) := by simp [klt, h1]
      rw [this] at hC
      exact hC
  · rw [beq_false_of_ne h1]
    refine kat_no ?_
    show wpAny _ _ (oneLt' true _ _) _ _ _
    refine oneLt_int ?_
    have : klt kd[i] kd[j] = decide (kd[i].1 < kd[j].1) := by simp [klt, h1]
    rw [this] at hC
    exact hC
theorem sortK {l f : Addr} {Q : Value → Shared → Prop} (hl : h.IsList l vs.toArray) (hlen : kd.length = vs.length) (h5 : vs.length ≤ 5) (nd : kd.Nodup)
    (hcall : ∀ (i : Nat) (v : Value) (k : Int × Int) (h1 : Heap) (t : Nat), vs[i]? = some v → kd[i]? = some k → Kp h h1 → ∀ Q : Value → Shared → Prop, (∀ h2 t T ta tb, Kp h1 h2 → h2.IsTuple T #[.int k.1 ta, .int k.2 tb] → Q (.ref T) ⟨h2, g, d, t, os⟩) →
      wpAny (Md w) A.in1.in1 (call (.ref f) [v]) Q (fun _ _ => False) ⟨h1, g, d, t, os⟩)
    (hQ : ∀ h' D t k (p : List Nat), Kp h h' → h.get? D = none → h'.get? D = some (LstP (p.map fun i => vs.getD i .none) k) → p.Perm (List.range vs.length) →
      (p.map fun i => kd.getD i (0, 0)).Pairwise (fun a b => klt a b = true) → Q (.ref D) ⟨h', g, d, t, os⟩) :
    wpAny (Md w) A (call (.builtin "sorted") [.ref l] [(Str.ofString "key", .ref f)]) Q E ⟨h, g, d, t, os⟩ := by
  refine call_function_entry_kw kind_sorted plain_sorted entry_sorted (ksk_s1 _ _) ?_
  unfold Builtin.«sorted»
  refine wpAny_bind (m := checkCount "sorted" 1 1 _) (wpAny_pure ?_)
  refine wpAny_bind (collect_list hl ?_ (by rw [sizeLine_eq]; omega))
  refine wpAny_bind (wpAny_newList ?_ (by rw [sizeLine_eq]; omega))
  have hsz : ((h.push (seqObj "list" #[] 0)).update h.objs.size (Obj.mapSeq (· ++ vs.toArray))).objs.size = h.objs.size + 1 := by
    rw [Heap.size_update, size_push']
  have hoL : (((h.push (seqObj "list" #[] 0)).update h.objs.size (Obj.mapSeq (· ++ vs.toArray))).push (seqObj "list" vs.toArray 0)).get? (h.objs.size + 1) = some (seqObj "list" vs.toArray 0) := by
    rw [← hsz]; exact Heap.get?_push_size _ rfl
  have keep : Kp h (((h.push (seqObj "list" #[] 0)).update h.objs.size (Obj.mapSeq (· ++ vs.toArray))).push (seqObj "list" vs.toArray 0)) := fun b o q => by
    have hlt : b < h.objs.size := Heap.lt_size q
    rw [Heap.get?_push_ne _ _ _ (by rw [hsz]; exact Nat.ne_of_lt (Nat.lt_succ_of_lt hlt)), Heap.get?_update_ne _ _ _ _ (Nat.ne_of_lt hlt), Heap.get?_push_ne _ _ _ (Nat.ne_of_lt hlt)]
    exact q
  show wpAny _ _ _ _ _ ⟨(((h.push (seqObj "list" #[] 0)).update h.objs.size (Obj.mapSeq (· ++ vs.toArray))).push (seqObj "list" vs.toArray 0)), g, d, t, os⟩
  dsimp only
  rw [hsz]
  generalize hD : h.objs.size + 1 = D at hoL
  have hnD : h.get? D = none := by
    cases q : h.get? D with
    | none => rfl
    | some o => exact absurd (Heap.lt_size q) (by rw [← hD]; exact Nat.not_lt.mpr (Nat.le_succ _))
  generalize (((h.push (seqObj "list" #[] 0)).update h.objs.size (Obj.mapSeq (· ++ vs.toArray))).push (seqObj "list" vs.toArray 0)) = h1 at hoL keep
  refine wpAny_bind (wpAny_holding (wpAny_call_entry_kw slot_list_sort ⟨_, hoL, rfl⟩ entry_list_sort ?_ (ksk_l1 _ _)))
  show wpAny (Md w) A.in1.in1 (Builtin.«list.sort» ⟨[.ref D], [(Str.ofString "key", .ref f)]⟩) _ _ _
  rw [ksk_t1]
  unfold ksk_tree
  refine wpAny_bind (listItems_at hoL rfl ?_)
  refine wpAny_bind (listUpdate_at hoL rfl ?_ (by rw [List.size_toArray, sizeLine_eq]; omega) (Nat.zero_le _))
  obtain ⟨e1, ho1⟩ : ∃ e1, (h1.update D (Obj.mapSeq fun _ => (#[] : Array Value))).get? D = some (seqObj "list" #[] e1) := ⟨_, get?_update_seq hoL fun _ => #[]⟩
  refine wpAny_bind (seqEpoch_at ho1 rfl ?_)
  refine wpAny_bind (wpAny_newTuple ?_ (by show vs.length ≤ _; rw [sizeLine_eq]; omega))
  refine wpAny_bind (wpAny_newList ?_ (Nat.zero_le _))
  refine wpAny_holding ?_
  have k2 : Kp h (h1.update D (Obj.mapSeq fun _ => (#[] : Array Value))) := fun b o e => (Heap.get?_update_ne _ _ _ _ (fun q => by rw [q, hnD] at e; cases e)).trans (keep b o e)
  have ho2 : (((h1.update D (Obj.mapSeq fun _ => (#[] : Array Value))).push (seqObj "tuple" vs.toArray 0)).push (seqObj "list" #[] 0)).get? D = some (seqObj "list" #[] e1) := Heap.get?_push_of_some _ (Heap.get?_push_of_some _ ho1)
  have k3 : Kp h (((h1.update D (Obj.mapSeq fun _ => (#[] : Array Value))).push (seqObj "tuple" vs.toArray 0)).push (seqObj "list" #[] 0)) := fun b o e => Heap.get?_push_of_some _ (Heap.get?_push_of_some _ (k2 b o e))
  have hoK := Heap.get?_push_size ((h1.update D (Obj.mapSeq fun _ => (#[] : Array Value))).push (seqObj "tuple" vs.toArray 0)) (o := seqObj "list" #[] 0) rfl
  have hDK : D < ((h1.update D (Obj.mapSeq fun _ => (#[] : Array Value))).push (seqObj "tuple" vs.toArray 0)).objs.size := by
    rw [size_push', Heap.size_update]
    exact Nat.lt_succ_of_lt (Heap.lt_size hoL)
  have hnK : h.get? ((h1.update D (Obj.mapSeq fun _ => (#[] : Array Value))).push (seqObj "tuple" vs.toArray 0)).objs.size = none := by
    cases q : h.get? ((h1.update D (Obj.mapSeq fun _ => (#[] : Array Value))).push (seqObj "tuple" vs.toArray 0)).objs.size with
    | none => rfl
    | some o => exact absurd (Heap.lt_size (Heap.get?_push_of_some (seqObj "tuple" vs.toArray 0) (k2 _ _ q))) (Nat.lt_irrefl _)
  show wpAny _ _ _ _ _ ⟨(((h1.update D (Obj.mapSeq fun _ => (#[] : Array Value))).push (seqObj "tuple" vs.toArray 0)).push (seqObj "list" #[] 0)), g, d, t, os⟩
  dsimp only
  generalize ((h1.update D (Obj.mapSeq fun _ => (#[] : Array Value))).push (seqObj "tuple" vs.toArray 0)).objs.size = K at hoK hDK hnK
  generalize (((h1.update D (Obj.mapSeq fun _ => (#[] : Array Value))).push (seqObj "tuple" vs.toArray 0)).push (seqObj "list" #[] 0)) = h3 at ho2 k3 hoK
  have hne : D ≠ K := Nat.ne_of_lt hDK
  unfold ksk_rest
  refine wpAny_bind (wpAny_rule ?_)
  rw [← Array.forIn_toList]
  simp only [List.toList_toArray]
  refine wpAny_bind (wpAny_mono (Q := fun _ s' => X4 fun h4 t4 e4 ks => A6 (s' = ⟨h4, g, d, t4, os⟩) (Kp h h4) (h4.get? D = some (seqObj "list" #[] e1)) (h4.get? K = some (seqObj "list" ks.toArray e4)) (ks.length = vs.length) (KeysAt h4 ks kd)) (E := fun _ _ => False) ?_ ?_ (fun _ _ z => z.elim))
  · -- the keys
    have loop : ∀ (r ks : List Value) (h4 : Heap) (t4 e4 : Nat), vs = vs.take ks.length ++ r → ks.length + r.length = vs.length → Kp h h4 → h4.get? D = some (seqObj "list" #[] e1) → h4.get? K = some (seqObj "list" ks.toArray e4) → KeysAt h4 ks kd →
        wpAny (Md w) A.in1.in1 (forIn r PUnit.unit fun x _ => do
          match ← (call (.ref f) [x]).attempt with
          | .ok k => Builtin.List.listUpdate (.ref K) (·.push k); pure (ForInStep.yield PUnit.unit)
          | .error e =>
            rule "list.sort.key-raised"
            let made ← Builtin.List.listItems (.ref K)
            Builtin.List.listUpdate (.ref K) fun _ => #[]
            letGo made.toList.reverse [e]
            Builtin.List.listUpdate (.ref D) fun _ => vs.toArray
            throw e) (fun _ s' => X4 fun h4 t4 e4 ks => A6 (s' = ⟨h4, g, d, t4, os⟩) (Kp h h4) (h4.get? D = some (seqObj "list" #[] e1)) (h4.get? K = some (seqObj "list" ks.toArray e4)) (ks.length = vs.length) (KeysAt h4 ks kd)) (fun _ _ => False) ⟨h4, g, d, t4, os⟩ := by
      intro r
      induction r with
      | nil =>
        intro ks h4 t4 e4 hv hln k4 hD4 hK4 hks
        rw [List.forIn_nil]
        exact wpAny_pure ⟨h4, t4, e4, ks, rfl, k4, hD4, hK4, by simpa using hln, hks⟩
      | cons x r ih =>
        intro ks h4 t4 e4 hv hln k4 hD4 hK4 hks
        rw [List.forIn_cons]
        have hlk : ks.length < vs.length := by rw [List.length_cons] at hln; omega
        have hx : vs[ks.length]? = some x := by
          rw [hv, List.getElem?_append_right (by simp [Nat.min_le_left])]
          simp [Nat.min_eq_left (Nat.le_of_lt hlk), Nat.min_le_left]
        obtain ⟨k, hk⟩ : ∃ k, kd[ks.length]? = some k := ⟨kd[ks.length]'(by omega), by simp⟩
        refine wpAny_bind (wpAny_bind (wpAny_attempt ?_))
        refine wpAny_mono (hcall _ x k h4 t4 hx hk k4 (fun v s' => X5 fun h5 t5 T ta tb => A4 (v = .ref T) (s' = ⟨h5, g, d, t5, os⟩) (Kp h4 h5) (h5.IsTuple T #[.int k.1 ta, .int k.2 tb])) fun h5 t5 T ta tb k5 hT => ⟨h5, t5, T, ta, tb, rfl, rfl, k5, hT⟩) ?_ fun _ _ z => z.elim
        rintro _ _ ⟨h5, t5, T, ta, tb, rfl, rfl, k5, hT⟩
        dsimp only
        refine wpAny_bind (listUpdate_at (k5 _ _ hK4) rfl ?_ (by rw [List.size_toArray, sizeLine_eq]; omega) (Nat.le_trans (Nat.le_of_eq (Array.size_push ..)) (by rw [List.size_toArray, sizeLine_eq]; omega)))
        refine wpAny_pure ?_
        have ea : ks.toArray.push (Value.ref T) = (ks ++ [Value.ref T]).toArray := by simp
        obtain ⟨c2, hc2⟩ : ∃ c2, (h5.update K (Obj.mapSeq (·.push (Value.ref T)))).get? K = some (seqObj "list" (ks ++ [Value.ref T]).toArray c2) := ⟨_, by rw [← ea]; exact get?_update_seq (k5 _ _ hK4) (·.push (Value.ref T))⟩
        have ko : ∀ b o, b ≠ K → h5.get? b = some o → (h5.update K (Obj.mapSeq (·.push (Value.ref T)))).get? b = some o := fun b o nb e => (Heap.get?_update_ne _ _ _ _ nb).trans e
        have tup : ∀ b its, h5.IsTuple b its → (h5.update K (Obj.mapSeq (·.push (.ref T)))).IsTuple b its := fun b its x => tup_keeps x fun o e => by
          refine ko b o (fun q => ?_) e
          obtain ⟨o', e', c', _⟩ := x
          rw [q, k5 _ _ hK4] at e'
          cases e'
          simp at c'
        refine ih (ks ++ [Value.ref T]) _ t5 c2 ?_ (by simp at hln ⊢; omega) (fun b o e => ko b o (fun q => by rw [q, hnK] at e; cases e) (k5 _ _ (k4 b o e))) (ko _ _ hne (k5 _ _ hD4)) hc2 (((hks.keeps fun b its x => tup_keeps x (k5 b)).keeps tup).snoc hk (tup _ _ hT))
        have hv' : vs = vs.take ks.length ++ ([x] ++ r) := by simpa using hv
        rw [List.length_append, List.length_singleton, List.take_succ_eq_append_getElem hlk, List.append_assoc]
        have ex : vs[ks.length] = x := by simpa [hlk] using hx
        rw [ex]
        exact hv'
    refine wpAny_mono (loop vs [] h3 t 0 (by simp) (by simp) k3 ho2 hoK ⟨Nat.zero_le _, fun i v e => by simp at e⟩) (fun _ _ q => q) fun _ _ z => z
  · rintro _ s' ⟨h4, t4, e4, ks, rfl, k4, hD4, hK4, hkl, hks⟩
    refine wpAny_bind (listItems_at hK4 rfl ?_)
    unfold ksk_end
    have tail : ∀ (st : SortSt) (p : List Nat), (arrOf st).map (·.2) = (p.map fun i => vs.getD i .none).toArray → failedOf st = none → p.Perm (List.range vs.length) → (p.map fun i => kd.getD i (0, 0)).Pairwise (fun a b => klt a b = true) →
        wpAny (Md w) A.in1.in1 (ksk_tail D false e1 (.ref K) st) (fun fin s' => ∃ v, fin = .done (.ret v) ∧ wpAny (Md w) A.in1 (ret (.ref D)) (fun fin s' => ∃ v, fin = .done (.ret v) ∧ Q v s') E s') E ⟨h4, g, d, t4, os⟩ := by
      intro st p hst hf hp hpw
      unfold ksk_tail
      dsimp only
      rw [hst]
      refine wpAny_bind (listUpdate_at hK4 rfl ?_ (by rw [List.size_toArray, sizeLine_eq]; omega) (Nat.zero_le _))
      refine wpAny_bind (wpAny_letGo ?_)
      have hD5 : (h4.update K (Obj.mapSeq fun _ => (#[] : Array Value))).get? D = some (seqObj "list" #[] e1) := (Heap.get?_update_ne _ _ _ _ hne).trans hD4
      refine wpAny_bind (seqEpoch_at hD5 rfl ?_)
      have hpl : p.length = vs.length := by rw [hp.length_eq, List.length_range]
      refine wpAny_bind (listUpdate_at hD5 rfl ?_ (Nat.zero_le _) (by
        simp only [Bool.false_eq_true, if_false, List.size_toArray, List.length_map, hpl, sizeLine_eq]; omega))
      rw [hf]
      simp only [bne_self_eq_false, Bool.false_eq_true, if_false]
      refine wpAny_pure ⟨_, rfl, wpAny_pure ⟨_, rfl, ?_⟩⟩
      obtain ⟨c2, hc2⟩ : ∃ c2, ((h4.update K (Obj.mapSeq fun _ => (#[] : Array Value))).update D (Obj.mapSeq fun _ => (p.map fun i => vs.getD i .none).toArray)).get? D = some (seqObj "list" (p.map fun i => vs.getD i .none).toArray c2) := ⟨_, get?_update_seq hD5 fun _ => (p.map fun i => vs.getD i .none).toArray⟩
      refine hQ _ D _ c2 p (fun b o e => ?_) hnD hc2 hp hpw
      have n1 : b ≠ D := fun q => by rw [q, hnD] at e; cases e
      have n2 : b ≠ K := fun q => by rw [q, hnK] at e; cases e
      exact (Heap.get?_update_ne _ _ _ _ n1).trans ((Heap.get?_update_ne _ _ _ _ n2).trans (k4 b o e))
    simp only [Bool.false_eq_true, if_false]
    by_cases h2 : vs.toArray.size < 2
    · rw [if_pos h2, if_pos h2]
      refine wpAny_bind (wpAny_pure ?_)
      have h2' : vs.length < 2 := by simpa using h2
      refine tail _ (List.range vs.length) ?_ rfl (.refl _) ?_
      · show ((ks.toArray.zip vs.toArray).map (·.2)) = _
        apply Array.toList_inj.mp
        simp only [Array.toList_map, Array.toList_zip, List.toList_toArray]
        refine List.ext_getElem (by simp [hkl]) fun i h1 h2 => ?_
        simp at h1
        have : i < vs.length := by omega
        simp [List.getD_eq_getElem?_getD, this]
      · match hv : vs.length, h2' with
        | 0, _ => simp
        | 1, _ => simp
    · rw [if_neg h2, if_neg h2]
      have h2' : 2 ≤ vs.length := by simpa using h2
      obtain ⟨fs, hfl, hft, hfi⟩ := hks.tups
      refine wpAny_bind (kat_kind (s := ⟨h4, g, d, t4, os⟩) (T := .type "int") hft (by omega) (fun v hv => ?_) rfl ?_)
      · obtain ⟨i, ti, rfl⟩ := hfi v hv
        exact Looks.of_pure (typeIs_int (⟨h4, g, d, t4, os⟩ : Shared) i ti)
      obtain ⟨lt, hlt, hin, hperm, hpw⟩ := srt_keys (kd := kd) (by omega) (by omega) nd
      have hkk : ks.length = kd.length := by omega
      refine wpAny_bind (wpAny_mono (kat_run (E := E) (Q := fun st' s' => (s' = ⟨h4, g, d, t4, os⟩) ∧ ∃ (p : List Nat), A4 ((arrOf st').map (·.2) = (p.map fun i => vs.getD i .none).toArray) (failedOf st' = none) (p.Perm (List.range vs.length)) ((p.map fun i => kd.getD i (0, 0)).Pairwise (fun a b => klt a b = true)))
        (G := fun p s' => s' = ⟨h4, g, d, t4, os⟩ ∧ p = kasRun lt (kas_sort kd.length)) (ks := ks) (vs := vs) hkl h2' (by omega) (fun p' st' s' a1 a2 a3 ⟨a4, a5⟩ => ⟨a4, p'.toList, kat_snds hkl a2, a3, ?_, ?_⟩) (kasWp_run (n := kd.length) (lt := lt) (fun i j C hi hj hC => ?_) _ _ ?_ ?_)) ?_ fun _ _ z => z)
      · subst a5; rw [← hlen]; exact hperm
      · subst a5; exact hpw
      · rw [hlt i j hi hj] at hC
        exact hks.ask hkk hi hj hC
      · rw [← hlen]; exact hin
      · rw [← hlen]; exact ⟨rfl, rfl⟩
      · rintro ⟨⟨⟩, st'⟩ s' ⟨rfl, p, hst, hf, hp, hpw⟩
        exact tail st' p hst hf hp hpw
end
end Mine
set_option maxHeartbeats 200000
namespace Mine
noncomputable def sc0 : Scope := { kind := .function, names := [], isGenerator := false, isCoroutine := false }
noncomputable def x0 : Expr := .Name (Str.ofString "x") default
/-- what lies in a statement: its body, scope, test, handlers -/
noncomputable def sPart : Stmt → List Stmt × Scope × Expr × List ExceptHandler
  | .FunctionDef (body := b) (scope := s) .. => (b, s, x0, [])
  | .While (test := t) (body := b) .. => (b, sc0, t, [])
  | .For (body := b) .. => (b, sc0, x0, [])
  | .If (test := t) (body := b) .. => (b, sc0, t, [])
  | .Try (body := b) (handlers := hs) .. => (b, sc0, x0, hs)
  | _ => ([], sc0, x0, [])
noncomputable def bodyOf (s : Stmt) : List Stmt := (sPart s).1
noncomputable def scopeOf (s : Stmt) : Scope := (sPart s).2.1
noncomputable def stmtAt (l : List Stmt) (n : Nat) : Stmt := (l.drop n).headD (.Pass default)
noncomputable def lofD : Stmt := stmtAt pg.main.body 19
noncomputable def lofB : List Stmt := bodyOf lofD
noncomputable def lofSc : Scope := scopeOf lofD
noncomputable def turnB : List Stmt := bodyOf (stmtAt lofB 5)
/-- the frame of _law_laid_off -/
noncomputable abbrev lofE (L : Addr) : Env := envX (Str.ofString "_law_laid_off") lofSc L 308 (.ref 307) [(Str.ofString "way", L + 1)]
noncomputable def testOf (s : Stmt) : Expr := (sPart s).2.2.1
noncomputable def ar0 : Arguments := { posonlyargs := [], args := [], vararg := none, kwonlyargs := [], kw_defaults := [], kwarg := none, defaults := [] }
/-- what lies in an expression: the right side, the first keyword's value or the body; a lambda's scope and parameters -/
noncomputable def ePart : Expr → Expr × Scope × Arguments
  | .Compare _ _ (r :: _) _ => (r, sc0, ar0)
  | .Call _ _ (k :: _) _ => (k.value, sc0, ar0)
  | .Lambda a b s _ => (b, s, a)
  | e => (e, sc0, ar0)
noncomputable def cmpR (e : Expr) : Expr := (ePart e).1
noncomputable def kw0 (e : Expr) : Expr := (ePart e).1
noncomputable def lamB (e : Expr) : Expr := (ePart e).1
noncomputable def lamS (e : Expr) : Scope := (ePart e).2.1
noncomputable def lamA (e : Expr) : Arguments := (ePart e).2.2
/-- the sort's key -/
noncomputable def keyX : Expr := kw0 (cmpR (testOf (stmtAt turnB 6)))
noncomputable abbrev keyQ : Str := (Str.ofString "_law_laid_off" ++ ".<locals>.") ++ "<lambda>"
end Mine
set_option maxHeartbeats 400000
namespace Mine
section
variable {w : World} {A : Around} {E : Value → Shared → Prop} {h h' h₀ H hB : Heap} {ex : List Addr} {g : Array GenState} {d : Drawn} {t : Nat} {os : OsState} {env : Env} {m m' : Str → Option Value} {mu mu' mt : List (Addr × Obj)} {L c P : Addr} {qual : Str}
theorem bmAt {mg : Str → Option Value} {bm : Addr} {ob : Obj} {ps : Array Value} (hg : h.Ns mainGlobals mg) (e1 : mg "__builtins__" = some (.ref bm)) (e2 : bm ≠ builtinsNs) (e3 : h.get? bm = some ob) (e4 : ob.cls = .type "module") (e5 : ob.dict = some builtinsNs) (e6 : ob.data = .plain)
    (hP : h.get? P = some (tabObj ps)) : h.BuiltinsAt mg P := by
  refine ⟨bm, ob, e1, e2, fun q => ?_, fun q => ?_, e3, e4, e5, e6⟩
  · obtain ⟨o, es, ep, x, hd, _⟩ := hg
    rw [q, x] at e3; cases e3; rw [hd] at e6; cases e6
  · rw [q, hP] at e3; cases e3; cases e4
/-- a lambda made -/
theorem lamMake {pos : Pos} {scope : Scope} {params : Arguments} {body : Expr} {clos : List (Str × Addr)} {Q : Value → Shared → Prop} (MB : BmAt h₀) (S : St h₀ H ex L h m (mt ++ mu)) (hT : TabL P qual pos.line pos.col mt) (CH : CodeHd h c P) (hc : env.code = .ref c) (hge : env.globals = mainGlobals)
    (hq : env.qual ++ "<lambda>" = qual) (hdef : defaultsOf params env = ([], [])) (hcl : closureFor scope env = pure clos)
    (hQ : ∀ h' f c' ctv pm mt' tk, St h₀ H ex L h' m (mt' ++ mu) → TabL P qual pos.line pos.col mt' → h'.get? f = some { cls := .type "function", data := .func (kla_fn "<lambda>" qual params body scope clos pm (.ref c') ctv) } → h'.CodeRec (.ref c') qual → Q (.ref f) ⟨h', g, d, tk, os⟩) :
    wpAny (Md w) A (eval (.Lambda params body scope pos) env) Q E ⟨h, g, d, t, os⟩ := by
  refine kla_eval hdef ?_
  rw [hq]
  obtain ⟨mg, bm, ob, b1, b2, b3, b4, b5, b6, b7⟩ := MB.keeps S.keep
  rcases hT with rfl | ⟨c', oc, vs, tt, rfl, hd, hv⟩
  · have hP := S.at 0 (a := P) rfl
    have hgP : mainGlobals ≠ P := fun q => by
      obtain ⟨o, es, ep, x, hd, _⟩ := b1
      rw [q, hP] at x; cases x; cases hd
    refine kla_makeFunction (s := ⟨h, g, d, t, os⟩) (ps := #[]) hcl hge b1 hc CH hP trivial rfl hgP (bmAt b1 b2 b3 b4 b5 b6 b7 hP) fun c' ctv h' tk hx hge hlt hrec htb => ?_
    have S' := S.put 0 rfl (tabNotTup _) (fun b x ne e => hx b x ne e) htb
    obtain ⟨c₂, oc, vs, tt, e, hoc, hd, hv⟩ := id hrec
    cases e
    have S2 := (S.enter S' rfl (Heap.get?_none_of_le hge) hoc).swap
    have S3 := S2.pushed (kla_obj "<lambda>" qual params body scope clos ((mg "__name__").getD .none) c' ctv)
    refine hQ _ h'.objs.size c' ctv _ [(P, tabObj (#[] ++ #[rawInt pos.line, rawInt pos.col, .ref c'])), (c', oc)] tk S3 (.inr ⟨c', oc, vs, tt, rfl, hd, hv⟩) (Heap.get?_push_size _ rfl) ?_
    exact ⟨c', oc, vs, tt, rfl, Heap.get?_push_of_some _ hoc, hd, hv⟩
  · have hP := S.at 0 (a := P) rfl
    have hoc := S.at 1 (a := c') rfl
    refine kla_makeFunctionHit (s := ⟨h, g, d, t, os⟩) (cv := .ref c') hcl hge b1 hc CH hP (by trivial) (by simp [codeAmong, rawInt]) (bmAt b1 b2 b3 b4 b5 b6 b7 hP) fun ctv h' tk hk hsz => ?_
    have S2 := S.keeps hk
    have S3 := S2.pushed { cls := .type "function", data := .func (kla_fn "<lambda>" qual params body scope clos ((mg "__name__").getD .none) (.ref c') ctv) }
    refine hQ _ h'.objs.size c' ctv _ _ tk S3 (.inr ⟨c', oc, vs, tt, rfl, hd, hv⟩) (Heap.get?_push_size _ rfl) ?_
    exact ⟨c', oc, vs, tt, rfl, Heap.get?_push_of_some _ (hk _ _ hoc), hd, hv⟩

noncomputable abbrev keyObj (cW c' : Addr) (pm ctv : Value) : Obj := { cls := .type "function", data := .func (kla_fn "<lambda>" keyQ (lamA keyX) (lamB keyX) (lamS keyX) [(Str.ofString "way", cW)] pm (.ref c') ctv) }
theorem tup2T {e₁ e₂ : Expr} {k : Nat} {pos : Pos} {s : Shared} {Q : Value → Shared → Prop} (hQ : wpAny (Md w) A (eval e₁ env) (fun v₁ s₁ => wpAny (Md w) A (eval e₂ env) (fun v₂ s₂ => ∀ h g d t os, s₂ = ⟨h, g, d, t, os⟩ → Q (.ref h.objs.size) ⟨h.push { cls := .type "tuple", data := .seq [v₁, v₂].toArray }, g, d, t, os⟩) E s₁) E s)
    (h1 : starEach [e₁, e₂] env = (false, eval e₁ env) :: starEach [e₂] env := by rfl) (h2 : starEach [e₂] env = (false, eval e₂ env) :: starEach [] env := by rfl) : wpAny (Md w) A (eval (.Tuple [e₁, e₂] k pos) env) Q E s := tup2 hQ h1 h2
theorem keyCall {f c' cW T : Addr} {pm ctv : Value} {a way : Int} {n : Nat} {tw ta tb : Tok} {Q : Value → Shared → Prop} (C : Cx w hB) (k0 : Kp hB h) (hroom : A.depth < recursionLimit) (hf : h.get? f = some (keyObj cW c' pm ctv)) (hcd : h.CodeRec (.ref c') keyQ) (hw : h.IsCell cW (some (.int way tw)))
    (hT : h.IsTuple T #[.int a ta, .str (nm n) tb]) (hway : way = 1 ∨ way = -1) (hn : n < 6)
    (hQ : ∀ h' t T' ta tb, Kp h h' → h'.IsTuple T' #[.int a ta, .int (way * ((66 + n : Nat) : Int)) tb] → Q (.ref T') ⟨h', g, d, t, os⟩) : wpAny (Md w) A (call (.ref f) [.ref T]) Q E ⟨h, g, d, t, os⟩ := by
  refine wpAny_call (kla_callFunE (args := ⟨[.ref T], []⟩) hroom hf rfl rfl rfl rfl hcd ?_)
  rw [show bindArgs (kla_fn "<lambda>" keyQ (lamA keyX) (lamB keyX) (lamS keyX) [(Str.ofString "way", cW)] pm (.ref c') ctv) ⟨[.ref T], []⟩ = pure [(Str.ofString "pair", .ref T)] from rfl]
  refine wpAny_pure (wpAny_newFunctionEnv (show ∀ x ∈ (lamS keyX).names, x.2 ≠ .cell by decide +kernel) (locs (by rfl)) (fun h₁ hns hsb => ⟨((C.keeps k0).lim).fresh _ hsb, ?_⟩) rfl)
  show codeAny _ _ (.expr (lamB keyX) (envX keyQ (lamS keyX) h.objs.size f (.ref c') [(Str.ofString "way", cW)])) _ _
  have hk₁ : Kp h h₁ := fun b o e => hsb.extBut b o (Nat.ne_of_lt (Heap.lt_size e)) (Heap.get?_push_of_some _ e)
  have S : St h h [] h.objs.size h₁ _ [] := St.start hns hk₁ (fresh_none h)
  have C' : Cx w h := C.keeps k0
  generalize h.objs.size = L at S
  refine kla_codeExpr ?_
  refine wpAny_mono (E := fun _ _ => False) (Q := fun v s' => Q v s') ?_ (fun _ _ q => q) fun _ _ z => z.elim
  refine tup2T (Subscript_ (ldL S rfl (cI (tailTup (vs := [.int a ta, .str (nm n) tb]) (k := 0) (tup_keeps hT (S.keep _)) rfl rfl (by simp) ?_))))
  have hcw : h₁.IsCell cW (some (.int way tw)) := let ⟨o, e, x⟩ := hw; ⟨o, S.keep _ _ e, x⟩
  refine wpAny_BinOp (ldF rfl hcw ?_)
  refine callName (ldB (v := .builtin "ord") C' S (by k_is) rfl (cwBi (spliced_more (Subscript_ (ldL S rfl (cI (tailTup (vs := [.int a ta, .str (nm n) tb]) (k := 1) (tup_keeps hT (S.keep _)) rfl rfl (by simp) (spliced_none ?_))))))))
  refine PySem.P.ord_of_char (s := ⟨h₁, g, d, _, os⟩) (c := 66 + n) ?_
  refine mulI (.of_right ?_) ?_
  · exact intBits_le_64 (by omega) (by omega)
  · intro h2 g2 d2 t2 os2 e
    cases e
    refine hQ _ _ _ _ _ (fun b o e => Heap.get?_push_of_some _ (S.keep b o e)) ⟨_, Heap.get?_push_size _ rfl, rfl, _, rfl⟩
end
end Mine
set_option maxHeartbeats 400000
namespace Mine
/-- from one segment to a later one -/
structure Seg (H : Heap) (ex : List Addr) (H' : Heap) (ex' : List Addr) : Prop where
  keep : ∀ b o, H.get? b = some o → b ∉ ex → H'.get? b = some o ∧ b ∉ ex'
  tup : ∀ b its, H.IsTuple b its → H'.IsTuple b its
section
variable {h h' h₀ H H' H'' : Heap} {ex ex' ex'' : List Addr} {m m' : Str → Option Value} {mu mu' : List (Addr × Obj)} {L : Addr}
theorem Seg.refl : Seg H ex H ex := ⟨fun _ _ e n => ⟨e, n⟩, fun _ _ x => x⟩
theorem Seg.trans (x : Seg H ex H' ex') (y : Seg H' ex' H'' ex'') : Seg H ex H'' ex'' := ⟨fun b o e n => let ⟨e', n'⟩ := x.keep b o e n; y.keep b o e' n', fun b its z => y.tup b its (x.tup b its z)⟩
theorem St.out (S : St h₀ H ex L h m mu) {b : Addr} {o : Obj} (e : H.get? b = some o) (n : b ∉ ex) : b ∉ L :: mu.map (·.1) := fun hm => by
  rcases S.mtb b hm with q | q
  · exact n q
  · rw [e] at q; cases q
/-- a new segment here -/
theorem St.seg (S : St h₀ H ex L h m mu) : Seg H ex h (L :: mu.map (·.1)) := ⟨fun b o e n => ⟨S.pres b o n e, S.out e n⟩, S.tup⟩
theorem St.re (S : St h₀ H ex L h m mu) : St h₀ h (L :: mu.map (·.1)) L h m mu := S.rebase (.refl _)
/-- a name that a piece does not store -/
noncomputable def Same (l : List Str) (m m' : Str → Option Value) : Prop := ∀ y, y ∉ l → m' y = m y
theorem Same.refl {l : List Str} : Same l m m := fun _ _ => rfl
theorem Same.get {l : List Str} {y : Str} {v : Value} (x : Same l m m') (e : m y = some v) (n : y ∉ l := by decide) : m' y = some v := (x y n).trans e
end
section
variable {h h' : Heap} {vs its : List Value} {rows : List (Nat × Nat)}
/-- rows: a number and a name -/
noncomputable def RowsAt (h : Heap) (vs : List Value) (rows : List (Nat × Nat)) : Prop := vs.length = rows.length ∧ ∀ (i : Nat) (r : Nat × Nat), rows[i]? = some r → ∃ (T : Addr) (ta tb : Tok), vs[i]? = some (Value.ref T) ∧ h.IsTuple T #[.int (r.1 : Nat) ta, .str (nm r.2) tb]
theorem RowsAt.on (x : RowsAt h vs rows) (k : ∀ b its, h.IsTuple b its → h'.IsTuple b its) : RowsAt h' vs rows :=
  ⟨x.1, fun i r e => let ⟨T, ta, tb, a, b⟩ := x.2 i r e; ⟨T, ta, tb, a, k _ _ b⟩⟩
theorem PairsAt.on {line : List (Str × Str)} (x : PairsAt h its line) (k : ∀ b its, h.IsTuple b its → h'.IsTuple b its) : PairsAt h' its line :=
  ⟨x.1, fun i r e => let ⟨T, ta, tb, a, b⟩ := x.2 i r e; ⟨T, ta, tb, a, k _ _ b⟩⟩
theorem PairsAt.len (x : PairsAt h its (rowT rows)) : its.length = rows.length := by rw [x.1]; simp [rowT]
theorem PairsAt.row {i : Nat} {r : Nat × Nat} (x : PairsAt h its (rowT rows)) (e : rows[i]? = some r) : ∃ (T : Addr) (tx ty : Tok), its[i]? = some (Value.ref T) ∧ h.IsTuple T #[.str (spS r.1) tx, .str (nm r.2) ty] := by
  obtain ⟨T, tx, ty, a, b⟩ := x.2 i (spS r.1, nm r.2) (by unfold rowT; rw [List.getElem?_map, e]; rfl)
  exact ⟨T, tx, ty, a, b⟩
theorem pairsAt_of (hl : its.length = rows.length) (x : ∀ (i : Nat) (r : Nat × Nat), rows[i]? = some r → ∃ (T : Addr) (tx ty : Tok), its[i]? = some (Value.ref T) ∧ h.IsTuple T #[.str (spS r.1) tx, .str (nm r.2) ty]) : PairsAt h its (rowT rows) := by
  refine ⟨by simp [rowT, hl], fun i p e => ?_⟩
  unfold rowT at e
  rw [List.getElem?_map] at e
  obtain ⟨r, hr, rfl⟩ := Option.map_eq_some_iff.mp e
  exact x i r hr
theorem RowsAt.ins {T : Addr} {ta tb : Tok} {r : Nat × Nat} (x : RowsAt h vs rows) (k : Nat) (hk : k ≤ rows.length) (hT : h.IsTuple T #[.int (r.1 : Nat) ta, .str (nm r.2) tb]) : RowsAt h (vs.take k ++ .ref T :: vs.drop k) (rows.take k ++ r :: rows.drop k) := by
  have hl := x.1
  refine ⟨by simp [hl], fun i q e => ?_⟩
  rcases Nat.lt_trichotomy i k with hi | hi | hi
  · rw [List.getElem?_append_left (by simp; omega), List.getElem?_take_of_lt hi] at e
    rw [List.getElem?_append_left (by simp; omega), List.getElem?_take_of_lt hi]
    exact x.2 i q e
  · subst hi
    rw [List.getElem?_append_right (by simp; omega)] at e
    rw [List.getElem?_append_right (by simp; omega)]
    have e1 : i - (rows.take i).length = 0 := by simp; omega
    have e2 : i - (vs.take i).length = 0 := by simp; omega
    rw [e1] at e; rw [e2]
    cases e
    exact ⟨T, ta, tb, rfl, hT⟩
  · rw [List.getElem?_append_right (by simp; omega)] at e
    rw [List.getElem?_append_right (by simp; omega)]
    have e1 : i - (rows.take k).length = (i - k - 1) + 1 := by simp; omega
    have e2 : i - (vs.take k).length = (i - k - 1) + 1 := by simp; omega
    rw [e1, List.getElem?_cons_succ, List.getElem?_drop] at e
    rw [e2, List.getElem?_cons_succ, List.getElem?_drop]
    exact x.2 _ q e
end
/-- the order of the rows -/
noncomputable def keyR (way : Int) (r : Nat × Nat) : Int × Int := (((r.1 : Nat) : Int), way * ((66 + r.2 : Nat) : Int))
theorem sLt_nm (i j : Nat) : sLt (nm i) (nm j) = decide (i < j) := by
  unfold sLt nm
  rw [show (#[66 + i] : Array Nat).toList = [66 + i] from rfl, show (#[66 + j] : Array Nat).toList = [66 + j] from rfl]
  congr 1
  apply propext
  constructor
  · intro h
    rcases List.cons_lt_cons_iff.mp h with h | ⟨_, h⟩
    · omega
    · cases h
  · intro h
    exact List.cons_lt_cons_iff.mpr (.inl (by omega))
theorem cmp_klt {way : Int} (hw : way = 1 ∨ way = -1) (p q : Nat × Nat) : decide (cmpV way ((p.1 : Nat) : Int) (nm p.2) ((q.1 : Nat) : Int) (nm q.2) < 0) = klt (keyR way p) (keyR way q) := by
  unfold cmpV klt keyR
  rw [sLt_nm, sLt_nm]
  by_cases h1 : p.1 < q.1
  · have : ((p.1 : Nat) : Int) < ((q.1 : Nat) : Int) := by omega
    simp [this]
  · by_cases h2 : q.1 < p.1
    · have a1 : ¬ ((p.1 : Nat) : Int) < ((q.1 : Nat) : Int) := by omega
      have a2 : ((q.1 : Nat) : Int) < ((p.1 : Nat) : Int) := by omega
      have a3 : ¬ ((p.1 : Nat) : Int) = ((q.1 : Nat) : Int) := by omega
      simp only [a1, a2, a3, if_false, if_true, decide_false, Bool.false_or, Bool.false_and]
      decide
    · have e : p.1 = q.1 := by omega
      rw [e]
      simp only [Int.lt_irrefl, if_false, decide_false, Bool.false_or, decide_true, Bool.true_and]
      rcases hw with rfl | rfl
      · by_cases h3 : p.2 < q.2
        · simp [h3]
        · by_cases h4 : q.2 < p.2
          · simp [h3, h4]
          · simp [h3, h4]
      · by_cases h3 : p.2 < q.2
        · have : ¬ q.2 < p.2 := by omega
          simp [h3]; omega
        · by_cases h4 : q.2 < p.2
          · simp [h3, h4]
          · simp [h3, h4]
/-- a row put in its place -/
noncomputable def cntR (way : Int) (x : Nat × Nat) : List (Nat × Nat) → Nat
  | [] => 0
  | y :: r => if klt (keyR way y) (keyR way x) = true then cntR way x r + 1 else 0
theorem cntR_le (way : Int) (x : Nat × Nat) : ∀ rows, cntR way x rows ≤ rows.length
  | [] => Nat.le_refl _
  | y :: r => by
    unfold cntR
    split
    · have := cntR_le way x r; simp; omega
    · exact Nat.zero_le _
theorem cntR_is {way : Int} {x : Nat × Nat} : ∀ {rows : List (Nat × Nat)} {k : Nat}, k ≤ rows.length → (∀ j r, j < k → rows[j]? = some r → klt (keyR way r) (keyR way x) = true) → (∀ r, rows[k]? = some r → klt (keyR way r) (keyR way x) = false) → k = cntR way x rows
  | [], k, hk, _, _ => by simp at hk; subst hk; rfl
  | y :: r, 0, _, _, h => by
    unfold cntR
    rw [h y rfl]; rfl
  | y :: r, k + 1, hk, h1, h2 => by
    unfold cntR
    rw [if_pos (h1 0 y (Nat.zero_lt_succ _) rfl), ← cntR_is (k := k) (by simpa using hk) (fun j q hj e => h1 (j + 1) q (by omega) e) fun q e => h2 q e]
noncomputable def insR (way : Int) (rows : List (Nat × Nat)) (x : Nat × Nat) : List (Nat × Nat) := rows.take (cntR way x rows) ++ x :: rows.drop (cntR way x rows)
theorem insR_perm (way : Int) (rows : List (Nat × Nat)) (x : Nat × Nat) : (insR way rows x).Perm (x :: rows) := by
  unfold insR
  refine List.perm_middle.trans ?_
  rw [List.take_append_drop]
theorem insR_len (way : Int) (rows : List (Nat × Nat)) (x : Nat × Nat) : (insR way rows x).length = rows.length + 1 := by
  have := (insR_perm way rows x).length_eq
  simpa using this
theorem klt_tot {a b : Int × Int} (h : klt a b = false) (ne : a ≠ b) : klt b a = true := by
  rw [klt_iff]
  have h : ¬ klt a b = true := by rw [h]; decide
  rw [klt_iff] at h
  rcases Int.lt_trichotomy a.1 b.1 with q | q | q
  · exact absurd (.inl q) h
  · refine .inr ⟨q.symm, ?_⟩
    rcases Int.lt_trichotomy a.2 b.2 with q' | q' | q'
    · exact absurd (.inr ⟨q, q'⟩) h
    · exact absurd (Prod.ext q q') ne
    · exact q'
  · exact .inl q
theorem klt_trans {a b c : Int × Int} (h : klt a b = true) (h2 : klt b c = true) : klt a c = true := by
  rw [klt_iff] at *; omega
theorem keyR_inj {way : Int} (hw : way = 1 ∨ way = -1) {p q : Nat × Nat} (e : keyR way p = keyR way q) : p = q := by
  unfold keyR at e
  have h1 := congrArg Prod.fst e
  have h2 := congrArg Prod.snd e
  simp only at h1 h2
  rcases hw with rfl | rfl <;> exact Prod.ext (by omega) (by omega)
noncomputable abbrev Srt (way : Int) (rows : List (Nat × Nat)) : Prop := (rows.map (keyR way)).Pairwise fun a b => klt a b = true
theorem insR_srt {way : Int} (hw : way = 1 ∨ way = -1) {x : Nat × Nat} : ∀ {rows : List (Nat × Nat)}, Srt way rows → x ∉ rows → Srt way (insR way rows x)
  | [], _, _ => by simp [Srt, insR, cntR]
  | y :: r, h, hx => by
    have h' := List.pairwise_cons.mp h
    have hne : y ≠ x := fun e => hx (e ▸ .head _)
    by_cases hy : klt (keyR way y) (keyR way x) = true
    · have e : insR way (y :: r) x = y :: insR way r x := by
        have ec : cntR way x (y :: r) = cntR way x r + 1 := by
          show (if _ then _ else _) = _
          rw [if_pos hy]
        unfold insR
        rw [ec]; rfl
      rw [e]
      refine List.pairwise_cons.mpr ⟨fun z hz => ?_, insR_srt hw h'.2 fun hm => hx (.tail _ hm)⟩
      obtain ⟨q, hq, rfl⟩ := List.mem_map.mp hz
      rcases List.mem_cons.mp ((insR_perm way r x).subset hq) with rfl | hq
      · exact hy
      · exact h'.1 _ (List.mem_map_of_mem hq)
    · have e : insR way (y :: r) x = x :: y :: r := by
        have ec : cntR way x (y :: r) = 0 := by
          show (if _ then _ else _) = _
          rw [if_neg hy]
        unfold insR
        rw [ec]; rfl
      rw [e]
      have hy : klt (keyR way y) (keyR way x) = false := by simpa using hy
      have hxy := klt_tot hy fun q => hne (keyR_inj hw q)
      refine List.pairwise_cons.mpr ⟨fun z hz => ?_, h⟩
      rcases List.mem_cons.mp hz with rfl | hz
      · exact hxy
      · exact klt_trans hxy (h'.1 z hz)
theorem fold_ins {way : Int} (hw : way = 1 ∨ way = -1) : ∀ (l acc : List (Nat × Nat)), (l ++ acc).Nodup → Srt way acc → Srt way (l.foldl (insR way) acc) ∧ (l.foldl (insR way) acc).Perm (l ++ acc)
  | [], acc, _, h => ⟨h, .refl _⟩
  | x :: l, acc, nd, h => by
    have nd' := List.nodup_cons.mp nd
    have hx : x ∉ acc := fun hm => nd'.1 (List.mem_append_right _ hm)
    have hp := insR_perm way acc x
    have p2 : (l ++ insR way acc x).Perm (x :: (l ++ acc)) := (hp.append_left l).trans List.perm_middle
    obtain ⟨a, b⟩ := fold_ins hw l (insR way acc x) (p2.nodup_iff.mpr nd) (insR_srt hw h hx)
    exact ⟨a, b.trans p2⟩
end Mine
set_option maxHeartbeats 400000
namespace Mine
section
variable {w : World} {A : Around} {E : Value → Shared → Prop} {h h' h₀ H hB : Heap} {ex : List Addr} {g : Array GenState} {d : Drawn} {t : Nat} {os : OsState} {env : Env} {m m' : Str → Option Value} {mu mu' mt : List (Addr × Obj)} {L l : Addr} {vs : List Value}
theorem insL {i k : Nat} {x : Value} {at_ : Nat} {ta : Tok} {Q : Value → Shared → Prop} (S : St h₀ H ex L h m mu) (hi : mu[i]? = some (l, LstP vs k)) (hz : vs.length ≤ 100000) (hk : at_ ≤ vs.length)
    (hQ : ∀ h' k', St h₀ H ex L h' m (mu.set i (l, LstP (vs.take at_ ++ x :: vs.drop at_) k')) → Q .none ⟨h', g, d, t, os⟩) : wpAny (Md w) A (call (.builtin "list.insert") [.ref l, .int (at_ : Nat) ta, x]) Q E ⟨h, g, d, t, os⟩ := by
  have hl := S.at i hi
  have hsz : vs.toArray.size ≤ sizeLine := by rw [List.size_toArray, sizeLine_eq]; omega
  have key : ∀ y : Int, y = ((at_ : Nat) : Int) → wpAny (Md w) A (call (.builtin "list.insert") [.ref l, .int y ta, x]) Q E ⟨h, g, d, t, os⟩ := by
    intro y hy
    have hfit : ¬(!Builtin.List.listFitsIndex y) = true := by
      unfold Builtin.List.listFitsIndex
      rw [decide_eq_true (by omega), decide_eq_true (by omega)]
      decide
    refine call_meets (s := ⟨h, g, d, t, os⟩) PySem.F.slot_list_insert ⟨_, hl, rfl⟩ PySem.F.entry_list_insert (PySem.F.args_list_insert_3 _ _ _) (AutoListH.list_insert_list_int_val_1 l vs.toArray k y ta x hfit hsz) ⟨hl, ?_⟩
    have fin : ∀ f : Array Value → Array Value, f vs.toArray = (vs.take at_ ++ x :: vs.drop at_).toArray → Q .none ⟨h.update l (Obj.mapSeq f), g, d, t, os⟩ := by
      intro f ef
      have e := IsL.update (h := h) (l := l) (items := vs.toArray) (n := k) hl f
      rw [ef] at e
      exact hQ _ _ (S.set i hi (LstP.notTup _ _) (Heap.SameBut.update ..) e)
    have e2 : (fun xs : Array Value => have k := if y < 0 then (y + ((xs.size : Nat) : Int)).toNat else min y.toNat xs.size; (xs.extract 0 k).push x ++ xs.extract k) vs.toArray = (vs.take at_ ++ x :: vs.drop at_).toArray := by
      dsimp only
      rw [if_neg (by omega)]
      have : min y.toNat vs.toArray.size = at_ := by rw [List.size_toArray]; omega
      rw [this]
      apply Array.toList_inj.mp
      simp only [Array.toList_append, Array.toList_push, Array.toList_extract, List.extract_eq_take_drop, List.size_toArray]
      simp
      exact List.take_of_length_le (by simp)
    exact fin _ e2
  exact key _ rfl
theorem lenS {x : Str} {tx : Tok} {Q : Value → Shared → Prop} (hz : x.cps.size ≤ 100000) (hQ : ∀ t t', Q (.int (x.cps.size : Nat) t') ⟨h, g, d, t, os⟩) : wpAny (Md w) A (call (.builtin "len") [.str x tx]) Q E ⟨h, g, d, t, os⟩ := by
  refine PySem.P.len_str (s := ⟨h, g, d, t, os⟩) ?_ (hQ _ _)
  have : x.length = x.cps.size := rfl
  omega
noncomputable abbrev compD (hs : Int) (tk : Tok) (T : Addr) (n : Nat) : Obj := dictOf [⟨hs, .str (Str.ofString "comp_select_list") tk, .ref T⟩] n
theorem compLook {hs : Int} {tk : Tok} {T : Addr} {n : Nat} : lookIn (Str.ofString "compare") (compD hs tk T n) = some none := by
  rw [lookIn_dict]; rfl
theorem spS_len (n : Nat) : (spS n).cps.size = n := by simp [spS]
structure CompT (H : Heap) (T T1 T2 : Addr) (way : Int) : Prop where
  t0 : H.IsTuple T #[.ref T1, .ref T2]
  t1 : ∃ a b, H.IsTuple T1 #[.int 0 a, .int 1 b]
  t2 : ∃ a b, H.IsTuple T2 #[.int 1 a, .int way b]
theorem CompT.on {T T1 T2 : Addr} {way : Int} (x : CompT h T T1 T2 way) (k : ∀ b its, h.IsTuple b its → h'.IsTuple b its) : CompT h' T T1 T2 way :=
  ⟨k _ _ x.t0, let ⟨a, b, e⟩ := x.t1; ⟨a, b, k _ _ e⟩, let ⟨a, b, e⟩ := x.t2; ⟨a, b, k _ _ e⟩⟩
noncomputable abbrev insN : List Str := [Str.ofString "ahead", Str.ofString "name", Str.ofString "row", Str.ofString "at"]
theorem ins_loop {Q : Flow → Shared → Prop} {RL OL x dx T T1 T2 : Addr} {hs : Int} {tk : Tok} {n k0 ko : Nat} {way : Int} {ov : List Value} {oth : List (Nat × Nat)} {mu0 : List (Addr × Obj)}
    (C : Cx w h₀) (hroom : A.depth < recursionLimit) (hh : A.handled = none) (hw : way = 1 ∨ way = -1) (S : St h₀ H ex L h m ((RL, LstP [] k0) :: (OL, LstP ov ko) :: (x, instObj 166 dx) :: (dx, compD hs tk T n) :: mu0))
    (mr : m "rows" = some (.ref RL)) (mo : m "others" = some (.ref OL)) (mc : m "comp" = some (.ref x)) (hp : PairsAt h ov (rowT oth)) (hc : CompT h T T1 T2 way) (hz : oth.length ≤ 5) (h5 : ∀ r ∈ oth, r.1 ≤ 5)
    (hQ : ∀ h' H' ex' m' t' rv k, Seg H ex H' ex' → St h₀ H' ex' L h' m' ((RL, LstP rv k) :: (OL, LstP ov ko) :: (x, instObj 166 dx) :: (dx, compD hs tk T n) :: mu0) → Same insN m m' → RowsAt h' rv (oth.foldl (insR way) []) → PairsAt h' ov (rowT oth) → CompT h' T T1 T2 way →
      wpAny (Md w) A (execs (turnB.drop 6) (lofE L)) Q E ⟨h', g, d, t', os⟩) :
    wpAny (Md w) A (execs (turnB.drop 5) (lofE L)) Q E ⟨h, g, d, t, os⟩ := by
  have hlen := hp.len
  have seg0 := S.seg
  have S0 := S.re
  refine xFor (ldL S0 mo ?_)
  refine wpAny_pyIter_list (lstAt (S0.at 1 rfl)) ?_
  have S1 := S0.alloc { cls := .type "list_iterator", data := .fields #[.ref OL, .int 0 0] } rfl
  dsimp only
  generalize hIt : h.objs.size = I at S1
  refine forIt (itSeq (A := A) hh (.inr ⟨_, _, _, rfl⟩) I OL ov)
    (fun i H1 ex1 m1 mu1 => A3 (Seg H ex H1 ex1) (Same insN m m1) (X2 fun rv k => A4 (mu1 = (RL, LstP rv k) :: (OL, LstP ov ko) :: (x, instObj 166 dx) :: (dx, compD hs tk T n) :: mu0) (RowsAt H1 rv ((oth.take i).foldl (insR way) [])) (PairsAt H1 ov (rowT oth)) (CompT H1 T T1 T2 way)))
    (fun i H1 ex1 h1 m1 mu1 oI S F => ?_) S1 ⟨rfl, rfl⟩ ⟨seg0, Same.refl, [], k0, rfl, ⟨rfl, fun i r e => by simp at e⟩, hp, hc⟩ ?_ ?_
  · obtain ⟨_, _, rv, k, rfl, _⟩ := F
    exact SeqAt.list (lstAt (S.at 2 rfl))
  · intro i v oI H1 ex1 h1 m1 mu1 t1 hlt hv qq11 hI S1
    refine nameT fun Q' hQ' => ?_
    obtain ⟨sg, sm, rv, k, rfl, hr, hp1, hc1⟩ := qq11
    have hio : i < oth.length := by omega
    obtain ⟨P, tx, ty, hvP, hTP⟩ := hp1.row (i := i) (r := oth[i]) (by simp [hio])
    have : v = .ref P := by rw [hv] at hvP; exact Option.some.inj hvP
    subst this
    have h5i : oth[i].1 ≤ 5 := h5 _ (List.getElem_mem hio)
    generalize hoi : oth[i] = r at hTP h5i
    have htk : (oth.take (i + 1)).foldl (insR way) [] = insR way ((oth.take i).foldl (insR way) []) r := by
      rw [List.take_succ_eq_append_getElem hio, List.foldl_append, hoi]; rfl
    generalize hrows : (oth.take i).foldl (insR way) [] = rows at hr htk
    have hrl : rows.length = i := by
      rw [← hrows]
      have : ∀ (l acc : List (Nat × Nat)), (l.foldl (insR way) acc).length = acc.length + l.length := by
        intro l
        induction l with
        | nil => intro acc; simp
        | cons y l ih => intro acc; rw [List.foldl_cons, ih, insR_len, List.length_cons]; omega
      rw [this]; simp; omega
    refine asgPair S1 hh (S1.tup _ _ hTP) fun h2 t2 S2 => ?_
    refine xAssign (tup2 (callName (ldB (v := .builtin "len") C S2 (by k_is) rfl (cwBi (spliced_more (ldL S2 rfl (spliced_none (lenS (by rw [spS_len]; omega) fun t3 tk3 => ldL S2 rfl ?_))))))))
    intro h' g' d' t' os' e
    cases e
    rw [spS_len]
    have S3 := S2.pushed { cls := .type "tuple", data := .seq ([.int (r.1 : Nat) tk3, .str (nm r.2) ty] : List Value).toArray }
    have hRow : (h2.push { cls := .type "tuple", data := .seq ([.int (r.1 : Nat) tk3, .str (nm r.2) ty] : List Value).toArray }).IsTuple h2.objs.size #[.int (r.1 : Nat) tk3, .str (nm r.2) ty] := ⟨_, Heap.get?_push_size _ rfl, rfl, _, rfl⟩
    have S3' := S3.re
    have sg2 := sg.trans S3.seg
    generalize hR : h2.objs.size = R at hRow
    have hr3 := hr.on S3.tup
    have hp3 := hp1.on S3.tup
    have hc3 := hc1.on S3.tup
    generalize (h2.push { cls := .type "tuple", data := .seq ([.int (r.1 : Nat) tk3, .str (nm r.2) ty] : List Value).toArray }) = h3 at S3' hRow hr3 hp3 hc3 sg2
    generalize (L :: List.map (·.1) ((I, oI) :: (RL, LstP rv k) :: (OL, LstP ov ko) :: (x, instObj 166 dx) :: (dx, compD hs tk T n) :: mu0)) = ex3 at S3' sg2
    refine stL S3' fun h4 S4 => ?_
    refine xAssign (cI (stL S4 fun h5 S5 => ?_))
    have hlv : rv.length = rows.length := hr.1
    have C3 : Cx w h3 := C.keeps S3'.keep
    refine xWhile (codeAny_whileLoop (fun kk s => X5 fun h6 m6 t6 at_ ta => A8 (s = ⟨h6, g, d, t6, os⟩) (St h₀ h3 ex3 L h6 m6 ((I, oI) :: (RL, LstP rv k) :: (OL, LstP ov ko) :: (x, instObj 166 dx) :: (dx, compD hs tk T n) :: mu0)) (Same insN m m6) (m6 "at" = some (.int (at_ : Nat) ta)) (m6 "row" = some (.ref R)) (at_ ≤ rows.length) ((∀ j q, j < at_ → rows[j]? = some q → klt (keyR way q) (keyR way r) = true)) (kk = rows.length - at_)) ?_ rows.length ⟨h5, _, _, 0, _, rfl, S5, ?_, rfl, rfl, Nat.zero_le _, fun j q hj => absurd hj (Nat.not_lt_zero _), rfl⟩)
    · rintro kk s ⟨h6, m6, t6, at_, ta, rfl, S6, sm6, mat, mrow, hat, hall, rfl⟩
      have mr6 := sm6.get mr
      have mc6 := sm6.get mc
      have test : wpAny (Md w) A (isTrue (testOf (stmtAt (bodyOf (stmtAt turnB 5)) 2)) (lofE L) (eval (testOf (stmtAt (bodyOf (stmtAt turnB 5)) 2)) (lofE L))) (fun b s' => X2 fun h8 t8 => A4 (s' = ⟨h8, g, d, t8, os⟩) (St h₀ h3 ex3 L h8 m6 ((I, oI) :: (RL, LstP rv k) :: (OL, LstP ov ko) :: (x, instObj 166 dx) :: (dx, compD hs tk T n) :: mu0)) ((b = true → ∃ q, rows[at_]? = some q ∧ klt (keyR way q) (keyR way r) = true)) ((b = false → ∀ q, rows[at_]? = some q → klt (keyR way q) (keyR way r) = false))) (fun _ _ => False) ⟨h6, g, d, t6, os⟩ := by
        refine isTrue_and (wpAny_isTrue_Compare1 (ldL S6 mat (callName (ldB (v := .builtin "len") C S6 (by k_is) rfl (cwBi (spliced_more (ldL S6 mr6 (spliced_none (lenL (lstAt (S6.at 1 rfl)) (by omega) fun t7 tk7 => ltI (wpAny_truthy_bool ?_))))))))))
        split
        · rename_i hlt2
          have hlt2 : at_ < rows.length := by simp at hlt2; omega
          obtain ⟨U, ua, ub, hU, hTU⟩ := hr3.2 at_ rows[at_] (by simp [hlt2])
          refine isTrue_and (wpAny_isTrue_Compare1 (MethodCall_ (ldL S6 mc6 (methFn (C.keeps S6.keep) (instOwn (S6.at 3 rfl) (S6.at 4 rfl)) (by k_is) (by k_is) (by k_is) (by k_is) compLook ?_)) (by rfl)))
          refine cwFn (f := 163) (by k_is) (spliced_more (itemL (ldL S6 mr6 (ldL S6 mat ⟨RL, rv, _, _, .ref U, rfl, rfl, lstAt (S6.at 1 rfl), by omega, by omega, by simpa using hU, ?_⟩))))
          refine spliced_more (ldL S6 mrow (spliced_none ⟨C.keeps S6.keep, ?_⟩))
          obtain ⟨a1, a2, hT1⟩ := hc3.t1
          obtain ⟨b1, b2, hT2⟩ := hc3.t2
          refine compare_spec (C.keeps S6.keep) hroom hh (instOwn (S6.at 3 rfl) (S6.at 4 rfl)) (by rw [lookIn_dict]; rfl) (S6.tup _ _ hc3.t0) (S6.tup _ _ hT1) (S6.tup _ _ hT2) (S6.tup _ _ hTU) (S6.tup _ _ hRow) fun h8 t8 tk8 k8 => ?_
          have S8 := S6.keeps k8
          refine cI (ltI (wpAny_truthy_bool ?_))
          rw [cmp_klt hw]
          split
          · rename_i hk
            exact isTrue_and_nil ⟨h8, _, rfl, S8, fun _ => ⟨rows[at_], by simp [hlt2], hk⟩, fun e => by cases e⟩
          · rename_i hk
            exact ⟨h8, _, rfl, S8, fun e => (by cases e), fun _ q hq => by simp [hlt2] at hq; subst hq; simpa using hk⟩
        · rename_i hlt2
          have hlt2 : ¬ at_ < rows.length := by simp at hlt2; omega
          exact ⟨h6, _, rfl, S6, fun e => (by cases e), fun _ q hq => by rw [List.getElem?_eq_none (by omega)] at hq; cases hq⟩
      refine wpAny_mono test ?_ fun _ _ z => z.elim
      rintro b s' ⟨h8, t8, rfl, S8, ht, hf⟩
      cases b with
      | true =>
        obtain ⟨q, hq, hkq⟩ := ht rfl
        have hlq := (List.getElem?_eq_some_iff.mp hq).1
        rw [if_pos rfl]
        refine xAssign (wpAny_BinOp (ldL S8 mat (cI (addI ?_))))
        rw [show ((at_ : Nat) : Int) + 1 = ((at_ + 1 : Nat) : Int) by omega]
        refine stL S8 fun h9 S9 => xNil ⟨rows.length - (at_ + 1), by omega, h9, _, _, at_ + 1, _, rfl, S9, ?_, rfl, mrow, hlq, fun j q' hj hq' => ?_, rfl⟩
        · intro y hy
          have hne : y ≠ Str.ofString "at" := fun e => hy (by rw [e]; decide)
          simp only [upd, hne, if_false]
          exact sm6 y hy
        · rcases Nat.lt_succ_iff_lt_or_eq.mp hj with hj | rfl
          · exact hall j q' hj hq'
          · rw [hq] at hq'; cases hq'; exact hkq
      | false =>
        rw [if_neg (by decide)]
        have hat2 := cntR_is (way := way) (x := r) hat hall (hf rfl)
        refine wpAny_execs_nil ?_
        refine xExpr (MethodCall_ (ldL S8 mr6 (methList (S8.at 1 rfl) rfl rfl PySem.F.slot_list_insert PySem.F.type_list_insert ?_)) (by rfl))
        refine cwBi (spliced_more (ldL S8 mat (spliced_more (ldL S8 mrow (spliced_none ?_)))))
        refine insL (i := 1) S8 rfl (by omega) (by omega) fun h9 k9 S9 => ?_
        refine xNil (hQ' _ _ (TurnEnd.next S9 ⟨sg2, sm6, _, k9, rfl, ?_, hp3, hc3⟩))
        rw [htk]
        have := hr3.ins at_ hat hRow
        rw [hat2] at this ⊢
        exact this
    · intro y hy
      have h1 : y ≠ Str.ofString "at" := fun e => hy (by rw [e]; decide)
      have h2 : y ≠ Str.ofString "row" := fun e => hy (by rw [e]; decide)
      have h3 : y ≠ Str.ofString "name" := fun e => hy (by rw [e]; decide)
      have h4 : y ≠ Str.ofString "ahead" := fun e => hy (by rw [e]; decide)
      simp only [upd, h1, h2, h3, h4, if_false]
      exact sm y hy
  · rintro H1 ex1 h1 m1 mu1 t1 ⟨sg, sm, rv, k, rfl, hr, hp1, hc1⟩ S1
    rw [hlen, List.take_length] at hr
    exact hQ h1 H1 ex1 m1 t1 rv k sg S1 sm (hr.on S1.tup) (hp1.on S1.tup) (hc1.on S1.tup)
end
end Mine
set_option maxHeartbeats 400000
namespace Mine
section
variable {w : World} {A : Around} {E : Value → Shared → Prop} {h h' h₀ H hB : Heap} {ex : List Addr} {g : Array GenState} {d : Drawn} {t : Nat} {os : OsState} {env : Env} {m m' : Str → Option Value} {mu mu' mt : List (Addr × Obj)} {L l : Addr} {vs : List Value} {rows oth : List (Nat × Nat)}
noncomputable def rowD (r : Nat × Nat) : PyData := .tuple [.int ((r.1 : Nat) : Int), .str (nm r.2)]
theorem rows_reads : ∀ {vs : List Value} {rows : List (Nat × Nat)}, RowsAt h vs rows → ∃ as, ReadsAll h vs (rows.map rowD) as
  | [], [], _ => ⟨_, .nil⟩
  | [], _ :: _, x => by have := x.1; simp at this
  | _ :: _, [], x => by have := x.1; simp at this
  | v :: vs, r :: rows, x => by
    obtain ⟨T, ta, tb, e, hT⟩ := x.2 0 r rfl
    have e : v = .ref T := Option.some.inj e
    subst e
    obtain ⟨as, ra⟩ := rows_reads (vs := vs) (rows := rows) ⟨by simpa using x.1, fun i q hq => x.2 (i + 1) q hq⟩
    exact ⟨_, .cons (reads_tup hT (.cons (.int _ _) (.cons (.str _ _) .nil))) ra⟩
theorem rows_eqv : ∀ rows : List (Nat × Nat), PyData.eqvAll (rows.map rowD) (rows.map rowD) = true
  | [] => rfl
  | r :: rows => by
    rw [List.map_cons]
    have := rows_eqv rows
    simp [PyData.eqvAll, rowD, PyData.eqv] at this ⊢
    exact this
theorem nm_ok : ∀ k, k < 6 → PyData.strOk (nm k) = true := by decide +kernel
theorem rows_lay : ∀ rows : List (Nat × Nat), (∀ r ∈ rows, r.2 < 6) → PyData.canLayAll0 (rows.map rowD) = true ∧ PyData.depthAll (rows.map rowD) ≤ 5
  | [], _ => ⟨rfl, Nat.zero_le _⟩
  | r :: rows, h => by
    obtain ⟨a, b⟩ := rows_lay rows fun q hq => h q (.tail _ hq)
    have c := nm_ok r.2 (h r (.head _))
    rw [List.map_cons]
    simp [PyData.canLayAll0, PyData.canLay0, PyData.depthAll, PyData.depth, rowD] at a b ⊢
    exact ⟨⟨c, a⟩, by omega⟩
theorem ne_rows {l1 l2 : Addr} {v1 v2 : List Value} {Q : Value → Shared → Prop} (h1 : h.IsList l1 v1.toArray) (h2 : h.IsList l2 v2.toArray) (r1 : RowsAt h v1 rows) (r2 : RowsAt h v2 rows) (h6 : ∀ r ∈ rows, r.2 < 6) (hu : A.units + 64 < cLine) (hQ : Q (.bool false) ⟨h, g, d, t, os⟩) :
    wpAny (Md w) A (compareOp .NotEq (.ref l1) (.ref l2)) Q E ⟨h, g, d, t, os⟩ := by
  obtain ⟨as, ra⟩ := rows_reads r1
  obtain ⟨bs, rb⟩ := rows_reads r2
  obtain ⟨o1, ho1, hc1, n1, hd1⟩ := h1
  obtain ⟨o2, ho2, hc2, n2, hd2⟩ := h2
  have sh : SeqAt.shaped (.list (rows.map rowD)) = true := by
    obtain ⟨a, b⟩ := rows_lay rows h6
    unfold SeqAt.shaped
    simp [PyData.canLay0, PyData.depth, a]
    omega
  refine ne_dataH (s := ⟨h, g, d, t, os⟩) (.list ho1 hc1 hd1 ra) (.list ho2 hc2 hd2 rb) sh sh hu ?_
  have e : PyData.eqv (.list (rows.map rowD)) (.list (rows.map rowD)) = true := by
    have := rows_eqv rows
    simp [PyData.eqv, this]
  rw [e]
  exact hQ
theorem RowsAt.pick (x : RowsAt h vs rows) {p : List Nat} (hp : ∀ i ∈ p, i < rows.length) : RowsAt h (p.map fun i => vs.getD i .none) (p.map fun i => rows.getD i (0, 0)) := by
  refine ⟨by simp, fun i r e => ?_⟩
  rw [List.getElem?_map] at e ⊢
  obtain ⟨j, hj, rfl⟩ := Option.map_eq_some_iff.mp e
  have hl := hp j (List.mem_of_getElem? hj)
  obtain ⟨T, ta, tb, a, b⟩ := x.2 j rows[j] (by simp [hl])
  rw [hj]
  have e1 : rows.getD j (0, 0) = rows[j] := by simp [List.getD_eq_getElem?_getD, hl]
  have e2 : vs.getD j .none = .ref T := by rw [List.getD_eq_getElem?_getD, a]; rfl
  rw [e1]
  exact ⟨T, ta, tb, by rw [Option.map_some, e2], b⟩
theorem RowsAt.snoc {T : Addr} {ta tb : Tok} {r : Nat × Nat} (x : RowsAt h vs rows) (hT : h.IsTuple T #[.int (r.1 : Nat) ta, .str (nm r.2) tb]) : RowsAt h (vs ++ [.ref T]) (rows ++ [r]) := by
  have := x.ins rows.length (Nat.le_refl _) hT
  rw [← x.1] at this
  rw [List.take_length, List.drop_length] at this
  rw [x.1, List.take_length, List.drop_length] at this
  exact this
theorem pick_all {α : Type} (l : List α) (z : α) : ((List.range l.length).map fun i => l.getD i z) = l := by
  refine List.ext_getElem (by simp) fun i h1 h2 => ?_
  simp [List.getD_eq_getElem?_getD, h2]
theorem mem_led {p : Addr × Obj} (S : St h₀ H ex L h m mu) (hm : p ∈ mu) : h.get? p.1 = some p.2 := S.led p hm
/-- the check of the rows -/
theorem sort_check {Q : Flow → Shared → Prop} {RL OL cW : Addr} {k0 ko : Nat} {way : Int} {tw : Tok} {rv ov : List Value} {oc : Obj}
    (C : Cx w h₀) (MB : BmAt h₀) (hroom : A.depth < recursionLimit) (hh : A.handled = none) (hu : A.units + 64 < cLine) (hw : way = 1 ∨ way = -1) (hcW : cW = L + 1) (S : St h₀ H ex L h m (mt ++ mu)) (hT : TabL 305 keyQ 193 78 mt)
    (iR : (RL, LstP rv k0) ∈ mu) (iO : (OL, LstP ov ko) ∈ mu) (iC : (cW, oc) ∈ mu) (hoc : oc.data = .cell (some (.int way tw)))
    (mr : m "rows" = some (.ref RL)) (mo : m "others" = some (.ref OL)) (hp : PairsAt h ov (rowT oth)) (hr : RowsAt h rv (oth.foldl (insR way) [])) (hz : oth.length ≤ 5) (h5 : ∀ r ∈ oth, r.1 ≤ 5 ∧ r.2 < 6) (nd : oth.Nodup)
    (hQ : ∀ h' H' ex' mt' t', Seg H ex H' ex' → (∀ b its, h.IsTuple b its → h'.IsTuple b its) → St h₀ H' ex' L h' m (mt' ++ mu) → TabL 305 keyQ 193 78 mt' → wpAny (Md w) A (execs (turnB.drop 7) (lofE L)) Q E ⟨h', g, d, t', os⟩) :
    wpAny (Md w) A (execs (turnB.drop 6) (lofE L)) Q E ⟨h, g, d, t, os⟩ := by
  have hlen := hp.len
  have iR' : (RL, LstP rv k0) ∈ mt ++ mu := List.mem_append_right _ iR
  have iO' : (OL, LstP ov ko) ∈ mt ++ mu := List.mem_append_right _ iO
  refine xIf (wpAny_isTrue_Compare1 (ldL S mr ?_))
  refine callKw (ldB (v := .builtin "sorted") C S (by k_is) rfl (cwBiKw (spliced_more ?_)))
  refine compEv (cl := []) rfl rfl (by decide) (ldL S mo ?_)
  refine compSeq hh (.inr ⟨_, _, _, rfl⟩) (lstAt (mem_led S iO')) (fun j ys H1 => RowsAt H1 ys (oth.take j)) (by decide) rfl (fun _ => ⟨rfl, fun i r e => by simp at e⟩) (by omega) ?_ ?_
  · intro j v ys oI k1 H1 ex1 h1 m1 t1 C1 D1 I1 hv hF S1
    have hjl : j < oth.length := by have := (List.getElem?_eq_some_iff.mp hv).1; omega
    obtain ⟨P, tx, ty, hvP, hTP⟩ := hp.row (i := j) (r := oth[j]) (by simp [hjl])
    have : v = .ref P := by rw [hv] at hvP; exact Option.some.inj hvP
    subst this
    have h5j := (h5 _ (List.getElem_mem hjl)).1
    have htk : oth.take (j + 1) = oth.take j ++ [oth[j]] := List.take_succ_eq_append_getElem hjl
    generalize oth[j] = r at hTP htk h5j
    refine asgPair S1 hh (tup_keeps hTP (S1.keep _)) fun h2 t2 S2 => tests_nil ?_
    rw [if_pos rfl]
    have C2 : Cx w h := C.keeps S.keep
    refine tup2 (callName (ldB (v := .builtin "len") C2 S2 (by k_is) rfl (cwBi (spliced_more (ldL S2 rfl (spliced_none (lenS (by rw [spS_len]; omega) fun t3 tk3 => ldL S2 rfl ?_)))))))
    intro h' g' d' t' os' e
    cases e
    rw [spS_len]
    have S3 := S2.pushed { cls := .type "tuple", data := .seq ([.int (r.1 : Nat) tk3, .str (nm r.2) ty] : List Value).toArray }
    refine CompEnd.mk S3.re ?_
    rw [htk]
    exact (hF.on S3.tup).snoc ⟨_, Heap.get?_push_size _ rfl, rfl, _, rfl⟩
  · refine compQ fun D h1 t1 cv k1 H1 kp hD hDg hF htup => ?_
    have hcv : RowsAt h1 cv oth := by
      have := hF.on htup
      rw [hlen, List.take_length] at this
      exact this
    have S1 := S.add kp hD hDg
    have S1' : St h₀ H ex L h1 m (mt ++ ((D, LstP cv k1) :: mu)) := S1.perm (List.perm_middle.symm)
    have hr1 := hr.on fun b its x => tup_keeps x (kp b)
    have sg1 := S1'.seg
    have S1' := S1'.re
    generalize (L :: List.map (·.1) (mt ++ ((D, LstP cv k1) :: mu))) = ex1 at sg1 S1'
    refine spliced_none (kws_cons ?_)
    refine lamMake (P := 305) (c := 307) (qual := keyQ) MB S1' hT (codeHd_of_K (C.keeps S1'.keep).X (by kernel_rfl)) rfl rfl rfl rfl rfl fun h2 f c' ctv pm mt2 t2 S2 hT2 hf hcd => ?_
    refine kws_nil ?_
    have iR2 : (RL, LstP rv k0) ∈ mt2 ++ ((D, LstP cv k1) :: mu) := List.mem_append_right _ (.tail _ iR)
    have iC2 : (cW, oc) ∈ mt2 ++ ((D, LstP cv k1) :: mu) := List.mem_append_right _ (.tail _ iC)
    have iD2 : (D, LstP cv k1) ∈ mt2 ++ ((D, LstP cv k1) :: mu) := List.mem_append_right _ (.head _)
    have hcl : cv.length = oth.length := hcv.1
    have hck : ∀ (h3 : Heap), Kp h2 h3 → h3.CodeRec (.ref c') keyQ := fun h3 k3 => by
      obtain ⟨c, oc, vs, tt, e, hoc, r⟩ := hcd
      exact ⟨c, oc, vs, tt, e, k3 _ _ hoc, r⟩
    have hcv2 := hcv.on S2.tup
    obtain ⟨hfs, hfp⟩ := fold_ins hw oth [] (by simpa using nd) (by simp [Srt])
    rw [List.append_nil] at hfp
    show wpAny _ _ (call (.builtin "sorted") [.ref D] [(Str.ofString "key", .ref f)]) _ _ _
    refine sortK (kd := oth.map (keyR way)) (lstAt (mem_led S2 iD2)) (by simp [hcl]) (by omega) ?_ (fun i v k h3 t3 hv hk k3 Q hq => ?_) fun h3 D3 t3 k3 p kp3 hD3 hg3 hperm hpw => ?_
    · refine List.pairwise_map.mpr (nd.imp fun ne e => ne (keyR_inj hw e))
    · have hio : i < oth.length := by have := (List.getElem?_eq_some_iff.mp hv).1; omega
      obtain ⟨T, ta, tb, hvT, hTT⟩ := hcv2.2 i oth[i] (by simp [hio])
      have : v = .ref T := by rw [hv] at hvT; exact Option.some.inj hvT
      subst this
      have : k = keyR way oth[i] := by simpa [hio] using hk.symm
      subst this
      refine keyCall (tw := tw) C (fun b o e => k3 _ _ (S2.keep b o e)) hroom (k3 _ _ hf) (hck h3 k3) ?_ (tup_keeps hTT (k3 _)) hw (h5 _ (List.getElem_mem hio)).2 hq
      subst hcW
      exact ⟨oc, k3 _ _ (mem_led S2 iC2), hoc⟩
    · have hpl : ∀ i ∈ p, i < oth.length := fun i hi => by have := List.mem_range.mp (hperm.subset hi); omega
      have hrows : (p.map fun i => oth.getD i (0, 0)) = oth.foldl (insR way) [] := by
        refine klt_uniq (key := keyR way) ?_ ?_ hfs
        · have := hperm.map fun i => oth.getD i (0, 0)
          rw [hcl, pick_all] at this
          exact this.trans hfp.symm
        · have e : (p.map fun i => oth.getD i (0, 0)).map (keyR way) = p.map fun i => (oth.map (keyR way)).getD i (0, 0) := by
            rw [List.map_map]
            refine List.map_congr_left fun i hi => ?_
            have := hpl i hi
            simp [List.getD_eq_getElem?_getD, this]
          rw [e]; exact hpw
      have r2 := (hcv2.on fun b its x => tup_keeps x (kp3 b)).pick hpl
      rw [hrows] at r2
      have r1 := (hr1.on S2.tup).on fun b its x => tup_keeps x (kp3 b)
      have S3 := (S2.keeps kp3).sub (mu' := mt2 ++ mu) ((List.sublist_cons_self _ _).append_left _)
      refine ne_rows (lstAt (mem_led S3 (List.mem_append_right _ iR))) (lstAt hg3) r1 r2 (fun r hr => (h5 r (hfp.subset hr)).2) hu (wpAny_truthy_bool ?_)
      rw [if_neg (by decide)]
      exact xNil (hQ h3 h1 ex1 mt2 _ sg1 (fun b its x => tup_keeps (S2.tup _ _ (tup_keeps x (kp b))) (kp3 b)) S3 hT2)
end
end Mine
set_option maxHeartbeats 400000
namespace Mine
section
variable {w : World} {A : Around} {E : Value → Shared → Prop} {h h' h₀ H hB : Heap} {ex : List Addr} {g : Array GenState} {d : Drawn} {t : Nat} {os : OsState} {env : Env} {m m' : Str → Option Value} {mu mu' mt : List (Addr × Obj)} {L l : Addr} {vs : List Value} {rows oth : List (Nat × Nat)}
theorem sp1 : Str.ofString " " = ⟨#[32]⟩ := by decide +kernel
theorem mulSp {n : Nat} {tx tn : Tok} {Q : Value → Shared → Prop} (hn : n ≤ 100) (hQ : ∀ t' k, Q (.str (spS n) t') ⟨h, g, d, k, os⟩) : wpAny (Md w) A (binaryOp .Mult (.str (Str.ofString " ") tx) (.int (n : Nat) tn)) Q E ⟨h, g, d, t, os⟩ := by
  refine PySem.SB.mul (s := ⟨h, g, d, t, os⟩) (mulOk_of 1 100 (by decide +kernel) (by omega) (by omega) (by decide) (by decide)) fun t' k => ?_
  have e : Txt.mul (Str.ofString " ") (n : Int) = spS n := by
    rw [sp1]
    have := mul_one_list 32 (n : Int)
    have e2 : (Txt.mul ⟨#[32]⟩ (n : Int)).cps = (spS n).cps := by
      apply Array.toList_inj.mp
      rw [this]
      simp [spS]
    exact congrArg Str.mk e2
  rw [e]
  exact hQ _ _
theorem pairs_snoc {its : List Value} {T : Addr} {tx ty : Tok} {r : Nat × Nat} (x : PairsAt h its (rowT rows)) (hT : h.IsTuple T #[.str (spS r.1) tx, .str (nm r.2) ty]) : PairsAt h (its ++ [.ref T]) (rowT (rows ++ [r])) := by
  have hl := x.len
  refine pairsAt_of (by simp [hl]) fun i q e => ?_
  by_cases hi : i < rows.length
  · rw [List.getElem?_append_left hi] at e
    rw [List.getElem?_append_left (by omega)]
    exact x.row e
  · rw [List.getElem?_append_right (Nat.le_of_not_lt hi)] at e
    rw [List.getElem?_append_right (by omega)]
    have h0 : i - rows.length = 0 := by
      have := (List.getElem?_eq_some_iff.mp e).1
      simp at this; omega
    rw [h0] at e
    rw [hl, h0]
    cases e
    exact ⟨T, tx, ty, rfl, hT⟩
theorem St.two {a dl : Addr} {o od o' od' : Obj} (S : St h₀ H ex L h m ((a, o) :: (dl, od) :: mu)) (k : ∀ b x, b ≠ a → b ≠ dl → h.get? b = some x → h'.get? b = some x) (ha : h'.get? a = some o') (hd : h'.get? dl = some od') (n1 : NotTup o) (n2 : NotTup od) :
    St h₀ H ex L h' m ((a, o') :: (dl, od') :: mu) := by
  have nd := S.nd
  simp only [List.map_cons, List.nodup_cons, List.mem_cons, not_or] at nd
  refine S.after [a, dl] rfl (fun p hp => ?_) (fun b x hb e => k b x (fun q => hb (by simp [q])) (fun q => hb (by simp [q])) e) (fun b hb => ?_) fun p hp hb => ?_
  · rcases List.mem_cons.mp hp with rfl | hp
    · exact ha
    · rcases List.mem_cons.mp hp with rfl | hp
      · exact hd
      · have hm := List.mem_map_of_mem (f := (·.1)) hp
        exact k _ _ (fun q => nd.2.1.2 (q ▸ hm)) (fun q => nd.2.2.1 (q ▸ hm)) (S.led p (.tail _ (.tail _ hp)))
  · simp only [List.mem_cons, List.not_mem_nil, or_false] at hb
    rcases hb with rfl | rfl <;> simp
  · rcases List.mem_cons.mp hp with rfl | hp
    · exact n1
    · rcases List.mem_cons.mp hp with rfl | hp
      · exact n2
      · have hm := List.mem_map_of_mem (f := (·.1)) hp
        simp only [List.mem_cons, List.not_mem_nil, or_false] at hb
        rcases hb with q | q
        · exact absurd (q ▸ hm) nd.2.1.2
        · exact absurd (q ▸ hm) nd.2.2.1
theorem AccE.notTup {od : Obj} (x : AccE od) : NotTup od := by
  obtain ⟨hs, tk, v, n, rfl⟩ := x
  exact getDictOf
/-- the line set anew -/
theorem reset_step {Q : Flow → Shared → Prop} {RL a dl : Addr} {k0 : Nat} {rv its : List Value} {o od : Obj} {mu0 : List (Addr × Obj)}
    (C : Cx w h₀) (hroom : A.depth < recursionLimit) (hh : A.handled = none) (S : St h₀ H ex L h m ((a, o) :: (dl, od) :: mu0)) (hA : AccO dl its o) (hE : AccE od)
    (iR : (RL, LstP rv k0) ∈ mu0) (mr : m "rows" = some (.ref RL)) (ml : m "line" = some (.ref a)) (hr : RowsAt h rv rows) (hz : rows.length ≤ 6) (h5 : ∀ r ∈ rows, r.1 ≤ 5) (hiz : its.length ≤ 100)
    (hQ : ∀ h' H' ex' t' o' od' nv, Seg H ex H' ex' → (∀ b its, h.IsTuple b its → h'.IsTuple b its) → St h₀ H' ex' L h' m ((a, o') :: (dl, od') :: mu0) → AccO dl nv o' → AccE od' → PairsAt h' nv (rowT rows) → wpAny (Md w) A (execs (turnB.drop 8) (lofE L)) Q E ⟨h', g, d, t', os⟩) :
    wpAny (Md w) A (execs (turnB.drop 7) (lofE L)) Q E ⟨h, g, d, t, os⟩ := by
  have sg0 := S.seg
  have S0 := S.re
  generalize (L :: List.map (·.1) ((a, o) :: (dl, od) :: mu0)) = ex0 at sg0 S0
  have iR0 : (RL, LstP rv k0) ∈ (a, o) :: (dl, od) :: mu0 := .tail _ (.tail _ iR)
  refine xExpr (MethodCall_ (ldL S0 ml (methFn (C.keeps S0.keep) (hA.inst (S0.at 0 rfl) (S0.at 1 rfl)) (by k_is) (by k_is) (by k_is) (by k_is) (hE.toD _ (by decide)) ?_)) (by rfl))
  refine cwFn (f := 120) (by k_is) (spliced_more ?_)
  refine compEv (cl := []) rfl rfl (by decide) (ldL S0 mr ?_)
  have hlr := hr.1
  refine compSeq hh (.inr ⟨_, _, _, rfl⟩) (lstAt (mem_led S0 iR0)) (fun j ys H1 => PairsAt H1 ys (rowT (rows.take j))) (by decide) rfl (fun _ => pairsAt_of rfl fun i r e => by simp at e) (by omega) ?_ ?_
  · intro j v ys oI k1 H1 ex1 h1 m1 t1 C1 D1 I1 hv hF S1
    have hjl : j < rows.length := by have := (List.getElem?_eq_some_iff.mp hv).1; omega
    obtain ⟨P, tx, ty, hvP, hTP⟩ := hr.2 j rows[j] (by simp [hjl])
    have : v = .ref P := by rw [hv] at hvP; exact Option.some.inj hvP
    subst this
    have h5j := h5 _ (List.getElem_mem hjl)
    have htk : rows.take (j + 1) = rows.take j ++ [rows[j]] := List.take_succ_eq_append_getElem hjl
    generalize rows[j] = r at hTP htk h5j
    refine asgPair S1 hh (tup_keeps hTP (S1.keep _)) fun h2 t2 S2 => tests_nil ?_
    rw [if_pos rfl]
    refine tup2 (wpAny_BinOp (cS (ldL S2 rfl (mulSp (by omega) fun t3 tk3 => ldL S2 rfl ?_))))
    intro h' g' d' t' os' e
    cases e
    have S3 := S2.pushed { cls := .type "tuple", data := .seq ([.str (spS r.1) t3, .str (nm r.2) ty] : List Value).toArray }
    refine CompEnd.mk S3.re ?_
    rw [htk]
    exact pairs_snoc (hF.on S3.tup) ⟨_, Heap.get?_push_size _ rfl, rfl, _, rfl⟩
  · refine compQ fun D h1 t1 nv k1 H1 kp hD hDg hF htup => ?_
    have hnv : PairsAt h1 nv (rowT rows) := by
      have := hF.on htup
      rw [hlr, List.take_length] at this
      exact this
    have S1 := S0.add kp hD hDg
    refine spliced_none ⟨C.keeps S1.keep, ?_⟩
    have hnl := hnv.len
    have ha0 : h₀.get? a = none := S1.new (by simp)
    have hd0 : h₀.get? dl = none := S1.new (by simp)
    have hne : a ≠ dl := by
      have := S0.nd
      simp only [List.map_cons, List.nodup_cons, List.mem_cons, not_or] at this
      exact this.2.1.1
    refine reset_spec C S1.keep ha0 hd0 hne hroom (S1.at 1 rfl) hA (S1.at 2 rfl) hE (lstAt (S1.at 0 rfl)) (by omega) (by omega) fun h2 t2 o2 od2 k2 ho2 hA2 hod2 hE2 => ?_
    have S2 := S1.tail.two (h' := h2) (o' := o2) (od' := od2) k2 ho2 hod2 hA.notTup hE.notTup
    refine hQ h2 h ex0 t2 o2 od2 nv sg0 (fun b its x => S2.tup _ _ x) S2 hA2 hE2 (hnv.on fun b its x => ?_)
    obtain ⟨ob, hb, hc, n, hd⟩ := x
    refine ⟨ob, k2 b ob (fun q => ?_) (fun q => ?_) hb, hc, n, hd⟩
    · rw [q, S1.at 1 rfl] at hb; cases hb
      exact hA.notTup _ _ ⟨hc, hd⟩
    · rw [q, S1.at 2 rfl] at hb; cases hb
      exact hE.notTup _ _ ⟨hc, hd⟩
end
end Mine
set_option maxHeartbeats 400000
namespace Mine
section
variable {w : World} {A : Around} {E : Value → Shared → Prop} {h h' h₀ H hB : Heap} {ex : List Addr} {g : Array GenState} {d : Drawn} {t : Nat} {os : OsState} {env : Env} {m m' : Str → Option Value} {mu mu' mt : List (Addr × Obj)} {L l : Addr} {vs : List Value} {rows oth line : List (Nat × Nat)}
theorem popL {i k j : Nat} {tj : Tok} {x : Value} {Q : Value → Shared → Prop} (S : St h₀ H ex L h m mu) (hi : mu[i]? = some (l, LstP vs k)) (hx : vs[j]? = some x) (hz : vs.length ≤ 100000)
    (hQ : ∀ h' k', St h₀ H ex L h' m (mu.set i (l, LstP (vs.eraseIdx j) k')) → Q x ⟨h', g, d, t, os⟩) : wpAny (Md w) A (call (.builtin "list.pop") [.ref l, .int (j : Nat) tj]) Q E ⟨h, g, d, t, os⟩ := by
  have hl := S.at i hi
  obtain ⟨hj, ex1⟩ := List.getElem?_eq_some_iff.mp hx
  have key : ∀ y : Int, y = ((j : Nat) : Int) → wpAny (Md w) A (call (.builtin "list.pop") [.ref l, .int y tj]) Q E ⟨h, g, d, t, os⟩ := by
    intro y hy
    have hfit : Builtin.List.listFitsIndex y = true := by
      unfold Builtin.List.listFitsIndex
      rw [decide_eq_true (by omega), decide_eq_true (by omega)]
      rfl
    have hk : seqIndex? y vs.toArray.size = some j := by
      subst hy
      exact seqIndex_of (Int.natCast_nonneg _) (by simpa using hj)
    refine call_meets (s := ⟨h, g, d, t, os⟩) PySem.F.slot_list_pop ⟨_, hl, rfl⟩ PySem.F.entry_list_pop (PySem.F.args_list_pop_2 _ _) (PySem.MeetsSeq.list_pop_at l vs.toArray k y tj j x hfit hk (by simpa using hx) (by rw [List.size_toArray, sizeLine_eq]; omega)) ⟨hl, ?_⟩
    have fin : ∀ f : Array Value → Array Value, f vs.toArray = (vs.eraseIdx j).toArray → Q x ⟨h.update l (Obj.mapSeq f), g, d, t, os⟩ := by
      intro f ef
      have e := IsL.update (h := h) (l := l) (items := vs.toArray) (n := k) hl f
      rw [ef] at e
      exact hQ _ _ (S.set i hi (LstP.notTup _ _) (Heap.SameBut.update ..) e)
    refine fin _ ?_
    unfold Array.eraseIdxIfInBounds
    rw [dif_pos (by simpa using hj)]
    apply Array.toList_inj.mp
    rw [Array.toList_eraseIdx]
  exact key _ rfl
theorem pairs_erase {its : List Value} (x : PairsAt h its (rowT line)) (p : Nat) : PairsAt h (its.eraseIdx p) (rowT (line.eraseIdx p)) := by
  have hl := x.len
  refine pairsAt_of (by rw [List.length_eraseIdx, List.length_eraseIdx, hl]) fun i r e => ?_
  rw [List.getElem?_eraseIdx] at e ⊢
  split at e
  · rename_i hi
    rw [if_pos hi]
    exact x.row e
  · rename_i hi
    rw [if_neg hi]
    exact x.row e
noncomputable abbrev p0N : List Str := [Str.ofString "others", Str.ofString "order", Str.ofString "place", Str.ofString "blanks", Str.ofString "guest", Str.ofString "wish", Str.ofString "rows"]
/-- a guest taken out of the line -/
theorem take_out {Q : Flow → Shared → Prop} {a dl : Addr} {its : List Value} {o od : Obj} {mu0 : List (Addr × Obj)} {ord : Nat} {to : Tok}
    (C : Cx w h₀) (hroom : A.depth < recursionLimit) (hh : A.handled = none) (S : St h₀ H ex L h m ((a, o) :: (dl, od) :: mu0)) (hA : AccO dl its o) (hE : AccE od)
    (ml : m "line" = some (.ref a)) (mo : m "order" = some (.int (ord : Nat) to)) (hord : ord ≤ 1000) (hp : PairsAt h its (rowT line)) (hz : line.length ≤ 6) (hpos : 0 < line.length) (h5 : ∀ r ∈ line, r.1 ≤ 5 ∧ r.2 < 6)
    (hQ : ∀ h' H' ex' t' o' RL OL k0 ko m' r, Seg H ex H' ex' → St h₀ H' ex' L h' m' ((RL, LstP [] k0) :: (OL, LstP (its.eraseIdx (ord % line.length)) ko) :: (a, o') :: (dl, od) :: mu0) → AccO dl [] o' → Same p0N m m' → (∀ b its, h.IsTuple b its → h'.IsTuple b its) →
      m' "others" = some (.ref OL) → m' "rows" = some (.ref RL) → (∃ t, m' "order" = some (.int (ord / line.length : Nat) t)) → line[ord % line.length]? = some r → (∃ t, m' "wish" = some (.int (r.1 : Nat) t)) → (∃ t, m' "guest" = some (.str (nm r.2) t)) →
      PairsAt h' (its.eraseIdx (ord % line.length)) (rowT (line.eraseIdx (ord % line.length))) → wpAny (Md w) A (execs (turnB.drop 5) (lofE L)) Q E ⟨h', g, d, t', os⟩) :
    wpAny (Md w) A (execs turnB (lofE L)) Q E ⟨h, g, d, t, os⟩ := by
  have hlen := hp.len
  have sg0 := S.seg
  have S := S.re
  generalize (L :: List.map (·.1) ((a, o) :: (dl, od) :: mu0)) = ex0 at sg0 S
  refine xAsgComp (cl := []) rfl rfl rfl (by decide) ?_
  refine MethodCall_ (ldL S ml (methFn (C.keeps S.keep) (hA.inst (S.at 0 rfl) (S.at 1 rfl)) (by k_is) (by k_is) (by k_is) (by k_is) (hE.toD _ (by decide)) ?_)) (by rfl)
  refine cwFn0 (f := 90) (C.keeps S.keep) (by k_is) ?_
  refine pop_from_at (i := 0) (C.keeps S.keep) hroom (S.at 0 rfl) hA (S.at 1 rfl) (by omega) (Nat.zero_le _) (.inr ⟨rfl, rfl⟩) fun h1 t1 D oD o1 k1 ho1 hA1 hD0 hD hoD => ?_
  have S1 : St h₀ h ex0 L h1 m ((a, o1) :: (dl, od) :: mu0) := S.put 0 rfl hA.notTup k1 ho1
  have hA1 : AccO dl [] o1 := by simpa using hA1
  have hoD : oD.cls = .type "list" ∧ ∃ n, oD.data = .seq its.toArray n := by simpa using hoD
  refine compSeq (hb := h1) hh (.inl ⟨_, _, rfl⟩) (vs := its) ⟨oD, hD, hoD⟩ (fun j ys _ => ys = its.take j) (by decide) rfl (fun _ => rfl) (by omega) ?_ ?_
  · intro j v ys oI kk H1 ex1 h2 m2 t2 C1 D1 I1 hv hF S2
    refine wpAny_assign_Name (stL S2 fun h3 S3 => tests_nil ?_)
    rw [if_pos rfl]
    refine ldL S3 rfl (CompEnd.mk S3 ?_)
    obtain ⟨hl2, he2⟩ := List.getElem?_eq_some_iff.mp hv
    rw [hF, List.take_succ_eq_append_getElem hl2, he2]
  · refine asgQ S1 fun OL h2 t2 ys ko Hf S2 hF htup => ?_
    have hys : ys = its := by
      have : ys = its.take its.length := hF
      rw [this, List.take_length]
    subst hys
    have hn : ord % line.length < line.length := Nat.mod_lt _ hpos
    refine xCons (Assign_Tuple (callName (ldB (v := .builtin "divmod") C S2 (by k_is) rfl (cwBi (spliced_more (ldL S2 mo (spliced_more (callName (ldB (v := .builtin "len") C S2 (by k_is) rfl (cwBi (spliced_more (ldL S2 rfl (spliced_none (lenL (lstAt (S2.at 0 rfl)) (by omega) fun t3 tk3 => spliced_none ?_))))))))))))) (by rfl))
    refine divmod_int (s := ⟨h2, g, d, _, os⟩) (by omega) ?_
    have e1 : ((ord : Nat) : Int).fdiv ((ys.length : Nat) : Int) = ((ord / line.length : Nat) : Int) := by rw [hlen]; exact (Int.fdiv_eq_ediv_of_nonneg _ (by omega)).trans (by norm_cast)
    have e2 : ((ord : Nat) : Int).fmod ((ys.length : Nat) : Int) = ((ord % line.length : Nat) : Int) := by rw [hlen]; exact (Int.fmod_eq_emod_of_nonneg _ (by omega)).trans (by norm_cast)
    rw [e1, e2]
    dsimp only
    generalize hoq : ord / line.length = oq
    generalize hpl : ord % line.length = pl at hn
    refine asgPair (S2.pushed { cls := .type "tuple", data := .seq #[.int (oq : Nat) t3, .int (pl : Nat) (t3 + 1)] }) hh ⟨_, Heap.get?_push_size _ rfl, rfl, _, rfl⟩ fun h4 t4 S4 => ?_
    have hlr : line[pl]? = some line[pl] := by simp [hn]
    generalize line[pl] = r at hlr
    have h5r := h5 r (List.mem_of_getElem? hlr)
    obtain ⟨P, tx, ty, hvP, hTP⟩ := hp.row hlr
    refine xCons (Assign_Tuple (MethodCall_ (ldL S4 rfl (methList (S4.at 0 rfl) rfl rfl PySem.F.slot_list_pop PySem.F.type_list_pop ?_)) (by rfl)) (by rfl))
    refine cwBi (spliced_more (ldL S4 rfl (spliced_none ?_)))
    refine popL (i := 0) S4 rfl hvP (by omega) fun h5 k5 S5 => ?_
    refine asgPair S5 hh (S5.tup _ _ hTP) fun h6 t6 S6 => ?_
    refine xAssign (callName (ldB (v := .builtin "len") C S6 (by k_is) rfl (cwBi (spliced_more (ldL S6 rfl (spliced_none (lenS (by rw [spS_len]; omega) fun t7 tk7 => ?_)))))))
    rw [spS_len]
    refine stL S6 fun h7 S7 => ?_
    refine xAssign (mkNil S7 fun h8 RL t8 _ _ S8 => stL S8 fun h9 S9 => ?_)
    subst hpl hoq
    refine hQ h9 h ex0 _ o1 RL OL 0 k5 _ r sg0 S9 hA1 ?_ S9.tup rfl rfl ⟨_, rfl⟩ hlr ⟨_, rfl⟩ ⟨_, rfl⟩ (pairs_erase (hp.on S9.tup) _)
    intro y hy
    have n1 : y ≠ Str.ofString "others" := fun e => hy (by rw [e]; decide)
    have n2 : y ≠ Str.ofString "order" := fun e => hy (by rw [e]; decide)
    have n3 : y ≠ Str.ofString "place" := fun e => hy (by rw [e]; decide)
    have n4 : y ≠ Str.ofString "blanks" := fun e => hy (by rw [e]; decide)
    have n5 : y ≠ Str.ofString "guest" := fun e => hy (by rw [e]; decide)
    have n6 : y ≠ Str.ofString "wish" := fun e => hy (by rw [e]; decide)
    have n7 : y ≠ Str.ofString "rows" := fun e => hy (by rw [e]; decide)
    simp only [upd, n1, n2, n3, n4, n5, n6, n7, if_false]
end
end Mine
set_option maxHeartbeats 400000
namespace Mine
section
variable {w : World} {A : Around} {E : Value → Shared → Prop} {h h' h₀ H hB : Heap} {ex : List Addr} {g : Array GenState} {d : Drawn} {t : Nat} {os : OsState} {env : Env} {m m' : Str → Option Value} {mu mu' mt : List (Addr × Obj)} {L l D : Addr} {vs : List Value} {rows oth line : List (Nat × Nat)} {kvs : List (Str × Value)}
theorem slice1 : ∀ n, n < 6 → Txt.slice (spS n) (some 1) none = spS (n - 1) := by decide +kernel
theorem tailS {x : Str} {xp p pos cp : Pos} {ck n : Nat} {tx : Tok} {Q : Value → Shared → Prop} (S : St h₀ H ex env.locals h m mu) (hv : m x = some (.str (spS n) tx)) (hn : n < 6)
    (hQ : ∀ h' t' k, St h₀ H ex env.locals h' m mu → Q (.str (spS (n - 1)) t') ⟨h', g, d, k, os⟩)
    (hk : env.scope.kind = .function := by rfl) (hx : env.kindOf x = some .local := by rfl) (hd : (x == ("__debug__" : Str)) = false := by rfl) :
    wpAny (Md w) A (eval (.Subscript (.Name x xp) (.Slice (some (.Constant (.int 1) ck cp)) none none p) pos) env) Q E ⟨h, g, d, t, os⟩ := by
  refine wpAny_Subscript_str_slice (ldL S hv (wpAny_evalPart_some (cI (wpAny_evalPart_none ⟨spS n, tx, some (1, t), none, rfl, rfl, rfl, ?_⟩))) hk hx hd)
  refine post_val_or_str ⟨?_, fun t' k => ?_⟩
  · have e : (Txt.slice (spS n) (some 1) none).length = (spS (n - 1)).cps.size := by rw [slice1 n hn]; rfl
    have := spS_len (n - 1)
    show (Txt.slice (spS n) (some 1) none).length ≤ _
    rw [e, this, sizeLine_eq]; omega
  · show Q (.str (Txt.slice (spS n) (some 1) none) t') _
    rw [slice1 n hn]
    exact hQ _ _ _ (S.pushed _)
theorem itemD {value : Expr} {x : Str} {p pos : Pos} {k : Str} {v : Value} {Q : Value → Shared → Prop} {s : Shared}
    (hQ : wpAny (Md w) A (eval value env) (fun o s₁ => wpAny (Md w) A (eval (.Name x p) env) (fun i s₂ => X4 fun D tk ob kvs => A6 (o = .ref D) (i = .str k tk) (s₂.heap.get? D = some ob) (ob.IsDictOf (strKind pg w) kvs) (valueAt kvs k = some v) (Q v { s₂ with toks := s₂.toks + 1 })) E s₁) E s)
    (ht : ∀ o r, letTemporaryGo value o r = pure () := by intro _ _; rfl) :
    wpAny (Md w) A (eval (.Subscript value (.Name x p) pos) env) Q E s := by
  refine wpAny_Subscript_Name (T := "dict") PySem.F.slot_dict_getitem.lookup (wpAny_mono hQ (fun o s₁ h1 => wpAny_mono h1 (fun i s₂ h2 => ?_) fun _ _ e => e) fun _ _ e => e) ht
  obtain ⟨D, tk, ob, kvs, rfl, rfl, hD, hd, hv, q⟩ := h2
  have hDD := getDict hD hd
  exact ⟨hDD.typeIs, wpAny_getItem_of (strKind_is pg w k tk) hDD.mapOf hv q⟩
theorem setBs {i : Nat} {oD : Obj} {k : Str} {tk : Tok} {v : Value} {Q : Unit → Shared → Prop} (S : St h₀ H ex L h m mu) (hi : mu[i]? = some (D, oD)) (hd : oD.IsDictOf (strKind pg w) kvs) (hz : kvs.length ≤ 1000)
    (hQ : ∀ h' o', o'.IsDictOf (strKind pg w) (stored kvs k v) → St h₀ H ex L h' m (mu.set i (D, o')) → Q () ⟨h', g, d, t + 1, os⟩) : wpAny (Md w) A (setItem (.ref D) (.str k tk) v) Q E ⟨h, g, d, t, os⟩ := by
  refine wpAny_setItem_pairs (s := ⟨h, g, d, t, os⟩) (strKind_is pg w k tk) (getDict (S.at i hi) hd) (fun h' hm hs => ?_) (by rw [sizeLine_eq]; omega)
  obtain ⟨o', ho', hd'⟩ := Heap.dictOf_iff.mp hm
  exact hQ h' o' hd' (S.set i hi (dictNotTup hd) hs ho')
theorem dict1 {x : Str} {xp cp pos : Pos} {ck : Nat} {k : Str} {tk : Tok} {Q : Value → Shared → Prop} (C : Cx w h₀) (S : St h₀ H ex env.locals h m mu) (hv : m x = some (.str k tk))
    (hQ : ∀ h' D o t', St h₀ H ex env.locals h' m ((D, o) :: mu) → BkO w [(k, 1)] o → (D == sysModules) = false → Kp h h' → h.get? D = none → Q (.ref D) ⟨h', g, d, t', os⟩)
    (hk : env.scope.kind = .function := by rfl) (hx : env.kindOf x = some .local := by rfl) (hd : (x == ("__debug__" : Str)) = false := by rfl) :
    wpAny (Md w) A (eval (.Dict [some (.Name x xp)] [.Constant (.int 1) ck cp] pos) env) Q E ⟨h, g, d, t, os⟩ := by
  refine wpAny_Dict_pairs (knd := strKind pg w) (s := ⟨h, g, d, t, os⟩) (pairs := [(eval (.Name x xp) env, do let x ← eval (.Constant (.int 1) ck cp) env; standAt pos; pure x)]) rfl (by simp) (by simp) ?_
  have S1 := S.alloc { cls := .type "dict", data := .dict #[] } rfl
  have lo : (h.objs.size == sysModules) = false := beq_eq_false_iff_ne.mpr (Nat.ne_of_gt (modules_low (C.keeps S.keep).lim))
  refine evalPairs_cons (ldL S1 hv ?_ hk hx hd)
  refine wpAny_bind (cI (wpAny_bind (wpAny_standAt (wpAny_pure (evalPairs_nil ?_)))))
  obtain ⟨kvs0, he0, hf0⟩ := emptyBk (w := w)
  have hk0 : kvs0 = [] := by
    have := BkO.len hf0
    exact List.eq_nil_of_length_eq_zero (by simpa using this)
  subst hk0
  refine ⟨[(k, .int 1 t)], ⟨strKind_is pg w k tk, rfl, trivial⟩, getDict (S1.at 0 rfl) he0, fun h' hm hs => ?_⟩
  obtain ⟨o', ho', hd'⟩ := Heap.dictOf_iff.mp hm
  have S2 := S1.set 0 rfl (dictNotTup he0) hs ho'
  have f1 := hf0.stored PyProof.V.same_str k (PyProof.V.Flat.int 1 t)
  rw [kdpD_put] at f1
  exact hQ h' _ o' _ S2 ⟨_, hd', f1⟩ lo (fun b x e => hs.extBut b x (fun q => by rw [q, fresh_none] at e; cases e) (Heap.get?_push_of_some _ e)) (fresh_none h)
end
end Mine
set_option maxHeartbeats 400000
namespace Mine
section
variable {w : World} {A : Around} {E : Value → Shared → Prop} {h h' h₀ H hB : Heap} {ex : List Addr} {g : Array GenState} {d : Drawn} {t : Nat} {os : OsState} {env : Env} {m m' : Str → Option Value} {mu mu' mt : List (Addr × Obj)} {L l D : Addr} {vs : List Value} {rows oth line : List (Nat × Nat)} {kvs : List (Str × Value)}
theorem put_bk {s : List Nat} {x : Nat} (hx : x ∉ s) : kprPut (bkC s) (nm x) 1 = bkC (s ++ [x]) := by
  have : (bkC s).any (fun p => decide (p.1 = nm x)) = false := by
    rw [List.any_eq_false]
    intro p hp
    obtain ⟨j, hj, rfl⟩ := List.mem_map.mp hp
    have : j ≠ x := fun e => hx (e ▸ hj)
    simpa using nm_ne this
  unfold kprPut
  rw [this]
  simp [bkC]
theorem fold_put : ∀ (l s : List Nat), (s ++ l).Nodup → (bkC l).foldl (fun a p => kprPut a p.1 p.2) (bkC s) = bkC (s ++ l)
  | [], s, _ => by simp [bkC]
  | x :: l, s, nd => by
    have hx : x ∉ s := fun hm => (List.nodup_append.mp nd).2.2 x hm x (.head _) rfl
    show (bkC l).foldl _ (kprPut (bkC s) (nm x) 1) = _
    rw [put_bk hx, fold_put l (s ++ [x]) (by simpa using nd)]
    simp
theorem addC_bk {l : List Nat} {k : Nat} (nd : l.Nodup) (hk : k ∉ l) : addC (bkC l) [(nm k, 1)] = bkC (l ++ [k]) := by
  unfold addC
  have e : (bkC l).foldl (fun a p => kprPut a p.1 p.2) [] = bkC l := by
    have := fold_put l [] (by simpa using nd)
    simpa [bkC] using this
  rw [e]
  show addTo (bkC l) (nm k, 1) = _
  have hh : kprHas (bkC l) (nm k) = false := by
    unfold kprHas
    rw [List.any_eq_false]
    intro p hp
    obtain ⟨j, hj, rfl⟩ := List.mem_map.mp hp
    have : j ≠ k := fun e => hk (e ▸ hj)
    simpa using nm_ne this
  unfold addTo
  rw [if_neg (by rw [hh]; decide)]
  exact put_bk hk
noncomputable def addKey (bs : List (List Nat)) (g k : Nat) : List (List Nat) := bs.set g (bs.getD g [] ++ [k])
noncomputable def shake (g : Nat) (bs : List (List Nat)) (k : Nat) : List (List Nat) := addKey (addKey bs g k) k g
/-- two who may shake hands -/
structure Good (bs : List (List Nat)) (g k : Nat) : Prop where
  g6 : g < bs.length
  k6 : k < bs.length
  ne : g ≠ k
  nd1 : (bs.getD g []).Nodup
  n1 : k ∉ bs.getD g []
  nd2 : (bs.getD k []).Nodup
  n2 : g ∉ bs.getD k []
  l1 : (bs.getD g []).length ≤ 10
  l2 : (bs.getD k []).length ≤ 10
theorem getD_at {bs : List (List Nat)} {k : Nat} (h : k < bs.length) : bs[k]? = some (bs.getD k []) := by simp [List.getD_eq_getElem?_getD, h]
/-- one entry in one book -/
theorem book_one {Q : Flow → Shared → Prop} {i gk kk : Nat} {x y : Str} {xp xp2 xp3 yp cp p1 p2 p3 p4 p5 : Pos} {ck : Nat} {tx ty : Tok} {oD : Obj} {bs : List (List Nat)} {rest : List Stmt}
    (C : Cx w h₀) (hroom : A.depth < recursionLimit) (hh : A.handled = none) (S : St h₀ H ex env.locals h m mu) (hi : mu[i]? = some (D, oD)) (hd : oD.IsDictOf (strKind pg w) kvs) (hB : Bs w H ex kvs bs)
    (mb : m "books" = some (.ref D)) (mx : m x = some (.str (nm gk) tx)) (my : m y = some (.str (nm kk) ty)) (g6 : gk < bs.length) (hz : bs.length ≤ 100) (nd : (bs.getD gk []).Nodup) (hn : kk ∉ bs.getD gk []) (hl : (bs.getD gk []).length ≤ 10)
    (hQ : ∀ h' H' ex' o' kvs' t', Seg H ex H' ex' → St h₀ H' ex' env.locals h' m (mu.set i (D, o')) → o'.IsDictOf (strKind pg w) kvs' → Bs w H' ex' kvs' (addKey bs gk kk) → (∀ b its, h.IsTuple b its → H'.IsTuple b its) → wpAny (Md w) A (execs rest env) Q E ⟨h', g, d, t', os⟩)
    (hk : env.scope.kind = .function := by rfl) (hx1 : env.kindOf x = some .local := by rfl) (hx2 : (x == ("__debug__" : Str)) = false := by rfl) (hy1 : env.kindOf y = some .local := by rfl) (hy2 : (y == ("__debug__" : Str)) = false := by rfl)
    (hb1 : env.kindOf "books" = some .local := by rfl) (ha1 : env.kindOf "add_callers" = some .globalImplicit := by rfl) (hgl : env.globals = mainGlobals := by rfl) :
    wpAny (Md w) A (execs (.Assign [.Subscript (.Name "books" p1) (.Name x xp) p2] (.Call (.Name "add_callers" p3) [.Subscript (.Name "books" p4) (.Name x xp2) p5, .Dict [some (.Name y yp)] [.Constant (.int 1) ck cp] xp3] [] pos) pos2 :: rest) env) Q E ⟨h, g, d, t, os⟩ := by
  have sg0 := S.seg
  have hB := hB.on (h' := h) (ex' := env.locals :: mu.map (·.1)) (fun b o n e => (sg0.keep b o e n).1) (fun b o e n => (sg0.keep b o e n).2)
  have S := S.re
  generalize hex0 : (env.locals :: mu.map (·.1)) = ex0 at sg0 hB S
  obtain ⟨v, hval, Dg, og, rfl, hog, hng, hBg, log⟩ := hB.value (getD_at g6)
  refine xCons (wpAny_Assign_Subscript ?_)
  refine callName (ldG C S (by k_is) ?_ hk ha1 hgl (by rfl))
  refine cwFn (f := 177) (by k_is) ?_
  refine spliced_more (itemD (ldL S mb (ldL S mx ⟨D, tx, oD, kvs, rfl, rfl, S.at i hi, hd, hval, ?_⟩ hk hx1 hx2) hk hb1 (by rfl)))
  refine spliced_more (dict1 C S my (fun h1 D1 o1 t1 S1 hB1 lo1 k1 hn1 => ?_) hk hy1 hy2)
  refine spliced_none ⟨C.keeps S1.keep, ?_⟩
  refine add_callers_spec (C.keeps S1.keep) hroom hh (k1 _ _ hog) hBg log (S1.at 0 rfl) hB1 lo1 (by unfold bkC; rw [List.length_map, List.length_singleton]; omega) fun h2 t2 D2 o2 k2 hn2 ho2 hB2 lo2 => ?_
  rw [addC_bk nd hn] at hB2
  have S2 := S1.tail.add k2 hn2 ho2
  have hkl := hB.len
  refine ldL S2 mb (ldL S2 mx (setBs S2 (i := i + 1) (by simpa using hi) hd (by omega) fun h3 o3 hd3 S3 => ?_) hk hx1 hx2) hk hb1 (by rfl)
  rw [List.set_cons_succ] at S3
  have hnd := S3.nd
  have hD2 : D2 ∉ env.locals :: (mu.set i (D, o3)).map (·.1) := by
    simp only [List.map_cons, List.nodup_cons, List.mem_cons, not_or] at hnd
    intro hm
    rcases List.mem_cons.mp hm with e | hm
    · exact hnd.1.1 e.symm
    · exact hnd.2.1 hm
  have S4 := S3.tail
  have sg4 := S4.seg
  refine hQ h3 h3 _ o3 _ _ (sg0.trans sg4) S4.re hd3 ?_ S3.tup
  unfold addKey
  exact (hB.on (fun b o n e => (sg4.keep b o e n).1) (fun b o e n => (sg4.keep b o e n).2)).set g6 ⟨D2, o2, rfl, S3.at 0 rfl, hD2, hB2, lo2⟩
end
end Mine
set_option maxHeartbeats 400000
namespace Mine
section
variable {w : World} {A : Around} {E : Value → Shared → Prop} {h h' h₀ H hB : Heap} {ex : List Addr} {g : Array GenState} {d : Drawn} {t : Nat} {os : OsState} {env : Env} {m m' : Str → Option Value} {mu mu' mt : List (Addr × Obj)} {L l D : Addr} {vs : List Value} {rows oth line : List (Nat × Nat)} {kvs : List (Str × Value)}
theorem shake_len (gk k : Nat) (bs : List (List Nat)) : (shake gk bs k).length = bs.length := by simp [shake, addKey]
theorem shakes_len (gk : Nat) : ∀ (l : List Nat) (bs : List (List Nat)), (l.foldl (shake gk) bs).length = bs.length
  | [], _ => rfl
  | k :: l, bs => by rw [List.foldl_cons, shakes_len gk l, shake_len]
theorem pairs_drop {its : List Value} (x : PairsAt h its (rowT rows)) (i : Nat) : PairsAt h (its.drop i) (rowT (rows.drop i)) := by
  have hl := x.len
  refine pairsAt_of (by simp [hl]) fun j r e => ?_
  rw [List.getElem?_drop] at e ⊢
  exact x.row e
theorem pairs_take {its : List Value} (x : PairsAt h its (rowT rows)) (i : Nat) : PairsAt h (its.take i) (rowT (rows.take i)) := by
  have hl := x.len
  refine pairsAt_of (by simp [hl]) fun j r e => ?_
  have hj : j < i := by
    have := (List.getElem?_eq_some_iff.mp e).1
    simp at this; omega
  rw [List.getElem?_take_of_lt hj] at e ⊢
  exact x.row e
noncomputable def dec1 (r : Nat × Nat) : Nat × Nat := (r.1 - 1, r.2)
noncomputable abbrev handN : List Str := [Str.ofString "ahead", Str.ofString "name"]
/-- the hands of a guest that is laid off -/
theorem hands {Q : Flow → Shared → Prop} {RL a dl : Addr} {k0 gk wish : Nat} {rv its : List Value} {o od oD : Obj} {mu0 : List (Addr × Obj)} {bs : List (List Nat)} {tg tw : Tok}
    (C : Cx w h₀) (hroom : A.depth < recursionLimit) (hh : A.handled = none) (S : St h₀ H ex L h m ((a, o) :: (dl, od) :: (D, oD) :: mu0)) (hA : AccO dl its o) (hE : AccE od) (hd : oD.IsDictOf (strKind pg w) kvs) (hB : Bs w H ex kvs bs)
    (iR : (RL, LstP rv k0) ∈ mu0) (mr : m "rows" = some (.ref RL)) (ml : m "line" = some (.ref a)) (mb : m "books" = some (.ref D)) (mg : m "guest" = some (.str (nm gk) tg)) (mw : m "wish" = some (.int (wish : Nat) tw))
    (hrv : rv.length = rows.length) (hp : PairsAt h its (rowT rows)) (hz : rows.length ≤ 5) (h5 : ∀ r ∈ rows, r.1 ≤ 5) (hws : wish ≤ rows.length) (hb6 : bs.length ≤ 10)
    (hgood : ∀ j r, (rows.drop (rows.length - wish))[j]? = some r → Good ((((rows.drop (rows.length - wish)).take j).map (·.2)).foldl (shake gk) bs) gk r.2)
    (hQ : ∀ h' H' ex' m' t' o' oD' kvs' nv, Seg H ex H' ex' → (∀ b its, h.IsTuple b its → h'.IsTuple b its) → St h₀ H' ex' L h' m' ((a, o') :: (dl, od) :: (D, oD') :: mu0) → Same handN m m' → AccO dl nv o' → oD'.IsDictOf (strKind pg w) kvs' → Bs w H' ex' kvs' (((rows.drop (rows.length - wish)).map (·.2)).foldl (shake gk) bs) →
      PairsAt h' nv (rowT (rows.take (rows.length - wish) ++ (rows.drop (rows.length - wish)).map dec1)) → wpAny (Md w) A (execs (turnB.drop 10) (lofE L)) Q E ⟨h', g, d, t', os⟩) :
    wpAny (Md w) A (execs (turnB.drop 9) (lofE L)) Q E ⟨h, g, d, t, os⟩ := by
  have hlen := hp.len
  have sg0 := S.seg
  have hB := hB.on (h' := h) (ex' := L :: ((a, o) :: (dl, od) :: (D, oD) :: mu0).map (·.1)) (fun b o n e => (sg0.keep b o e n).1) (fun b o e n => (sg0.keep b o e n).2)
  have S := S.re
  generalize (L :: ((a, o) :: (dl, od) :: (D, oD) :: mu0).map (·.1)) = ex0 at sg0 hB S
  have iR0 : (RL, LstP rv k0) ∈ (a, o) :: (dl, od) :: (D, oD) :: mu0 := .tail _ (.tail _ (.tail _ iR))
  refine xFor (MethodCall_ (ldL S ml (methFn (C.keeps S.keep) (hA.inst (S.at 0 rfl) (S.at 1 rfl)) (by k_is) (by k_is) (by k_is) (by k_is) (hE.toD _ (by decide)) ?_)) (by rfl))
  refine cwFn (f := 90) (by k_is) (spliced_more (wpAny_BinOp (callName (ldB (v := .builtin "len") C S (by k_is) rfl (cwBi (spliced_more (ldL S mr (spliced_none (lenL (lstAt (mem_led S iR0)) (by omega) fun t1 tk1 => ldL S mw (subI (spliced_none ⟨C.keeps S.keep, ?_⟩)))))))))))
  generalize hi : rows.length - wish = i at hgood hQ ⊢
  have ei : ((rv.length : Nat) : Int) - ((wish : Nat) : Int) = ((i : Nat) : Int) := by omega
  rw [ei]
  refine pop_from_at (i := i) (C.keeps S.keep) hroom (S.at 0 rfl) hA (S.at 1 rfl) (by omega) (by omega) (.inl ⟨_, rfl⟩) fun h1 t2 PL oP o1 k1 ho1 hA1 hP0 hP hoP => ?_
  have S1 : St h₀ h ex0 L h1 m ((a, o1) :: (dl, od) :: (D, oD) :: mu0) := S.put 0 rfl hA.notTup k1 ho1
  have S2 := S.enter S1 rfl hP0 hP
  refine wpAny_pyIter_list (s := ⟨h1, g, d, _, os⟩) (items := (its.drop i).toArray) ⟨oP, hP, hoP⟩ ?_
  have S3 := S2.alloc { cls := .type "list_iterator", data := .fields #[.ref PL, .int 0 0] } rfl
  dsimp only
  generalize hI : h1.objs.size = I at S3
  have hp3 := (pairs_drop hp i).on S3.tup
  have hq3 := (pairs_take hp i).on S3.tup
  have sg3 := S3.seg
  have hB3 := hB.on (fun b o n e => (S3.seg.keep b o e n).1) (fun b o e n => (S3.seg.keep b o e n).2)
  have S3 := S3.re
  generalize (L :: List.map (·.1) ((I, _) :: (PL, oP) :: (a, o1) :: (dl, od) :: (D, oD) :: mu0)) = ex3 at sg3 hB3 S3
  have hdl : (its.drop i).length = (rows.drop i).length := by simp [hlen]
  refine forIt (itSeq (A := A) hh (.inr ⟨_, _, _, rfl⟩) I PL (its.drop i))
    (fun j H1 ex1 m1 mu1 => A3 (Seg h ex0 H1 ex1) (Same handN m m1) (X4 fun o2 oD2 kvs2 nv => A6 (mu1 = (PL, oP) :: (a, o2) :: (dl, od) :: (D, oD2) :: mu0) (AccO dl nv o2) (oD2.IsDictOf (strKind pg w) kvs2) (Bs w H1 ex1 kvs2 ((((rows.drop i).take j).map (·.2)).foldl (shake gk) bs)) (PairsAt H1 nv (rowT (rows.take i ++ ((rows.drop i).take j).map dec1))) (PairsAt H1 (its.drop i) (rowT (rows.drop i)))))
    (fun j H1 ex1 h2 m1 mu1 oI S F => ?_) S3 ⟨rfl, rfl⟩ ⟨sg3, Same.refl, o1, oD, kvs, its.take i, rfl, hA1, hd, hB3, by simpa using hq3, hp3⟩ ?_ ?_
  · obtain ⟨_, _, o2, oD2, kvs2, nv, rfl, _⟩ := F
    obtain ⟨_, n, e⟩ := hoP
    exact ⟨oP, n, S.at 1 rfl, e⟩
  · intro j v oI H1 ex1 h2 m1 mu1 t3 hlt hv qq11 hI2 S4
    refine nameT fun Q' hQ' => ?_
    obtain ⟨sg, sm, o2, oD2, kvs2, nv, rfl, hA2, hd2, hB2, hq, hp2⟩ := qq11
    have hjl : j < (rows.drop i).length := by omega
    have hjr : (rows.drop i)[j]? = some (rows.drop i)[j] := by simp only [List.getElem?_eq_getElem hjl]
    have htk : (rows.drop i).take (j + 1) = (rows.drop i).take j ++ [(rows.drop i)[j]] := List.take_succ_eq_append_getElem hjl
    generalize (rows.drop i)[j] = r at hjr htk
    obtain ⟨P, tx, ty, hvP, hTP⟩ := hp2.row hjr
    have : v = .ref P := by rw [hv] at hvP; exact Option.some.inj hvP
    subst this
    have h5r := h5 r (List.mem_of_mem_drop (List.mem_of_getElem? hjr))
    have G := hgood j r hjr
    generalize hbs : (((rows.drop i).take j).map (·.2)).foldl (shake gk) bs = bsj at hB2 G
    have hbl : bsj.length ≤ 10 := by rw [← hbs, shakes_len]; exact hb6
    have hnv := hq.len
    have hnl : nv.length ≤ 20 := by
      rw [hnv, List.length_append, List.length_map, List.length_take, List.length_take, List.length_drop]
      omega
    refine asgPair S4 hh (S4.tup _ _ hTP) fun h3 t5 S5 => ?_
    refine xExpr (MethodCall_ (ldL S5 (sm.get ml) (methFn (C.keeps S5.keep) (hA2.inst (S5.at 2 rfl) (S5.at 3 rfl)) (by k_is) (by k_is) (by k_is) (by k_is) (hE.toD _ (by decide)) ?_)) (by rfl))
    refine cwFn (f := 82) (by k_is) (spliced_more (tailS S5 rfl (by omega) fun h6 t6 tk6 S6 => spliced_more (ldL S6 rfl (spliced_none ⟨C.keeps S6.keep, ?_⟩))))
    refine push_spec (C.keeps S6.keep) hroom (S6.at 2 rfl) hA2 (S6.at 3 rfl) hE.toD (by omega) fun h7 t7 T o7 k7 ho7 hA7 hT7 hT0 => ?_
    have S7 : St h₀ H1 ex1 L h7 _ ((I, oI) :: (PL, oP) :: (a, o7) :: (dl, od) :: (D, oD2) :: mu0) := S6.put 2 rfl hA2.notTup k7 ho7
    have hq7 := pairs_snoc (r := dec1 r) (hq.on S7.tup) hT7
    have hp7 := hp2.on S7.tup
    refine book_one (x := Str.ofString "guest") (y := Str.ofString "name") C hroom hh S7 (i := 4) rfl hd2 hB2 (sm.get mb) (sm.get mg) rfl G.g6 (by omega) G.nd1 G.n1 G.l1 fun h8 H8 ex8 o8 kvs8 t8 sg8 S8 hd8 hB8 tup8 => ?_
    have e2 : (addKey bsj gk r.2).getD r.2 [] = bsj.getD r.2 [] := by
      unfold addKey
      rw [List.getD_eq_getElem?_getD, List.getElem?_set_ne G.ne, ← List.getD_eq_getElem?_getD]
    refine book_one (x := Str.ofString "name") (y := Str.ofString "guest") C hroom hh S8 (i := 4) rfl hd8 hB8 (sm.get mb) rfl (sm.get mg) (by simp [addKey]; exact G.k6) (by simp [addKey]; omega) (by rw [e2]; exact G.nd2) (by rw [e2]; exact G.n2) (by rw [e2]; exact G.l2) fun h9 H9 ex9 o9 kvs9 t9 sg9 S9 hd9 hB9 tup9 => ?_
    refine xNil (hQ' _ _ (TurnEnd.next S9 ⟨sg.trans (sg8.trans sg9), ?_, o7, o9, kvs9, _, rfl, hA7, hd9, ?_, ?_, ?_⟩))
    · intro y hy
      have n1 : y ≠ Str.ofString "ahead" := fun e => hy (by rw [e]; decide)
      have n2 : y ≠ Str.ofString "name" := fun e => hy (by rw [e]; decide)
      simp only [upd, n1, n2, if_false]
      exact sm y hy
    · rw [htk, List.map_append, List.foldl_append, hbs]
      exact hB9
    · rw [htk, List.map_append, ← List.append_assoc]
      exact hq7.on fun b its x => tup9 _ _ (S8.tup _ _ (tup8 _ _ x))
    · exact hp7.on fun b its x => tup9 _ _ (S8.tup _ _ (tup8 _ _ x))
  · rintro H1 ex1 h2 m1 mu1 t3 ⟨sg, sm, o2, oD2, kvs2, nv, rfl, hA2, hd2, hB2, hq, hp2⟩ S4
    rw [hdl, List.take_length] at hB2 hq
    have S5 := S4.tail
    have sg5 := S4.seg
    refine hQ h2 H1 ex1 m1 t3 o2 oD2 kvs2 nv (sg0.trans sg) (fun b its x => S4.tup _ _ (sg.tup _ _ x)) S5 sm hA2 hd2 hB2 (hq.on S4.tup)
end
end Mine
set_option maxHeartbeats 400000
namespace Mine
section
variable {w : World} {A : Around} {E : Value → Shared → Prop} {h h' h₀ H hB : Heap} {ex : List Addr} {g : Array GenState} {d : Drawn} {t : Nat} {os : OsState} {env : Env} {m m' : Str → Option Value} {mu mu' mt : List (Addr × Obj)} {L l D : Addr} {vs : List Value} {rows oth line : List (Nat × Nat)} {kvs : List (Str × Value)}
noncomputable abbrev leftsI (line : List (Nat × Nat)) : List Int := (line.map (·.1)).map Int.ofNat
/-- what the others still wish is asked -/
theorem still {Q : Flow → Shared → Prop} {a dl : Addr} {its : List Value} {o od : Obj} {mu0 : List (Addr × Obj)} {due : Bool}
    (C : Cx w h₀) (hroom : A.depth < recursionLimit) (hh : A.handled = none) (S : St h₀ H ex L h m ((a, o) :: (dl, od) :: mu0)) (hA : AccO dl its o)
    (ml : m "line" = some (.ref a)) (md : m "due" = some (.bool due)) (hp : PairsAt h its (rowT line)) (hz : line.length ≤ 6) (h5 : ∀ r ∈ line, r.1 ≤ 5) (hc : canBe (leftsI line) = due)
    (hQ : ∀ h' t', St h₀ H ex L h' m ((a, o) :: (dl, od) :: mu0) → (∀ b its, h.IsTuple b its → h'.IsTuple b its) → Q .next ⟨h', g, d, t', os⟩) :
    wpAny (Md w) A (execs (turnB.drop 10) (lofE L)) Q E ⟨h, g, d, t, os⟩ := by
  have hlen := hp.len
  refine xIf (wpAny_isTrue_Compare1 (callName (ldG C S (by k_is) (cwFn (f := 296) (by k_is) (spliced_more ?_)))))
  refine compEv (cl := []) rfl rfl (by decide) (ldL S ml ?_)
  refine accIter (C.keeps S.keep) (S.at 0 rfl) hA (S.at 1 rfl) ?_
  refine compSeqAt hh (.inr ⟨_, _, _, rfl⟩) (seq_of_acc (S.at 0 rfl) hA) (fun j ys _ => IntsAre ys (leftsI (line.take j))) (by decide) rfl (fun _ => .nil) (by omega) ?_ ?_
  · intro j v ys oI k1 H1 ex1 h1 m1 t1 C1 D1 I1 hv hF S1
    have hjl : j < line.length := by have := (List.getElem?_eq_some_iff.mp hv).1; omega
    obtain ⟨P, tx, ty, hvP, hTP⟩ := hp.row (i := j) (r := line[j]) (by simp [hjl])
    have : v = .ref P := by rw [hv] at hvP; exact Option.some.inj hvP
    subst this
    have h5j := h5 _ (List.getElem_mem hjl)
    have htk : line.take (j + 1) = line.take j ++ [line[j]] := List.take_succ_eq_append_getElem hjl
    generalize line[j] = r at hTP htk h5j
    refine asgPair S1 hh (tup_keeps hTP (S1.keep _)) fun h2 t2 S2 => tests_nil ?_
    rw [if_pos rfl]
    refine callName (ldB (v := .builtin "len") (C.keeps S.keep) S2 (by k_is) rfl (cwBi (spliced_more (ldL S2 rfl (spliced_none (lenS (by rw [spS_len]; omega) fun t3 tk3 => ?_))))))
    rw [spS_len]
    refine CompEnd.mk S2 ?_
    rw [htk]
    unfold leftsI
    rw [List.map_append, List.map_append]
    exact ints_snoc hF _ _
  · refine compQ fun D h1 t1 ys k1 H1 kp hD hDg hF htup => ?_
    have hF : IntsAre ys (leftsI line) := by
      have := hF
      rw [hlen, List.take_length] at this
      exact this
    have S1 := S.add kp hD hDg
    refine spliced_none ⟨C.keeps S1.keep, ?_⟩
    refine can_be_spec (C.keeps S1.keep) hroom hh (lstAt (S1.at 0 rfl)) hF (by simp; omega) fun h2 t2 k2 => ?_
    have S2 := (S1.keeps k2).tail
    rw [hc]
    refine ldL S2 md (PyProof.Rows.ne_bool (wpAny_truthy_bool ?_))
    rw [bne_self_eq_false, if_neg (by decide)]
    exact xNil (xNil (hQ h2 t2 S2 fun b its x => tup_keeps (tup_keeps x (kp b)) (k2 b)))
end
end Mine
set_option maxHeartbeats 400000
namespace Mine
section
variable {w : World} {A : Around} {E : Value → Shared → Prop} {h h' h₀ H hB : Heap} {ex : List Addr} {g : Array GenState} {d : Drawn} {t : Nat} {os : OsState} {env : Env} {m m' : Str → Option Value} {mu mu' mt : List (Addr × Obj)} {L x : Addr}
open Builtin Builtin.ObjectAttr
noncomputable abbrev excO (dx : Option Addr) (t0 : Addr) : Obj := { cls := .ref 222, dict := dx, data := .fields #[.ref t0, .none, .none, .none, .bool false, .none] }
theorem excNotTup {dx : Option Addr} {t0 : Addr} : NotTup (excO dx t0) := fun _ _ q => by have := q.1; simp at this
theorem excInst0 {t0 : Addr} (hx : h.get? x = some (excO none t0)) : PySem.W.InstAt h x (excO none t0) 222 none := ⟨hx, rfl, rfl, trivial⟩
theorem excInst {t0 dx : Addr} {od : Obj} (hx : h.get? x = some (excO (some dx) t0)) (hd : h.get? dx = some od) : PySem.W.InstAt h x (excO (some dx) t0) 222 (some od) := ⟨hx, rfl, rfl, hd⟩
/-- the first attribute of an exception: its table is made -/
theorem setAt0 {R : Result → Shared → Prop} {t0 : Addr} {name : Str} {tk : Tok} {v : Value} {i : Nat} (X : Cx w h) (S : St h₀ H ex L h m mu) (hi : mu[i]? = some (x, excO none t0)) (ht : takerIn (hd0.heap_1 w.params) 222 name = some none)
    (hQ : ∀ h' D hsh tk, St h₀ H ex L h' m ((D, dictOf (putL name hsh (.str name tk) v []) (putN name [] 0)) :: mu.set i (x, excO (some D) t0)) → R (.ok (.ret .none)) ⟨h', g, d, t + 1, os⟩) :
    codeAny (Md w) A (.call (.builtin "object.__setattr__") ⟨[.ref x, .str name tk, v], []⟩) R ⟨h, g, d, t, os⟩ := by
  have SF := PySem.F.store_object
  have hp : okIn (hd0.heap_1 w.params) 222 = true := by kernel_rfl
  have hh : hasDictIn (hd0.heap_1 w.params) 222 = true := by k_is
  have hx := S.at i hi
  have I := excInst0 hx
  obtain ⟨cd, hc, ho⟩ := any_some hp
  obtain ⟨cd', hc', hd'⟩ := any_some hh
  have hcc : cd' = cd := by rw [hc] at hc'; cases hc'; rfl
  subst hcc
  have X := X.X
  have ne : cd'.mro.isEmpty = false := by cases q : cd'.mro with | nil => rw [q] at ho; cases ho | cons _ _ => rfl
  have sub : Looks (Md w) h (isInstance (.ref x) (.type "object")) true := I.type.andThen (looks_mroIn X (by unfold mroIn; rw [hc, Option.bind_some, if_neg (by rw [ne]; decide), ok_has ho]))
  refine codeAny_call_builtin (s := ⟨h, g, d, t, os⟩) SF.slot.plain SF.entry (@check_slot (Md w) _ _ _ "object.__setattr__" "object" "__setattr__" (.ref x) [.str name tk, v] [] _ SF.kind SF.split sub (SF.args (.ref x) (.str name tk) v) ?_)
  obtain ⟨attr, ha, hr⟩ := Option.bind_eq_some_iff.mp ht
  have hm : Looks (Md w) h (mroOf (.ref 222)) cd'.mro := (looks_clsIn X hc).andThen .now
  have L3 : Looks (Md w) h (storeTaker? attr) none := by
    cases attr with
    | none => cases hr; exact .now
    | some a =>
      obtain ⟨b, hb, hb'⟩ := Option.map_eq_some_iff.mp hr
      refine (looks_takesIn X hb).andThen ?_
      cases b with
      | true => cases hb'
      | false => exact .now
  rw [osa_eq, refuse_eq]
  refine wpAny_bind (wpAny_bind (I.type.here (wpAny_bind (hm.here ?_))))
  rw [refuse_ok _ ho]
  refine wpAny_pure (wpAny_bind (I.type.here (wpAny_bind ((looks_findIn X ha).here (wpAny_bind (L3.here ?_))))))
  refine wpAny_bind (wpAny_pure (wpAny_bind (wpAny_bind (wpAny_loadPart (s := ⟨h, g, d, t, os⟩) hx (wpAny_bind ((looks_clsIn X hc).here ?_))))))
  rw [hd']
  show wpAny _ _ (do
    let d ← alloc { cls := .type "dict", data := .dict #[] }
    update x fun o => { o with dict := some d }
    dictMade (.ref 222) x d) _ _ _
  refine wpAny_bind (wpAny_alloc ?_)
  have S1 := S.alloc { cls := .type "dict", data := .dict #[] } rfl
  have hx1 := S1.at (i + 1) (a := x) (o := excO none t0) (by simpa using hi)
  refine wpAny_bind (wpAny_update (s := ⟨h.push { cls := .type "dict", data := .dict #[] }, g, d, t, os⟩) hx1 ?_)
  have hu := Heap.get?_update_self (fun o : Obj => { o with dict := some h.objs.size }) hx1 rfl
  have S2 := S1.set (i + 1) (by simpa using hi) excNotTup (Heap.SameBut.update ..) hu
  rw [List.set_cons_succ] at S2
  refine wpAny_pure ?_
  generalize hDn : h.objs.size = D at S2 ⊢
  generalize ((h.push { cls := .type "dict", data := .dict #[] }).update x fun o : Obj => { o with dict := some D }) = h2 at S2 ⊢
  have hD : h2.get? D = some (dictOf [] 0) := S2.at 0 rfl
  have e : Obj.putName name (PyData.keyHash w.params name) (.str name t) v (dictOf [] 0) = dictOf (putL name (PyData.keyHash w.params name) (.str name t) v []) (putN name [] 0) := putName_dict _ _ _ _ _ _
  have hDx : (h2.update D (Obj.putName name (PyData.keyHash w.params name) (.str name t) v)).get? D = some (dictOf (putL name (PyData.keyHash w.params name) (.str name t) v []) (putN name [] 0)) := by
    rw [← e]
    exact Heap.get?_update_self _ hD (by rw [e]; rfl)
  have S3 := S2.set 0 rfl getDictOf (Heap.SameBut.update ..) hDx
  show wpAny _ _ (storeInDict D (.str name tk) name v) _ _ _
  unfold storeInDict
  refine wpAny_bind (wpAny_pure (wpAny_bind ?_))
  unfold nsSet
  refine wpAny_bind (wpAny_bind (wpAny_askSetting (wpAny_pure (wpAny_bind (wpAny_mkText (wpAny_bind (wpAny_loadPart (s := ⟨h2, g, d, t + 1, os⟩) hD ?_)))))))
  dsimp only
  rw [aRefKeyMayBeTheName_at, show ((!(#[] : Array DictEntry).any fun x => x.key.isStr name) && (#[] : Array DictEntry).any fun x => x.refKey) = false by simp, if_neg (by decide)]
  refine wpAny_updatePart (s := ⟨h2, g, d, t + 1, os⟩) hD ?_
  refine wpAny_bind (wpAny_lookBehind (s := ⟨_, g, d, t + 1, os⟩) hDx (pastItsLine_dict (by rw [List.size_toArray, sizeLine_eq]; simp [putL])) ?_)
  exact wpAny_pure (hQ _ _ _ _ S3)
theorem stAttr0 {Q : Unit → Shared → Prop} {t0 : Addr} {name : Str} {v : Value} {i : Nat} (X : Cx w h) (S : St h₀ H ex L h m mu) (hi : mu[i]? = some (x, excO none t0)) (ht : takerIn (hd0.heap_1 w.params) 222 name = some none)
    (hQ : ∀ h' D hsh tk, St h₀ H ex L h' m ((D, dictOf (putL name hsh (.str name tk) v []) (putN name [] 0)) :: mu.set i (x, excO (some D) t0)) → Q () ⟨h', g, d, t + 2, os⟩) :
    wpAny (Md w) A (setAttr (.ref x) name v) Q E ⟨h, g, d, t, os⟩ :=
  set_plain (s := ⟨h, g, d, t, os⟩) X.X (excInst0 (S.at i hi)) (by k_is) (setAt0 (t := t + 1) X S hi ht fun h' D hsh tk S' => hQ h' D hsh tk S')
theorem assAttr {o : Expr} {attr : Str} {pos : Pos} {v : Value} {Q : Unit → Shared → Prop} {s : Shared} (hQ : wpAny (Md w) A (eval o env) (fun ov s₁ => wpAny (Md w) A (setAttr ov attr v) (fun _ s₂ => Q () s₂) E s₁) E s) : wpAny (Md w) A (assign (.Attribute o attr pos) env v) Q E s := by
  rw [assign_Attribute]
  refine wpAny_bind (wpAny_holding (wpAny_mono hQ (fun ov s₁ h1 => wpAny_bind (wpAny_standAt (wpAny_bind (wpAny_holding (wpAny_mono h1 (fun _ s₂ h2 => wpAny_release h2) fun _ _ e => e))))) fun _ _ e => e))
/-- none of the getters' names stands in the table -/
noncomputable def NoGet (es : List DictEntry) : Prop := getL (Str.ofString "get_lineno") es = some none ∧ getL (Str.ofString "get_msg") es = some none ∧ getL (Str.ofString "get_line") es = some none
theorem nag_make {Q : Value → Shared → Prop} {v1 v2 v3 : Value} (C : Cx w h) (hroom : A.depth + 2 < recursionLimit) (hh : A.handled = none)
    (hQ : ∀ h' t x dx t0 es n, Kp h h' → h.get? x = none → h.get? dx = none → h'.get? x = some (excO (some dx) t0) → h'.get? dx = some (dictOf es n) → getL (Str.ofString "lineno") es = some (some v1) → getL (Str.ofString "msg") es = some (some v2) → (getL (Str.ofString "line") es = some (some v3) ∧ NoGet es) → Q (.ref x) ⟨h', g, d, t, os⟩) :
    wpAny (Md w) A (call (.ref 222) [v1, v2, v3]) Q E ⟨h, g, d, t, os⟩ := by
  have hC := C.X 222 _ (by k_is)
  refine wpAny_call_exc_init (rest := [v1, v2, v3]) PySem.F.excBase_Exception hC (mN := fun name => nsFind _ name) ⟨_, _, _, C.X _ _ (by k_is), rfl, ?_, fun name => rfl⟩ (fI := 198) ?_ (C.X 198 _ (by k_is)) rfl fun h1 x hm => ?_
  · intro e he
    simp only [List.mem_toArray, List.mem_cons, List.not_mem_nil, or_false] at he
    rcases he with rfl | rfl | rfl | rfl | rfl | rfl | rfl | rfl | rfl <;> exact ⟨_, _, rfl⟩
  · rfl
  · obtain ⟨t0, hx, ht0, _⟩ := hm.there
    have A1 : (A.under (.builtin "type.__call__" ⟨.ref 222 :: [v1, v2, v3], []⟩)).depth ≤ A.depth + 1 := by
      show A.depth + _ ≤ _
      refine Nat.add_le_add_left ?_ _
      show Code.weight _ ≤ 1
      unfold Code.weight
      simp [Code.frames, Code.isCreation, Code.isGuard, Code.isCaller, guardIds, Code.isFrame]
    refine enterCallM (mu0 := [(x, excO none t0)]) (binds := [(Str.ofString "self", .ref x), (Str.ofString "lineno", v1), (Str.ofString "msg", v2), (Str.ofString "line", v3)]) C hm.keeps (by simpa using hx) (by simp) (by simpa using hm.new) (by k_is) (by k_is) (by omega) (BindsTo.of_eq rfl) (locs rfl) (fun L h2 t S => ?_) (by decide)
    have hh1 : (A.under (.builtin "type.__call__" ⟨.ref 222 :: [v1, v2, v3], []⟩)).handled = none := hh
    refine xCons (Assign_Tuple (wpAny_Tuple (spliced_more (ldL S rfl (spliced_more (ldL S rfl (spliced_more (ldL S rfl (spliced_none ⟨by simp [sizeLine], ?_⟩))))))) ) (by rfl) (by rfl))
    have S1 := S.pushed { cls := .type "tuple", data := .seq [v1, v2, v3].toArray }
    refine wpAny_assign_Tuple (items := #[v1, v2, v3]) hh1 ⟨_, Heap.get?_push_size _ rfl, rfl, _, rfl⟩ rfl rfl fun h3 he => ?_
    have S2 := S1.keeps (h' := h3) fun c o e => he c o (fun q => Nat.lt_irrefl _ (Heap.lt_size (q ▸ e))) e
    have C2 : Cx w h3 := C.keeps S2.keep
    show wpAny _ _ (assignInOrder [assign (.Attribute _ _ _) _, assign (.Attribute _ _ _) _, assign (.Attribute _ _ _) _] [v1, v2, v3]) _ _ _
    refine wpAny_assignInOrder_more (assAttr (ldL S2 rfl (stAttr0 (i := 0) C2 S2 rfl (by k_is) fun h4 D hs1 tk1 S4 => ?_)))
    refine wpAny_assignInOrder_more (assAttr (ldL S4 rfl (stAttr (i := 0) (C.keeps S4.keep) S4 rfl (excInst (S4.at 1 rfl) (S4.at 0 rfl)) rfl (by k_is) (by kernel_rfl) (by k_is) (by k_is) rfl (Nat.le_of_ble_eq_true (by rfl)) fun h5 hs2 tk2 S5 => ?_)))
    refine wpAny_assignInOrder_more (assAttr (ldL S5 rfl (stAttr (i := 0) (C.keeps S5.keep) S5 rfl (excInst (S5.at 1 rfl) (S5.at 0 rfl)) rfl (by k_is) (by kernel_rfl) (by k_is) (by k_is) rfl (Nat.le_of_ble_eq_true (by rfl)) fun h6 hs3 tk3 S6 => ?_)))
    refine wpAny_assignInOrder_none (xNil ⟨rfl, ?_⟩)
    refine hQ h6 _ x D t0 _ _ S6.keep hm.new ?_ (S6.at 1 rfl) (S6.at 0 rfl) rfl rfl ⟨rfl, rfl, rfl, rfl⟩
    exact S6.new (by simp)
end
end Mine
set_option maxHeartbeats 400000
namespace Mine
/-- an exception of the own class, with its table; where it flies -/
noncomputable def ExcAt (h : Heap) (e dx : Addr) (fl : Option (Addr × Value)) : Prop := X2 fun oe vs => A6 (h.get? e = some oe) (oe.cls = .ref 222) (oe.dict = some dx) (oe.data = .fields vs) (vs[2]? = some .none) ((match fl with
  | none => vs[1]? = some .none
  | some (T, f) => A3 (vs[1]? = some (.ref T)) (T ≠ e) (X2 fun oT ts => A5 (h.get? T = some oT) (oT.cls = .type "traceback") (oT.data = .fields ts) ((∃ L', ts[1]? = some (.ref L'))) (ts[3]? = some f))))
/-- what a note leaves: the frames' tables by all but their slots -/
structure Noted (fs : List Addr) (X : List Addr) (h h' : Heap) : Prop where
  keep : ∀ b o, b ∉ fs → b ∉ X → h.get? b = some o → h'.get? b = some o
  slots : ∀ b o, b ∉ X → h.get? b = some o → ∃ sl, h'.get? b = some { o with slots := sl }
theorem Noted.trans {fs X h h' h''} (x : Noted fs X h h') (y : Noted fs X h' h'') : Noted fs X h h'' :=
  ⟨fun b o n1 n2 e => y.keep b o n1 n2 (x.keep b o n1 n2 e), fun b o n e => by
    obtain ⟨sl, e1⟩ := x.slots b o n e
    obtain ⟨sl2, e2⟩ := y.slots b _ n e1
    exact ⟨sl2, e2⟩⟩
theorem Noted.mono {fs fs' X X' h h'} (x : Noted fs X h h') (hf : ∀ b ∈ fs, b ∈ fs') (hX : ∀ b ∈ X, b ∈ X') : Noted fs' X' h h' :=
  ⟨fun b o n1 n2 e => x.keep b o (fun q => n1 (hf b q)) (fun q => n2 (hX b q)) e, fun b o n e => x.slots b o (fun q => n (hX b q)) e⟩
theorem Noted.refl {fs X h} : Noted fs X h h := ⟨fun _ _ _ _ e => e, fun _ o _ e => ⟨o.slots, e⟩⟩
section
variable {M : Model} {A : Around} {E : Value → Shared → Prop} {h : Heap} {g : Array GenState} {d : Drawn} {t : Nat} {os : OsState} {env : Env} {outer : List Env} {L e dx : Addr} {Q : Unit → Shared → Prop}
theorem setFl {T : Addr} {f : Value} (fr : Option Addr) (hx : ExcAt h e dx (some (T, f))) (hQ : ∀ h', Noted [] [T] h h' → ExcAt h' e dx (some (T, fr.elim .none fun a => rawInt a)) → Q () ⟨h', g, d, t, os⟩) :
    wpAny M A (setFlight (.ref e) fr) Q E ⟨h, g, d, t, os⟩ := by
  obtain ⟨oe, vs, he, hc, hdx, hd, h2, h1, hTe, oT, ts, hT, hcT, hdT, h1T, h3⟩ := hx
  have hsz : 3 < ts.size := (Array.getElem?_eq_some_iff.mp h3).1
  unfold setFlight
  refine wpAny_bind (wpAny_field (s := ⟨h, g, d, t, os⟩) he hd h1 ?_)
  rw [if_pos (show (Value.ref T != Value.none) = true from by simp)]
  refine wpAny_setField (s := ⟨h, g, d, t, os⟩) hT hdT hsz (hQ _ ⟨fun b o _ n e => ?_, fun b o n e => ⟨o.slots, ?_⟩⟩ ?_)
  · exact (Heap.get?_update_other _ _ (fun q => n (by simp [q]))).trans e
  · exact (Heap.get?_update_other _ _ (fun q => n (by simp [q]))).trans e
  · refine ⟨oe, vs, (Heap.get?_update_other _ _ hTe).trans he, hc, hdx, hd, h2, h1, hTe, _, _, Heap.get?_update_self _ hT (Obj.isFreed_of_fields (Obj.data_mapFields hdT _)), (Obj.cls_mapFields ..).trans hcT, Obj.data_mapFields hdT _, (let ⟨L', q⟩ := h1T; ⟨L', by rw [Array.getElem?_setIfInBounds_ne (by decide)]; exact q⟩), by simp [hsz]⟩
theorem noteAgain {T : Addr} (hf : env.frame = some L) (hx : ExcAt h e dx (some (T, rawInt L))) (hQ : Q () ⟨h, g, d, t, os⟩) : wpAny M A (noteFrame (.ref e) env) Q E ⟨h, g, d, t, os⟩ := by
  obtain ⟨oe, vs, he, hc, hdx, hd, h2, h1, hTe, oT, ts, hT, hcT, hdT, h1T, h3⟩ := hx
  unfold noteFrame
  simp only [hf]
  refine wpAny_bind (wpAny_field (s := ⟨h, g, d, t, os⟩) he hd h1 ?_)
  rw [if_pos (show (Value.ref T != Value.none) = true from by simp)]
  refine wpAny_bind (wpAny_field (s := ⟨h, g, d, t, os⟩) hT hdT h3 ?_)
  rw [if_pos (show (rawInt L == rawInt L) = true from by simp)]
  exact wpAny_pure hQ
theorem entryAt {oe : Obj} {vs : Array Value} {head : Value} {hadNext : Bool} (hfr : A.frames = some (env :: outer)) (hl : h.FunFrames {} (env :: outer)) (hf : env.frame = some L)
    (he : h.get? e = some oe) (hc : oe.cls = .ref 222) (hdx : oe.dict = some dx) (hd : oe.data = .fields vs) (h2 : vs[2]? = some .none) (hsz : 1 < vs.size)
    (hQ : ∀ h' T, h.get? T = none → Noted ((env :: outer).filterMap (·.frame)) [e] h h' → ExcAt h' e dx (some (T, rawInt L)) → Q () ⟨h', g, d, t, os⟩) :
    wpAny M A (do let a ← frameOf env; let pl ← entryPlaceOf L hadNext; let b ← EntryCells.newEntry head a .none (rawInt L) .none pl; setField (.ref e) 1 b) Q E ⟨h, g, d, t, os⟩ := by
  have hene : e ∉ (env :: outer).filterMap (·.frame) := fun hm => by
    obtain ⟨_, o, ho, hnf⟩ := hl.mem hm
    rw [he] at ho; injection ho with ho; subst ho; exact hnf vs hd
  refine wpAny_bind (wpAny_frameOf_fun (s := ⟨h, g, d, t, os⟩) hfr hl hf fun h₁ hs₁ => ?_)
  refine wpAny_bind (wpAny_entryPlaceOf fun pl hpl => ?_)
  unfold EntryCells.newEntry newFields
  refine wpAny_bind (wpAny_newObj_type ?_ (hpl.sizeOk5 _ _ _ _ _))
  have he₁ : h₁.get? e = some oe := (hs₁.2.1 e hene).trans he
  have he₂ := Heap.get?_push_of_some (h := h₁) { cls := .type "traceback", dict := none, data := .fields ([head, .ref L, .none, rawInt L, .none] ++ (if pl.isEmpty then List.replicate 6 Value.none else pl)).toArray } he₁
  refine wpAny_setField he₂ hd hsz ?_
  have hTe : h₁.objs.size ≠ e := Nat.ne_of_gt (Heap.lt_size he₁)
  have hd₃ := Obj.data_mapFields hd (·.setIfInBounds 1 (Value.ref h₁.objs.size))
  have he₃ := Heap.get?_update_self (Obj.mapFields (·.setIfInBounds 1 (Value.ref h₁.objs.size))) he₂ (Obj.isFreed_of_fields hd₃)
  have hT₃ := (Heap.get?_update_other (h₁.push { cls := .type "traceback", dict := none, data := .fields ([head, .ref L, .none, rawInt L, .none] ++ (if pl.isEmpty then List.replicate 6 Value.none else pl)).toArray })
    (Obj.mapFields (·.setIfInBounds 1 (Value.ref h₁.objs.size))) (Ne.symm hTe)).trans (Heap.get?_push_size h₁ rfl)
  have keep : ∀ b o, b ≠ e → h₁.get? b = some o →
      ((h₁.push { cls := .type "traceback", dict := none, data := .fields ([head, .ref L, .none, rawInt L, .none] ++ (if pl.isEmpty then List.replicate 6 Value.none else pl)).toArray }).update e (Obj.mapFields (·.setIfInBounds 1 (Value.ref h₁.objs.size)))).get? b = some o :=
    fun b o hbe hb => by
      rw [Heap.get?_update_other _ _ (Ne.symm hbe)]
      exact Heap.get?_push_of_some _ hb
  refine hQ _ h₁.objs.size ?_ ⟨fun b o n1 n2 hb => keep b o (by simpa using n2) ((hs₁.2.1 b n1).trans hb), fun b o n hb => ?_⟩ ⟨_, _, he₃, ?_, ?_, hd₃, (by rw [Array.getElem?_setIfInBounds_ne (by decide)]; exact h2), by simp [hsz], hTe, _, _, hT₃, rfl, rfl, ⟨L, by simp⟩, ?_⟩
  · cases q : h.get? h₁.objs.size with
    | none => rfl
    | some o => exact absurd (Heap.lt_size q) (by rw [hs₁.1]; exact Nat.lt_irrefl _)
  · obtain ⟨sl, hs⟩ := hs₁.2.2 b o hb
    exact ⟨sl, keep b _ (by simpa using n) hs⟩
  · exact (Obj.cls_mapFields _ _).trans hc
  · rw [← hdx]
    obtain ⟨c1, c2, c3, c4⟩ := oe
    cases c3 <;> rfl
  · first | (simp; done) | (rcases hpl with rfl | ⟨_, _, _, _, _, _, _, rfl⟩ <;> simp)
theorem noteNew (hfr : A.frames = some (env :: outer)) (hl : h.FunFrames {} (env :: outer)) (hf : env.frame = some L) (hx : ExcAt h e dx none)
    (hQ : ∀ h' T, h.get? T = none → Noted ((env :: outer).filterMap (·.frame)) [e] h h' → ExcAt h' e dx (some (T, rawInt L)) → Q () ⟨h', g, d, t, os⟩) : wpAny M A (noteFrame (.ref e) env) Q E ⟨h, g, d, t, os⟩ := by
  obtain ⟨oe, vs, he, hc, hdx, hd, h2, h1⟩ := hx
  unfold noteFrame
  simp only [hf]
  refine wpAny_bind (wpAny_field (s := ⟨h, g, d, t, os⟩) he hd h1 ?_)
  rw [if_neg (by decide)]
  exact entryAt hfr hl hf he hc hdx hd h2 (Array.getElem?_eq_some_iff.mp h1).1 hQ
theorem noteOn {T : Addr} (hfr : A.frames = some (env :: outer)) (hl : h.FunFrames {} (env :: outer)) (hf : env.frame = some L) (hx : ExcAt h e dx (some (T, .none)))
    (hQ : ∀ h' T', Noted ((env :: outer).filterMap (·.frame)) [T, e] h h' → ExcAt h' e dx (some (T', rawInt L)) → h.get? T' = none → Q () ⟨h', g, d, t, os⟩) : wpAny M A (noteFrame (.ref e) env) Q E ⟨h, g, d, t, os⟩ := by
  obtain ⟨oe, vs, he, hc, hdx, hd, h2, h1, hTe, oT, ts, hT, hcT, hdT, h1T, h3⟩ := hx
  unfold noteFrame
  simp only [hf]
  refine wpAny_bind (wpAny_field (s := ⟨h, g, d, t, os⟩) he hd h1 ?_)
  rw [if_pos (show (Value.ref T != Value.none) = true from by simp)]
  refine wpAny_bind (wpAny_field (s := ⟨h, g, d, t, os⟩) hT hdT h3 ?_)
  rw [if_neg (show ¬ ((Value.none == rawInt L) = true) from by simp [rawInt])]
  refine wpAny_bind (wpAny_setField (s := ⟨h, g, d, t, os⟩) hT hdT (Array.getElem?_eq_some_iff.mp h3).1 ?_)
  have other : ∀ b, b ≠ T → (h.update T (Obj.mapFields (·.setIfInBounds 3 Value.none))).get? b = h.get? b := fun b hb => Heap.get?_update_other _ _ (Ne.symm hb)
  have noRecord : ∀ b o, h.get? b = some o → (∀ vs, o.data ≠ .fields vs) → b ≠ T := fun b o hb hnf q => by
    rw [q, hT] at hb; injection hb with hb; subst hb; exact hnf ts hdT
  have N1 : Noted ((env :: outer).filterMap (·.frame)) [T, e] h (h.update T (Obj.mapFields (·.setIfInBounds 3 Value.none))) :=
    ⟨fun b o _ n e => (other b (fun q => n (by simp [q]))).trans e, fun b o n e => ⟨o.slots, (other b (fun q => n (by simp [q]))).trans e⟩⟩
  refine entryAt hfr (hl.of_keeps fun b o hb hnf => ⟨o, (other b (noRecord b o hb hnf)).trans hb, rfl⟩) hf ((other e (Ne.symm hTe)).trans he) hc hdx hd h2 (Array.getElem?_eq_some_iff.mp h1).1 fun h' T' hn N2 hx' => ?_
  refine hQ h' T' (N1.trans (N2.mono (fun _ q => q) fun b hb => by simp at hb; simp [hb])) hx' ?_
  cases q : h.get? T' with
  | none => rfl
  | some o =>
    by_cases hq : T' = T
    · have := Heap.get?_update_self (Obj.mapFields (·.setIfInBounds 3 Value.none)) hT (Obj.isFreed_of_fields (Obj.data_mapFields hdT _))
      rw [hq, this] at hn; cases hn
    · rw [other T' hq, q] at hn; cases hn
end
end Mine
set_option maxHeartbeats 400000
namespace Mine
section
variable {w : World} {A : Around} {E : Value → Shared → Prop} {h h' h₀ H hB : Heap} {ex : List Addr} {g : Array GenState} {d : Drawn} {t : Nat} {os : OsState} {env : Env} {m m' : Str → Option Value} {mu mu' mt : List (Addr × Obj)} {L x : Addr} {rows oth line : List (Nat × Nat)}
theorem raise_nag {x : Sem Value} {Q : Flow → Shared → Prop} {s : Shared} (hh : A.handled = none)
    (hQ : wpAny (Md w) A x (fun v s₁ => X3 fun e t0 dx => A4 (v = .ref e) (Cx w s₁.heap) (s₁.heap.get? e = some (excO (some dx) t0)) (E (.ref e) s₁)) E s) :
    wpAny (Md w) A (raiseStmt env (some x) none) Q E s := by
  unfold raiseStmt
  refine wpAny_bind (wpAny_mono hQ (fun v s₁ h₁ => ?_) fun _ _ x => x)
  obtain ⟨e, t0, dx, rfl, C, he, hE⟩ := h₁
  have hC := C.X 222 _ (by k_is)
  obtain ⟨hp, g, d, tk, os⟩ := s₁
  have hcB : ([Value.ref 222, .type "Exception", .type "BaseException", .type "object"] : List Value).contains (.type "BaseException") = true := by decide
  repeat (first | with_reducible refine wpAny_loadPart_at he ?_ | with_reducible refine wpAny_loadPart_at hC ?_ | (with_reducible refine wpAny_isSubtype_exc hC ?_; rw [hcB]) | wp_step)
  exact wpAny_raiseNew_none hh hE
/-- where a nag flies from -/
structure NagAt (h : Heap) (mt : List (Addr × Obj)) (wish gk : Nat) (rows : List (Nat × Nat)) (e dx t0 : Addr) (h' : Heap) : Prop where
  keep : ∀ b x, b ∉ mt.map (·.1) → h.get? b = some x → h'.get? b = some x
  ne : ∀ b o, b ∉ mt.map (·.1) → h.get? b = some o → b ≠ e ∧ b ≠ dx
  at_ : h'.get? e = some (excO (some dx) t0)
  tab : X5 fun es n tw tg tt => A4 (h'.get? dx = some (dictOf es n)) (getL (Str.ofString "lineno") es = some (some (.int (wish : Nat) tw))) (getL (Str.ofString "msg") es = some (some (.str (nm gk) tg))) ((getL (Str.ofString "line") es = some (some (.str (allS (rowT rows)) tt)) ∧ NoGet es))
  mt' : ∃ mt', TabL 107 strQ 43 32 mt' ∧ (∀ p ∈ mt', h'.get? p.1 = some p.2) ∧ (mt'.map (·.1)).Nodup ∧ ∀ b ∈ mt'.map (·.1), b ∈ mt.map (·.1) ∨ h.get? b = none
theorem nag_step {Q : Flow → Shared → Prop} {RL a dl : Addr} {k0 gk wish : Nat} {rv nv : List Value} {o od : Obj} {mu0 : List (Addr × Obj)} {tg tw : Tok}
    (C : Cx w h₀) (MB : BmAt h₀) (hroom : A.depth + 2 < recursionLimit) (hh : A.handled = none) (hu : A.units + 64 < cLine) (S : St h₀ H ex L h m ((a, o) :: (dl, od) :: (mt ++ mu0))) (hA : AccO dl nv o) (hT : TabL 107 strQ 43 32 mt)
    (iR : (RL, LstP rv k0) ∈ mu0) (mr : m "rows" = some (.ref RL)) (ml : m "line" = some (.ref a)) (mg : m "guest" = some (.str (nm gk) tg)) (mw : m "wish" = some (.int (wish : Nat) tw))
    (hr : RowsAt h rv rows) (hp : PairsAt h nv (rowT rows)) (hz : rows.length ≤ 5) (h5 : ∀ r ∈ rows, r.1 ≤ 5 ∧ r.2 < 6)
    (hQ : wish ≤ ((rows.map (·.1)).filter (0 < ·)).length → ∀ h' t', St h₀ H ex L h' m ((a, o) :: (dl, od) :: (mt ++ mu0)) → Kp h h' → wpAny (Md w) A (execs (turnB.drop 9) (lofE L)) Q E ⟨h', g, d, t', os⟩)
    (hE : ((rows.map (·.1)).filter (0 < ·)).length < wish → ∀ h1 h' g' t' e dx t0, St h₀ H ex L h1 m ((a, o) :: (dl, od) :: (mt ++ mu0)) → Kp h h1 → NagAt h1 mt wish gk rows e dx t0 h' → (AllBare g → AllBare g') → E (.ref e) ⟨h', g', d, t', os⟩) :
    wpAny (Md w) A (execs (turnB.drop 8) (lofE L)) Q E ⟨h, g, d, t, os⟩ := by
  have hlr := hr.1
  have iR0 : (RL, LstP rv k0) ∈ (a, o) :: (dl, od) :: (mt ++ mu0) := .tail _ (.tail _ (List.mem_append_right _ iR))
  refine xIf (wpAny_isTrue_Compare1 (ldL S mw (callName (ldB (v := .builtin "len") C S (by k_is) rfl (cwBi (spliced_more ?_))))))
  refine compEv (cl := []) rfl rfl (by decide) (ldL S mr ?_)
  refine compSeq hh (.inr ⟨_, _, _, rfl⟩) (lstAt (mem_led S iR0)) (fun j ys _ => ys.length = (((rows.take j).map (·.1)).filter (0 < ·)).length) (by decide) rfl (fun _ => rfl) (by omega) ?_ ?_
  · intro j v ys oI k1 H1 ex1 h1 m1 t1 C1 D1 I1 hv hF S1
    have hjl : j < rows.length := by have := (List.getElem?_eq_some_iff.mp hv).1; omega
    obtain ⟨P, tx, ty, hvP, hTP⟩ := hr.2 j rows[j] (by simp [hjl])
    have : v = .ref P := by rw [hv] at hvP; exact Option.some.inj hvP
    subst this
    have htk : rows.take (j + 1) = rows.take j ++ [rows[j]] := List.take_succ_eq_append_getElem hjl
    generalize rows[j] = r at hTP htk
    refine asgPair S1 hh (tup_keeps hTP (S1.keep _)) fun h2 t2 S2 => ?_
    refine tests_one (wpAny_isTrue_Compare1 (ldL S2 rfl (cI (gtI (wpAny_truthy_bool ?_)))))
    split
    · rename_i hpos
      have hpos : 0 < r.1 := by simpa using hpos
      refine ldL S2 rfl (CompEnd.mk S2 ?_)
      rw [htk, List.map_append, List.filter_append, List.length_append, List.length_append, hF, List.map_singleton, List.filter_cons_of_pos (by simpa using hpos)]
      rfl
    · rename_i hpos
      have hpos : ¬ 0 < r.1 := by simpa using hpos
      refine CompEnd.mk S2 ?_
      rw [htk, List.map_append, List.filter_append, List.length_append, hF, List.map_singleton, List.filter_cons_of_neg (by simpa using hpos)]
      rfl
  · refine compQ fun D h1 t1 ys k1 H1 kp hD hDg hF htup => ?_
    have hF : ys.length = ((rows.map (·.1)).filter (0 < ·)).length := by
      have := hF
      rw [hlr, List.take_length] at this
      exact this
    have hyl : ys.length ≤ 5 := by
      rw [hF]
      exact Nat.le_trans (List.length_filter_le _ _) (by simpa using hz)
    have S1 := S.keeps kp
    refine spliced_none (lenL (lstAt hDg) (by omega) fun t2 tk2 => gtI (wpAny_truthy_bool ?_))
    split
    · rename_i hlt
      have hlt : ((rows.map (·.1)).filter (0 < ·)).length < wish := by
        have := of_decide_eq_true hlt
        omega
      refine xCons ?_
      rw [arm_exec_Raise]
      refine wpAny_bind (wpAny_standAt (raise_nag hh (wpAny_bind ?_)))
      refine callName (ldG C S1 (by k_is) (cwFn (f := 222) (by k_is) (spliced_more (ldL S1 mw (spliced_more (ldL S1 mg (spliced_more ?_)))))))
      refine callName (ldB (v := .type "str") C S1 (by k_is) rfl (PyProof.Rows.callWith_type1 (spliced_more (ldL S1 ml (spliced_none ?_)))))
      have nds := S1.nd
      simp only [List.map_cons, List.map_append, List.nodup_cons, List.mem_cons, List.mem_append, not_or] at nds
      have hnm : ∀ b ∈ mt.map (·.1), h₀.get? b = none := fun b hb => S1.new (by simp only [List.map_cons, List.map_append, List.mem_cons, List.mem_append]; exact .inr (.inr (.inr (.inl hb))))
      have hsz : ∀ p ∈ rowT rows, p.1.cps.size ≤ 10 ∧ p.2.cps.size ≤ 10 := by
        intro p hp
        obtain ⟨r, hr, rfl⟩ := List.mem_map.mp hp
        have := (h5 r hr).1
        refine ⟨by rw [spS_len]; omega, ?_⟩
        show (nm r.2).cps.size ≤ 10
        simp [nm]
      refine kso_call (x := a) (show A.units + 1 + 1 < cLine by omega) (C.keeps S1.keep).X (hA.inst (S1.at 0 rfl) (S1.at 1 rfl)) (by k_is) (by k_is) ?_
      refine acc_str_spec (A := A.in1.in1) C MB S1.keep hT (fun p hp => mem_led S1 (.tail _ (.tail _ (List.mem_append_left _ hp)))) (List.nodup_append.mp nds.2.2.2).1 hnm (show A.depth + 1 < _ by omega) hh (S1.at 0 rfl) hA (S1.at 1 rfl) nds.2.1.2.1 nds.2.2.1.1 (hp.on fun b its x => tup_keeps x (kp b)) (by simp [rowT]; omega) hsz fun h2 g2 t2 tk mt2 hT2 hmu2 nd2 hsub2 k2 hgb2 => ?_
      have C2 : Cx w h2 := C.keeps fun b o e => k2 b o (fun hm => by rw [hnm b hm] at e; cases e) (S1.keep b o e)
      refine spliced_none ⟨C2, ?_⟩
      refine nag_make C2 hroom hh fun h3 t3 x dx t0 es n k3 hx0 hdx0 hx hdx e1 e2 e3 => ?_
      refine wpAny_bind (wpAny_standAt (wpAny_pure ⟨x, t0, dx, rfl, C2.keeps k3, hx, ?_⟩))
      refine hE hlt h1 h3 g2 t3 x dx t0 S1 kp ⟨fun b y nb e => k3 _ _ (k2 b y nb e), (fun b y nb e => ⟨fun q => (by subst q; have := k2 _ _ nb e; rw [hx0] at this; cases this), fun q => (by subst q; have := k2 _ _ nb e; rw [hdx0] at this; cases this)⟩), hx, ⟨es, n, _, _, _, hdx, e1, e2, e3⟩, mt2, hT2, fun p hp => k3 _ _ (hmu2 p hp), nd2, hsub2⟩ hgb2
    · rename_i hlt
      have hlt : wish ≤ ((rows.map (·.1)).filter (0 < ·)).length := by
        have h1 : ¬ ((wish : Nat) : Int) > ((ys.length : Nat) : Int) := by simpa using hlt
        omega
      exact xNil (hQ hlt h1 _ S1 kp)
end
end Mine
set_option maxHeartbeats 400000
namespace Mine
theorem getD_set (l : List (List Nat)) (i j : Nat) (v : List Nat) (hi : i < l.length) : (l.set i v).getD j [] = if j = i then v else l.getD j [] := by
  rw [List.getD_eq_getElem?_getD, List.getElem?_set]
  by_cases h : i = j
  · subst h; simp [hi]
  · have h' : ¬ j = i := fun e => h e.symm
    simp [h, h', List.getD_eq_getElem?_getD]
theorem shake_get {bs : List (List Nat)} {g k : Nat} (hg : g < bs.length) (hk : k < bs.length) (ne : g ≠ k) (j : Nat) :
    (shake g bs k).getD j [] = if j = g then bs.getD g [] ++ [k] else if j = k then bs.getD k [] ++ [g] else bs.getD j [] := by
  unfold shake addKey
  rw [getD_set _ _ _ _ (by simpa using hk), getD_set _ _ _ _ hg, getD_set _ _ _ _ hg]
  by_cases h1 : j = k
  · subst h1
    have h2 : ¬ j = g := fun e => ne e.symm
    simp [h2]
  · simp [h1]
theorem shakes_get {g : Nat} : ∀ (ks : List Nat) (bs : List (List Nat)), g < bs.length → (∀ k ∈ ks, k < bs.length) → ks.Nodup → g ∉ ks → ∀ j,
    (ks.foldl (shake g) bs).getD j [] = if j = g then bs.getD g [] ++ ks else if j ∈ ks then bs.getD j [] ++ [g] else bs.getD j []
  | [], bs, _, _, _, _, j => by
    by_cases h : j = g
    · subst h; simp
    · simp [h]
  | k :: ks, bs, hg, hk, nd, hn, j => by
    have nd' := List.nodup_cons.mp nd
    have ne : g ≠ k := fun e => hn (e ▸ .head _)
    have hkl := hk k (.head _)
    rw [List.foldl_cons, shakes_get ks (shake g bs k) (by rw [shake_len]; exact hg) (fun x hx => by rw [shake_len]; exact hk x (.tail _ hx)) nd'.2 (fun hm => hn (.tail _ hm)) j]
    rw [shake_get hg hkl ne, shake_get hg hkl ne]
    by_cases h1 : j = g
    · subst h1; simp
    · simp only [upd, h1, if_false, if_true]
      by_cases h2 : j = k
      · subst h2
        have : j ∉ ks := nd'.1
        simp [this]
      · by_cases h3 : j ∈ ks
        · simp [h2, h3]
        · simp [h2, h3]
/-- what holds of line and books between the turns -/
structure Inv (wishes : List Nat) (due : Bool) (line : List (Nat × Nat)) (bs : List (List Nat)) : Prop where
  six : bs.length = 6
  nd : (line.map (·.2)).Nodup
  lim : ∀ r ∈ line, r.1 ≤ 5 ∧ r.2 < 6
  can : canBe (leftsI line) = due
  cin : ∀ r ∈ line, (bs.getD r.2 []).length + r.1 = wishes.getD r.2 0
  cout : ∀ k, k < 6 → k ∉ line.map (·.2) → (bs.getD k []).length = wishes.getD k 0
  bnd : ∀ k, k < 6 → (bs.getD k []).Nodup ∧ ∀ j ∈ bs.getD k [], j < 6 ∧ j ≠ k
  sym : ∀ j k, j < 6 → k < 6 → j ∈ bs.getD k [] → k ∈ bs.getD j []
  apart : ∀ j k, j ∈ line.map (·.2) → k ∈ line.map (·.2) → j ∉ bs.getD k []
theorem nodup_le : ∀ (n : Nat) {l : List Nat}, l.Nodup → (∀ x ∈ l, x < n) → l.length ≤ n
  | 0, l, _, h => by
    cases l with
    | nil => exact Nat.le_refl _
    | cons x r => exact absurd (h x (.head _)) (Nat.not_lt_zero _)
  | n + 1, l, nd, h => by
    have h1 : (l.erase n).length ≤ n := nodup_le n (nd.erase n) fun x hx => by
      have h2 := (nd.mem_erase_iff).mp hx
      have := h x h2.2
      have := h2.1
      omega
    have h2 := List.length_erase (l := l) (a := n)
    split at h2 <;> omega
theorem nodup_le6 {l : List Nat} (nd : l.Nodup) (h : ∀ x ∈ l, x < 6) : l.length ≤ 6 := nodup_le 6 nd h
theorem Inv.len (x : Inv w due line bs) : line.length ≤ 6 := by
  have := nodup_le6 x.nd fun k hk => by
    obtain ⟨r, hr, rfl⟩ := List.mem_map.mp hk
    exact (x.lim r hr).2
  simpa using this
theorem Inv.good {wishes : List Nat} {due : Bool} {line : List (Nat × Nat)} {bs : List (List Nat)} (x : Inv wishes due line bs) {g : Nat} (hg : g ∈ line.map (·.2)) {ks : List Nat} (nd : ks.Nodup) (hn : g ∉ ks) (hk : ∀ k ∈ ks, k ∈ line.map (·.2)) {j k : Nat} (hj : ks[j]? = some k) :
    Good ((ks.take j).foldl (shake g) bs) g k := by
  have lt : ∀ k ∈ line.map (·.2), k < 6 := fun k hk => by
    obtain ⟨r, hr, rfl⟩ := List.mem_map.mp hk
    exact (x.lim r hr).2
  have hg6 := lt g hg
  have hkm : k ∈ ks := List.mem_of_getElem? hj
  have hk6 := lt k (hk k hkm)
  have ne : g ≠ k := fun e => hn (e ▸ hkm)
  have tk : ∀ y ∈ ks.take j, y ∈ ks := fun y hy => List.mem_of_mem_take hy
  have hknt : k ∉ ks.take j := by
    intro hm
    obtain ⟨i, hi⟩ := List.mem_iff_getElem?.mp hm
    have hij : i < j := by
      have := (List.getElem?_eq_some_iff.mp hi).1
      simp at this; omega
    rw [List.getElem?_take_of_lt hij] at hi
    have := (List.getElem?_inj (List.getElem?_eq_some_iff.mp hi).1 nd).mp (hi.trans hj.symm)
    omega
  have ndt : (ks.take j).Nodup := nd.sublist (List.take_sublist _ _)
  have get := shakes_get (g := g) (ks.take j) bs (by rw [x.six]; exact hg6) (fun y hy => by rw [x.six]; exact lt y (hk y (tk y hy))) ndt fun hm => hn (tk _ hm)
  have e1 : ((ks.take j).foldl (shake g) bs).getD g [] = bs.getD g [] ++ ks.take j := by rw [get]; simp
  have e2 : ((ks.take j).foldl (shake g) bs).getD k [] = bs.getD k [] := by
    rw [get, if_neg (fun e => ne e.symm), if_neg hknt]
  have n1 : (bs.getD g [] ++ ks.take j).Nodup := by
    refine List.nodup_append.mpr ⟨(x.bnd g hg6).1, ndt, fun a ha b hb e => ?_⟩
    subst e
    exact x.apart a g (hk a (tk a hb)) hg ha
  refine ⟨by rw [shakes_len, x.six]; exact hg6, by rw [shakes_len, x.six]; exact hk6, ne, by rw [e1]; exact n1, ?_, by rw [e2]; exact (x.bnd k hk6).1, ?_, ?_, ?_⟩
  · rw [e1]
    intro hm
    rcases List.mem_append.mp hm with q | q
    · exact x.apart k g (hk k hkm) hg q
    · exact hknt q
  · rw [e2]
    exact x.apart g k hg (hk k hkm)
  · rw [e1]
    have := nodup_le6 n1 fun y hy => by
      rcases List.mem_append.mp hy with q | q
      · exact ((x.bnd g hg6).2 y q).1
      · exact lt y (hk y (tk y q))
    omega
  · rw [e2]
    have := nodup_le6 (x.bnd k hk6).1 fun y hy => ((x.bnd k hk6).2 y hy).1
    omega
theorem srt_lefts {way : Int} {rows : List (Nat × Nat)} (h : Srt way rows) : (rows.map (·.1)).Pairwise (· ≤ ·) := by
  have h : (rows.map (keyR way)).Pairwise fun a b => klt a b = true := h
  rw [List.pairwise_map] at h ⊢
  refine h.imp fun {a b} hab => ?_
  rw [klt_iff] at hab
  unfold keyR at hab
  simp only at hab
  omega
theorem pos_tail {l : List Nat} (hs : l.Pairwise (· ≤ ·)) {w : Nat} (hp : w ≤ (l.filter (0 < ·)).length) : ∀ x ∈ l.drop (l.length - w), 0 < x := by
  intro x hx
  obtain ⟨j, hj⟩ := List.mem_iff_getElem?.mp hx
  rw [List.getElem?_drop] at hj
  generalize hi : l.length - w + j = i at hj
  obtain ⟨hil, hie⟩ := List.getElem?_eq_some_iff.mp hj
  refine Classical.byContradiction fun h0 => ?_
  have hx0 : l[i] = 0 := by omega
  have hall : ∀ y ∈ l.take (i + 1), y = 0 := by
    intro y hy
    obtain ⟨k, hk⟩ := List.mem_iff_getElem?.mp hy
    have hkl := (List.getElem?_eq_some_iff.mp hk).1
    rw [List.length_take] at hkl
    rw [List.getElem?_take_of_lt (by omega)] at hk
    obtain ⟨hkl2, hke⟩ := List.getElem?_eq_some_iff.mp hk
    rcases Nat.lt_or_ge k i with q | q
    · have := List.pairwise_iff_getElem.mp hs k i hkl2 hil q
      omega
    · have : k = i := by omega
      subst this; omega
  have hf : (l.take (i + 1)).filter (0 < ·) = [] := by
    rw [List.filter_eq_nil_iff]
    intro y hy
    have := hall y hy
    simp; omega
  have e : l.filter (0 < ·) = (l.take (i + 1)).filter (0 < ·) ++ (l.drop (i + 1)).filter (0 < ·) := by
    rw [← List.filter_append, List.take_append_drop]
  rw [e, hf, List.nil_append] at hp
  have := List.length_filter_le (fun x => decide (0 < x)) (l.drop (i + 1))
  rw [List.length_drop] at this
  omega
theorem Inv.rows {wishes : List Nat} {due : Bool} {line : List (Nat × Nat)} {bs : List (List Nat)} (x : Inv wishes due line bs) {way : Int} (hw : way = 1 ∨ way = -1) {p : Nat} {r : Nat × Nat} (hp : line[p]? = some r) :
    Srt way ((line.eraseIdx p).foldl (insR way) []) ∧ ((line.eraseIdx p).foldl (insR way) []).Perm (line.eraseIdx p) ∧ (r :: line.eraseIdx p).Perm line ∧ (line.eraseIdx p).Nodup := by
  obtain ⟨hl, he⟩ := List.getElem?_eq_some_iff.mp hp
  have pm : (r :: line.eraseIdx p).Perm line := by
    rw [List.eraseIdx_eq_take_drop_succ]
    refine List.perm_middle.symm.trans ?_
    rw [← he, ← List.drop_eq_getElem_cons hl, List.take_append_drop]
  have ndl : line.Nodup := by
    have := x.nd
    rw [List.Nodup, List.pairwise_map] at this
    exact this.imp fun h e => h (by rw [e])
  have nd2 : (line.eraseIdx p).Nodup := (List.nodup_cons.mp (pm.nodup_iff.mpr ndl)).2
  obtain ⟨a, b⟩ := fold_ins hw (line.eraseIdx p) [] (by simpa using nd2) (by simp [Srt])
  rw [List.append_nil] at b
  exact ⟨a, b, pm, nd2⟩
theorem Inv.step {wishes : List Nat} {due : Bool} {line : List (Nat × Nat)} {bs : List (List Nat)} (x : Inv wishes due line bs) {way : Int} (hw : way = 1 ∨ way = -1) {p : Nat} {r : Nat × Nat} (hp : line[p]? = some r) {rows : List (Nat × Nat)} (hrows : (line.eraseIdx p).foldl (insR way) [] = rows)
    (hpos : r.1 ≤ ((rows.map (·.1)).filter (0 < ·)).length) :
    Inv wishes due (rows.take (rows.length - r.1) ++ (rows.drop (rows.length - r.1)).map dec1) (((rows.drop (rows.length - r.1)).map (·.2)).foldl (shake r.2) bs) := by
  obtain ⟨hs, hperm, hpl, hnd⟩ := x.rows hw hp
  rw [hrows] at hs hperm
  have pl : (r :: rows).Perm line := (hperm.cons r).trans hpl
  have pn : (r.2 :: rows.map (·.2)).Perm (line.map (·.2)) := pl.map (fun q : Nat × Nat => q.2)
  have nd1 := List.nodup_cons.mp (pn.nodup_iff.mpr x.nd)
  have mem : ∀ q ∈ rows, q ∈ line := fun q hq => pl.subset (.tail _ hq)
  have memn : ∀ k ∈ rows.map (·.2), k ∈ line.map (·.2) := fun k hk => pn.subset (.tail _ hk)
  have hr := x.lim r (pl.subset (.head _))
  have hgm : r.2 ∈ line.map (·.2) := pn.subset (.head _)
  have hlen : rows.length ≤ 5 := by
    have h1 := pl.length_eq
    have h2 := x.len
    simp only [List.length_cons] at h1
    omega
  have hsl := srt_lefts hs
  have htail := pos_tail hsl hpos
  rw [List.length_map, ← List.map_drop] at htail
  generalize hi : rows.length - r.1 = i at htail ⊢
  have hwl : r.1 ≤ rows.length := by
    have := List.length_filter_le (fun x => decide (0 < x)) (rows.map (·.1))
    rw [List.length_map] at this
    omega
  -- the hands' names
  have hks : ∀ k ∈ (rows.drop i).map (·.2), k ∈ rows.map (·.2) := fun k hk => by
    rw [List.map_drop] at hk
    exact List.mem_of_mem_drop hk
  have ndk : ((rows.drop i).map (·.2)).Nodup := by
    rw [List.map_drop]
    exact nd1.2.sublist (List.drop_sublist _ _)
  have hgk : r.2 ∉ (rows.drop i).map (·.2) := fun hm => nd1.1 (hks _ hm)
  have lt : ∀ k ∈ line.map (·.2), k < 6 := fun k hk => by
    obtain ⟨q, hq, rfl⟩ := List.mem_map.mp hk
    exact (x.lim q hq).2
  have get := shakes_get (g := r.2) ((rows.drop i).map (·.2)) bs (by rw [x.six]; exact hr.2) (fun y hy => by rw [x.six]; exact lt y (memn y (hks y hy))) ndk hgk
  generalize hB : ((rows.drop i).map (·.2)).foldl (shake r.2) bs = B at get ⊢
  have hlk : ((rows.drop i).map (·.2)).length = r.1 := by
    rw [List.length_map, List.length_drop]; omega
  have names : ((rows.take i ++ (rows.drop i).map dec1).map (·.2)) = rows.map (·.2) := by
    rw [List.map_append, List.map_map]
    have : (rows.drop i).map ((fun q => q.2) ∘ dec1) = (rows.drop i).map (·.2) := List.map_congr_left fun q _ => rfl
    rw [this, ← List.map_append, List.take_append_drop]
  have notk : ∀ q ∈ rows.take i, q.2 ∉ (rows.drop i).map (·.2) := by
    intro q hq hm
    have h1 : ((rows.take i).map (·.2) ++ (rows.drop i).map (·.2)).Nodup := by
      rw [← List.map_append, List.take_append_drop]; exact nd1.2
    exact (List.nodup_append.mp h1).2.2 _ (List.mem_map_of_mem hq) _ hm rfl
  have gne : ∀ q ∈ rows, q.2 ≠ r.2 := fun q hq e => nd1.1 (e ▸ List.mem_map_of_mem hq)
  refine ⟨?_, ?_, ?_, ?_, ?_, ?_, ?_, ?_, ?_⟩
  · rw [← hB, shakes_len, x.six]
  · rw [names]; exact nd1.2
  · intro q hq
    rcases List.mem_append.mp hq with hq | hq
    · exact x.lim q (mem q (List.mem_of_mem_take hq))
    · obtain ⟨q', hq', rfl⟩ := List.mem_map.mp hq
      have := x.lim q' (mem q' (List.mem_of_mem_drop hq'))
      exact ⟨by show q'.1 - 1 ≤ 5; omega, this.2⟩
  · have h1 := kw_step hsl (fun y hy => by obtain ⟨q, hq, rfl⟩ := List.mem_map.mp hy; exact (x.lim q (mem q hq)).1) (by simpa using hlen) hr.1 hpos
    have e : leftsI (rows.take i ++ (rows.drop i).map dec1) = (List.take ((rows.map fun q : Nat × Nat => q.1).length - r.1) (rows.map fun q : Nat × Nat => q.1) ++ (List.drop ((rows.map fun q : Nat × Nat => q.1).length - r.1) (rows.map fun q : Nat × Nat => q.1)).map (· - 1)).map Int.ofNat := by
      unfold leftsI
      rw [List.length_map, hi, List.map_append, List.map_map, List.map_take, ← List.map_drop, List.map_map]
      rfl
    rw [e, h1, ← x.can]
    exact canBe_perm (pl.map (fun q : Nat × Nat => q.1))
  · intro q hq
    rcases List.mem_append.mp hq with hq | hq
    · have hqr := List.mem_of_mem_take hq
      rw [get, if_neg (gne q hqr), if_neg (notk q hq)]
      exact x.cin q (mem q hqr)
    · obtain ⟨q', hq', rfl⟩ := List.mem_map.mp hq
      have hqr := List.mem_of_mem_drop hq'
      have hpq := htail q'.1 (List.mem_map_of_mem hq')
      show (B.getD q'.2 []).length + (q'.1 - 1) = wishes.getD q'.2 0
      rw [get, if_neg (gne q' hqr), if_pos (List.mem_map_of_mem hq'), List.length_append, List.length_singleton]
      have := x.cin q' (mem q' hqr)
      omega
  · intro k hk hn
    rw [names] at hn
    rw [get]
    by_cases hkg : k = r.2
    · subst hkg
      rw [if_pos rfl, List.length_append, hlk]
      exact x.cin r (pl.subset (.head _))
    · rw [if_neg hkg, if_neg (fun hm => hn (hks k hm))]
      exact x.cout k hk fun hm => by
        rcases List.mem_cons.mp (pn.symm.subset hm) with e | e
        · exact hkg e
        · exact hn e
  · intro k hk
    rw [get]
    by_cases hkg : k = r.2
    · subst hkg
      rw [if_pos rfl]
      refine ⟨List.nodup_append.mpr ⟨(x.bnd _ hk).1, ndk, fun a ha b hb e => ?_⟩, fun j hj => ?_⟩
      · subst e
        exact x.apart a r.2 (memn a (hks a hb)) hgm ha
      · rcases List.mem_append.mp hj with q | q
        · exact (x.bnd _ hk).2 j q
        · exact ⟨lt j (memn j (hks j q)), fun e => hgk (e ▸ q)⟩
    · rw [if_neg hkg]
      by_cases hkk : k ∈ (rows.drop i).map (·.2)
      · rw [if_pos hkk]
        refine ⟨List.nodup_append.mpr ⟨(x.bnd k hk).1, by simp, fun a ha b hb e => ?_⟩, fun j hj => ?_⟩
        · simp only [List.mem_singleton] at hb
          subst hb e
          exact x.apart r.2 k hgm (memn k (hks k hkk)) ha
        · rcases List.mem_append.mp hj with q | q
          · exact (x.bnd k hk).2 j q
          · simp only [List.mem_singleton] at q
            subst q
            exact ⟨hr.2, fun e => hkg e.symm⟩
      · rw [if_neg hkk]
        exact x.bnd k hk
  · intro j k hj hk hm
    have up : ∀ j, ∀ y ∈ bs.getD j [], y ∈ B.getD j [] := by
      intro j y hy
      rw [get]
      by_cases h1 : j = r.2
      · subst h1; rw [if_pos rfl]; exact List.mem_append_left _ hy
      · rw [if_neg h1]
        by_cases h2 : j ∈ (rows.drop i).map (·.2)
        · rw [if_pos h2]; exact List.mem_append_left _ hy
        · rw [if_neg h2]; exact hy
    rw [get] at hm
    by_cases hkg : k = r.2
    · subst hkg
      rw [if_pos rfl] at hm
      rcases List.mem_append.mp hm with q | q
      · exact up j _ (x.sym j _ hj hk q)
      · have hne : ¬ j = r.2 := fun e => hgk (by rw [← e]; exact q)
        rw [get, if_neg hne, if_pos q]
        exact List.mem_append_right _ (.head _)
    · rw [if_neg hkg] at hm
      by_cases hkk : k ∈ (rows.drop i).map (·.2)
      · rw [if_pos hkk] at hm
        rcases List.mem_append.mp hm with q | q
        · exact up j _ (x.sym j k hj hk q)
        · simp only [List.mem_singleton] at q
          subst q
          rw [get, if_pos rfl]
          exact List.mem_append_right _ hkk
      · rw [if_neg hkk] at hm
        exact up j _ (x.sym j k hj hk hm)
  · intro j k hj hk hm
    rw [names] at hj hk
    have hjg : j ≠ r.2 := fun e => nd1.1 (by rw [← e]; exact hj)
    have hkg : k ≠ r.2 := fun e => nd1.1 (by rw [← e]; exact hk)
    rw [get, if_neg hkg] at hm
    by_cases hkk : k ∈ (rows.drop i).map (·.2)
    · rw [if_pos hkk] at hm
      rcases List.mem_append.mp hm with q | q
      · exact x.apart j k (memn j hj) (memn k hk) q
      · simp only [List.mem_singleton] at q
        exact hjg q
    · rw [if_neg hkk] at hm
      exact x.apart j k (memn j hj) (memn k hk) hm
end Mine
set_option maxHeartbeats 400000
namespace Mine
section
variable {w : World} {A : Around} {E : Value → Shared → Prop} {h h' h₀ H hB : Heap} {ex : List Addr} {g : Array GenState} {d : Drawn} {t : Nat} {os : OsState} {env : Env} {m m' : Str → Option Value} {mu mu' mt : List (Addr × Obj)} {L x a dl D : Addr} {rows oth line : List (Nat × Nat)} {way : Int} {due : Bool} {bs : List (List Nat)} {ord : Nat} {wishes : List Nat}
theorem permC {α : Type} {l l' : List α} (h : ∀ (g : α → Nat) (c : List α → Nat), c [] = 0 → (∀ a r, c (a :: r) = g a + c r) → (∀ r s, c (r ++ s) = c r + c s) → c l = c l') : l.Perm l' := by
  classical
  refine List.perm_iff_count.mpr fun a => h (fun x => if (x == a) = true then 1 else 0) (fun l => l.count a) rfl (fun x r => ?_) (fun r s => List.count_append)
  rw [List.count_cons, Nat.add_comm]
/-- the state ahead of a turn -/
structure TurnSt (w : World) (h₀ : Heap) (L a dl D : Addr) (way : Int) (due : Bool) (line : List (Nat × Nat)) (bs : List (List Nat)) (ord : Nat) (h H : Heap) (ex : List Addr) (m : Str → Option Value) : Prop where
  all : X18 fun o od oD x dx hs tk T T1 T2 n oc tw mtA mtB its kvs to => A15 (St h₀ H ex L h m ((a, o) :: (dl, od) :: (D, oD) :: (x, instObj 166 dx) :: (dx, compD hs tk T n) :: (L + 1, oc) :: (mtA ++ mtB))) (AccO dl its o) (AccE od) (oD.IsDictOf (strKind pg w) kvs) (Bs w H ex kvs bs) (CompT h T T1 T2 way) (oc.data = .cell (some (.int way tw))) (TabL 305 keyQ 193 78 mtA) (TabL 107 strQ 43 32 mtB) (PairsAt h its (rowT line)) (m "line" = some (.ref a)) (m "books" = some (.ref D)) (m "comp" = some (.ref x)) (m "due" = some (.bool due)) (m "order" = some (.int (ord : Nat) to))
/-- what the nag tells -/
structure Tells (due : Bool) (wish gk : Nat) (rows : List (Nat × Nat)) : Prop where
  k6 : gk < 6
  r : ∀ r ∈ rows, r.1 ≤ 5 ∧ r.2 < 6 ∧ r.2 ≠ gk
  z : rows.length ≤ 5
  h1 : ((rows.map (·.1)).filter (0 < ·)).length < wish
  h2 : canBe ((rows.map (·.1) ++ [wish]).map Int.ofNat) = false
  due : due = false
theorem Inv.tells (x : Inv wishes due line bs) (hw : way = 1 ∨ way = -1) {p : Nat} {r : Nat × Nat} (hp : line[p]? = some r) (hrows : (line.eraseIdx p).foldl (insR way) [] = rows) (hlt : ((rows.map (·.1)).filter (0 < ·)).length < r.1) : Tells due r.1 r.2 rows := by
  obtain ⟨hs, hperm, hpl, hnd⟩ := x.rows hw hp
  rw [hrows] at hs hperm
  have pl : (r :: rows).Perm line := (hperm.cons r).trans hpl
  have pn : (r.2 :: rows.map (·.2)).Perm (line.map (·.2)) := pl.map (fun q : Nat × Nat => q.2)
  have nd1 := List.nodup_cons.mp (pn.nodup_iff.mpr x.nd)
  have hr := x.lim r (pl.subset (.head _))
  have hlen : rows.length ≤ 5 := by
    have h1 := pl.length_eq
    have h2 := x.len
    simp only [List.length_cons] at h1
    omega
  have h5 : ∀ y ∈ rows.map (·.1), y ≤ 5 := fun y hy => by obtain ⟨q, hq, rfl⟩ := List.mem_map.mp hy; exact (x.lim q (pl.subset (.tail _ hq))).1
  have hnag := kw_nag (srt_lefts hs) h5 (by simpa using hlen) hr.1 hlt
  refine ⟨hr.2, fun q hq => ?_, hlen, hlt, ?_, ?_⟩
  · have := x.lim q (pl.subset (.tail _ hq))
    exact ⟨this.1, this.2, fun e => nd1.1 (by rw [← e]; exact List.mem_map_of_mem hq)⟩
  · rw [← hnag]
    exact canBe_perm (List.perm_append_comm (l₁ := rows.map (·.1)) (l₂ := [r.1]))
  · rw [← x.can, ← hnag]
    exact canBe_perm (pl.symm.map (fun q : Nat × Nat => q.1))
theorem turn {Q : Flow → Shared → Prop} (C : Cx w h₀) (MB : BmAt h₀) (hroom : A.depth + 2 < recursionLimit) (hh : A.handled = none) (hu : A.units + 64 < cLine) (hw : way = 1 ∨ way = -1)
    (hS : TurnSt w h₀ L a dl D way due line bs ord h H ex m) (hI : Inv wishes due line bs) (hpos : 0 < line.length) (hord : ord ≤ 1000)
    (hQ : ∀ h' H' ex' m' t' line' bs' ord', TurnSt w h₀ L a dl D way due line' bs' ord' h' H' ex' m' → Inv wishes due line' bs' → line'.length + 1 = line.length → ord' ≤ 1000 → Q .next ⟨h', g, d, t', os⟩)
    (hE : ∀ h1 H1 ex1 m1 mu1 mtA mtB h' g' t' e dx t0 wish gk rows, St h₀ H1 ex1 L h1 m1 (mtA ++ (mtB ++ mu1)) → TabL 305 keyQ 193 78 mtA → TabL 107 strQ 43 32 mtB → NagAt h1 mtB wish gk rows e dx t0 h' → Tells due wish gk rows → (AllBare g → AllBare g') → E (.ref e) ⟨h', g', d, t', os⟩) :
    wpAny (Md w) A (execs turnB (lofE L)) Q E ⟨h, g, d, t, os⟩ := by
  obtain ⟨o, od, oD, x, dx, hs, tk, T, T1, T2, n, oc, tw, mtA, mtB, its, kvs, to, S, hA, hEd, hD, hB, hC, hoc, hTA, hTB, hp, ml, mb, mc, md, mo⟩ := hS.all
  have hlen6 := hI.len
  have hlenp := hp.len
  refine take_out C (by omega) hh S hA hEd ml mo hord hp hlen6 hpos hI.lim fun h1 H1 ex1 t1 o1 RL OL k0 ko m1 r sg1 S1 hA1 sm1 tup1 mo1 mr1 mord1 hr mw1 mg1 hp1 => ?_
  obtain ⟨hs1, hperm1, hpl1, hnd1⟩ := hI.rows hw hr
  have hl1 : (line.eraseIdx (ord % line.length)).length + 1 = line.length := by
    have := hpl1.length_eq
    simpa using this
  have hlim1 : ∀ q ∈ line.eraseIdx (ord % line.length), q.1 ≤ 5 ∧ q.2 < 6 := fun q hq => hI.lim q (hpl1.subset (.tail _ hq))
  have hB1 := hB.on (fun b o n e => (sg1.keep b o e n).1) (fun b o e n => (sg1.keep b o e n).2)
  have S1' : St h₀ H1 ex1 L h1 m1 ((RL, LstP [] k0) :: (OL, LstP (its.eraseIdx (ord % line.length)) ko) :: (x, instObj 166 dx) :: (dx, compD hs tk T n) :: ((a, o1) :: (dl, od) :: (D, oD) :: (L + 1, oc) :: (mtA ++ mtB))) := by
    refine S1.perm (permC fun gg cn c0 cc ca => ?_)
    simp only [cc, ca, c0]; omega
  generalize its.eraseIdx (ord % line.length) = ov at hp1 S1 S1'
  generalize hoth : line.eraseIdx (ord % line.length) = oth at *
  refine ins_loop C (by omega) hh hw S1' mr1 mo1 (sm1.get mc) hp1 (hC.on tup1) (by omega) (fun q hq => (hlim1 q hq).1) fun h2 H2 ex2 m2 t2 rv k2 sg2 S2 sm2 hr2 hp2 hC2 => ?_
  have hB2 := hB1.on (fun b o n e => (sg2.keep b o e n).1) (fun b o e n => (sg2.keep b o e n).2)
  have S2' : St h₀ H2 ex2 L h2 m2 (mtA ++ ((RL, LstP rv k2) :: (OL, LstP ov ko) :: (x, instObj 166 dx) :: (dx, compD hs tk T n) :: (a, o1) :: (dl, od) :: (D, oD) :: (L + 1, oc) :: mtB)) := by
    refine S2.perm (permC fun gg cn c0 cc ca => ?_)
    simp only [cc, ca, c0]; omega
  refine sort_check (cW := L + 1) C MB (by omega) hh hu hw rfl S2' hTA (.head _) (.tail _ (.head _)) (.tail _ (.tail _ (.tail _ (.tail _ (.tail _ (.tail _ (.tail _ (.head _)))))))) hoc (sm2.get mr1) (sm2.get mo1) hp2 hr2 (by omega) hlim1 hnd1 fun h3 H3 ex3 mtA3 t3 sg3 tup3 S3 hTA3 => ?_
  have hB3 := hB2.on (fun b o n e => (sg3.keep b o e n).1) (fun b o e n => (sg3.keep b o e n).2)
  have hr3 := hr2.on tup3
  have hC3 := hC2.on tup3
  generalize hrows : oth.foldl (insR way) [] = rows at *
  have hl2 : rows.length = oth.length := hperm1.length_eq
  have hlim2 : ∀ q ∈ rows, q.1 ≤ 5 ∧ q.2 < 6 := fun q hq => hlim1 q (hperm1.subset hq)
  have S3' : St h₀ H3 ex3 L h3 m2 ((a, o1) :: (dl, od) :: ((RL, LstP rv k2) :: (OL, LstP ov ko) :: (x, instObj 166 dx) :: (dx, compD hs tk T n) :: (D, oD) :: (L + 1, oc) :: (mtA3 ++ mtB))) := by
    refine S3.perm (permC fun gg cn c0 cc ca => ?_)
    simp only [cc, ca, c0]; omega
  refine reset_step C (by omega) hh S3' hA1 hEd (.head _) (sm2.get mr1) (sm2.get (sm1.get ml)) hr3 (by omega) (fun q hq => (hlim2 q hq).1) (by simp) fun h4 H4 ex4 t4 o4 od4 nv sg4 tup4 S4 hA4 hE4 hp4 => ?_
  have hB4 := hB3.on (fun b o n e => (sg4.keep b o e n).1) (fun b o e n => (sg4.keep b o e n).2)
  have hr4 := hr3.on tup4
  have hC4 := hC3.on tup4
  have S4' : St h₀ H4 ex4 L h4 m2 ((a, o4) :: (dl, od4) :: (mtB ++ ((RL, LstP rv k2) :: (OL, LstP ov ko) :: (x, instObj 166 dx) :: (dx, compD hs tk T n) :: (D, oD) :: (L + 1, oc) :: mtA3))) := by
    refine S4.perm (permC fun gg cn c0 cc ca => ?_)
    simp only [cc, ca, c0]; omega
  obtain ⟨tw1, mw1⟩ := mw1
  obtain ⟨tg1, mg1⟩ := mg1
  obtain ⟨tord, mord1⟩ := mord1
  refine nag_step C MB hroom hh hu S4' hA4 hTB (.head _) (sm2.get mr1) (sm2.get (sm1.get ml)) (sm2.get mg1) (sm2.get mw1) hr4 hp4 (by omega) hlim2 (fun hle h5 t5 S5 k5 => ?_) (fun hlt h5 h6 g6 t6 e dx' t0 S5 k5 hN hgb => ?_)
  · obtain ⟨tmw, mw5⟩ : ∃ tm, m2 (Str.ofString "wish") = some (.int (r.1 : Nat) tm) := ⟨tw1, sm2.get mw1⟩
    have hwl : r.1 ≤ rows.length := by
      have := List.length_filter_le (fun x => decide (0 < x)) (rows.map (·.1))
      rw [List.length_map] at this
      omega
    have S5' : St h₀ H4 ex4 L h5 m2 ((a, o4) :: (dl, od4) :: (D, oD) :: ((RL, LstP rv k2) :: (OL, LstP ov ko) :: (x, instObj 166 dx) :: (dx, compD hs tk T n) :: (L + 1, oc) :: (mtA3 ++ mtB))) := by
      refine S5.perm (permC fun gg cn c0 cc ca => ?_)
      simp only [cc, ca, c0]; omega
    have hstep := hI.step hw hr (by rw [hoth, hrows]) hle
    have pl : (r :: rows).Perm line := (hperm1.cons r).trans hpl1
    have pn : (r.2 :: rows.map (·.2)).Perm (line.map (·.2)) := pl.map (fun q : Nat × Nat => q.2)
    have nd1 := List.nodup_cons.mp (pn.nodup_iff.mpr hI.nd)
    have hgood : ∀ j q, (rows.drop (rows.length - r.1))[j]? = some q → Good ((((rows.drop (rows.length - r.1)).take j).map (·.2)).foldl (shake r.2) bs) r.2 q.2 := by
      intro j q hq
      rw [List.map_take]
      have hsub : ∀ k ∈ (rows.drop (rows.length - r.1)).map (·.2), k ∈ rows.map (·.2) := fun k hk => by
        rw [List.map_drop] at hk
        exact List.mem_of_mem_drop hk
      refine hI.good (pn.subset (.head _)) ?_ (fun hm => nd1.1 (hsub _ hm)) (fun k hk => pn.subset (.tail _ (hsub k hk))) (by rw [List.getElem?_map, hq]; rfl)
      rw [List.map_drop]
      exact nd1.2.sublist (List.drop_sublist _ _)
    refine hands C (by omega) hh S5' hA4 hE4 hD hB4 (.head _) (sm2.get mr1) (sm2.get (sm1.get ml)) (sm2.get (sm1.get mb)) (sm2.get mg1) mw5 hr4.1 (hp4.on fun b its x => tup_keeps x (k5 b)) (by omega) (fun q hq => (hlim2 q hq).1) hwl (by rw [hI.six]; decide) hgood fun h7 H7 ex7 m7 t7 o7 oD7 kvs7 nv7 sg7 tup7 S7 sm7 hA7 hD7 hB7 hp7 => ?_
    have hC7 := (hC4.on fun b its x => tup_keeps x (k5 b))
    have hl7 : (rows.take (rows.length - r.1) ++ (rows.drop (rows.length - r.1)).map dec1).length = rows.length := by
      rw [List.length_append, List.length_map, ← List.length_append, List.take_append_drop]
    refine still C (by omega) hh S7 hA7 (sm7.get (sm2.get (sm1.get ml))) (sm7.get (sm2.get (sm1.get md))) hp7 (by omega) (fun q hq => (hstep.lim q hq).1) hstep.can fun h8 t8 S8 tup8 => ?_
    refine hQ h8 H7 ex7 m7 t8 _ _ (ord / line.length) ⟨o7, od4, oD7, x, dx, hs, tk, T, T1, T2, n, oc, tw, mtA3, mtB, nv7, kvs7, tord, ?_, hA7, hE4, hD7, hB7, ?_, hoc, hTA3, hTB, hp7.on tup8, sm7.get (sm2.get (sm1.get ml)), sm7.get (sm2.get (sm1.get mb)), sm7.get (sm2.get (sm1.get mc)), sm7.get (sm2.get (sm1.get md)), sm7.get (sm2.get mord1)⟩ hstep ?_ ?_
    · exact S8.sub (.cons_cons _ (.cons_cons _ (.cons_cons _ (.cons _ (.cons _ (.refl _))))))
    · exact (hC7.on tup7).on tup8
    · omega
    · exact Nat.le_trans (Nat.div_le_self _ _) hord
  · refine hE h5 H4 ex4 m2 ((a, o4) :: (dl, od4) :: (RL, LstP rv k2) :: (OL, LstP ov ko) :: (x, instObj 166 dx) :: (dx, compD hs tk T n) :: (D, oD) :: [(L + 1, oc)]) mtA3 mtB h6 g6 t6 e dx' t0 r.1 r.2 rows (S5.perm (permC fun gg cn c0 cc ca => ?_)) hTA3 hTB hN (hI.tells hw hr (by rw [hoth, hrows]) hlt) hgb
    simp only [cc, ca, c0]; omega
end
end Mine
set_option maxHeartbeats 400000
namespace Mine
section
variable {w : World} {A : Around} {E : Value → Shared → Prop} {h hB : Heap} {g : Array GenState} {d : Drawn} {t : Nat} {os : OsState} {mu0 : List (Addr × Obj)}
/-- a function with cells that changes what its caller hides, and may raise -/
theorem enterCM {Q : Value → Shared → Prop} {f : Addr} {args : List Value} {binds : List (Str × Value)} {name qual : Str} {params : Arguments} {body : List Stmt} {scope : Scope} {dV kV doc pm cdv ct oc : Value} {an od : Option Addr} {osl : Array (Option Value)}
    (C : Cx w hB) (k0 : Kp hB h) (hmu : ∀ p ∈ mu0, h.get? p.1 = some p.2) (nd0 : (mu0.map (·.1)).Nodup) (hnew : ∀ a ∈ mu0.map (·.1), hB.get? a = none)
    (ho : (hd0.heap_1 w.params).lookup f = some ⟨oc, od, .func (fnOf name qual params body scope dV kV doc pm an cdv ct), osl⟩) (hcd : codeIn (hd0.heap_1 w.params) cdv qual = true) (hroom : A.depth < recursionLimit)
    (hbind : bindArgs (fnOf name qual params body scope dV kV doc pm an cdv ct) ⟨args, []⟩ = pure binds)
    (hkind : ∀ L, ∀ x ∈ binds, scope.names.lookup x.1 = some .local ∨ (scope.names.lookup x.1 = some .cell ∧ ((cellsFrom (L + 1) scope.names []).lookup x.1).isSome = true))
    (hb : ∀ L h₁ t mu cl, cl = cellsFrom (L + 1) scope.names [] → mu.map (·.1) = cl.map (·.2) → CellsAre (bindC (fun n => scope.names.lookup n) binds fun _ => none) cl mu → h.get? L = none → St hB h (mu0.map (·.1)) L h₁ (bindL (fun n => scope.names.lookup n) binds fun _ => none) (mu ++ mu0) →
      wpAny (Md w) (A.deeper (envX qual scope L f cdv cl)) (execs body (envX qual scope L f cdv cl)) (fun fl s' => Q (RetV fl) s')
        (fun e s' => wpAny (Md w) (A.deeper (envX qual scope L f cdv cl)) (leaving (envX qual scope L f cdv cl) e) (fun _ s'' => E e s'') (fun e' s'' => E e' s'') s') ⟨h₁, g, d, t, os⟩)
    (hnd : ∀ L, ((cellsFrom (L + 1) scope.names []).map (·.1)).Nodup)
    (hco : scope.isCoroutine = false := by rfl) (hgen : scope.isGenerator = false := by rfl) (hk : scope.kind = .function := by rfl) :
    wpAny (Md w) A (call (.ref f) args) Q E ⟨h, g, d, t, os⟩ := by
  refine wpAny_call (codeAny_call_cells (fd := fnOf name qual params body scope dV kV doc pm an cdv ct) (body := body) (binds := binds) hroom (k0 _ _ (C.X _ _ ho)) rfl (C.keeps k0).lim (codeRec_of (C.keeps k0).X hcd) rfl hbind rfl (hkind _) (fun s₁ x => ?_) hco hgen hk)
  obtain ⟨h₁, t', rfl⟩ := x.toInCall.same
  have key : ∀ cs : List (Str × Addr), (∀ n c, (n, c) ∈ cs → h₁.IsCell c ((bindC (fun n => scope.names.lookup n) binds fun _ => none) n)) → ∃ mu : List (Addr × Obj), mu.map (·.1) = cs.map (·.2) ∧ (∀ p ∈ mu, h₁.get? p.1 = some p.2) ∧ CellsAre (bindC (fun n => scope.names.lookup n) binds fun _ => none) cs mu := by
    intro cs
    induction cs with
    | nil => intro _; exact ⟨[], rfl, (fun p hp => nomatch hp), .nil⟩
    | cons c r ih =>
      intro hc
      obtain ⟨o, ho, hd⟩ := hc c.1 c.2 (.head _)
      obtain ⟨mu, e1, e2, e3⟩ := ih fun n c hm => hc n c (.tail _ hm)
      refine ⟨(c.2, o) :: mu, by rw [List.map_cons, List.map_cons, e1], fun p hp => ?_, .cons hd e3⟩
      rcases List.mem_cons.mp hp with rfl | hp
      · exact ho
      · exact e2 p hp
  have cellAt : ∀ n c, (n, c) ∈ cellsFrom (h.objs.size + 1) scope.names [] → h₁.IsCell c ((bindC (fun n => scope.names.lookup n) binds fun _ => none) n) := by
    intro n c hm
    exact x.cell n c (lookup_of_mem (hnd h.objs.size) hm)
  obtain ⟨mu, e1, e2, e3⟩ := key _ cellAt
  have big : ∀ b, h.objs.size ≤ b → h.get? b = none := fun b hb => by
    cases q : h.get? b with
    | none => rfl
    | some o => exact absurd (Heap.lt_size q) (Nat.not_lt.mpr hb)
  have mum : ∀ a ∈ mu.map (·.1), h.objs.size < a := fun a ha => by
    rw [e1] at ha
    obtain ⟨p, hp, rfl⟩ := List.mem_map.mp ha
    exact x.above p.1 p.2 hp
  have S : St hB h (mu0.map (·.1)) h.objs.size h₁ (bindL (fun n => scope.names.lookup n) binds fun _ => none) (mu ++ mu0) := by
    refine ⟨x.toInCall.ns, fun p hp => ?_, ?_, fun a ha => ?_, fun b o _ e => x.toInCall.keep b o e, fun b its T => tup_keeps T (x.toInCall.keep b), fun b o e => ⟨k0 b o e, fun hm => by rw [hnew b hm] at e; cases e⟩⟩
    · rcases List.mem_append.mp hp with hp | hp
      · exact e2 p hp
      · exact x.toInCall.keep _ _ (hmu p hp)
    · rw [List.map_append]
      have low : ∀ b ∈ mu0.map (·.1), b < h.objs.size := fun b hb => by
        obtain ⟨p, hp, rfl⟩ := List.mem_map.mp hb
        exact Heap.lt_size (hmu p hp)
      refine List.nodup_cons.mpr ⟨fun e => ?_, List.nodup_append.mpr ⟨?_, nd0, fun a ha b hb e => ?_⟩⟩
      · rcases List.mem_append.mp e with e | e
        · exact Nat.lt_irrefl _ (mum _ e)
        · exact Nat.lt_irrefl _ (low _ e)
      · rw [e1]; exact List.pairwise_map.mpr x.apart
      · subst e
        exact Nat.lt_asymm (mum _ ha) (low _ hb)
    · rcases List.mem_cons.mp ha with rfl | ha
      · exact .inr (fresh_none h)
      · rw [List.map_append] at ha
        rcases List.mem_append.mp ha with ha | ha
        · exact .inr (big a (Nat.le_of_lt (mum a ha)))
        · exact .inl ha
  exact wpAny_mono (hb h.objs.size h₁ t' mu _ rfl e1 e3 (fresh_none h) S) (fun fl s' q => by cases fl <;> exact q) fun _ _ q => q
end
end Mine
set_option maxHeartbeats 400000
namespace Mine
section
variable {w : World} {A : Around} {E : Value → Shared → Prop} {h h' h₀ H hB hb : Heap} {ex : List Addr} {g : Array GenState} {d : Drawn} {t : Nat} {os : OsState} {env : Env} {m m' : Str → Option Value} {mu mu' mt : List (Addr × Obj)} {L : Addr}
theorem St.addL (S : St h₀ H ex L h m mu) (k : Kp h h') : ∀ {new : List (Addr × Obj)}, (new.map (·.1)).Nodup → (∀ p ∈ new, h.get? p.1 = none ∧ h'.get? p.1 = some p.2) → St h₀ H ex L h' m (new ++ mu)
  | [], _, _ => S.keeps k
  | (D, o) :: new, nd, hn => by
    have nd' := List.nodup_cons.mp nd
    have S' := S.addL k (new := new) nd'.2 fun p hp => hn p (.tail _ hp)
    obtain ⟨h0, h1⟩ := hn (D, o) (.head _)
    have nL : D ≠ L := by
      intro e
      obtain ⟨oL, _, _, x, _⟩ := S.ns
      rw [← e, h0] at x; cases x
    have nm : D ∉ mu.map (·.1) := by
      intro e
      obtain ⟨p, hp, rfl⟩ := List.mem_map.mp e
      have := S.led p hp
      rw [h0] at this; cases this
    refine ⟨S'.ns, fun p hp => ?_, ?_, fun a ha => ?_, S'.pres, S'.tup, S'.base⟩
    · rcases List.mem_cons.mp hp with rfl | hp
      · exact h1
      · exact S'.led p hp
    · have := S'.nd
      simp only [List.cons_append, List.map_cons, List.nodup_cons, List.mem_cons] at this ⊢
      refine ⟨fun x => x.elim (fun e => nL e.symm) this.1, fun x => ?_, this.2⟩
      rw [List.map_append] at x
      rcases List.mem_append.mp x with x | x
      · exact nd'.1 x
      · exact nm x
    · rcases List.mem_cons.mp ha with rfl | ha
      · exact S'.mtb _ (.head _)
      · rcases List.mem_cons.mp ha with e | ha
        · have e : a = D := e
          rw [e]
          cases q : H.get? D with
          | none => exact .inr rfl
          | some x =>
            refine .inl (Classical.byContradiction fun nx => ?_)
            have := S.pres D x nx q
            rw [h0] at this; cases this
        · exact S'.mtb _ (.tail _ ha)
theorem compRng {target : Str} {tp : Pos} {E' : Value → Shared → Prop} {elt iter : Expr} {ifs : List Expr} {scope : Scope} {pos : Pos} {cl : List (Str × Addr)} {RR : Value → Addr → Result → Shared → Prop} {n : Nat} {tn : Tok}
    (hh : A.handled = none) (F : Nat → List Value → Heap → Prop) (hcell : ∀ y ∈ scope.names, y.2 ≠ .cell) (hkind : scope.kind = .function) (hF : ∀ h, F 0 [] h) (hz : n ≤ 1000)
    (turn : ∀ i tk ys oI k H ex h m t C D I, i < n → F i ys H → St hb H ex C h m [(I, oI), (D, LstP ys k)] →
      wpAny (Md w) A (assign (.Name target tp) (compEnvC scope cl C env) (.int (i : Nat) tk)) (fun _ s₂ => wpAny (Md w) A (Tests ifs (compEnvC scope cl C env)) (fun ok s₃ =>
        if ok = true then wpAny (Md w) A (eval elt (compEnvC scope cl C env)) (fun y s₄ => CompEnd hb C D I oI (LstP ys k) g d os (F (i + 1) (ys ++ [y])) s₄) (fun _ _ => False) s₃
        else CompEnd hb C D I oI (LstP ys k) g d os (F (i + 1) ys) s₃) (fun _ _ => False) s₂) (fun _ _ => False) ⟨h, g, d, t, os⟩)
    (hRR : ∀ D C h' t' m' ys k H, Kp hb h' → hb.get? D = none → hb.get? C = none → D ≠ C → h'.Ns C m' → h'.get? D = some (LstP ys k) → F n ys H → (∀ b its, H.IsTuple b its → h'.IsTuple b its) → RR (.ref D) C (.ok .next) ⟨h', g, d, t', os⟩) :
    wpAny (Md w) A (call (.type "range") [.int (n : Nat) tn]) (fun x s₁ => wpAny (Md w) A (pyIter x) (fun it s₂ => wpAny (Md w) A (newList []) (fun acc s₃ => wpAny (Md w) A (newFunctionEnv scope env.globals cl [] env.qual none .none (some env)) (fun cenv s₄ =>
      codeAny (Md w) A (.compStart (.ListComp elt [⟨.Name target tp, iter, ifs, 0⟩] scope pos) 0 it acc { cenv with scope := relabel scope env }) (RR acc cenv.locals) s₄) E' s₃) E' s₂) E' s₁) E' ⟨hb, g, d, t, os⟩ := by
  refine call_range_1 (s := ⟨hb, g, d, t, os⟩) ?_
  refine wpAny_pyIter_range (Heap.get?_push_size _ rfl) (small_one (by omega) (by omega) (by omega) (by omega)) ?_
  have e : Builtin.Range.rangeSize 0 ((n : Nat) : Int) 1 = (n : Int) := by rw [rangeSize_one]; split <;> omega
  rw [e]
  have k0 : Kp hb ((hb.push { cls := .type "range", data := .fields #[.int 0 t, .int (n : Nat) tn, .int 1 (t + 1)] }).push { cls := .type "range_iterator", data := .fields #[rawInt 0, rawInt (n : Int), rawInt 1] }) := fun b o e => Heap.get?_push_of_some _ (Heap.get?_push_of_some _ e)
  have hI := Heap.get?_push_size (hb.push { cls := .type "range", data := .fields #[.int 0 t, .int (n : Nat) tn, .int 1 (t + 1)] }) (o := { cls := .type "range_iterator", data := .fields #[rawInt 0, rawInt (n : Int), rawInt 1] }) rfl
  have hn : hb.get? (hb.push { cls := .type "range", data := .fields #[.int 0 t, .int (n : Nat) tn, .int 1 (t + 1)] }).objs.size = none := by
    rw [Heap.size_push]
    cases q : hb.get? (hb.objs.size + 1) with
    | none => rfl
    | some o => exact absurd (Heap.lt_size q) (Nat.not_lt.mpr (Nat.le_succ _))
  dsimp only at hI hn ⊢
  generalize (hb.push { cls := .type "range", data := .fields #[.int 0 t, .int (n : Nat) tn, .int 1 (t + 1)] }).objs.size = I at hI hn
  refine compIn (itRange (A := A) hh target tp I 0 1 n) F hcell hkind k0 hn hI (by simp) (fun _ _ => trivial) (hF _) hz (fun h g d t os Q E e q => ?_) (fun i v ys oI k H ex h m t C D hlt hv hF hI S => ?_) hRR
  · exact wpAny_pyIter_rangeiter (s := ⟨h, g, d, t, os⟩) e q
  · obtain ⟨tk, rfl⟩ := hv
    have ei : (0 : Int) + (i : Int) * 1 = ((i : Nat) : Int) := by omega
    rw [ei]
    exact turn i tk ys oI k H ex h m t C D I hlt hF S
theorem strs_snoc {a : List Value} {b : List Str} (x : StrsAre a b) (s : Str) (tk : Tok) : StrsAre (a ++ [.str s tk]) (b ++ [s]) := by
  induction x with
  | nil => exact .cons _ _ .nil
  | cons y u _ ih => exact .cons _ _ ih
end
end Mine
set_option maxHeartbeats 4000000
namespace Mine
section
variable {w : World} {A : Around} {E : Value → Shared → Prop} {h h' h₀ H hB hb : Heap} {ex : List Addr} {g : Array GenState} {d : Drawn} {t : Nat} {os : OsState} {env : Env} {m m' : Str → Option Value} {mu mu' mt : List (Addr × Obj)} {L : Addr} {wishes : List Nat} {vs : List Value} {due : Bool} {way : Int}
/-- the line at the start -/
noncomputable def line0 (wishes : List Nat) : List (Nat × Nat) := (List.range wishes.length).map fun k => (wishes.getD k 0, k)
theorem line0_take {i : Nat} (h : i < wishes.length) : (line0 wishes).take (i + 1) = (line0 wishes).take i ++ [(wishes.getD i 0, i)] := by
  have hl : i < (line0 wishes).length := by simp [line0, h]
  rw [List.take_succ_eq_append_getElem hl]
  simp [line0]
theorem names_at {nv : List Value} {n k : Nat} (x : StrsAre nv ((List.range n).map nm)) (hk : k < n) : ∃ tk : Tok, nv[k]? = some (Value.str (nm k) tk) := by
  have key : ∀ (nv : List Value) (ss : List Str), StrsAre nv ss → ∀ (k : Nat) (s : Str), ss[k]? = some s → ∃ tk : Tok, nv[k]? = some (Value.str s tk) := by
    intro nv ss x
    induction x with
    | nil => intro k s e; simp at e
    | cons y u _ ih =>
      intro k s e
      cases k with
      | zero => cases e; exact ⟨_, rfl⟩
      | succ k => exact ih k s e
  exact key nv _ x k (nm k) (by simp [hk])
theorem St.headOut {D : Addr} {o : Obj} (S : St h₀ H ex L h m ((D, o) :: mu)) : D ∉ L :: mu.map (·.1) := by
  have hnd := S.nd
  simp only [List.map_cons, List.nodup_cons, List.mem_cons, not_or] at hnd
  intro hm
  rcases List.mem_cons.mp hm with e | hm
  · exact hnd.1.1 e.symm
  · exact hnd.2.1 hm
theorem rngFor1 {n : Nat} {tn : Tok} {R : Value → Shared → Prop} (S : St h₀ H ex L h m mu) (hn : n ≤ 1000)
    (hQ : ∀ h' I t, St h₀ H ex L h' m ((I, RngO 0 n 1) :: mu) → R (.ref I) ⟨h', g, d, t, os⟩) :
    wpAny (Md w) A (call (.type "range") [.int (n : Nat) tn]) (fun x s₁ => wpAny (Md w) A (pyIter x) R E s₁) E ⟨h, g, d, t, os⟩ := by
  refine call_range_1 (s := ⟨h, g, d, t, os⟩) ?_
  have S1 := S.alloc { cls := .type "range", data := .fields #[.int 0 t, .int (n : Nat) tn, .int 1 (t + 1)] } rfl
  refine wpAny_pyIter_range (S1.at 0 rfl) (small_one (by omega) (by omega) (by omega) (by omega)) ?_
  have e : Builtin.Range.rangeSize 0 ((n : Nat) : Int) 1 = (n : Int) := by rw [rangeSize_one]; split <;> omega
  rw [e]
  exact hQ _ _ _ ((S1.alloc (RngO 0 n 1) rfl).sub (.cons_cons _ (.cons _ (.refl _))))
/-- names, line and books laid out, up to the while -/
theorem begin_ {Q : Flow → Shared → Prop} {wl : Addr} {oc : Obj} {tw to : Tok} {ord : Nat} {mtA mtB : List (Addr × Obj)}
    (C : Cx w h₀) (hroom : A.depth + 2 < recursionLimit) (hh : A.handled = none) (S : St h₀ H ex L h m ((L + 1, oc) :: (mtA ++ mtB))) (hoc : oc.data = .cell (some (.int way tw))) (hTA : TabL 305 keyQ 193 78 mtA) (hTB : TabL 107 strQ 43 32 mtB)
    (hl : h₀.IsList wl vs.toArray) (hi : IntsAre vs (wishes.map Int.ofNat)) (h6 : wishes.length = 6) (h5 : ∀ x ∈ wishes, x ≤ 5)
    (mw : m "wishes" = some (.ref wl)) (mo : m "order" = some (.int (ord : Nat) to)) (md : m "due" = some (.bool due))
    (hQ : ∀ h' H' ex' m' t' a dl D, (D == sysModules) = false → TurnSt w h₀ L a dl D way due (line0 wishes) (List.replicate 6 []) ord h' H' ex' m' → wpAny (Md w) A (execs (lofB.drop 5) (lofE L)) Q E ⟨h', g, d, t', os⟩) :
    wpAny (Md w) A (execs lofB (lofE L)) Q E ⟨h, g, d, t, os⟩ := by
  have hvl : vs.length = 6 := by rw [hi.length]; simpa using h6
  have hlh : h.IsList wl vs.toArray := hl.at (S.keep _)
  refine xAsgComp (cl := []) rfl rfl rfl (by decide) ?_
  refine callName (ldB (v := .type "range") C S (by k_is) rfl (PyProof.Rows.callWith_type1 (spliced_more (callName (ldB (v := .builtin "len") C S (by k_is) rfl (cwBi (spliced_more (ldL S mw (spliced_none (lenL hlh (by omega) fun t1 tk1 => spliced_none ?_))))))))))
  rw [hvl]
  refine compRng hh (fun i ys _ => StrsAre ys ((List.range i).map nm)) (by decide) rfl (fun _ => .nil) (by decide) ?_ ?_
  · intro i tk ys oI k H1 ex1 h1 m1 t1 C1 D1 I1 hi6 hF S1
    have C2 : Cx w h := C.keeps S.keep
    refine wpAny_assign_Name (stL S1 fun h2 S2 => tests_nil ?_)
    rw [if_pos rfl]
    refine MethodCall_ (callName (ldG C2 S2 (by k_is) (cwFn (f := 58) (by k_is) (spliced_more (wpAny_BinOp (ldL S2 rfl (cI (addI (spliced_none ⟨C2.keeps S2.keep, ?_⟩)))))))) ) (by rfl)
    rw [show ((i : Nat) : Int) + 1 = ((i + 1 : Nat) : Int) by omega]
    refine int2ap_spec (C2.keeps S2.keep) (by omega) hh (by omega) (by omega) fun h3 t3 tk3 k3 => ?_
    refine methBytes FB.slot_bytes_decode FB.type_bytes_decode (cwBi0 (decodeN hi6 fun t4 tk4 => ?_))
    have S3 := S2.keeps k3
    refine CompEnd.mk S3 ?_
    rw [List.range_succ, List.map_append]
    exact strs_snoc hF _ _
  · refine asgQ S fun NL h2 t2 nv nk Hf S2 hN htup => ?_
    have hN : StrsAre nv ((List.range 6).map nm) := hN
    have hnl : nv.length = 6 := by
      have : ∀ (a : List Value) (b : List Str), StrsAre a b → a.length = b.length := by
        intro a b x
        induction x with
        | nil => rfl
        | cons _ _ _ ih => simp [ih]
      simpa using this _ _ hN
    refine xAssign (callName (ldG C S2 (by k_is) (cwFn0 (f := 138) (C.keeps S2.keep) (by k_is) (acc_make (C.keeps S2.keep) hroom fun h3 t3 a dl o od k3 ha0 hd0 hne ho hA hod hE => ?_))))
    have S3 := S2.addL k3 (new := [(a, o), (dl, od)]) (by simpa using hne) (fun p hp => by
      rcases List.mem_cons.mp hp with rfl | hp
      · exact ⟨ha0, ho⟩
      · rcases List.mem_cons.mp hp with rfl | hp
        · exact ⟨hd0, hod⟩
        · cases hp)
    refine stL S3 fun h4 S4 => ?_
    refine xAssign (wpAny_Dict_empty ?_)
    have S5 := S4.alloc { cls := .type "dict", data := .dict #[] } rfl
    dsimp only
    have loD : (h4.objs.size == sysModules) = false := beq_eq_false_iff_ne.mpr (Nat.ne_of_gt (modules_low (C.keeps S4.keep).lim))
    generalize h4.objs.size = D at S5 loD
    obtain ⟨kvs0, he0, hf0⟩ := emptyBk (w := w)
    have hk0 : kvs0 = [] := by
      have := BkO.len hf0
      exact List.eq_nil_of_length_eq_zero (by simpa using this)
    subst hk0
    refine stL S5 fun hx6 S6 => ?_
    refine xFor (callName (ldB (v := .type "range") C S6 (by k_is) rfl (PyProof.Rows.callWith_type1 (spliced_more (callName (ldB (v := .builtin "len") C S6 (by k_is) rfl (cwBi (spliced_more (ldL S6 mw (spliced_none (lenL (hl.at (S6.keep _)) (by omega) fun t7 tk7 => spliced_none ?_)))))))))))
    rw [hvl]
    refine rngFor1 (n := 6) S6 (by decide) fun h7 I t7 S7 => ?_
    have S7' := S7.perm (mu' := (I, RngO 0 ((6 : Nat) : Int) 1) :: (NL, LstP nv nk) :: (a, o) :: (dl, od) :: (D, { cls := .type "dict", data := .dict #[] }) :: (L + 1, oc) :: (mtA ++ mtB)) (permC fun gg cn c0 cc ca => by
      simp only [cc, ca, c0]; omega)
    have sg7 := S7'.seg
    have S7' := S7'.re
    generalize (L :: List.map (·.1) ((I, _) :: (NL, LstP nv nk) :: (a, o) :: (dl, od) :: (D, _) :: (L + 1, oc) :: (mtA ++ mtB))) = ex7 at sg7 S7'
    have hl0 : (line0 wishes).length = 6 := by simp [line0, h6]
    generalize hm7 : upd _ (Str.ofString "books") (Value.ref D) = m7 at S7'
    have ml7 : m7 (Str.ofString "line") = some (.ref a) := by rw [← hm7]; rfl
    have mb7 : m7 (Str.ofString "books") = some (.ref D) := by rw [← hm7]; rfl
    have mn7 : m7 (Str.ofString "names") = some (.ref NL) := by rw [← hm7]; rfl
    have mw7 : m7 (Str.ofString "wishes") = some (.ref wl) := by rw [← hm7]; exact mw
    have mo7 : m7 (Str.ofString "order") = some (.int (ord : Nat) to) := by rw [← hm7]; exact mo
    have md7 : m7 (Str.ofString "due") = some (.bool due) := by rw [← hm7]; exact md
    refine forIt (itRange (A := A) hh _ _ I 0 1 6)
      (fun i H1 ex1 m1 mu1 => (Same [Str.ofString "k"] m7 m1) ∧ (X4 fun o2 oD2 its kvs => A5 (mu1 = (NL, LstP nv nk) :: (a, o2) :: (dl, od) :: (D, oD2) :: (L + 1, oc) :: (mtA ++ mtB)) (AccO dl its o2) (oD2.IsDictOf (strKind pg w) kvs) (Bs w H1 ex1 kvs (List.replicate i [])) (PairsAt H1 its (rowT ((line0 wishes).take i)))))
      (fun _ _ _ _ _ _ _ _ _ => trivial) S7' (by simp) ⟨Same.refl, o, _, [], [], rfl, hA, he0, Bs.nil, pairsAt_of rfl fun i r e => by simp at e⟩ ?_ ?_
    · intro i v oI H1 ex1 h8 m8 mu8 t8 hi6 qq10 qq11 hI2 S8
      refine nameT fun Q' hQ' => ?_
      obtain ⟨tk8, hv⟩ := qq10
      obtain ⟨sm, o2, oD2, its, kvs, rfl, hA2, hD2, hB2, hp2⟩ := qq11
      have ei : (0 : Int) + (i : Int) * 1 = ((i : Nat) : Int) := by omega
      rw [ei] at hv
      subst hv
      have hiw : i < wishes.length := by omega
      obtain ⟨tki, hvi⟩ : ∃ tki, vs[i]? = some (.int ((wishes.getD i 0 : Nat) : Int) tki) := by
        obtain ⟨nn, tt, e1, e2⟩ := IntsAre.at hi i (vs[i]'(by omega)) (by simp)
        have e3 : nn = ((wishes.getD i 0 : Nat) : Int) := by
          rw [List.getElem?_map, List.getElem?_eq_getElem hiw] at e2
          have := Option.some.inj e2
          rw [← this, List.getD_eq_getElem?_getD, List.getElem?_eq_getElem hiw]; rfl
        exact ⟨tt, by rw [← e3, ← e1]; simp⟩
      obtain ⟨tni, hni⟩ := names_at hN hi6
      have hw5 : wishes.getD i 0 ≤ 5 := by
        rw [List.getD_eq_getElem?_getD, List.getElem?_eq_getElem hiw]
        exact h5 _ (List.getElem_mem hiw)
      have hpl := hp2.len
      rw [List.length_take] at hpl
      refine wpAny_assign_Name (stL S8 fun h9 S9 => ?_)
      refine xExpr (MethodCall_ (ldL S9 (sm.get ml7) (methFn (C.keeps S9.keep) (hA2.inst (S9.at 2 rfl) (S9.at 3 rfl)) (by k_is) (by k_is) (by k_is) (by k_is) (hE.toD _ (by decide)) ?_)) (by rfl))
      refine cwFn (f := 82) (by k_is) (spliced_more (wpAny_BinOp (cS (itemL (ldL S9 (sm.get mw7) (ldL S9 rfl ⟨wl, vs, _, _, _, rfl, rfl, hl.at (S9.keep _), by omega, by omega, hvi, ?_⟩))))))
      refine mulSp (by omega) fun t10 tk10 => spliced_more (itemL (ldL S9 (sm.get mn7) (ldL S9 rfl ⟨NL, nv, _, _, _, rfl, rfl, lstAt (S9.at 1 rfl), by omega, by omega, hni, ?_⟩)))
      refine spliced_none ⟨C.keeps S9.keep, ?_⟩
      refine push_spec (C.keeps S9.keep) (by omega) (S9.at 2 rfl) hA2 (S9.at 3 rfl) hE.toD (by omega) fun h10 t10 T o10 k10 ho10 hA10 hT10 hT0 => ?_
      have S10 := S9.put 2 rfl hA2.notTup k10 ho10
      have hp10 := pairs_snoc (r := (wishes.getD i 0, i)) (hp2.on S10.tup) hT10
      have hB10 := hB2.on (fun b o n e => (S10.seg.keep b o e n).1) (fun b o e n => (S10.seg.keep b o e n).2)
      have S10 := S10.re
      refine xCons (wpAny_Assign_Subscript (wpAny_Dict_empty ?_))
      have S11 := S10.alloc { cls := .type "dict", data := .dict #[] } rfl
      have lo : (h10.objs.size == sysModules) = false := beq_eq_false_iff_ne.mpr (Nat.ne_of_gt (modules_low (C.keeps S10.keep).lim))
      dsimp only
      generalize h10.objs.size = D2 at S11 lo
      have hkl := hB2.len
      rw [List.length_replicate] at hkl
      refine ldL S11 (sm.get mb7) (itemL (ldL S11 (sm.get mn7) (ldL S11 rfl ⟨NL, nv, _, _, _, rfl, rfl, lstAt (S11.at 2 rfl), by omega, by omega, hni, ?_⟩)))
      refine setBs S11 (i := 5) rfl hD2 (by omega) fun h12 o12 hd12 S12 => ?_
      have hnd := S12.nd
      have S13 := S12.tail
      have sg13 := S13.seg
      refine xNil (hQ' _ _ (TurnEnd.next S13.re ⟨?_, o10, o12, _, _, rfl, hA10, hd12, ?_, ?_⟩))
      · intro y hy
        have n1 : y ≠ Str.ofString "k" := fun e => hy (by rw [e]; decide)
        simp only [upd, n1, if_false]
        exact sm y hy
      · have hP := (hB10.on (fun b o n e => (sg13.keep b o e n).1) (fun b o e n => (sg13.keep b o e n).2)).push (v := .ref D2) (l := []) ⟨D2, _, rfl, S12.at 0 rfl, ?_, emptyBk, lo⟩
        · rw [List.length_replicate, ← List.replicate_succ'] at hP
          exact hP
        · exact S12.headOut
      · rw [line0_take hiw]
        exact hp10.on S12.tup
    · rintro H1 ex1 h8 m8 mu8 t8 ⟨sm, o2, oD2, its, kvs, rfl, hA2, hD2, hB2, hp2⟩ S8
      rw [show (6 : Nat) = (line0 wishes).length from hl0.symm, List.take_length] at hp2
      have hB8 := hB2.on (fun b o n e => (S8.seg.keep b o e n).1) (fun b o e n => (S8.seg.keep b o e n).2)
      have hp8 := hp2.on S8.tup
      have S8 := S8.re
      generalize (L :: List.map (·.1) ((NL, LstP nv nk) :: (a, o2) :: (dl, od) :: (D, oD2) :: (L + 1, oc) :: (mtA ++ mtB))) = ex8 at hB8 S8
      refine xAssign (callName (ldG C S8 (by k_is) (cwFn (f := 166) (by k_is) (spliced_more (tup2 ?_)))))
      refine tup2 (cI (cI ?_))
      intro h' g' d' t' os' e
      cases e
      have S9 := S8.pushed { cls := .type "tuple", data := .seq ([.int 0 t8, .int 1 (t8 + 1)] : List Value).toArray }
      have hT1 : (h8.push { cls := .type "tuple", data := .seq ([.int 0 t8, .int 1 (t8 + 1)] : List Value).toArray }).IsTuple h8.objs.size #[.int 0 t8, .int 1 (t8 + 1)] := ⟨_, Heap.get?_push_size _ rfl, rfl, _, rfl⟩
      generalize h8.objs.size = T1 at hT1
      generalize (h8.push { cls := .type "tuple", data := .seq ([.int 0 t8, .int 1 (t8 + 1)] : List Value).toArray }) = h9 at hT1 S9
      refine tup2 (cI (ldC (c := L + 1) rfl ⟨oc, S9.at 4 rfl, hoc⟩ ?_))
      intro h' g' d' t' os' e
      cases e
      have k9 : Kp h9 (h9.push { cls := .type "tuple", data := .seq ([.int 1 (t8 + 1 + 1), .int way tw] : List Value).toArray }) := fun _ _ e => Heap.get?_push_of_some _ e
      have hT2 : (h9.push { cls := .type "tuple", data := .seq ([.int 1 (t8 + 1 + 1), .int way tw] : List Value).toArray }).IsTuple h9.objs.size #[.int 1 (t8 + 1 + 1), .int way tw] := ⟨_, Heap.get?_push_size _ rfl, rfl, _, rfl⟩
      generalize h9.objs.size = T2 at hT2
      generalize (h9.push { cls := .type "tuple", data := .seq ([.int 1 (t8 + 1 + 1), .int way tw] : List Value).toArray }) = h10 at hT2 k9
      intro h' g' d' t' os' e
      cases e
      have k10 : Kp h10 (h10.push { cls := .type "tuple", data := .seq ([.ref T1, .ref T2] : List Value).toArray }) := fun _ _ e => Heap.get?_push_of_some _ e
      have hT : (h10.push { cls := .type "tuple", data := .seq ([.ref T1, .ref T2] : List Value).toArray }).IsTuple h10.objs.size #[.ref T1, .ref T2] := ⟨_, Heap.get?_push_size _ rfl, rfl, _, rfl⟩
      generalize h10.objs.size = T at hT
      generalize (h10.push { cls := .type "tuple", data := .seq ([.ref T1, .ref T2] : List Value).toArray }) = h11 at hT k10
      have S11 := (S9.keeps k9).keeps k10
      have hC11 : CompT h11 T T1 T2 way := ⟨hT, ⟨_, _, tup_keeps (tup_keeps hT1 (k9 _)) (k10 _)⟩, ⟨_, _, tup_keeps hT2 (k10 _)⟩⟩
      refine spliced_none ⟨C.keeps S11.keep, ?_⟩
      refine tc_make (C.keeps S11.keep) hroom fun h12 t12 x dx hs tk n k12 hx0 hd0 hne2 hx hdx => ?_
      have S12 := S11.addL k12 (new := [(x, instObj 166 dx), (dx, compD hs tk T n)]) (by simpa using hne2) (fun p hp => by
        rcases List.mem_cons.mp hp with rfl | hp
        · exact ⟨hx0, hx⟩
        · rcases List.mem_cons.mp hp with rfl | hp
          · exact ⟨hd0, hdx⟩
          · cases hp)
      have hC12 := hC11.on fun b its x => tup_keeps x (k12 b)
      have S13 := (S12.perm (mu' := (NL, LstP nv nk) :: (a, o2) :: (dl, od) :: (D, oD2) :: (x, instObj 166 dx) :: (dx, compD hs tk T n) :: (L + 1, oc) :: (mtA ++ mtB)) (permC fun gg cn c0 cc ca => by
        simp only [cc, ca, c0]; omega)).tail
      have hB13 := hB8.on (fun b o n e => (S13.seg.keep b o e n).1) (fun b o e n => (S13.seg.keep b o e n).2)
      have hp13 := hp8.on S13.tup
      have S13 := S13.re
      refine stL S13 fun h14 S14 => ?_
      exact hQ h14 _ _ _ _ a dl D loD ⟨o2, od, oD2, x, dx, hs, tk, T, T1, T2, n, oc, tw, mtA, mtB, its, kvs, to, S14, hA2, hE, hD2, hB13, hC12.on S14.tup, hoc, hTA, hTB, hp13.on S14.tup, sm.get ml7, sm.get mb7, rfl, sm.get md7, sm.get mo7⟩
end
end Mine
set_option maxHeartbeats 1000000
namespace Mine
section
variable {w : World} {A : Around} {E : Value → Shared → Prop} {h h' h₀ H hB hb : Heap} {ex : List Addr} {g : Array GenState} {d : Drawn} {t : Nat} {os : OsState} {env : Env} {m m' : Str → Option Value} {mu mu' mt : List (Addr × Obj)} {L a dl D : Addr} {wishes : List Nat} {vs : List Value} {due : Bool} {way : Int} {line : List (Nat × Nat)} {bs : List (List Nat)} {ord : Nat}
theorem TurnSt.keeps (x : TurnSt w h₀ L a dl D way due line bs ord h H ex m) (k : Kp h h') : TurnSt w h₀ L a dl D way due line bs ord h' H ex m := by
  obtain ⟨o, od, oD, x, dx, hs, tk, T, T1, T2, n, oc, tw, mtA, mtB, its, kvs, to, S, hA, hE, hD, hB, hC, hoc, hTA, hTB, hp, r1, r2, r3, r4, r5⟩ := x.all
  exact ⟨o, od, oD, x, dx, hs, tk, T, T1, T2, n, oc, tw, mtA, mtB, its, kvs, to, S.keeps k, hA, hE, hD, hB, hC.on fun b its x => tup_keeps x (k b), hoc, hTA, hTB, hp.on fun b its x => tup_keeps x (k b), r1, r2, r3, r4, r5⟩
/-- the two tables of code -/
noncomputable def TabsOk (hB h : Heap) : Prop := X2 fun mtA mtB => A5 (TabL 305 keyQ 193 78 mtA) (TabL 107 strQ 43 32 mtB) ((∀ p ∈ mtA ++ mtB, h.get? p.1 = some p.2)) (((mtA ++ mtB).map (·.1)).Nodup) (∀ a ∈ (mtA ++ mtB).map (·.1), hB.get? a = none)
/-- what flies out of the laying off -/
structure Flown (hB : Heap) (fs : List Addr) (due : Bool) (e : Addr) (h' : Heap) : Prop where
  noted : Noted fs [] hB h'
  exc : X10 fun dx T es n tw tg tt wish gk rows => A8 (ExcAt h' e dx (some (T, .none))) (h'.get? dx = some (dictOf es n)) (getL (Str.ofString "lineno") es = some (some (.int ((wish : Nat) : Int) tw))) (getL (Str.ofString "msg") es = some (some (.str (nm gk) tg))) ((getL (Str.ofString "line") es = some (some (.str (allS (rowT rows)) tt)) ∧ NoGet es)) (Tells due wish gk rows) (hB.get? T = none) (hB.get? dx = none)
  new : hB.get? e = none
  tabs : TabsOk hB h'
theorem lof_while {Q : Flow → Shared → Prop} {P : Value → Shared → Prop} (C : Cx w h₀) (MB : BmAt h₀) (hroom : A.depth + 2 < recursionLimit) (hh : A.handled = none) (hu : A.units + 64 < cLine) (hw : way = 1 ∨ way = -1)
    (hS : TurnSt w h₀ L a dl D way due line bs ord h H ex m) (hI : Inv wishes due line bs) (hord : ord ≤ 1000)
    (hQ : ∀ h' H' ex' m' t' bs' ord', TurnSt w h₀ L a dl D way due [] bs' ord' h' H' ex' m' → Inv wishes due [] bs' → Q (.ret (.ref D)) ⟨h', g, d, t', os⟩)
    (hE : ∀ h1 H1 ex1 m1 mu1 mtA mtB h' g' t' e dx t0 wish gk rows, St h₀ H1 ex1 L h1 m1 (mtA ++ (mtB ++ mu1)) → TabL 305 keyQ 193 78 mtA → TabL 107 strQ 43 32 mtB → NagAt h1 mtB wish gk rows e dx t0 h' → Tells due wish gk rows → (AllBare g → AllBare g') →
      notedBy (Md w) A (lofE L) (cameBackBy (Md w) A (lofE L) P) (.ref e) ⟨h', g', d, t', os⟩) :
    wpAny (Md w) A (execs (lofB.drop 5) (lofE L)) Q P ⟨h, g, d, t, os⟩ := by
  refine xWhile (codeAny_whileLoop (fun k s => X8 fun h H ex m t line bs ord => A5 (s = ⟨h, g, d, t, os⟩) (TurnSt w h₀ L a dl D way due line bs ord h H ex m) (Inv wishes due line bs) (ord ≤ 1000) (k = line.length)) ?_ line.length ⟨h, H, ex, m, t, line, bs, ord, rfl, hS, hI, hord, rfl⟩)
  rintro k s ⟨h, H, ex, m, t, line, bs, ord, rfl, hS, hI, hord, rfl⟩
  obtain ⟨o, od, oD, x, dx, hs, tk, T, T1, T2, n, oc, tw, mtA, mtB, its, kvs, to, S, hA, hEd, hD, hB, hC, hoc, hTA, hTB, hp, ml, mb, mc, md, mo⟩ := id hS.all
  have hlen := hp.len
  have h6 := hI.len
  refine wpAny_isTrue_Compare1 (MethodCall_ (ldL S ml (methFn (C.keeps S.keep) (hA.inst (S.at 0 rfl) (S.at 1 rfl)) (by k_is) (by k_is) (by k_is) (by k_is) (hEd.toD _ (by decide)) ?_)) (by rfl))
  refine cwFn0 (f := 135) (C.keeps S.keep) (by k_is) ?_
  refine part_count_spec (C.keeps S.keep) (by omega) (S.at 0 rfl) hA (S.at 1 rfl) (by omega) fun h1 t1 tk1 k1 => ?_
  have hS1 := hS.keeps k1
  refine cI (gtI (wpAny_truthy_bool ?_))
  split
  · rename_i hpos
    have hpos : 0 < line.length := by
      have : ((its.length : Nat) : Int) > 0 := by simpa using hpos
      omega
    refine turn C MB hroom hh hu hw hS1 hI hpos hord (fun h2 H2 ex2 m2 t2 line2 bs2 ord2 hS2 hI2 hl2 hord2 => ?_) (fun h2 H2 ex2 m2 mu2 mtA2 mtB2 h3 g3 t3 e dx' t0 wish gk rows S2 a1 a2 a3 a4 a5 => ?_)
    · exact ⟨line2.length, by omega, h2, H2, ex2, m2, t2, line2, bs2, ord2, rfl, hS2, hI2, hord2, rfl⟩
    · exact hE h2 H2 ex2 m2 mu2 mtA2 mtB2 h3 g3 t3 e dx' t0 wish gk rows S2 a1 a2 a3 a4 a5
  · rename_i hpos
    have h0 : line = [] := by
      have : ¬ ((its.length : Nat) : Int) > 0 := by simpa using hpos
      exact List.eq_nil_of_length_eq_zero (by omega)
    subst h0
    refine xNil (xRet (ldL (S.keeps k1) mb (hQ h1 H ex m _ bs ord hS1 hI)))
theorem fly_out {P : Value → Shared → Prop} {outer : List Env} {H1 h1 : Heap} {ex1 : List Addr} {m1 : Str → Option Value} {mu1 mtA mtB : List (Addr × Obj)} {e dx t0 : Addr} {wish gk : Nat} {rows : List (Nat × Nat)} {g' : Array GenState}
    (hfr : A.frames = some (lofE L :: outer)) (hff : hB.FunFrames {} outer) (S : St hB H1 ex1 L h1 m1 (mtA ++ (mtB ++ mu1))) (hTA : TabL 305 keyQ 193 78 mtA) (hTB : TabL 107 strQ 43 32 mtB) (hN : NagAt h1 mtB wish gk rows e dx t0 h') (hT : Tells due wish gk rows)
    (hP : ∀ h5, Flown hB (outer.filterMap (·.frame)) due e h5 → P (.ref e) ⟨h5, g', d, t, os⟩) :
    notedBy (Md w) A (lofE L) (cameBackBy (Md w) A (lofE L) (fun e s' => wpAny (Md w) A (leaving (lofE L) e) (fun _ s'' => P e s'') (fun e' s'' => P e' s'') s')) (.ref e) ⟨h', g', d, t, os⟩ := by
  obtain ⟨es, n, tw, tg, tt, hdx, e1, e2, e3⟩ := hN.tab
  obtain ⟨mt', hT', hm', hnd', hsub'⟩ := hN.mt'
  have nd := S.nd
  rw [List.map_append, List.map_append] at nd
  have ndL := List.nodup_cons.mp nd
  have ndA := List.nodup_append.mp ndL.2
  have ndB := List.nodup_append.mp ndA.2.1
  have hLB : L ∉ mtB.map (·.1) := fun hm => ndL.1 (List.mem_append_right _ (List.mem_append_left _ hm))
  have base : ∀ b o, hB.get? b = some o → b ∉ mtB.map (·.1) := fun b o e hm => by
    have := S.new (a := b) (by rw [List.map_append, List.map_append]; exact .tail _ (List.mem_append_right _ (List.mem_append_left _ hm)))
    rw [this] at e; cases e
  have kB : Kp hB h' := fun b o e => hN.keep b o (base b o e) (S.keep b o e)
  obtain ⟨oL, esL, epL, hL1, hdL, _⟩ := S.ns
  have hL2 := hN.keep L oL hLB hL1
  have hLB0 : hB.get? L = none := S.new (.head _)
  have ff2 : h'.FunFrames {} (lofE L :: outer) := by
    refine ⟨by show ScopeKind.function ≠ _; decide, ⟨L, oL, rfl, by rfl, hL2, fun vs q => by rw [hdL] at q; cases q⟩, hff.of_keeps fun b o e _ => ⟨o, kB b o e, rfl⟩⟩
  have hx0 : ExcAt h' e dx none := ⟨_, _, hN.at_, rfl, rfl, rfl, rfl, rfl⟩
  have eB : hB.get? e = none := by
    cases q : hB.get? e with
    | none => rfl
    | some o => exact absurd rfl (hN.ne e o (base e o q) (S.keep e o q)).1
  have dB : hB.get? dx = none := by
    cases q : hB.get? dx with
    | none => rfl
    | some o => exact absurd rfl (hN.ne dx o (base dx o q) (S.keep dx o q)).2
  have hed : e ≠ dx := fun q => by
    have := hN.at_
    rw [q, hdx] at this
    cases this
  -- what is a frame's table
  have frm : ∀ b ∈ (lofE L :: outer).filterMap (·.frame), ∃ o, h'.get? b = some o ∧ (∀ vs, o.data ≠ .fields vs) ∧ (b = L ∨ ∃ o, hB.get? b = some o) := by
    intro b hb
    obtain ⟨_, o, ho, hf⟩ := ff2.mem hb
    refine ⟨o, ho, hf, ?_⟩
    rw [List.filterMap_cons] at hb
    rcases List.mem_cons.mp hb with q | q
    · exact .inl q
    · obtain ⟨_, o', ho', _⟩ := hff.mem q
      exact .inr ⟨o', ho'⟩
  have dxf : dx ∉ (lofE L :: outer).filterMap (·.frame) := fun hm => by
    obtain ⟨_, _, _, q | ⟨o, q⟩⟩ := frm dx hm
    · exact (hN.ne L oL hLB hL1).2 q.symm
    · rw [dB] at q; cases q
  have fld : ∀ b o vs, h'.get? b = some o → o.data = .fields vs → b ∉ (lofE L :: outer).filterMap (·.frame) := fun b o vs hb hd hm => by
    obtain ⟨o', ho', hf, _⟩ := frm b hm
    rw [hb] at ho'; cases ho'
    exact hf vs hd
  have tabF : ∀ P q ln cl mt, TabL P q ln cl mt → ∀ p ∈ mt, (∃ vs, p.2.data = .fields vs ∧ vs[1]? ≠ some .none) ∨ p.2.cls = .none ∧ ∃ vs, p.2.data = .fields vs := by
    intro P q ln cl mt hT p hp
    rcases hT with rfl | ⟨c', oc, vs, t, rfl, hd, hv⟩
    · simp only [List.mem_singleton] at hp
      subst hp
      exact .inr ⟨rfl, _, rfl⟩
    · rcases List.mem_cons.mp hp with rfl | hp
      · exact .inr ⟨rfl, _, rfl⟩
      · simp only [List.mem_singleton] at hp
        subst hp
        refine .inl ⟨vs, hd, ?_⟩
        rw [hv]
        intro q
        cases q
  have tabE : ∀ P q ln cl mt, TabL P q ln cl mt → (∀ p ∈ mt, h'.get? p.1 = some p.2) → ∀ p ∈ mt, p.1 ≠ e ∧ p.1 ∉ (lofE L :: outer).filterMap (·.frame) := by
    intro P q ln cl mt hT hg p hp
    have hgp := hg p hp
    rcases tabF P q ln cl mt hT p hp with ⟨vs, hd, hv⟩ | ⟨hc, vs, hd⟩
    · refine ⟨fun z => ?_, fld _ _ vs hgp hd⟩
      rw [z, hN.at_] at hgp
      have hgp := Option.some.inj hgp
      rw [← hgp] at hd
      cases hd
      exact hv rfl
    · refine ⟨fun z => ?_, fld _ _ vs hgp hd⟩
      rw [z, hN.at_] at hgp
      have hgp := Option.some.inj hgp
      rw [← hgp] at hc
      cases hc
  have hmA : ∀ p ∈ mtA, h'.get? p.1 = some p.2 := fun p hp => hN.keep _ _ (fun hm => ndA.2.2 _ (List.mem_map_of_mem hp) _ (List.mem_append_left _ hm) rfl) (S.led p (List.mem_append_left _ hp))
  show wpAny _ _ _ _ _ _
  refine noteNew hfr ff2 rfl hx0 fun h3 T hT0 N3 hx3 => ?_
  have hTd : T ≠ dx := fun q => by rw [q, hdx] at hT0; cases hT0
  obtain ⟨oe, vse, hee, _, _, hde, _, h1e, _⟩ := id hx3
  show wpAny _ _ _ _ _ _
  refine wpAny_bind (wpAny_field (s := ⟨h3, g', d, t, os⟩) hee hde h1e ?_)
  rw [if_neg (by simp)]
  refine setFl (some L) hx3 fun h4 N4 hx4 => ?_
  show wpAny _ _ _ _ _ _
  unfold leaving
  refine wpAny_bind (noteAgain rfl hx4 ?_)
  refine setFl none hx4 fun h5 N5 hx5 => hP h5 ?_
  have N : Noted ((lofE L :: outer).filterMap (·.frame)) [e, T] h' h5 :=
    (N3.mono (fun _ q => q) (fun b hb => by simp at hb; simp [hb])).trans ((N4.mono (fun _ q => by cases q) (fun b hb => by simp at hb; simp [hb])).trans (N5.mono (fun _ q => by cases q) (fun b hb => by simp at hb; simp [hb])))
  have keep5 : ∀ b o, h'.get? b = some o → b ≠ e → b ∉ (lofE L :: outer).filterMap (·.frame) → h5.get? b = some o := fun b o hb h1 h2 =>
    N.keep b o h2 (by
      simp only [List.mem_cons, List.not_mem_nil, or_false, not_or]
      exact ⟨h1, fun q => by rw [q, hT0] at hb; cases hb⟩) hb
  have hTB0 : hB.get? T = none := by
    cases q : hB.get? T with
    | none => rfl
    | some o => have := kB T o q; rw [hT0] at this; cases this
  refine ⟨⟨fun b o n1 _ hb => keep5 b o (kB b o hb) (fun q => by rw [q, eB] at hb; cases hb) (fun hm => ?_), fun b o _ hb => ?_⟩, ⟨dx, T, es, n, tw, tg, tt, wish, gk, rows, hx5, keep5 dx _ hdx (Ne.symm hed) dxf, e1, e2, e3, hT, hTB0, dB⟩, eB, mtA, mt', hTA, hT', fun p hp => ?_, ?_, fun b hb => ?_⟩
  · rw [List.filterMap_cons] at hm
    rcases List.mem_cons.mp hm with q | q
    · rw [q, hLB0] at hb; cases hb
    · exact n1 q
  · refine N.slots b o ?_ (kB b o hb)
    simp only [List.mem_cons, List.not_mem_nil, or_false, not_or]
    exact ⟨fun q => (by rw [q, eB] at hb; cases hb), fun q => (by rw [q, hTB0] at hb; cases hb)⟩
  · rcases List.mem_append.mp hp with hp | hp
    · exact keep5 _ _ (hmA p hp) (tabE _ _ _ _ _ hTA hmA p hp).1 (tabE _ _ _ _ _ hTA hmA p hp).2
    · exact keep5 _ _ (hm' p hp) (tabE _ _ _ _ _ hT' hm' p hp).1 (tabE _ _ _ _ _ hT' hm' p hp).2
  · rw [List.map_append]
    refine List.nodup_append.mpr ⟨ndA.1, hnd', fun x hx y hy q => ?_⟩
    subst q
    rcases hsub' x hy with q | q
    · exact ndA.2.2 x hx x (List.mem_append_left _ q) rfl
    · obtain ⟨p, hp, rfl⟩ := List.mem_map.mp hx
      have := S.led p (List.mem_append_left _ hp)
      rw [q] at this; cases this
  · rw [List.map_append] at hb
    rcases List.mem_append.mp hb with hb | hb
    · exact S.new (by rw [List.map_append]; exact .tail _ (List.mem_append_left _ hb))
    · rcases hsub' b hb with q | q
      · exact S.new (by rw [List.map_append, List.map_append]; exact .tail _ (List.mem_append_right _ (List.mem_append_left _ q)))
      · cases z : hB.get? b with
        | none => rfl
        | some o => have := S.keep b o z; rw [q] at this; cases this
end
end Mine
set_option maxHeartbeats 1000000
namespace Mine
section
variable {w : World} {A : Around} {E : Value → Shared → Prop} {h h' h₀ H hB hb : Heap} {ex : List Addr} {g : Array GenState} {d : Drawn} {t : Nat} {os : OsState} {env : Env} {m m' : Str → Option Value} {mu mu' mt : List (Addr × Obj)} {L a dl D : Addr} {wishes : List Nat} {vs : List Value} {due : Bool} {way : Int} {line : List (Nat × Nat)} {bs : List (List Nat)} {ord : Nat}
theorem line0_fst (wishes : List Nat) : (line0 wishes).map (·.1) = wishes := by
  unfold line0
  rw [List.map_map]
  exact pick_all wishes 0
theorem line0_snd (wishes : List Nat) : (line0 wishes).map (·.2) = List.range wishes.length := by
  unfold line0
  rw [List.map_map]
  exact List.map_id' _
theorem Inv.init (h6 : wishes.length = 6) (h5 : ∀ x ∈ wishes, x ≤ 5) (hd : canBe (wishes.map Int.ofNat) = due) : Inv wishes due (line0 wishes) (List.replicate 6 []) := by
  have g0 : ∀ k, (List.replicate 6 ([] : List Nat)).getD k [] = [] := by
    intro k
    rw [List.getD_eq_getElem?_getD, List.getElem?_replicate]
    split <;> rfl
  have mem : ∀ r ∈ line0 wishes, r.2 < 6 ∧ r.1 = wishes.getD r.2 0 := by
    intro r hr
    obtain ⟨k, hk, rfl⟩ := List.mem_map.mp hr
    exact ⟨by have := List.mem_range.mp hk; omega, rfl⟩
  refine ⟨by simp, ?_, fun r hr => ⟨?_, (mem r hr).1⟩, ?_, fun r hr => ?_, fun k hk hn => ?_, fun k hk => ?_, fun j k _ _ hm => ?_, fun j k _ _ hm => ?_⟩
  · rw [line0_snd]; exact List.nodup_range
  · have h1 := List.mem_map_of_mem (f := (·.1)) hr
    rw [line0_fst] at h1
    exact h5 _ h1
  · unfold leftsI
    rw [line0_fst]; exact hd
  · rw [g0, (mem r hr).2]; simp
  · exact absurd (by rw [line0_snd, h6]; exact List.mem_range.mpr hk) hn
  · rw [g0]; exact ⟨List.nodup_nil, fun j hj => by cases hj⟩
  · rw [g0] at hm; cases hm
  · rw [g0] at hm; cases hm
theorem lof_spec {Q : Value → Shared → Prop} {wl : Addr} {tw tord : Tok} {outer : List Env} {mtA mtB : List (Addr × Obj)}
    (C : Cx w hB) (MB : BmAt hB) (k0 : Kp hB h) (hTA : TabL 305 keyQ 193 78 mtA) (hTB : TabL 107 strQ 43 32 mtB) (hmu : ∀ p ∈ mtA ++ mtB, h.get? p.1 = some p.2) (nd0 : ((mtA ++ mtB).map (·.1)).Nodup) (hnew : ∀ a ∈ (mtA ++ mtB).map (·.1), hB.get? a = none)
    (hroom : A.depth + 3 < recursionLimit) (hh : A.handled = none) (hu : A.units + 70 < cLine) (hfr : A.frames = some outer) (hff : hB.FunFrames {} outer)
    (hl : hB.IsList wl vs.toArray) (hi : IntsAre vs (wishes.map Int.ofNat)) (h6 : wishes.length = 6) (h5 : ∀ x ∈ wishes, x ≤ 5) (hw : way = 1 ∨ way = -1) (hd : canBe (wishes.map Int.ofNat) = due) (hord : ord ≤ 1000)
    (hQ : ∀ h' t D oD kvs bs, (D == sysModules) = false → Kp hB h' → TabsOk hB h' → hB.get? D = none → h'.get? D = some oD → oD.IsDictOf (strKind pg w) kvs → Bs w h' [] kvs bs → Inv wishes due [] bs → Q (.ref D) ⟨h', g, d, t, os⟩)
    (hE : ∀ e h' g' t', Flown hB (outer.filterMap (·.frame)) due e h' → (AllBare g → AllBare g') → E (.ref e) ⟨h', g', d, t', os⟩) :
    wpAny (Md w) A (call (.ref 308) [.ref wl, .int (ord : Nat) tord, .int way tw, .bool due]) Q E ⟨h, g, d, t, os⟩ := by
  refine enterCM (mu0 := mtA ++ mtB) (binds := [(Str.ofString "wishes", .ref wl), (Str.ofString "order", .int (ord : Nat) tord), (Str.ofString "way", .int way tw), (Str.ofString "due", .bool due)]) C k0 hmu nd0 hnew (by k_is) (by k_is) (by omega) rfl (fun L x hx => ?_) (fun L h1 t mu cl hcl hmu1 hcs hL S => ?_) (fun L => by show ([Str.ofString "way"] : List Str).Nodup; decide)
  · simp only [List.mem_cons, List.not_mem_nil, or_false] at hx
    rcases hx with rfl | rfl | rfl | rfl
    · exact .inl rfl
    · exact .inl rfl
    · exact .inr ⟨rfl, rfl⟩
    · exact .inl rfl
  have hcl' : cl = [(Str.ofString "way", L + 1)] := hcl
  subst hcl'
  obtain ⟨oc, rfl, hoc⟩ := hcs.one
  refine begin_ (A := A.deeper (lofE L)) (mtA := mtA) (mtB := mtB) C (show A.depth + 1 + 2 < _ by omega) hh S hoc hTA hTB hl hi h6 h5 rfl rfl rfl fun h2 H2 ex2 m2 t2 a dl D loD hS2 => ?_
  refine lof_while (A := A.deeper (lofE L)) C MB (show A.depth + 1 + 2 < _ by omega) hh (show A.units + 3 + 64 < _ by omega) hw hS2 (Inv.init h6 h5 hd) hord (fun h3 H3 ex3 m3 t3 bs3 ord3 hS3 hI3 => ?_) (fun h3 H3 ex3 m3 mu3 mtA3 mtB3 h4 g4 t4 e dx t0 wish gk rows S3 a1 a2 a3 a4 a5 => ?_)
  · obtain ⟨o, od, oD, x, dx, hs, tk, T, T1, T2, n, oc', tw', mtA', mtB', its, kvs, to, S, hA, hEd, hD, hB', hC, hoc', hTA', hTB', hp, r⟩ := hS3.all
    have hsub : (mtA' ++ mtB').Sublist ((a, o) :: (dl, od) :: (D, oD) :: (x, instObj 166 dx) :: (dx, compD hs tk T n) :: (L + 1, oc') :: (mtA' ++ mtB')) := .cons _ (.cons _ (.cons _ (.cons _ (.cons _ (.cons _ (.refl _))))))
    have St := S.sub hsub
    exact hQ h3 _ D oD kvs bs3 loD S.keep ⟨mtA', mtB', hTA', hTB', St.led, (List.nodup_cons.mp St.nd).2, fun b hb => St.new (.tail _ hb)⟩ (S.new (by simp)) (S.at 2 rfl) hD (hB'.on (fun b o n e => S.pres b o n e) fun b o e n => by simp) hI3
  · exact fly_out (Around.frames_deeper hfr) hff S3 a1 a2 a3 a4 fun h5 hF => hE e h5 g4 t4 hF a5
end
end Mine
set_option maxHeartbeats 400000
namespace Mine
theorem foldl_sum : ∀ (c : List (Str × Int)) (a : Int), c.foldl (fun a p => a + p.2) a = a + kprSum c
  | [], a => by simp [kprSum]
  | p :: c, a => by
    rw [List.foldl_cons, foldl_sum c]
    show a + p.2 + kprSum c = a + (p.2 + kprSum c)
    omega
theorem sumC_eq (c : List (Str × Int)) : sumC c = kprSum c := by
  unfold sumC; rw [foldl_sum]; omega
theorem bk_nodup {l : List Nat} (nd : l.Nodup) : ((bkC l).map (·.1)).Nodup := by
  unfold bkC
  rw [List.map_map]
  exact List.Pairwise.map nm (fun a b e => nm_ne e) nd
theorem bk_has (l : List Nat) (k : Nat) : kprHas (bkC l) (nm k) = decide (k ∈ l) := by
  induction l with
  | nil => rfl
  | cons x l ih =>
    show kprHas ((nm x, 1) :: bkC l) (nm k) = _
    rw [kpr_has_cons, ih]
    by_cases e : x = k
    · subst e; simp
    · have : ¬ nm x = nm k := nm_ne e
      have e' : ¬ k = x := fun q => e q.symm
      simp [this, e']
theorem bk_look {l : List Nat} {k : Nat} (h : k ∈ l) : kprLook (bkC l) (nm k) 0 = 1 := by
  induction l with
  | nil => cases h
  | cons x l ih =>
    show kprLook ((nm x, 1) :: bkC l) (nm k) 0 = _
    rw [kpr_look_cons]
    by_cases e : x = k
    · subst e; simp
    · have : ¬ nm x = nm k := nm_ne e
      rw [if_neg this]
      exact ih ((List.mem_cons.mp h).resolve_left fun q => e q.symm)
theorem bk_sum (l : List Nat) : kprSum (bkC l) = (l.length : Nat) := by
  induction l with
  | nil => rfl
  | cons x l ih =>
    show 1 + kprSum (bkC l) = _
    rw [ih, List.length_cons]; omega
theorem addTo_put (a : List (Str × Int)) (p : Str × Int) : addTo a p = kprPut a p.1 (kprLook a p.1 0 + p.2) := by
  unfold addTo
  split
  · rfl
  · rename_i h
    rw [kpr_look_none (by simpa using h), Int.zero_add]
theorem fold_add : ∀ (l : List Nat) (a : List (Str × Int)), (a.map (·.1)).Nodup → (((bkC l).foldl addTo a).map (·.1)).Nodup ∧ (∀ j, kprLook ((bkC l).foldl addTo a) (nm j) 0 = kprLook a (nm j) 0 + (l.count j : Nat)) ∧ kprSum ((bkC l).foldl addTo a) = kprSum a + (l.length : Nat)
  | [], a, na => ⟨na, fun j => by simp [bkC], by simp [bkC]⟩
  | x :: l, a, na => by
    have e : (bkC (x :: l)).foldl addTo a = (bkC l).foldl addTo (addTo a (nm x, 1)) := rfl
    rw [e, addTo_put]
    obtain ⟨h1, h2, h3⟩ := fold_add l _ (kpr_nodup na (nm x) (kprLook a (nm x) 0 + 1))
    refine ⟨h1, fun j => ?_, ?_⟩
    · rw [h2, kpr_look_put, List.count_cons]
      by_cases q : j = x
      · subst q; simp; omega
      · have : ¬ nm j = nm x := nm_ne q
        have q' : ¬ x = j := fun z => q z.symm
        simp [this, q']
    · rw [h3, kpr_sum_add na, List.length_cons]; omega
theorem addC_fold {ct : List (Str × Int)} (n : (ct.map (·.1)).Nodup) (cs : List (Str × Int)) : addC ct cs = cs.foldl addTo ct := by
  unfold addC
  rw [kpr_foldl_new ct [] (fun _ _ => rfl) n]
  rfl
/-- all books put together -/
noncomputable def evC (bs : List (List Nat)) : List (Str × Int) := bs.foldl (fun c l => addC c (bkC l)) []
theorem evC_snoc {bs : List (List Nat)} {l : List Nat} {i : Nat} (h : bs[i]? = some l) : addC (evC (bs.take i)) (bkC l) = evC (bs.take (i + 1)) := foldl_take (fun c l => addC c (bkC l)) [] bs i l h
theorem evC_go : ∀ (bs : List (List Nat)) (a : List (Str × Int)), (a.map (·.1)).Nodup → ((bs.foldl (fun c l => addC c (bkC l)) a).map (·.1)).Nodup ∧ (∀ j, kprLook (bs.foldl (fun c l => addC c (bkC l)) a) (nm j) 0 = kprLook a (nm j) 0 + ((bs.map (·.count j)).sum : Nat)) ∧ kprSum (bs.foldl (fun c l => addC c (bkC l)) a) = kprSum a + ((bs.map List.length).sum : Nat)
  | [], a, na => ⟨na, fun j => by simp, by simp⟩
  | l :: bs, a, na => by
    obtain ⟨a1, a2, a3⟩ := fold_add l a na
    rw [List.foldl_cons, addC_fold na]
    obtain ⟨h1, h2, h3⟩ := evC_go bs _ a1
    refine ⟨h1, fun j => ?_, ?_⟩
    · rw [h2, a2, List.map_cons, List.sum_cons]; omega
    · rw [h3, a3, List.map_cons, List.sum_cons]; omega
theorem addC_len (ct cs : List (Str × Int)) : (addC ct cs).length ≤ ct.length + cs.length := by
  have h1 := foldl_len addTo addTo_len cs (ct.foldl (fun a p => kprPut a p.1 p.2) [])
  have h2 := foldl_len (fun a p => kprPut a p.1 p.2) (fun a p => put_len a p.1 p.2) ct []
  unfold addC
  simp at h2; omega
theorem evC_len : ∀ (bs : List (List Nat)) (a : List (Str × Int)), (∀ l ∈ bs, l.length ≤ 6) → (bs.foldl (fun c l => addC c (bkC l)) a).length ≤ a.length + 6 * bs.length
  | [], a, _ => by simp
  | l :: bs, a, h => by
    have h1 := evC_len bs (addC a (bkC l)) fun x hx => h x (.tail _ hx)
    have h2 := addC_len a (bkC l)
    have h3 := h l (.head _)
    have h4 : (bkC l).length = l.length := by simp [bkC]
    rw [List.foldl_cons, List.length_cons]; omega
theorem sum_add (f g : Nat → Nat) : ∀ l : List Nat, (l.map fun k => f k + g k).sum = (l.map f).sum + (l.map g).sum
  | [] => rfl
  | x :: l => by simp [sum_add f g l]; omega
theorem sum_zero : ∀ l : List Nat, (l.map fun _ => 0).sum = 0
  | [] => rfl
  | x :: l => by simp [sum_zero l]
theorem sum_one (x : Nat) : ∀ n, x < n → ((List.range n).map fun k => if k = x then 1 else 0).sum = 1
  | 0, h => absurd h (Nat.not_lt_zero _)
  | n + 1, h => by
    rw [List.range_succ, List.map_append, List.sum_append]
    by_cases e : n = x
    · subst e
      have : ((List.range n).map fun k => if k = n then 1 else 0) = (List.range n).map fun _ => 0 := by
        refine List.map_congr_left fun k hk => ?_
        have := List.mem_range.mp hk
        rw [if_neg (by omega)]
      rw [this, sum_zero]
      simp
    · rw [sum_one x n (by omega)]
      simp [e]
theorem sum_in : ∀ (l : List Nat) (n : Nat), l.Nodup → (∀ x ∈ l, x < n) → ((List.range n).map fun k => if k ∈ l then 1 else 0).sum = l.length
  | [], n, _, _ => by simpa using sum_zero (List.range n)
  | x :: l, n, nd, h => by
    have nd' := List.nodup_cons.mp nd
    have e : ((List.range n).map fun k => if k ∈ x :: l then 1 else 0) = (List.range n).map fun k => (if k = x then 1 else 0) + (if k ∈ l then 1 else 0) := by
      refine List.map_congr_left fun k _ => ?_
      by_cases q : k = x
      · subst q; simp [nd'.1]
      · simp [q]
    rw [e, sum_add (fun k => if k = x then 1 else 0) (fun k => if k ∈ l then 1 else 0), sum_one x n (h x (.head _)), sum_in l n nd'.2 fun y hy => h y (.tail _ hy), List.length_cons]; omega
theorem map_range {α : Type} (f : List Nat → α) (bs : List (List Nat)) : bs.map f = (List.range bs.length).map fun k => f (bs.getD k []) := by
  refine List.ext_getElem (by simp) fun i h1 h2 => ?_
  have : i < bs.length := by simpa using h1
  simp [List.getD_eq_getElem?_getD, this]
section
variable {wishes : List Nat} {due : Bool} {bs : List (List Nat)}
theorem Inv.lens (x : Inv wishes due [] bs) (h6 : wishes.length = 6) : bs.map List.length = wishes := by
  refine List.ext_getElem (by simp [x.six, h6]) fun k h1 h2 => ?_
  have hk : k < 6 := by have := x.six; have : k < bs.length := by simpa using h1
                        omega
  have := x.cout k hk (by simp)
  simp [List.getD_eq_getElem?_getD] at this
  have h3 : k < bs.length := by simpa using h1
  simp [h3, h2] at this
  simpa using this
theorem Inv.counts (x : Inv wishes due [] bs) {j : Nat} (hj : j < 6) : (bs.map (·.count j)).sum = wishes.getD j 0 := by
  rw [map_range, x.six, ← x.cout j hj (by simp), ← sum_in (bs.getD j []) 6 (x.bnd j hj).1 fun y hy => ((x.bnd j hj).2 y hy).1]
  refine congrArg List.sum (List.map_congr_left fun k hk => ?_)
  have hk := List.mem_range.mp hk
  by_cases q : j ∈ bs.getD k []
  · have q2 := x.sym j k hj hk q
    rw [if_pos q2, (x.bnd k hk).1.count, if_pos q]
  · have q2 : ¬ k ∈ bs.getD j [] := fun z => q (x.sym k j hk hj z)
    rw [if_neg q2, (x.bnd k hk).1.count, if_neg q]
theorem Inv.every (x : Inv wishes due [] bs) {j : Nat} (hj : j < 6) : kprLook (evC bs) (nm j) 0 = (wishes.getD j 0 : Nat) := by
  have := (evC_go bs [] (by simp)).2.1 j
  unfold evC
  rw [this, x.counts hj]
  show (0 : Int) + _ = _
  omega
theorem Inv.total (x : Inv wishes due [] bs) (h6 : wishes.length = 6) : sumC (evC bs) = (wishes.map Int.ofNat).sum := by
  rw [sumC_eq]
  have := (evC_go bs [] (by simp)).2.2
  unfold evC
  rw [this, x.lens h6]
  show (0 : Int) + _ = _
  have : ∀ l : List Nat, ((l.sum : Nat) : Int) = (l.map Int.ofNat).sum := by
    intro l
    induction l with
    | nil => rfl
    | cons y l ih => simp [← ih]
  rw [this]; omega
end
end Mine
set_option maxHeartbeats 400000
namespace Mine
section
variable {w : World} {A : Around} {E : Value → Shared → Prop} {h h' h₀ H hB hb : Heap} {ex : List Addr} {g : Array GenState} {d : Drawn} {t : Nat} {os : OsState} {env : Env} {m m' : Str → Option Value} {mu mu' mt : List (Addr × Obj)} {L a l D B : Addr} {vs xs ys : List Value} {kvs : List (Str × Value)} {c : List (Str × Int)} {o oD : Obj} {k : Str} {key : Value}
theorem subSub {value v2 s2 : Expr} {p2 pos : Pos} {T id : String} {Q : Value → Shared → Prop} {s : Shared}
    (hl : typeLookup (.type T) "__getitem__" = pure (some (.builtin id)))
    (h : wpAny (Md w) A (eval value env) (fun o s₁ => wpAny (Md w) A (eval (.Subscript v2 s2 p2) env) (fun i s₂ => s₂.TypeIs o T ∧ wpAny (Md w) A (getItem o i) Q E s₂) E s₁) E s)
    (ht : ∀ o r, letTemporaryGo value o r = pure () := by intro _ _; rfl) :
    wpAny (Md w) A (eval (.Subscript value (.Subscript v2 s2 p2) pos) env) Q E s := by
  rw [eval_Subscript]
  refine wpAny_bind (wpAny_mono h (fun o s₁ h₁ => wpAny_bind (wpAny_holding (wpAny_mono h₁ (fun i s₂ h₂ => wpAny_bind (wpAny_standAt ?_)) fun _ _ x => x)))
    fun _ _ x => x)
  refine wpAny_bind ?_
  rw [getitemInPython_of_ne h₂.1.not_modules]
  refine wpAny_bind (wpAny_specialOf h₂.1 hl ?_)
  have fin : wpAny (Md w) A (operate [o, i] (getItem o i)) (fun r s₃ => wpAny (Md w) A (letTemporaryGo value o r >>= fun _ => pure r) Q E s₃) E s₂ :=
    wpAny_operating (wpAny_mono h₂.2 (fun r s₃ h₃ => wpAny_bind (wpAny_of_eq (ht o r) (wpAny_pure h₃))) fun _ _ x => x)
  first
    | exact wpAny_pure (wpAny_bind fin)
    | exact wpAny_bind (wpAny_pure (wpAny_bind fin))
    | exact wpAny_bind fin
theorem itemD2 {value v2 s2 : Expr} {p2 pos : Pos} {v : Value} {Q : Value → Shared → Prop} {s : Shared}
    (hQ : wpAny (Md w) A (eval value env) (fun o s₁ => wpAny (Md w) A (eval (.Subscript v2 s2 p2) env) (fun i s₂ => X4 fun D tk ob kvs => A6 (o = .ref D) (i = .str k tk) (s₂.heap.get? D = some ob) (ob.IsDictOf (strKind pg w) kvs) (valueAt kvs k = some v) (Q v { s₂ with toks := s₂.toks + 1 })) E s₁) E s)
    (ht : ∀ o r, letTemporaryGo value o r = pure () := by intro _ _; rfl) :
    wpAny (Md w) A (eval (.Subscript value (.Subscript v2 s2 p2) pos) env) Q E s := by
  refine subSub (T := "dict") PySem.F.slot_dict_getitem.lookup (wpAny_mono hQ (fun o s₁ h1 => wpAny_mono h1 (fun i s₂ h2 => ?_) fun _ _ e => e) fun _ _ e => e) ht
  obtain ⟨D, tk, ob, kvs, rfl, rfl, hD, hd, hv, q⟩ := h2
  have hDD := getDict hD hd
  exact ⟨hDD.typeIs, wpAny_getItem_of (strKind_is pg w k tk) hDD.mapOf hv q⟩
theorem itemBk {value : Expr} {x : Str} {p pos : Pos} {Q : Value → Shared → Prop} {s : Shared}
    (hQ : wpAny (Md w) A (eval value env) (fun o s₁ => wpAny (Md w) A (eval (.Name x p) env) (fun i s₂ => X4 fun D ob c k => A6 (o = .ref D) ((strKind pg w).is k i = true) (s₂.heap.get? D = some ob) (BkO w c ob) (kprHas c k = true) (∀ tn, Q (.int (kprLook c k 0) tn) { s₂ with toks := s₂.toks + 1 })) E s₁) E s)
    (ht : ∀ o r, letTemporaryGo value o r = pure () := by intro _ _; rfl) :
    wpAny (Md w) A (eval (.Subscript value (.Name x p) pos) env) Q E s := by
  refine wpAny_Subscript_Name (T := "dict") PySem.F.slot_dict_getitem.lookup (wpAny_mono hQ (fun o s₁ h1 => wpAny_mono h1 (fun i s₂ h2 => ?_) fun _ _ e => e) fun _ _ e => e) ht
  obtain ⟨D, ob, c, k, rfl, hk, hD, hB, hh, q⟩ := h2
  obtain ⟨kvs, hd, hf⟩ := id hB
  exact ⟨(getDict hD hd).typeIs, getBk hD hB hk hh q⟩
theorem listDict {Q : Value → Shared → Prop} (hD : h.get? D = some oD) (hd : oD.IsDictOf (strKind pg w) kvs) (lo : (D == sysModules) = false) (hh : A.handled = none) (hn : kvs.length ≤ 1000)
    (hQ : ∀ h' B vs k t', Kp h h' → h.get? B = none → h'.get? B = some (LstP vs k) → StrsAre vs (kvs.map (·.1)) → Q (.ref B) ⟨h', g, d, t', os⟩) : wpAny (Md w) A (call (.type "list") [.ref D]) Q E ⟨h, g, d, t, os⟩ := by
  obtain ⟨ep, hat⟩ := (getDict hD hd).dictAt
  refine kdl_call (s := ⟨h, g, d, t, os⟩) (kdl_dict lo) hh hat (by rw [sizeLine_eq]; omega) fun h' tk acc' c' hk hD' hacc => ?_
  refine hQ h' _ acc'.toList c' tk hk (fresh_none h) (by simpa using hD') ?_
  have key : ∀ (vs : List Value) (kvs : List (Str × Value)), vs.length = kvs.length → (∀ (j : Nat) (v : Value), vs[j]? = some v → ∃ k x, kvs[j]? = some (k, x) ∧ (strKind pg w).is k v = true) → StrsAre vs (kvs.map (·.1)) := by
    intro vs
    induction vs with
    | nil => intro kvs hl _; cases kvs with | nil => exact .nil | cons _ _ => simp at hl
    | cons v r ih =>
      intro kvs hl hv
      cases kvs with
      | nil => simp at hl
      | cons c cs =>
        obtain ⟨k, x, e, hk⟩ := hv 0 v rfl
        cases e
        obtain ⟨tk, rfl⟩ := strInv hk
        exact .cons _ _ (ih cs (by simpa using hl) fun j v hj => hv (j + 1) v (by simpa using hj))
  exact key _ _ (by simpa using hacc.1) fun j v hj => hacc.2 j v (by simpa using hj)
theorem strs_reads {ss : List Str} (x : StrsAre vs ss) : ∃ as, ReadsAll h vs (ss.map PyData.str) as := by
  induction x with
  | nil => exact ⟨_, .nil⟩
  | cons y u _ ih => exact let ⟨_, r⟩ := ih; ⟨_, .cons (.str _ _) r⟩
theorem strs_eqv : ∀ ss : List Str, PyData.eqvAll (ss.map PyData.str) (ss.map PyData.str) = true
  | [] => rfl
  | s :: ss => by simp [PyData.eqvAll, PyData.eqv, strs_eqv ss]
theorem ne_strs {ss : List Str} {Q : Value → Shared → Prop} (ha : h.IsList a xs.toArray) (hb : h.IsList B ys.toArray) (hx : StrsAre xs ss) (hy : StrsAre ys ss) (hs : ss.all PyData.strOk = true) (hu : A.units + 64 < cLine)
    (hQ : Q (.bool false) ⟨h, g, d, t, os⟩) : wpAny (Md w) A (compareOp .NotEq (.ref a) (.ref B)) Q E ⟨h, g, d, t, os⟩ := by
  obtain ⟨as, ra⟩ := strs_reads (h := h) hx
  obtain ⟨bs, rb⟩ := strs_reads (h := h) hy
  obtain ⟨o1, ho1, hc1, n1, hd1⟩ := ha
  obtain ⟨o2, ho2, hc2, n2, hd2⟩ := hb
  have sh : SeqAt.shaped (.list (ss.map PyData.str)) = true := by
    unfold SeqAt.shaped
    simp [PyData.canLay0, PyData.depth, canLayAll_strs', depthAll_strs']
    simpa using hs
  refine ne_dataH (s := ⟨h, g, d, t, os⟩) (.list ho1 hc1 hd1 ra) (.list ho2 hc2 hd2 rb) sh sh hu ?_
  have e : PyData.eqv (.list (ss.map PyData.str)) (.list (ss.map PyData.str)) = true := by
    have := strs_eqv ss
    simp [PyData.eqv, this]
  rw [e]
  exact hQ
theorem dget1 {Q : Value → Shared → Prop} (ho : h.get? D = some o) (hB : BkO w c o) (hkey : (strKind pg w).is k key = true) (lo : (D == sysModules) = false) (hk : kprHas c k = true)
    (hQ : ∀ tn, Q (.int (kprLook c k 0) tn) ⟨h, g, d, t + 1, os⟩) : wpAny (Md w) A (call (.builtin "dict.get") [.ref D, key]) Q E ⟨h, g, d, t, os⟩ := by
  obtain ⟨kvs, hd, hf⟩ := hB
  obtain ⟨v, hv, hfl⟩ := hf.of_lookup PyProof.V.same_str (kdpD_item hk)
  obtain ⟨tn, rfl⟩ := hfl.int_inv
  refine call_meetsIn (s := ⟨h, g, d, t, os⟩) PySem.F.slot_dict_get (getDict ho hd).typeIs PySem.F.entry_dict_get (PySem.F.args_dict_get_2 _ _) (meets_dict_get (knd := strKind pg w) (d := D) hkey lo) ⟨_, (getDict ho hd).mapOf, ?_⟩
  show Q ((valueAt kvs k).getD .none) _
  rw [hv]
  exact hQ tn
theorem dget2 {Q : Value → Shared → Prop} {t0 : Tok} (ho : h.get? D = some o) (hB : BkO w c o) (hkey : (strKind pg w).is k key = true) (lo : (D == sysModules) = false)
    (hQ : ∀ tn, Q (.int (kprLook c k 0) tn) ⟨h, g, d, t + 1, os⟩) : wpAny (Md w) A (call (.builtin "dict.get") [.ref D, key, .int 0 t0]) Q E ⟨h, g, d, t, os⟩ := by
  obtain ⟨kvs, hd, hf⟩ := hB
  refine call_meetsIn (s := ⟨h, g, d, t, os⟩) PySem.F.slot_dict_get (getDict ho hd).typeIs PySem.F.entry_dict_get (PySem.F.args_dict_get_3 _ _ _) (meets_dict_get_default (strKind pg w) D hkey lo (.int 0 t0)) ⟨_, (getDict ho hd).mapOf, ?_⟩
  show Q ((valueAt kvs k).getD (.int 0 t0)) _
  cases hk : kprHas c k with
  | true =>
    obtain ⟨v, hv, hfl⟩ := hf.of_lookup PyProof.V.same_str (kdpD_item hk)
    obtain ⟨tn, rfl⟩ := hfl.int_inv
    rw [hv]
    exact hQ tn
  | false =>
    have e : (valueAt kvs k).isSome = kprHas c k := by rw [hf.isSome PyProof.V.same_str k, kdpD_isSome]; rfl
    rw [hk] at e
    have e : valueAt kvs k = none := by simpa using e
    have e2 := kpr_look_none hk 0
    rw [e]
    have := hQ t0
    rw [e2] at this
    exact this
theorem revL {value : Expr} {ck : Nat} {cp p1 p2 pos : Pos} {Q : Value → Shared → Prop} (hl : ∀ (Q' : Value → Shared → Prop), Q' (.ref l) ⟨h, g, d, t, os⟩ → wpAny (Md w) A (eval value env) Q' E ⟨h, g, d, t, os⟩) (hi : h.IsList l vs.toArray) (hz : vs.length ≤ 1000)
    (hQ : ∀ h' R t', Kp h h' → h.get? R = none → h'.get? R = some (LstP vs.reverse 0) → Q (.ref R) ⟨h', g, d, t', os⟩)
    (ht : ∀ o r, letTemporaryGo value o r = pure () := by intro _ _; rfl) :
    wpAny (Md w) A (eval (.Subscript value (.Slice none none (some (.UnaryOp .USub (.Constant (.int 1) ck cp) p1)) p2) pos) env) Q E ⟨h, g, d, t, os⟩ := by
  refine wpAny_Subscript_Slice_step (T := "list") list_getitem_lookup (hl _ ?_) ht
  refine wpAny_Slice (wpAny_evalPart_none (wpAny_evalPart_none (wpAny_evalPart_some (wpAny_UnaryOp (cI (negI ?_))))))
  refine ⟨(hi.push _).typeIs, wpAny_getItem_list_slice (hi.push _) (Heap.IsSliceOf.new ..) .none .none (.int _ _) (by decide) ?_ (by simp [sizeLine]; omega)⟩
  dsimp only
  refine hQ _ _ _ (fun b o e => Heap.get?_push_of_some _ (Heap.get?_push_of_some _ e)) ?_ ?_
  · rw [Heap.size_push]
    cases q : h.get? (h.objs.size + 1) with
    | none => rfl
    | some o => exact absurd (Heap.lt_size q) (Nat.not_lt.mpr (Nat.le_succ _))
  · have e := krv_pick vs.toArray
    have e2 : slicePick vs.toArray none none (some (-1)) = vs.reverse.toArray := by simpa using e
    rw [e2]
    exact Heap.get?_push_size _ rfl
end
end Mine
set_option maxHeartbeats 1000000
namespace Mine
noncomputable def shD : Stmt := stmtAt pg.main.body 20
noncomputable def shB : List Stmt := bodyOf shD
noncomputable def shSc : Scope := scopeOf shD
noncomputable abbrev shE (L : Addr) : Env := envX (Str.ofString "_law_all_shook") shSc L 313 (.ref 312) [(Str.ofString "every", L + 2), (Str.ofString "books", L + 1)]
section
variable {w : World} {A : Around} {E : Value → Shared → Prop} {h h' h₀ H hB hb : Heap} {ex : List Addr} {g : Array GenState} {d : Drawn} {t : Nat} {os : OsState} {env : Env} {m m' : Str → Option Value} {mu mu' mt : List (Addr × Obj)} {L a l D B : Addr} {vs xs ys nv : List Value} {kvs : List (Str × Value)} {c : List (Str × Int)} {o oD : Obj} {key : Value} {wishes : List Nat} {due : Bool} {bs : List (List Nat)} {k : Nat} {wl : Addr}
theorem neI {a b : Int} {ta tb : Tok} {Q : Value → Shared → Prop} (hQ : Q (.bool (a != b)) ⟨h, g, d, t, os⟩) : wpAny (Md w) A (compareOp .NotEq (.int a ta) (.int b tb)) Q E ⟨h, g, d, t, os⟩ := PySem.IsLeap.wpAny_ne_int hQ
/-- what of the books stands below all_shook -/
structure ShBase (w : World) (h₀ : Heap) (D : Addr) (oD : Obj) (kvs : List (Str × Value)) (bs : List (List Nat)) (wl : Addr) (vs : List Value) (wishes : List Nat) (due : Bool) : Prop where
  C : Cx w h₀
  hD : h₀.get? D = some oD
  hd : oD.IsDictOf (strKind pg w) kvs
  lo : (D == sysModules) = false
  hB : Bs w h₀ [] kvs bs
  hI : Inv wishes due [] bs
  hl : h₀.IsList wl vs.toArray
  hi : IntsAre vs (wishes.map Int.ofNat)
  h6 : wishes.length = 6
  h5 : ∀ x ∈ wishes, x ≤ 5
theorem ShBase.book (X : ShBase w h₀ D oD kvs bs wl vs wishes due) {j : Nat} (hj : j < 6) : ∃ B o, valueAt kvs (nm j) = some (Value.ref B) ∧ h₀.get? B = some o ∧ BkO w (bkC (bs.getD j [])) o ∧ (B == sysModules) = false := by
  obtain ⟨v, hv, B, o, rfl, ho, _, hb, lo⟩ := X.hB.value (k := j) (getD_at (by rw [X.hI.six]; exact hj))
  exact ⟨B, o, hv, ho, hb, lo⟩
theorem ShBase.wish (X : ShBase w h₀ D oD kvs bs wl vs wishes due) {j : Nat} (hj : j < 6) : ∃ tk, vs[j]? = some (.int ((wishes.getD j 0 : Nat) : Int) tk) := by
  have hvl : vs.length = 6 := by rw [X.hi.length]; simpa using X.h6
  obtain ⟨nn, tt, e1, e2⟩ := IntsAre.at X.hi j (vs[j]'(by omega)) (by simp)
  have hw : j < wishes.length := by rw [X.h6]; exact hj
  rw [List.getElem?_map] at e2
  have e3 : wishes[j]? = some (wishes.getD j 0) := by simp [List.getD_eq_getElem?_getD, hw]
  rw [e3] at e2
  cases e2
  exact ⟨tt, by rw [List.getElem?_eq_getElem (by omega), e1]; rfl⟩
theorem shook_turn {Q : Flow → Shared → Prop} {I NL EV : Addr} {oI ocB ocE oEV : Obj} {nk : Nat} {tk : Tok} (X : ShBase w h₀ D oD kvs bs wl vs wishes due) (hroom : A.depth < recursionLimit) (hh : A.handled = none)
    (hk6 : k < 6) (S : St h₀ H ex L h m [(I, oI), (NL, LstP nv nk), (EV, oEV), (L + 1, ocB), (L + 2, ocE)]) (hcB : ocB.data = .cell (some (.ref D))) (hcE : ocE.data = .cell (some (.ref EV))) (hE : BkO w (evC (bs.take k)) oEV) (loE : (EV == sysModules) = false)
    (hN : StrsAre nv ((List.range 6).map nm)) (mn : m "names" = some (.ref NL)) (mw : m "wishes" = some (.ref wl)) (mk : m "k" = some (.int (k : Nat) tk))
    (hQ : ∀ h' m' t' EV' oEV' ocE', St h₀ H ex L h' m' [(I, oI), (NL, LstP nv nk), (EV', oEV'), (L + 1, ocB), (L + 2, ocE')] → Same [Str.ofString "k", Str.ofString "book", Str.ofString "other"] m m' → ocE'.data = .cell (some (.ref EV')) → BkO w (evC (bs.take (k + 1))) oEV' → (EV' == sysModules) = false → Q .next ⟨h', g, d, t', os⟩) :
    wpAny (Md w) A (execs (bodyOf (stmtAt shB 3)) (shE L)) Q E ⟨h, g, d, t, os⟩ := by
  have C := X.C
  obtain ⟨tkn, hni⟩ := names_at hN hk6
  obtain ⟨tkw, hwi⟩ := X.wish hk6
  obtain ⟨B, oB, hvB, hoB, hBB, loB⟩ := X.book hk6
  have hbk := X.hI.bnd k hk6
  have hbl := X.hI.cout k hk6 (by simp)
  refine xAssign (itemD2 (ldC (c := L + 1) rfl ⟨ocB, S.at 3 rfl, hcB⟩ (itemL (ldL S mn (ldL S mk ⟨NL, nv, _, _, _, rfl, rfl, lstAt (S.at 1 rfl), by omega, by omega, hni, D, tkn, oD, kvs, rfl, rfl, S.keep _ _ X.hD, X.hd, hvB, ?_⟩))))) 
  refine stL S fun h1 S1 => ?_
  refine xAssign (callName (ldG C S1 (by k_is) (cwFn (f := 177) (by k_is) (spliced_more (ldC (c := L + 2) rfl ⟨ocE, S1.at 4 rfl, hcE⟩ (spliced_more (ldL S1 rfl (spliced_none ⟨C.keeps S1.keep, ?_⟩))))))))
  have hz : (evC (bs.take k)).length + (bkC (bs.getD k [])).length ≤ 900 := by
    have h1 := evC_len (bs.take k) [] fun l hl => by
      obtain ⟨j, hj, e⟩ := List.mem_iff_getElem.mp (List.mem_of_mem_take hl)
      have hj6 : j < 6 := by have := X.hI.six; omega
      have h2 := X.hI.cout j hj6 (by simp)
      have h3 : bs.getD j [] = l := by simp [List.getD_eq_getElem?_getD, hj, e]
      rw [h3] at h2
      have h4 : wishes.getD j 0 ≤ 5 := by
        have hw : j < wishes.length := by rw [X.h6]; exact hj6
        have := X.h5 wishes[j] (List.getElem_mem hw)
        simpa [List.getD_eq_getElem?_getD, hw] using this
      omega
    have h2 : (bs.take k).length ≤ 6 := by have := X.hI.six; simp; omega
    have h3 : (bkC (bs.getD k [])).length = (bs.getD k []).length := by simp [bkC]
    have h4 := nodup_le6 hbk.1 fun x hx => (hbk.2 x hx).1
    unfold evC
    rw [List.length_nil] at h1
    omega
  refine add_callers_spec (C.keeps S1.keep) hroom hh (S1.at 2 rfl) hE loE (S1.keep _ _ hoB) hBB loB hz fun h2 t2 D2 o2 k2 hn2 ho2 hB2 lo2 => ?_
  rw [evC_snoc (getD_at (by rw [X.hI.six]; exact hk6))] at hB2
  have S2 := (S1.add k2 hn2 ho2).perm (mu' := (EV, oEV) :: (I, oI) :: (NL, LstP nv nk) :: (D2, o2) :: (L + 1, ocB) :: (L + 2, ocE) :: []) (permC fun gg cn c0 cc ca => by
    simp only [cc, ca, c0]; omega)
  have S2 := S2.tail
  refine stC S2 (c := L + 2) rfl (i := 4) rfl hcE fun h3 ocE' hcE' S3 => ?_
  refine xIf (isTrue_or (wpAny_isTrue_Compare1 (callName (ldG C S3 (by k_is) (cwFn (f := 184) (by k_is) (spliced_more (ldL S3 rfl (spliced_none ⟨C.keeps S3.keep, ?_⟩))))))))
  refine count_calls_spec (C.keeps S3.keep) hroom hh (S3.keep _ _ hoB) hBB loB fun h4 t4 tk4 k4 => ?_
  have S4 := S3.keeps k4
  refine itemL (ldL S4 mw (ldL S4 mk ⟨wl, vs, _, _, _, rfl, rfl, X.hl.at (S4.keep _), by omega, by omega, hwi, neI (wpAny_truthy_bool ?_)⟩))
  have e1 : (sumC (bkC (bs.getD k [])) != ((wishes.getD k 0 : Nat) : Int)) = false := by
    rw [sumC_eq, bk_sum, hbl]; simp
  rw [e1, if_neg (by decide)]
  refine isTrue_or (wpAny_isTrue_Compare1 (itemL (ldL S4 mn (ldL S4 mk ⟨NL, nv, _, _, _, rfl, rfl, lstAt (S4.at 1 rfl), by omega, by omega, hni, ldL S4 rfl (inBk (k := nm k) (S4.keep _ _ hoB) hBB (strKind_is pg w _ _) loB (wpAny_truthy_bool ?_))⟩))))
  have e2 : kprHas (bkC (bs.getD k [])) (nm k) = false := by
    rw [bk_has]
    exact decide_eq_false fun hm => (hbk.2 k hm).2 rfl
  rw [e2, if_neg (by decide)]
  refine isTrue_or_nil ?_
  rw [if_neg (by decide)]
  refine xNil ?_
  obtain ⟨kvsB, hdB, hfB⟩ := id hBB
  obtain ⟨ep, hat⟩ := (getDict hoB hdB).dictAt
  refine xFor (ldL S4 rfl (wpAny_pyIter_dict loB (hat.keep S4.keep) ?_))
  dsimp only
  have S5 := S4.alloc { cls := .type "dict_keyiterator", data := .fields #[.ref B, .int 0 0, .int kvsB.length 0, .int ep 0] } rfl
  generalize h4.objs.size = J at S5
  refine forIt (itKeys (A := A) (knd := strKind pg w) hh _ _ J B kvsB ep)
    (fun i H1 ex1 m1 mu1 => A6 (H1 = H) (ex1 = ex) (Same [Str.ofString "k", Str.ofString "book", Str.ofString "other"] m m1) (m1 "k" = some (.int (k : Nat) tk)) (m1 "book" = some (.ref B)) (mu1 = [(I, oI), (NL, LstP nv nk), (D2, o2), (L + 1, ocB), (L + 2, ocE')]))
    (fun i H ex h' m mu oI S _ => hat.keep S.keep) S5 ⟨rfl, rfl⟩ ⟨rfl, rfl, ?_, mk, rfl, rfl⟩ ?_ ?_
  · intro y hy
    have n1 : y ≠ Str.ofString "book" := fun e => hy (by rw [e]; decide)
    simp only [upd, n1, if_false]
  · intro i v oI' H1 ex1 h6 m6 mu6 t6 hlt qq10 qq11 hI6 S6
    refine nameT fun Q' hQ' => ?_
    obtain ⟨key, u, hx, hkey⟩ := qq10
    obtain ⟨rfl, rfl, sm, mk6, mb6, rfl⟩ := qq11
    obtain ⟨dv, hdv, hfl⟩ := hfB.at hx
    obtain ⟨n, hc, rfl⟩ := kdpD_at hdv
    obtain ⟨tkk, rfl⟩ := strInv hkey
    unfold bkC at hc
    rw [List.getElem?_map] at hc
    obtain ⟨j, hj, ee⟩ := Option.map_eq_some_iff.mp hc
    cases ee
    have hjm : j ∈ bs.getD k [] := List.mem_of_getElem? hj
    have hj6 := (hbk.2 j hjm).1
    have hkm : k ∈ bs.getD j [] := X.hI.sym j k hj6 hk6 hjm
    obtain ⟨B', oB', hvB', hoB', hBB', loB'⟩ := X.book hj6
    refine wpAny_assign_Name (stL S6 fun h7 S7 => ?_)
    refine xIf (isTrue_or (wpAny_isTrue_Compare1 (itemBk (ldL S7 mb6 (ldL S7 rfl ⟨B, oB, _, nm j, rfl, hkey, S7.keep _ _ hoB, hBB, by rw [bk_has]; simpa using hjm, fun tn => cI (neI (wpAny_truthy_bool ?_))⟩)))))
    rw [bk_look hjm, if_neg (by decide)]
    refine isTrue_or (wpAny_isTrue_Compare1 (MethodCall_ (itemD (ldC (c := L + 1) rfl ⟨ocB, S7.at 4 rfl, hcB⟩ (ldL S7 rfl ⟨D, tkk, oD, kvs, rfl, rfl, S7.keep _ _ X.hD, X.hd, hvB', ?_⟩))) (by rfl)))
    obtain ⟨kvs', hd', hf'⟩ := id hBB'
    refine methDict (S7.keep _ _ hoB') hd' PySem.F.slot_dict_get PySem.F.type_dict_get (cwBi (spliced_more (itemL (ldL S7 (sm.get mn) (ldL S7 mk6 ⟨NL, nv, _, _, _, rfl, rfl, lstAt (S7.at 2 rfl), by omega, by omega, hni, spliced_none ?_⟩)))))
    refine dget1 (k := nm k) (S7.keep _ _ hoB') hBB' (strKind_is pg w _ _) loB' (by rw [bk_has]; simpa using hkm) fun tn => cI (neI (wpAny_truthy_bool ?_))
    rw [bk_look hkm, if_neg (by decide)]
    refine isTrue_or_nil ?_
    rw [if_neg (by decide)]
    refine xNil (xNil (hQ' _ _ (TurnEnd.next S7 ⟨rfl, rfl, ?_, mk6, mb6, rfl⟩)))
    intro y hy
    have n1 : y ≠ Str.ofString "other" := fun e => hy (by rw [e]; decide)
    simp only [upd, n1, if_false]
    exact sm y hy
  · rintro H1 ex1 h6 m6 mu6 t6 ⟨rfl, rfl, sm, mk6, mb6, rfl⟩ S6
    exact xNil (hQ _ _ _ D2 o2 ocE' S6 sm hcE' hB2 lo2)
end
end Mine
set_option maxHeartbeats 400000
namespace Mine
theorem tab1 : Str.ofString "\t" = ⟨#[9]⟩ := by decide +kernel
/-- one guest's row of the lead -/
noncomputable def rowS (x : Nat) : Str := catS (spS x) (Str.ofString "\t")
theorem rowS_add (x : Nat) : spS x ++ Str.ofString "\t" = rowS x := rfl
theorem rowS_len (x : Nat) : (rowS x).length = x + 1 := by
  show ((spS x).cps ++ (Str.ofString "\t").cps).size = _
  rw [tab1]
  simp [spS]
theorem rows_weight : ∀ l : List Nat, ((l.map rowS).map (·.length)).sum = l.sum + l.length
  | [] => rfl
  | x :: l => by
    rw [List.map_cons, List.map_cons, List.sum_cons, List.sum_cons, List.length_cons, rows_weight l, rowS_len]; omega
noncomputable def pageS (l : List Nat) : Str := ⟨(pageT l).toArray⟩
theorem join_rows (l : List Nat) : Txt.join (Str.ofString "") (l.map rowS) = pageS l := by
  have := joinAll (l.map fun x => (spS x, Str.ofString "\t"))
  rw [List.map_map] at this
  have e : (l.map rowS) = List.map ((fun p : Str × Str => catS p.1 p.2) ∘ fun x => (spS x, Str.ofString "\t")) l := rfl
  rw [e, this]
  unfold allS pageS pageT
  rw [tab1]
  simp [List.flatMap_map, spS]
theorem pageT_len : ∀ l : List Nat, (pageT l).length = l.sum + l.length
  | [] => rfl
  | x :: l => by
    have e : pageT (x :: l) = (List.replicate x 32 ++ [9]) ++ pageT l := by simp [pageT]
    rw [e, List.length_append, pageT_len l]
    simp; omega
theorem pageS_len (l : List Nat) : (pageS l).cps.size = l.sum + l.length := by
  show (pageT l).toArray.size = _
  rw [List.size_toArray, pageT_len]
theorem pageT_asc {l : List Nat} {c : Nat} (h : c ∈ pageT l) : c = 32 ∨ c = 9 := by
  obtain ⟨x, _, hc⟩ := List.mem_flatMap.mp h
  rcases List.mem_append.mp hc with q | q
  · exact .inl (List.eq_of_mem_replicate q)
  · exact .inr (by simpa using q)
theorem pageS_asc (l : List Nat) : (pageS l).cps.all (· < 128) = true := by
  rw [← Array.all_toList, List.all_eq_true]
  intro c hc
  rcases pageT_asc (show c ∈ pageT l by simpa [pageS] using hc) with rfl | rfl <;> decide
theorem slice_last {x : Str} (h : 0 < x.length) : Txt.slice x none (some (-1)) = ⟨(x.cps.toList.take (x.length - 1)).toArray⟩ := by
  have e : ∀ n : Nat, 0 < n → PySem.Builtin.Str.strSliceIndices none (some (-1)) 1 n = PySem.Builtin.Str.strSliceIndices none (some ((n : Int) - 1)) 1 n := by
    intro n hn
    have h0 : (-1 : Int) < 0 := by decide
    have h1 : ¬ ((n : Int) - 1 < 0) := by omega
    have h2 : (1 : Int) > 0 := by decide
    have h3 : (-1 : Int) + n = (n : Int) - 1 := by omega
    simp only [PySem.Builtin.Str.strSliceIndices, h0, h1, h2, if_false, if_true, h3]
  have e2 : Txt.slice x none (some (-1)) = Txt.slice x none (some ((x.length : Int) - 1)) := by
    unfold Txt.slice
    rw [e _ h]
  rw [e2, beq_iff_eq.mp (slice_closes_toL (x := x) (j := (x.length : Int) - 1) (by omega) (by omega))]
  congr 2
  rw [Int.sub_zero]
  have : ((x.length : Int) - 1).toNat = x.length - 1 := by omega
  rw [this]
  simp
/-- the lead with its last tab put ahead of it -/
theorem page_cut (r : List Nat) (x : Nat) : (pageT (r ++ [x])).take ((pageT (r ++ [x])).length - 1) = pageT r ++ List.replicate x 32 := by
  have e : pageT (r ++ [x]) = (pageT r ++ List.replicate x 32) ++ [9] := by simp [pageT]
  rw [e, ← List.dropLast_eq_take, List.dropLast_concat]
theorem cntOf_perm {a b : List Nat} (p : a.Perm b) : cntOf a = cntOf b := foldl_bump_perm p []
theorem sum_rev (l : List Nat) : l.reverse.sum = l.sum := (List.reverse_perm l).sum_nat
theorem sum_le5 : ∀ l : List Nat, (∀ x ∈ l, x ≤ 5) → l.sum ≤ 5 * l.length
  | [], _ => by simp
  | x :: l, h => by
    have h1 := sum_le5 l fun y hy => h y (.tail _ hy)
    have h2 := h x (.head _)
    rw [List.sum_cons, List.length_cons]; omega
end Mine
set_option maxHeartbeats 1000000
namespace Mine
section
variable {w : World} {A : Around} {E : Value → Shared → Prop} {h h' h₀ H hB hb : Heap} {ex : List Addr} {g : Array GenState} {d : Drawn} {t : Nat} {os : OsState} {env : Env} {m m' : Str → Option Value} {mu mu' mt : List (Addr × Obj)} {L a l D B : Addr} {vs xs ys nv : List Value} {kvs : List (Str × Value)} {c : List (Str × Int)} {o oD : Obj} {key : Value} {wishes : List Nat} {due : Bool} {bs : List (List Nat)} {k : Nat} {wl p : Addr} {r : List Int × Nat × Nat × Nat}
theorem WsO.keeps {x : Addr} (W : WsO h x r) (k : Kp h h') : WsO h' x r := by
  obtain ⟨dx, es, n, N, T, vs, t1, t2, t3, a1, a2, a3, a4, a5, a6, a7, a8, a9⟩ := W
  exact ⟨dx, es, n, N, T, vs, t1, t2, t3, k _ _ a1, k _ _ a2, a3, a4, a5, tup_keeps a6 (k _), tup_keeps a7 (k _), a8, a9⟩
theorem itemL0 {value : Expr} {i ck : Nat} {cp pos : Pos} {Q : Value → Shared → Prop} {s : Shared}
    (hQ : wpAny (Md w) A (eval value env) (fun o s₁ => X3 fun l vs v => A5 (o = .ref l) (s₁.heap.IsList l (vs : List Value).toArray) (i < 1000) (vs[i]? = some v) (Q v { s₁ with toks := s₁.toks + 1 })) E s)
    (ht : ∀ o r, letTemporaryGo value o r = pure () := by intro _ _; rfl) :
    wpAny (Md w) A (eval (.Subscript value (.Constant (.int (i : Nat)) ck cp) pos) env) Q E s := by
  refine wpAny_Subscript_Constant_late (wpAny_mono hQ (fun o s₁ h1 => ?_) fun _ _ e => e) ht
  obtain ⟨l, vs, v, rfl, hl, hi, e, q⟩ := h1
  obtain ⟨h1, g1, d1, t1, o1⟩ := s₁
  refine cI ⟨"list", _, list_getitem_lookup, hl.typeIs, wpAny_getItem_list hl (by omega) (by omega) (by simpa using e) q⟩
theorem shook_back {Q : Flow → Shared → Prop} {NL EV : Addr} {ocB ocE oEV : Obj} {nk : Nat} (X : ShBase w h₀ D oD kvs bs wl vs wishes due) (hroom : A.depth + 2 < recursionLimit) (hh : A.handled = none) (hu : A.units + 70 < cLine)
    (S : St h₀ H ex L h m [(NL, LstP nv nk), (EV, oEV), (L + 1, ocB), (L + 2, ocE)]) (hcB : ocB.data = .cell (some (.ref D)))
    (hN : StrsAre nv ((List.range 6).map nm)) (mn : m "names" = some (.ref NL)) (mw : m "wishes" = some (.ref wl)) (mp : m "page" = some (.ref p)) (hP : WsO h₀ p r) (hr1 : r.1 = cntOf wishes) (hr2 : r.2.1 = 0)
    (hQ : ∀ h' t', Kp h₀ h' → Q (.ret (.bool true)) ⟨h', g, d, t', os⟩) :
    wpAny (Md w) A (execs (shB.drop 5) (shE L)) Q E ⟨h, g, d, t, os⟩ := by
  have C := X.C
  have hnl : nv.length = 6 := by simpa using StrsAre.length hN
  have hws : wishes.sum ≤ 30 := by have := sum_le5 wishes X.h5; have := X.h6; omega
  refine xAssign (MethodCall_ (cS (methStr PySem.F.slot_str_join PySem.F.type_str_join (cwBi (spliced_more (compEv (cl := [(Str.ofString "books", L + 1)]) rfl rfl (by decide) ?_))))) (by rfl))
  refine revL (fun Q' hq => ldL S mn hq) (lstAt (S.at 0 rfl)) (by omega) fun h1 R t1 k1 hR0 hR => ?_
  have S1 := S.add k1 hR0 hR
  have C1 := C.keeps S1.keep
  have hcell := S1.at 3 rfl
  refine compSeq hh (.inl ⟨_, _, rfl⟩) (lstAt (S1.at 0 rfl)) (fun j ys _ => StrsAre ys ((wishes.reverse.take j).map rowS)) (by decide) rfl (fun _ => .nil) (by simp; omega) ?_ ?_
  · intro j v ys oI' k' H' ex' h12 m' t12 C' D' I' hv hF S12
    have hj : j < 6 := by
      have := (List.getElem?_eq_some_iff.mp hv).1
      rw [List.length_reverse] at this; omega
    rw [List.getElem?_reverse (by omega), hnl] at hv
    obtain ⟨tkn, hni⟩ := names_at hN (k := 6 - 1 - j) (by omega)
    rw [hni] at hv
    cases hv
    have hi6 : 6 - 1 - j < 6 := by omega
    obtain ⟨B, oB, hvB, hoB, hBB, loB⟩ := X.book hi6
    have hbl := X.hI.cout _ hi6 (by simp)
    have h5 : wishes.getD (6 - 1 - j) 0 ≤ 5 := by
      have hw : 6 - 1 - j < wishes.length := by rw [X.h6]; exact hi6
      have := X.h5 wishes[6 - 1 - j] (List.getElem_mem hw)
      simpa [List.getD_eq_getElem?_getD, hw] using this
    refine wpAny_assign_Name (stL S12 fun h13 S13 => tests_nil ?_)
    rw [if_pos rfl]
    have K13 : Kp h₀ h13 := fun b o e => S13.keep _ _ (S1.keep _ _ e)
    refine wpAny_BinOp (wpAny_BinOp (cS (callName (ldG C1 S13 (by k_is) (cwFn (f := 184) (by k_is) (spliced_more (itemD (ldC (c := L + 1) rfl ⟨ocB, S13.keep _ _ hcell, hcB⟩ (ldL S13 rfl ⟨D, tkn, oD, kvs, rfl, rfl, K13 _ _ X.hD, X.hd, hvB, spliced_none ⟨C.keeps K13, ?_⟩⟩)))))))))
    refine count_calls_spec (C.keeps K13) (by omega) hh (K13 _ _ hoB) hBB loB fun h14 t14 tk14 k14 => ?_
    have e : sumC (bkC (bs.getD (6 - 1 - j) [])) = ((wishes.getD (6 - 1 - j) 0 : Nat) : Int) := by rw [sumC_eq, bk_sum, hbl]
    rw [e]
    refine mulSp (by omega) fun t15 k15 => cS ?_
    refine PySem.SB.add (s := ⟨h14, g, d, _, os⟩) (fun t16 k16 => ?_) ?_
    · rw [rowS_add]
      refine CompEnd.mk (S13.keeps k14) ?_
      have hjr : j < wishes.reverse.length := by rw [List.length_reverse, X.h6]; exact hj
      have ew : wishes.reverse[j] = wishes.getD (6 - 1 - j) 0 := by
        have hw : 5 - j < wishes.length := by rw [X.h6]; omega
        rw [List.getElem_reverse]
        simp [List.getD_eq_getElem?_getD, X.h6]
        rw [List.getElem?_eq_getElem hw]
        rfl
      rw [List.take_succ_eq_append_getElem hjr, List.map_append, ew]
      exact strs_snoc hF _ _
    · have h1 : (spS (wishes.getD (6 - 1 - j) 0)).length = wishes.getD (6 - 1 - j) 0 := by show (spS _).cps.size = _; simp [spS]
      have h2 : (Str.ofString "\t").length = 1 := by rw [tab1]; rfl
      rw [h1, h2, sizeLine_eq]; omega
  · refine compQ fun D' h12 t12 ys k' H' kp hD' hg hF _ => ?_
    have hF : StrsAre ys (wishes.reverse.map rowS) := by
      have := hF
      rw [List.length_reverse, hnl, List.take_of_length_le (by rw [List.length_reverse, X.h6]; exact Nat.le_refl _)] at this
      exact this
    have S2 := (S1.add kp hD' hg)
    refine spliced_none ?_
    refine join_listW (s := ⟨h12, g, d, t12, os⟩) (lstAt (S2.at 0 rfl)) hF (by decide +kernel) ?_ fun t13 k13 => ?_
    · rw [rows_weight, List.length_map, sum_rev, List.length_reverse, X.h6]; omega
    rw [join_rows]
    refine stL S2 fun h3 S3 => ?_
    have hrv : wishes.reverse.length = 6 := by rw [List.length_reverse, X.h6]
    have hrs : wishes.reverse.sum = wishes.sum := sum_rev _
    have hps : (pageS wishes.reverse).cps.size ≤ 36 := by rw [pageS_len]; omega
    obtain ⟨w0, rest, hwe⟩ : ∃ w0 rest, wishes = w0 :: rest := by
      have := X.h6
      cases hw : wishes with
      | nil => rw [hw] at this; cases this
      | cons x r => exact ⟨x, r, rfl⟩
    refine xRet (BoolOp_and (MethodCall_ (callName (ldG C S3 (by k_is) (cwFn (f := 287) (by k_is) (spliced_more (ldL S3 rfl (spliced_none ⟨C.keeps S3.keep, ?_⟩)))))) (by rfl)))
    refine ws_make (z := pageS wishes.reverse) (C.keeps S3.keep) hroom hh (pageS_asc _) (by omega) fun ha4 ta4 xa ka4 hWa hxa => ?_
    have Sa4 := S3.keeps ka4
    obtain ⟨dxa, esa, na, Na, Ta, vsa, ta1, ta2, ta3, a1, a2, a3, a4, a5, a6, a7, a8, a9⟩ := id hWa
    refine methFn (C.keeps Sa4.keep) (instOwn a1 a2) (by k_is) (by k_is) (by k_is) (by k_is) a9 ?_
    refine cwFn (f := 263) (by k_is) (spliced_more (ldL Sa4 mp (spliced_none ⟨C.keeps Sa4.keep, ?_⟩)))
    refine ws_equal (C.keeps Sa4.keep) (by omega) hu hWa (hP.keeps Sa4.keep) fun h4 t4 k4 => ?_
    have S4 := Sa4.keeps k4
    have e1 : wsRun (pageS wishes.reverse).cps.toList [] 0 0 0 = (cntOf wishes.reverse, 0, wishes.reverse.sum + wishes.reverse.length, wishes.reverse.length) := by
      show wsRun (pageT wishes.reverse).toArray.toList [] 0 0 0 = _
      rw [List.toList_toArray, wsRun_back]
    rw [e1]
    have e2 : cntOf wishes.reverse = r.1 := by rw [hr1]; exact cntOf_perm (List.reverse_perm _)
    refine wpAny_truthy_bool ?_
    dsimp only
    rw [decide_eq_true e2, hr2, decide_eq_true rfl, Bool.and_self, if_pos rfl]
    have hpl : 0 < (pageS wishes.reverse).length := by
      show 0 < (pageS wishes.reverse).cps.size
      rw [pageS_len]; omega
    have hcut : (pageS wishes.reverse).cps.toList.take ((pageS wishes.reverse).length - 1) = pageT rest.reverse ++ List.replicate w0 32 := by
      have e3 : (pageS wishes.reverse).length = (pageT wishes.reverse).length := by show (pageT wishes.reverse).toArray.size = _; simp
      have e4 : wishes.reverse = rest.reverse ++ [w0] := by rw [hwe, List.reverse_cons]
      rw [e3]
      show (pageT wishes.reverse).toArray.toList.take _ = _
      rw [List.toList_toArray, e4, page_cut]
    have hw05 : w0 ≤ 5 := X.h5 w0 (by rw [hwe]; exact .head _)
    have hrsum : rest.reverse.sum + w0 ≤ 30 := by
      rw [sum_rev]
      rw [hwe, List.sum_cons] at hws; omega
    have hrl : rest.reverse.length = 5 := by
      have := X.h6
      rw [hwe, List.length_cons] at this
      rw [List.length_reverse]; omega
    generalize hz : (⟨(9 :: (pageT rest.reverse ++ List.replicate w0 32)).toArray⟩ : Str) = z
    have hzl : z.cps.toList = 9 :: (pageT rest.reverse ++ List.replicate w0 32) := by rw [← hz]
    have hzs : z.cps.size ≤ 40 := by
      have : z.cps.size = z.cps.toList.length := by simp
      rw [this, hzl, List.length_cons, List.length_append, pageT_len, List.length_replicate]; omega
    have hza : z.cps.all (· < 128) = true := by
      rw [← Array.all_toList, hzl, List.all_eq_true]
      intro c hc
      rcases List.mem_cons.mp hc with rfl | hc
      · decide
      · rcases List.mem_append.mp hc with hc | hc
        · rcases pageT_asc hc with rfl | rfl <;> decide
        · rw [List.eq_of_mem_replicate hc]; decide
    refine BoolOp_one (wpAny_Compare1 (MethodCall_ (callName (ldG C S4 (by k_is) (cwFn (f := 287) (by k_is) (spliced_more ?_)))) (by rfl)))
    refine wpAny_BinOp (cS (wpAny_Subscript_str_slice (ldL S4 rfl (wpAny_evalPart_none (wpAny_evalPart_some (wpAny_UnaryOp (cI (negI ?_))))))))
    refine ⟨pageS wishes.reverse, _, none, some (-1, _), rfl, rfl, rfl, ?_⟩
    refine post_val_or_str ⟨?_, fun t6 k6 => ?_⟩
    · show (Txt.slice (pageS wishes.reverse) none (some (-1))).length ≤ _
      have := Txt.slice_le (pageS wishes.reverse) none (some (-1))
      have h2 : (pageS wishes.reverse).length = (pageS wishes.reverse).cps.size := rfl
      rw [sizeLine_eq]; omega
    show wpAny (Md w) A (binaryOp .Add (.str (Str.ofString "\t") _) (.str (Txt.slice (pageS wishes.reverse) none (some (-1))) t6)) _ _ _
    rw [slice_last hpl, hcut]
    refine PySem.SB.add (fun t7 k7 => ?_) ?_
    · have ez : Str.ofString "\t" ++ (⟨(pageT rest.reverse ++ List.replicate w0 32).toArray⟩ : Str) = z := by
        rw [← hz]
        show Str.mk ((Str.ofString "\t").cps ++ _) = _
        rw [tab1]
        congr 1
        apply Array.toList_inj.mp
        simp
      rw [ez]
      refine spliced_none ⟨C.keeps (S4.pushed _).keep, ?_⟩
      refine ws_make (z := z) (C.keeps (S4.pushed _).keep) hroom hh hza (by omega) fun hb5 tb5 xb kb5 hWb hxb => ?_
      have Sb5 := (S4.pushed _).keeps kb5
      obtain ⟨dxb, esb, nb, Nb, Tb, vsb, tb1, tb2, tb3, b1, b2, b3, b4, b5, b6, b7, b8, b9⟩ := id hWb
      refine methFn (C.keeps Sb5.keep) (instOwn b1 b2) (by k_is) (by k_is) (by k_is) (by k_is) b9 ?_
      refine cwFn (f := 263) (by k_is) (spliced_more (ldL Sb5 mp (spliced_none ⟨C.keeps Sb5.keep, ?_⟩)))
      refine ws_equal (C.keeps Sb5.keep) (by omega) hu hWb (hP.keeps Sb5.keep) fun h5 t5 k5 => ?_
      have S5 := Sb5.keeps k5
      have e5 : wsRun z.cps.toList [] 0 0 0 = (cntOf (0 :: rest.reverse), w0, 1 + rest.reverse.sum + rest.reverse.length + w0, 1 + rest.reverse.length) := by rw [hzl, wsRun_shift]
      rw [e5]
      obtain ⟨tkw, hwi⟩ := X.wish (j := 0) (by decide)
      refine wpAny_Compare1 (itemL0 (i := 0) (ldL S5 mw ⟨wl, vs, _, rfl, X.hl.at (S5.keep _), by decide, hwi, cI (eqI ?_)⟩))
      refine PyProof.Rows.eq_bool ?_
      have e6 : ((decide ((cntOf (0 :: rest.reverse), w0, 1 + rest.reverse.sum + rest.reverse.length + w0, 1 + rest.reverse.length).1 = r.1) && decide ((cntOf (0 :: rest.reverse), w0, 1 + rest.reverse.sum + rest.reverse.length + w0, 1 + rest.reverse.length).2.1 = r.2.1)) == (((wishes.getD 0 0 : Nat) : Int) == 0)) = true := by
        dsimp only
        rw [hr2, hr1, hwe]
        show ((decide _ && decide (w0 = 0)) == (((w0 : Nat) : Int) == 0)) = true
        by_cases h0 : w0 = 0
        · subst h0
          have : cntOf (0 :: rest.reverse) = cntOf (0 :: rest) := cntOf_perm ((List.reverse_perm rest).cons 0)
          rw [this]; simp
        · simp [h0]
      rw [e6]
      exact hQ _ _ S5.keep
    · have h2 : (Str.ofString "\t").length = 1 := by rw [tab1]; rfl
      have h3 : (⟨(pageT rest.reverse ++ List.replicate w0 32).toArray⟩ : Str).length = (pageT rest.reverse).length + w0 := by
        show (pageT rest.reverse ++ List.replicate w0 32).toArray.size = _
        simp
      rw [h2, h3, pageT_len, sizeLine_eq]; omega
end
end Mine
set_option maxHeartbeats 1000000
namespace Mine
section
variable {w : World} {A : Around} {E : Value → Shared → Prop} {h h' h₀ H hB hb : Heap} {ex : List Addr} {g : Array GenState} {d : Drawn} {t : Nat} {os : OsState} {env : Env} {m m' : Str → Option Value} {mu mu' mt : List (Addr × Obj)} {L a l D B : Addr} {vs xs ys nv : List Value} {kvs : List (Str × Value)} {c : List (Str × Int)} {o oD : Obj} {key : Value} {wishes : List Nat} {due : Bool} {bs : List (List Nat)} {k : Nat} {wl p : Addr} {r : List Int × Nat × Nat × Nat}
theorem shook_every {Q : Flow → Shared → Prop} {NL EV : Addr} {ocB ocE oEV : Obj} {nk : Nat} (X : ShBase w h₀ D oD kvs bs wl vs wishes due) (hroom : A.depth + 2 < recursionLimit) (hh : A.handled = none) (hu : A.units + 70 < cLine)
    (S : St h₀ H ex L h m [(NL, LstP nv nk), (EV, oEV), (L + 1, ocB), (L + 2, ocE)]) (hcE : ocE.data = .cell (some (.ref EV))) (hE : BkO w (evC bs) oEV) (loE : (EV == sysModules) = false)
    (hN : StrsAre nv ((List.range 6).map nm)) (mn : m "names" = some (.ref NL)) (mw : m "wishes" = some (.ref wl))
    (hQ : ∀ h' t', St h₀ H ex L h' m [(NL, LstP nv nk), (EV, oEV), (L + 1, ocB), (L + 2, ocE)] → wpAny (Md w) A (execs (shB.drop 5) (shE L)) Q E ⟨h', g, d, t', os⟩) :
    wpAny (Md w) A (execs (shB.drop 4) (shE L)) Q E ⟨h, g, d, t, os⟩ := by
  have C := X.C
  have hnl : nv.length = 6 := by simpa using StrsAre.length hN
  have hvl : vs.length = 6 := by rw [X.hi.length]; simpa using X.h6
  have C0 := C.keeps S.keep
  have hcell := S.at 3 rfl
  have hEV := S.at 1 rfl
  obtain ⟨kvsE, hdE, hfE⟩ := id hE
  refine xIf (isTrue_or (wpAny_isTrue_Compare1 (compEv (cl := [(Str.ofString "every", L + 2)]) rfl rfl (by decide) (ldL S mn ?_))))
  refine compSeq hh (.inl ⟨_, _, rfl⟩) (lstAt (S.at 0 rfl)) (fun j ys _ => IntsAre ys ((wishes.take j).map Int.ofNat)) (by decide) rfl (fun _ => .nil) (by omega) ?_ ?_
  · intro j v ys oI' k' H' ex' h12 m' t12 C' D' I' hv hF S12
    have hj : j < 6 := by
      have := (List.getElem?_eq_some_iff.mp hv).1
      omega
    obtain ⟨tkn, hni⟩ := names_at hN hj
    rw [hni] at hv
    cases hv
    refine wpAny_assign_Name (stL S12 fun h13 S13 => tests_nil ?_)
    rw [if_pos rfl]
    refine MethodCall_ (ldC (c := L + 2) rfl ⟨ocE, S13.keep _ _ hcell, hcE⟩ (methDict (S13.keep _ _ hEV) hdE PySem.F.slot_dict_get PySem.F.type_dict_get (cwBi (spliced_more (ldL S13 rfl (spliced_more (cI (spliced_none ?_)))))))) (by rfl)
    refine dget2 (k := nm j) (S13.keep _ _ hEV) hE (strKind_is pg w _ _) loE fun tn => ?_
    rw [X.hI.every hj]
    refine CompEnd.mk S13 ?_
    have hw : j < wishes.length := by rw [X.h6]; exact hj
    have ew : wishes[j] = wishes.getD j 0 := by simp [List.getD_eq_getElem?_getD, hw]
    rw [List.take_succ_eq_append_getElem hw, List.map_append, ew]
    exact ints_snoc hF _ _
  · refine compQ fun D' h12 t12 ys k' H' kp hD' hg hF _ => ?_
    have hF : IntsAre ys (wishes.map Int.ofNat) := by
      have := hF
      rw [hnl, List.take_of_length_le (by rw [X.h6]; exact Nat.le_refl _)] at this
      exact this
    have S2 := S.add kp hD' hg
    refine ldL S2 mw (ke_ne_ints (s := ⟨h12, g, d, t12, os⟩) (lstAt (S2.at 0 rfl)) (X.hl.at (S2.keep _)) hF X.hi (by omega) (wpAny_truthy_bool ?_))
    rw [decide_eq_true rfl, if_neg (by decide)]
    refine isTrue_or (wpAny_isTrue_Compare1 (callName (ldG C S2 (by k_is) (cwFn (f := 184) (by k_is) (spliced_more (ldC (c := L + 2) rfl ⟨ocE, S2.at 4 rfl, hcE⟩ (spliced_none ⟨C.keeps S2.keep, ?_⟩)))))))
    refine count_calls_spec (C.keeps S2.keep) (by omega) hh (S2.at 2 rfl) hE loE fun h3 t3 tk3 k3 => ?_
    have S3 := S2.keeps k3
    refine callName (ldB (v := .builtin "sum") C S3 (by k_is) rfl (cwBi (spliced_more (ldL S3 mw (spliced_none (sumL hh (X.hl.at (S3.keep _)) X.hi fun h4 t4 tk4 k4 => neI (wpAny_truthy_bool ?_)))))))
    have e : (sumC (evC bs) != (wishes.map Int.ofNat).sum) = false := by rw [X.hI.total X.h6]; simp
    rw [e, if_neg (by decide)]
    refine isTrue_or_nil ?_
    rw [if_neg (by decide)]
    exact xNil (hQ _ _ (S3.keeps k4).tail)
theorem all_shook_spec {Q : Value → Shared → Prop} (X : ShBase w h D oD kvs bs wl vs wishes due) (hroom : A.depth + 3 < recursionLimit) (hh : A.handled = none) (hu : A.units + 74 < cLine)
    (hP : WsO h p r) (hr1 : r.1 = cntOf wishes) (hr2 : r.2.1 = 0)
    (hQ : ∀ h' t, Kp h h' → Q (.bool true) ⟨h', g, d, t, os⟩) : wpAny (Md w) A (call (.ref 313) [.ref D, .ref wl, .ref p]) Q E ⟨h, g, d, t, os⟩ := by
  have C := X.C
  refine enterCallC (binds := [(Str.ofString "books", .ref D), (Str.ofString "wishes", .ref wl), (Str.ofString "page", .ref p)]) C (by k_is) (by k_is) (by omega) rfl (fun L x hx => ?_) (fun L h1 t mu cl hcl hmu hcs S => ?_) (fun L => by show ([Str.ofString "every", Str.ofString "books"] : List Str).Nodup; decide)
  · simp only [List.mem_cons, List.not_mem_nil, or_false] at hx
    rcases hx with rfl | rfl | rfl
    · exact .inr ⟨rfl, rfl⟩
    · exact .inl rfl
    · exact .inl rfl
  have hcl' : cl = [(Str.ofString "every", L + 2), (Str.ofString "books", L + 1)] := hcl
  subst hcl'
  obtain ⟨ocB, ocE, rfl, hcB, hcE⟩ : ∃ ocB ocE, mu = [(L + 2, ocE), (L + 1, ocB)] ∧ ocB.data = .cell (some (.ref D)) ∧ ocE.data = .cell none := by
    cases hcs with
    | cons h1 hr => cases hr with
      | cons h2 hr => cases hr with
        | nil => exact ⟨_, _, rfl, h2, h1⟩
  have hh' : (A.deeper (shE L)).handled = none := hh
  have S := S.swap
  show wpAny (Md w) (A.deeper (shE L)) (execs shB (shE L)) _ _ _
  refine xAssign (callName (ldB (v := .type "list") C S (by k_is) rfl (PyProof.Rows.callWith_type1 (spliced_more (cS (spliced_none ?_))))))
  refine listLetters hh fun h2 NL nv nk t2 k2 hD0 hD hN => ?_
  have S2 := S.add k2 hD0 hD
  refine stL S2 fun h3 S3 => ?_
  have hks : kvs.map (·.1) = (List.range 6).map nm := by rw [X.hB.1, X.hI.six]
  have hkl : kvs.length = 6 := by have := congrArg List.length hks; simpa using this
  refine xIf (wpAny_isTrue_Compare1 (callName (ldB (v := .type "list") C S3 (by k_is) rfl (PyProof.Rows.callWith_type1 (spliced_more (ldC (c := L + 1) rfl ⟨ocB, S3.at 1 rfl, hcB⟩ (spliced_none ?_)))))))
  refine listDict (S3.keep _ _ X.hD) X.hd X.lo hh (by omega) fun h4 B4 v4 n4 t4 k4 hB0 hB4 hs4 => ?_
  have S4 := S3.add k4 hB0 hB4
  rw [hks] at hs4
  refine ldL S4 rfl (ne_strs (lstAt (S4.at 0 rfl)) (lstAt (S4.at 1 rfl)) hs4 hN (by decide +kernel) (show A.units + 3 + 64 < _ by omega) (wpAny_truthy_bool ?_))
  rw [if_neg (by decide)]
  refine xNil ?_
  refine xAssign (wpAny_Dict_empty ?_)
  have S5 := S4.tail.alloc { cls := .type "dict", data := .dict #[] } rfl
  have loE : (h4.objs.size == sysModules) = false := beq_eq_false_iff_ne.mpr (Nat.ne_of_gt (modules_low (C.keeps S4.keep).lim))
  dsimp only
  generalize h4.objs.size = EV at S5 loE
  refine stC S5 (c := L + 2) rfl (i := 3) rfl hcE fun h6 ocE' hcE' S6 => ?_
  refine xFor (callName (ldB (v := .type "range") C S6 (by k_is) rfl (PyProof.Rows.callWith_type1 (spliced_more (callName (ldB (v := .builtin "len") C S6 (by k_is) rfl (cwBi (spliced_more (ldL S6 rfl (spliced_none (lenL (lstAt (S6.at 1 rfl)) (by have := StrsAre.length hN; simp at this; omega) fun t7 tk7 => spliced_none ?_)))))))))))
  have hnl : nv.length = 6 := by simpa using StrsAre.length hN
  rw [hnl]
  have S6 := S6.swap
  refine rngFor1 (n := 6) S6 (by decide) fun h7 I t7 S7 => ?_
  generalize hm7 : upd _ (Str.ofString "names") (Value.ref NL) = m7 at S7
  have mn7 : m7 (Str.ofString "names") = some (.ref NL) := by rw [← hm7]; rfl
  have mw7 : m7 (Str.ofString "wishes") = some (.ref wl) := by rw [← hm7]; rfl
  have mp7 : m7 (Str.ofString "page") = some (.ref p) := by rw [← hm7]; rfl
  refine forIt (itRange (A := A.deeper (shE L)) hh' _ _ I 0 1 6)
    (fun i H1 ex1 m1 mu1 => (Same [Str.ofString "k", Str.ofString "book", Str.ofString "other"] m7 m1) ∧ (X3 fun EV oEV ocE => A4 (mu1 = [(NL, LstP nv nk), (EV, oEV), (L + 1, ocB), (L + 2, ocE)]) (ocE.data = .cell (some (.ref EV))) (BkO w (evC (bs.take i)) oEV) ((EV == sysModules) = false)))
    (fun _ _ _ _ _ _ _ _ _ => trivial) S7 (by simp) ⟨Same.refl, EV, _, ocE', rfl, hcE', emptyBk, loE⟩ ?_ ?_
  · intro i v oI H1 ex1 h8 m8 mu8 t8 hi6 qq10 qq11 hI8 S8
    refine nameT fun Q' hQ' => ?_
    obtain ⟨tk8, hv⟩ := qq10
    obtain ⟨sm, EV8, oEV8, ocE8, rfl, hcE8, hE8, loE8⟩ := qq11
    have ei : (0 : Int) + (i : Int) * 1 = ((i : Nat) : Int) := by omega
    rw [ei] at hv
    subst hv
    refine wpAny_assign_Name (stL S8 fun h9 S9 => ?_)
    refine shook_turn (A := A.deeper (shE L)) X (show A.depth + 1 < _ by omega) hh' hi6 S9 hcB hcE8 hE8 loE8 hN (sm.get mn7) (sm.get mw7) rfl fun h10 m10 t10 EV10 oEV10 ocE10 S10 sm10 hcE10 hE10 loE10 => ?_
    refine hQ' _ _ (TurnEnd.next S10 ⟨?_, EV10, oEV10, ocE10, rfl, hcE10, hE10, loE10⟩)
    intro y hy
    rw [sm10 y hy]
    have n1 : y ≠ Str.ofString "k" := fun e => hy (by rw [e]; decide)
    simp only [upd, n1, if_false]
    exact sm y hy
  · rintro H1 ex1 h8 m8 mu8 t8 ⟨sm, EV8, oEV8, ocE8, rfl, hcE8, hE8, loE8⟩ S8
    rw [show (6 : Nat) = bs.length from X.hI.six.symm, List.take_length] at hE8
    refine shook_every (A := A.deeper (shE L)) X (show A.depth + 1 + 2 < _ by omega) hh' (show A.units + 3 + 70 < _ by omega) S8 hcE8 hE8 loE8 hN (sm.get mn7) (sm.get mw7) fun h9 t9 S9 => ?_
    refine shook_back (A := A.deeper (shE L)) X (show A.depth + 1 + 2 < _ by omega) hh' (show A.units + 3 + 70 < _ by omega) S9 hcB hN (sm.get mn7) (sm.get mw7) (sm.get mp7) hP hr1 hr2 fun h10 t10 k10 => ?_
    exact hQ _ _ k10
end
end Mine
set_option maxHeartbeats 1000000
namespace Mine
section
variable {w : World} {A : Around} {E : Value → Shared → Prop} {h h' h₀ H hB hb : Heap} {ex : List Addr} {g : Array GenState} {d : Drawn} {t : Nat} {os : OsState} {env : Env} {m m' : Str → Option Value} {mu mu' mt mt' new : List (Addr × Obj)} {L a l D B e : Addr} {due : Bool}
/-- the two tables of code, as a ledger -/
noncomputable def TabsL (mt : List (Addr × Obj)) : Prop := ∃ mtA mtB, mt = mtA ++ mtB ∧ TabL 305 keyQ 193 78 mtA ∧ TabL 107 strQ 43 32 mtB
theorem TabL.is {P : Addr} {q : Str} {ln cl : Int} (x : TabL P q ln cl mt) : ∀ p ∈ mt, (∃ vs, p.2 = tabObj vs) ∨ ∃ vs q t, p.2.data = .fields vs ∧ vs[1]? = some (.str q t) := by
  intro p hp
  rcases x with rfl | ⟨c', oc, vs, t, rfl, hd, hv⟩
  · rcases List.mem_cons.mp hp with rfl | hp
    · exact .inl ⟨_, rfl⟩
    · cases hp
  · rcases List.mem_cons.mp hp with rfl | hp
    · exact .inl ⟨_, rfl⟩
    · rcases List.mem_cons.mp hp with rfl | hp
      · exact .inr ⟨vs, _, t, hd, hv⟩
      · cases hp
theorem TabsL.is (x : TabsL mt) : ∀ p ∈ mt, (∃ vs, p.2 = tabObj vs) ∨ ∃ vs q t, p.2.data = .fields vs ∧ vs[1]? = some (.str q t) := by
  obtain ⟨mtA, mtB, rfl, hA, hB⟩ := x
  intro p hp
  rcases List.mem_append.mp hp with hp | hp
  · exact hA.is p hp
  · exact hB.is p hp
theorem TabsL.nt (x : TabsL mt) : ∀ p ∈ mt, NotTup p.2 := by
  intro p hp
  rcases x.is p hp with ⟨vs, e⟩ | ⟨vs, q, t, e, _⟩
  · rw [e]; exact tabNotTup vs
  · intro xs n z; rw [e] at z; cases z.2
noncomputable abbrev hid (h : Heap) (mt : List (Addr × Obj)) : Heap := hideAll h (mt.map (·.1))
theorem kp_hid (k : Kp h₀ h) (hn : ∀ a ∈ mt.map (·.1), h₀.get? a = none) : Kp h₀ (hid h mt) := fun b o e => hideAll_get _ (k b o e) fun hm => by rw [hn b hm] at e; cases e
theorem St.kpHid (S : St h₀ H ex L h m (mt ++ mu)) : Kp h₀ (hid h mt) := kp_hid S.keep fun a ha => S.new (.tail _ (by rw [List.map_append]; exact List.mem_append_left _ ha))
theorem St.atHid (S : St h₀ H ex L h m (mt ++ mu)) {p : Addr × Obj} (hp : p ∈ mu) : (hid h mt).get? p.1 = some p.2 := by
  refine hideAll_get _ (S.led p (List.mem_append_right _ hp)) fun hm => ?_
  have nd := (List.nodup_cons.mp S.nd).2
  rw [List.map_append] at nd
  exact (List.nodup_append.mp nd).2.2 _ hm _ (List.mem_map_of_mem hp) rfl
theorem St.nsHid (S : St h₀ H ex L h m (mt ++ mu)) : (hid h mt).Ns L m := by
  refine ns_keeps S.ns fun o e => hideAll_get _ e fun hm => ?_
  have nd := (List.nodup_cons.mp S.nd).1
  rw [List.map_append] at nd
  exact nd (List.mem_append_left _ hm)
/-- after a call that the tables were given to, or an exception's flight -/
theorem St.flown (S : St h₀ H ex L h m (mt ++ mu)) (hT : TabsL mt) (N : Noted [L] [] (hid h mt) h') (hm : ∀ p ∈ new, h'.get? p.1 = some p.2) (nd : (new.map (·.1)).Nodup) (hn : ∀ a ∈ new.map (·.1), (hid h mt).get? a = none) : St h₀ H ex L h' m (new ++ mu) := by
  have ndS := List.nodup_cons.mp S.nd
  rw [List.map_append] at ndS
  have ndA := List.nodup_append.mp ndS.2
  have inmt : ∀ b o, h.get? b = some o → b ∉ mt.map (·.1) → (hid h mt).get? b = some o := fun b o e n => hideAll_get _ e n
  have newS : ∀ a ∈ new.map (·.1), a ∈ mt.map (·.1) ∨ h.get? a = none := fun a ha => by
    by_cases q : a ∈ mt.map (·.1)
    · exact .inl q
    · right
      cases z : h.get? a with
      | none => rfl
      | some o => have := hn a ha; rw [inmt a o z q] at this; cases this
  have keep : ∀ b o, b ≠ L → b ∉ mt.map (·.1) → h.get? b = some o → h'.get? b = some o := fun b o n1 n2 e => N.keep b o (by simpa using n1) (by simp) (inmt b o e n2)
  have hLS := S.nsHid
  refine ⟨?_, fun p hp => ?_, ?_, fun a ha => ?_, fun b o hb e => ?_, fun b its T => ?_, S.base⟩
  · obtain ⟨o, es, ep, x, r⟩ := hLS
    obtain ⟨sl, hsl⟩ := N.slots L o (by simp) x
    exact ⟨_, es, ep, hsl, r⟩
  · rcases List.mem_append.mp hp with hp | hp
    · exact hm p hp
    · have hpm := List.mem_map_of_mem (f := (·.1)) hp
      exact keep _ _ (fun q => ndS.1 (List.mem_append_right _ (q ▸ hpm))) (fun q => ndA.2.2 _ q _ hpm rfl) (S.led p (List.mem_append_right _ hp))
  · rw [List.map_append]
    refine List.nodup_cons.mpr ⟨fun hL => ?_, List.nodup_append.mpr ⟨nd, ndA.2.1, fun x hx y hy q => ?_⟩⟩
    · rcases List.mem_append.mp hL with hL | hL
      · obtain ⟨o, _, _, x, _⟩ := hLS
        have := hn L hL
        have x : (hid h mt).get? L = some o := x
        rw [this] at x; cases x
      · exact ndS.1 (List.mem_append_right _ hL)
    · subst q
      obtain ⟨p, hp, rfl⟩ := List.mem_map.mp hy
      have := hn _ hx
      rw [S.atHid hp] at this; cases this
  · rcases List.mem_cons.mp ha with rfl | ha
    · exact S.mtb _ (.head _)
    · rw [List.map_append] at ha
      rcases List.mem_append.mp ha with ha | ha
      · rcases newS a ha with q | q
        · exact S.mtb a (.tail _ (by rw [List.map_append]; exact List.mem_append_left _ q))
        · cases z : H.get? a with
          | none => exact .inr rfl
          | some o =>
            refine .inl (Classical.byContradiction fun nx => ?_)
            have := S.pres a o nx z
            rw [q] at this; cases this
      · exact S.mtb a (.tail _ (by rw [List.map_append]; exact List.mem_append_right _ ha))
  · have out := S.out e hb
    rw [List.map_append] at out
    exact keep b o (fun q => out (by rw [q]; exact .head _)) (fun q => out (.tail _ (List.mem_append_left _ q))) (S.pres b o hb e)
  · obtain ⟨ob, hb, hc, n, hd⟩ := S.tup b its T
    refine ⟨ob, keep b ob (fun q => ?_) (fun q => ?_) hb, hc, n, hd⟩
    · obtain ⟨oL, es, ep, x, xd, _⟩ := S.ns
      rw [q, x] at hb; cases hb
      rw [xd] at hd; cases hd
    · obtain ⟨p, hp, rfl⟩ := List.mem_map.mp q
      have := S.led p (List.mem_append_left _ hp)
      rw [hb] at this
      cases this
      exact hT.nt p hp _ _ ⟨hc, hd⟩
theorem noted_of_kp {fs : List Addr} (k : Kp hB h') : Noted fs [] hB h' := ⟨fun b o _ _ e => k b o e, fun b o _ e => ⟨o.slots, k b o e⟩⟩
theorem St.back (S : St h₀ H ex L h m (mt ++ mu)) (hT : TabsL mt) (k : Kp (hid h mt) h') (hO : TabsOk (hid h mt) h') : ∃ mt', TabsL mt' ∧ St h₀ H ex L h' m (mt' ++ mu) := by
  obtain ⟨mtA, mtB, a1, a2, a3, a4, a5⟩ := hO
  exact ⟨mtA ++ mtB, ⟨mtA, mtB, rfl, a1, a2⟩, S.flown hT (noted_of_kp k) a3 a4 a5⟩
/-- what flew comes to the frame again -/
theorem flown_step {fs : List Addr} {X : List Addr} {dx T T' : Addr} {f : Value} (F : Flown hB fs due e h) (hx : ExcAt h e dx (some (T, f))) (hTn : hB.get? T = none) (hX : ∀ b ∈ X, b = T ∨ b = e) (N : Noted fs X h h') (hx' : ExcAt h' e dx (some (T', .none))) (hT' : h.get? T' = none ∨ T' = T) (hfs : ∀ b ∈ fs, ∃ o, hB.get? b = some o ∧ ∀ vs, o.data ≠ .fields vs) : Flown hB fs due e h' := by
  obtain ⟨N0, ⟨dx0, T0, es, n, tw, tg, tt, wish, gk, rows, hx0, hdx0, e1, e2, e3, tl, hT0, hd0⟩, new0, ⟨mtA, mtB, a1, a2, a3, a4, a5⟩⟩ := F
  have hdd : dx0 = dx := by
    obtain ⟨oe, vs, he, _, hdx, _⟩ := hx0
    obtain ⟨oe', vs', he', _, hdx', _⟩ := hx
    rw [he] at he'; cases he'
    rw [hdx] at hdx'; cases hdx'; rfl
  subst hdd
  obtain ⟨oe, vs, he, hc, hdx, hd, h2, h1, hTe, oT, ts, hT, hcT, hdT, ⟨L', h1T⟩, h3⟩ := hx
  have notX : ∀ b o, hB.get? b = some o → b ∉ X := fun b o e hm => by
    rcases hX b hm with rfl | rfl
    · rw [hTn] at e; cases e
    · rw [new0] at e; cases e
  have tabX : ∀ p ∈ mtA ++ mtB, h'.get? p.1 = some p.2 := fun p hp => by
    have hfp : p.1 ∉ fs := fun hm => by
      obtain ⟨o, ho, _⟩ := hfs _ hm
      rw [a5 _ (List.mem_map_of_mem hp)] at ho; cases ho
    refine N.keep _ _ hfp (fun hm => ?_) (a3 p hp)
    have his := TabsL.is (mt := mtA ++ mtB) ⟨mtA, mtB, rfl, a1, a2⟩ p hp
    have hpo := a3 p hp
    rcases hX _ hm with q | q
    · rw [q, hT] at hpo
      cases hpo
      rcases his with ⟨v, z⟩ | ⟨v, s, tt, z1, z2⟩
      · rw [z] at hcT; cases hcT
      · rw [hdT] at z1; cases z1; rw [h1T] at z2; cases z2
    · rw [q, he] at hpo
      cases hpo
      rcases his with ⟨v, z⟩ | ⟨v, s, tt, z1, z2⟩
      · rw [z] at hc; cases hc
      · rw [hd] at z1; cases z1; rw [h1] at z2; cases z2
  have dxX : dx0 ∉ X := fun hm => by
    rcases hX _ hm with q | q
    · rw [q, hT] at hdx0; cases hdx0; cases hdT
    · rw [q, he] at hdx0; cases hdx0; cases hd
  have dxfs : dx0 ∉ fs := fun hm => by
    obtain ⟨o, ho, _⟩ := hfs _ hm
    rw [hd0] at ho; cases ho
  refine ⟨⟨fun b o n1 n2 q => N.keep b o n1 (notX b o q) (N0.keep b o n1 n2 q), fun b o n q => ?_⟩, ⟨dx0, T', es, n, tw, tg, tt, wish, gk, rows, hx', N.keep _ _ dxfs dxX hdx0, e1, e2, e3, tl, ?_, hd0⟩, new0, ⟨mtA, mtB, a1, a2, tabX, a4, a5⟩⟩
  · obtain ⟨sl, z⟩ := N0.slots b o n q
    obtain ⟨sl2, z2⟩ := N.slots b _ (notX b o q) z
    exact ⟨sl2, z2⟩
  · rcases hT' with q | q
    · cases z : hB.get? T' with
      | none => rfl
      | some o =>
        obtain ⟨sl, z2⟩ := N0.slots T' o (by simp) z
        rw [q] at z2; cases z2
    · rw [q]; exact hTn
end
end Mine
set_option maxHeartbeats 2000000
namespace Mine
noncomputable def lwD : Stmt := stmtAt pg.main.body 22
noncomputable def lwB : List Stmt := bodyOf lwD
noncomputable def lwSc : Scope := scopeOf lwD
noncomputable abbrev lwE (L fa : Addr) (cd : Value) : Env := envX (Str.ofString "law") lwSc L fa cd [(Str.ofString "dealt", L + 1)]
section
variable {w : World} {A : Around} {E : Value → Shared → Prop} {h h' h₀ H hB hb : Heap} {ex : List Addr} {g : Array GenState} {d : Drawn} {t : Nat} {os : OsState} {env : Env} {m m' : Str → Option Value} {mu mu' mt mt' new : List (Addr × Obj)} {L fa sl : Addr} {cd : Value} {sv : List Value} {ns : List Int}
/-- a comprehension assigned to a cell -/
theorem xAsgCompC {Q : Flow → Shared → Prop} {s : Shared} {y : Str} {py spos : Pos} {rest : List Stmt} {elt iter target : Expr} {ifs : List Expr} {scope : Scope} {pos : Pos}
    (h : wpAny (Md w) A (eval (.ListComp elt [⟨target, iter, ifs, 0⟩] scope pos) env) (fun v s₁ => wpAny (Md w) A (storeName env y v) (fun _ s₂ => wpAny (Md w) A (execs rest env) Q E s₂) E s₁) E s)
    (hsw : swapsWith (.ListComp elt [⟨target, iter, ifs, 0⟩] scope pos) (some (.Name y py)) spos.line env = pure false := by rfl) :
    wpAny (Md w) A (execs (.Assign [.Name y py] (.ListComp elt [⟨target, iter, ifs, 0⟩] scope pos) spos :: rest) env) Q E s := xAssign h hsw
/-- the first line: what is dealt out -/
theorem law_dealt {Q : Flow → Shared → Prop} {oc : Obj} {v0 : Option Value} (C : Cx w h₀) (hh : A.handled = none) (S : St h₀ H ex L h m ((L + 1, oc) :: mu)) (hoc : oc.data = .cell v0) (hl : h₀.IsList sl sv.toArray) (hi : IntsAre sv ns) (h63 : ns.length ≤ 63) (ms : m "script" = some (.ref sl))
    (hQ : ∀ h' t' D dv dk oc' ds, St h₀ H ex L h' m ((D, LstP dv dk) :: (L + 1, oc') :: mu) → oc'.data = .cell (some (.ref D)) → IntsAre dv ds → ds.length ≤ 63 → (∀ x ∈ ds, 0 ≤ x ∧ x < 1000000) → wpAny (Md w) A (execs (lwB.drop 1) (lwE L fa cd)) Q E ⟨h', g, d, t', os⟩) :
    wpAny (Md w) A (execs lwB (lwE L fa cd)) Q E ⟨h, g, d, t, os⟩ := by
  have hlen := hi.length
  refine xAssign (compEv (cl := []) rfl rfl (by decide) ?_)
  refine wpAny_Subscript_list_slice (ldL S ms (wpAny_evalPart_none (wpAny_evalPart_some (cI ?_))))
  refine ⟨sl, sv.toArray, none, some ((60 : Nat) : Int), rfl, hl.at (S.keep _), (by simp [sizeLine]; omega), .none, .int _ _, ?_⟩
  rw [slicePick_upto']
  have S1 := (S.alloc { cls := .type "slice", data := .fields #[.none, .int ((60 : Nat) : Int) t, .none] } rfl).alloc { cls := .type "list", data := .seq (sv.take 60).toArray } rfl
  rw [Heap.size_push] at S1
  have hi1 := hi.take 60
  refine compSeq hh (.inl ⟨_, _, rfl⟩) (lstAt (S1.at 0 rfl)) (fun j ys _ => ∃ ds, IntsAre ys ds ∧ ds.length ≤ j ∧ ∀ x ∈ ds, 0 ≤ x ∧ x < 1000000) (by decide) rfl (fun _ => ⟨[], .nil, Nat.le_refl _, by simp⟩) (by simp; omega) ?_ ?_
  · rintro j v ys oI k H1 ex1 h1 m1 t1 C1 D1 I1 hv ⟨ds, hds, hdl, hdx⟩ S2
    obtain ⟨n, tn, rfl, hn⟩ := IntsAre.at hi1 _ _ hv
    refine wpAny_assign_Name (stL S2 fun h3 S3 => tests_nil ?_)
    rw [if_pos rfl]
    refine wpAny_BinOp (ldL S3 rfl (cI (modI (by decide) (CompEnd.mk S3 ⟨ds ++ [n.fmod 1000000], ints_snoc hds _ _, by simp; omega, fun x hx => ?_⟩))))
    rcases List.mem_append.mp hx with hx | hx
    · exact hdx x hx
    · have : x = n.fmod 1000000 := by simpa using hx
      subst this
      rw [Int.fmod_eq_emod_of_nonneg n (by decide)]
      omega
  · refine compQ fun D' h2 t2 ys k' H' kp hD' hg hF _ => ?_
    obtain ⟨ds, hds, hdl, hdx⟩ := hF
    have S2 : St h₀ H ex L h2 m ((D', LstP ys k') :: (L + 1, oc) :: mu) := (S1.add kp hD' hg).sub (.cons_cons _ (.cons _ (.cons _ (.refl _))))
    refine stC S2 rfl (i := 1) rfl hoc fun h3 oc' hoc' S3 => ?_
    refine hQ h3 _ D' ys k' oc' ds S3 hoc' hds ?_ hdx
    have h1 := hds.length
    simp only [List.length_take] at hdl
    omega
end
end Mine
set_option maxHeartbeats 2000000
namespace Mine
section
variable {w : World} {A : Around} {E : Value → Shared → Prop} {h h' h₀ H hB hb : Heap} {ex : List Addr} {g : Array GenState} {d : Drawn} {t : Nat} {os : OsState} {env : Env} {m m' : Str → Option Value} {mu mu' mt mt' new : List (Addr × Obj)} {L fa sl : Addr} {cd : Value} {sv dv : List Value} {ns ds : List Int}
theorem ints_pick (x : IntsAre dv ds) : ∀ idx : List Nat, ∃ ds', IntsAre (idx.filterMap (dv.toArray[·]?)) ds'
  | [] => ⟨[], .nil⟩
  | i :: r => by
    obtain ⟨ds', hr⟩ := ints_pick x r
    cases q : dv.toArray[i]? with
    | none => exact ⟨ds', by rw [List.filterMap_cons_none q]; exact hr⟩
    | some v =>
      obtain ⟨n, tn, rfl, hn⟩ := IntsAre.at x i v (by simpa using q)
      exact ⟨n :: ds', by rw [List.filterMap_cons_some q]; exact .cons _ _ hr⟩
theorem itemTupX {value : Expr} {x : Str} {p pos : Pos} {Q : Value → Shared → Prop} {s : Shared}
    (hQ : wpAny (Md w) A (eval value env) (fun o s₁ => wpAny (Md w) A (eval (.Name x p) env) (fun i s₂ => X6 fun T its k u j v => A8 (o = .ref T) (i = .int k u) (s₂.heap.IsTuple T its) (-(2 ^ 63) ≤ k) (k < 2 ^ 63) (seqIndex? k its.size = some j) (its[j]? = some v) (Q v s₂)) E s₁) E s) :
    wpAny (Md w) A (eval (.Subscript value (.Name x p) pos) env) Q E s := by
  rw [eval_Subscript]
  refine wpAny_bind (wpAny_mono hQ (fun o s₁ h₁ => wpAny_bind (wpAny_holding (wpAny_mono h₁ (fun i s₂ h₂ => wpAny_bind (wpAny_standAt ?_)) fun _ _ x => x)))
    fun _ _ x => x)
  obtain ⟨T, its, k, u, j, v, rfl, rfl, hT, a, b, c, e, q⟩ := h₂
  have hTy : s₂.TypeIs (.ref T) "tuple" := ⟨_, hT.choose_spec.1, hT.choose_spec.2.1⟩
  refine wpAny_bind ?_
  rw [getitemInPython_of_ne hTy.not_modules]
  refine wpAny_bind (wpAny_specialOf hTy slot_tuple_getitem.lookup ?_)
  have fin : wpAny (Md w) A (operate [.ref T, .int k u] (getItem (.ref T) (.int k u))) (fun r s₃ => wpAny (Md w) A (letTemporaryGo value (.ref T) r >>= fun _ => pure r) Q E s₃) E s₂ :=
    wpAny_operating (getItem_tuple hT a b c e (wpAny_bind (wpAny_letTemporaryGo (wpAny_pure q))))
  first
    | exact wpAny_pure (wpAny_bind fin)
    | exact wpAny_bind (wpAny_pure (wpAny_bind fin))
    | exact wpAny_bind fin
theorem mod6 (a : Int) : 0 ≤ a.fmod 6 ∧ a.fmod 6 < 6 := by
  rw [Int.fmod_eq_emod_of_nonneg a (by decide)]
  omega
theorem law_wishes {Q : Flow → Shared → Prop} {D : Addr} {dk : Nat} {oc : Obj} (C : Cx w h₀) (hh : A.handled = none) (S : St h₀ H ex L h m ((D, LstP dv dk) :: (L + 1, oc) :: mu)) (hoc : oc.data = .cell (some (.ref D))) (hi : IntsAre dv ds) (h63 : ds.length ≤ 63)
    (hQ : ∀ h' t' wl wv wk (wishes : List Nat), St h₀ H ex L h' (upd m (Str.ofString "wishes") (.ref wl)) ((wl, LstP wv wk) :: (D, LstP dv dk) :: (L + 1, oc) :: mu) → IntsAre wv (wishes.map Int.ofNat) → wishes.length = 6 → (∀ x ∈ wishes, x ≤ 5) → wpAny (Md w) A (execs (lwB.drop 2) (lwE L fa cd)) Q E ⟨h', g, d, t', os⟩) :
    wpAny (Md w) A (execs (lwB.drop 1) (lwE L fa cd)) Q E ⟨h, g, d, t, os⟩ := by
  have hdl := hi.length
  refine xAsgComp (cl := [(Str.ofString "dealt", L + 1)]) rfl rfl rfl (by decide) ?_
  refine callName (ldB (v := .type "range") C S (by k_is) rfl (PyProof.Rows.callWith_type1 (spliced_more (cI (spliced_none ?_)))))
  have hcell := S.at 1 rfl
  have hD := S.at 0 rfl
  have C0 := C.keeps S.keep
  refine compRng (n := 6) hh (fun i ys _ => ∃ wishes : List Nat, IntsAre ys (wishes.map Int.ofNat) ∧ wishes.length = i ∧ ∀ x ∈ wishes, x ≤ 5) (by decide) rfl (fun _ => ⟨[], .nil, rfl, by simp⟩) (by decide) ?_ ?_
  · rintro i tk ys oI k H1 ex1 h1 m1 t1 C1 D1 I1 hi6 ⟨ws, hws, hwl, hw5⟩ S1
    refine wpAny_assign_Name (stL S1 fun h2 S2 => tests_nil ?_)
    rw [if_pos rfl]
    refine wpAny_BinOp (wpAny_BinOp (itemTupX (wpAny_Tuple (spliced_more (cI (spliced_more (cI (spliced_more (cI (spliced_more (cI (spliced_more (cI (spliced_more (cI (spliced_none ⟨by simp [sizeLine], ?_⟩))))))))))))))))
    have hT : ∀ vsT : List Value, (h2.push { cls := .type "tuple", data := .seq vsT.toArray }).IsTuple h2.objs.size vsT.toArray := fun vsT => ⟨_, Heap.get?_push_size _ rfl, rfl, _, rfl⟩
    have S3 := S2.pushed { cls := .type "tuple", data := .seq [Value.int 3 (t1 + 1), .int 2 (t1 + 1 + 1), .int 2 (t1 + 1 + 1 + 1), .int 3 (t1 + 1 + 1 + 1 + 1), .int 1 (t1 + 1 + 1 + 1 + 1 + 1), .int 1 (t1 + 1 + 1 + 1 + 1 + 1 + 1)].toArray }
    obtain ⟨n, tn, hv⟩ : ∃ n tn, [Value.int 3 (t1 + 1), .int 2 (t1 + 1 + 1), .int 2 (t1 + 1 + 1 + 1), .int 3 (t1 + 1 + 1 + 1 + 1), .int 1 (t1 + 1 + 1 + 1 + 1 + 1), .int 1 (t1 + 1 + 1 + 1 + 1 + 1 + 1)].toArray[i]? = some (.int n tn) := by
      rcases i with _ | _ | _ | _ | _ | _ | i
      all_goals first | exact ⟨_, _, rfl⟩ | omega
    refine ldL S3 rfl ⟨_, _, _, _, i, _, rfl, rfl, hT _, by omega, by omega, ?_, hv, ?_⟩
    · unfold seqIndex?
      simp
      omega
    have C3 : Cx w _ := C0.keeps S3.keep
    refine callName (ldB (v := .builtin "sum") C0 S3 (by k_is) rfl (cwBi (spliced_more ?_)))
    refine wpAny_Subscript_Slice_step (T := "list") list_getitem_lookup (ldC (c := L + 1) rfl ⟨oc, S3.keep _ _ hcell, hoc⟩ ?_) (by intro _ _; rfl)
    refine wpAny_Slice (wpAny_evalPart_some (ldL S3 rfl (wpAny_evalPart_none (wpAny_evalPart_some (cI ?_)))))
    have hDl : _root_.PySem.Heap.IsList _ D dv.toArray := lstAt (S3.keep _ _ hD)
    refine ⟨(hDl.push _).typeIs, wpAny_getItem_list_slice (hDl.push _) (Heap.IsSliceOf.new ..) (.int _ _) .none (.int _ _) (by decide) ?_ (by simp [sizeLine]; omega)⟩
    obtain ⟨ds', hds'⟩ := ints_pick hi (sliceRange (sliceBounds (some (i : Int)) none (some 6) dv.toArray.size).1 (sliceBounds (some (i : Int)) none (some 6) dv.toArray.size).2.1 (sliceBounds (some (i : Int)) none (some 6) dv.toArray.size).2.2)
    have S4 := (S3.pushed { cls := .type "slice", data := .fields #[.int i tk, .none, .int 6 (t1 + 1 + 1 + 1 + 1 + 1 + 1 + 1)] }).alloc { cls := .type "list", data := .seq (slicePick dv.toArray (some (i : Int)) none (some 6)) } rfl
    refine spliced_none ?_
    refine sumL hh (vs := (sliceRange (sliceBounds (some (i : Int)) none (some 6) dv.toArray.size).1 (sliceBounds (some (i : Int)) none (some 6) dv.toArray.size).2.1 (sliceBounds (some (i : Int)) none (some 6) dv.toArray.size).2.2).filterMap (dv.toArray[·]?)) ⟨_, Heap.get?_push_size _ rfl, rfl, _, rfl⟩ hds' fun h5 t5 tk5 k5 => ?_
    refine addI (cI (modI (by decide) ?_))
    have h6 := mod6 (n + ds'.sum)
    obtain ⟨r, hr⟩ : ∃ r : Nat, (n + ds'.sum).fmod 6 = (r : Int) := ⟨((n + ds'.sum).fmod 6).toNat, by omega⟩
    have hr5 : r ≤ 5 := by omega
    rw [hr]
    refine CompEnd.mk (((S3.pushed _).pushed _).keeps k5) ⟨ws ++ [r], ?_, by simp; omega, fun x hx => ?_⟩
    · rw [List.map_append]
      exact ints_snoc hws _ _
    · rcases List.mem_append.mp hx with hx | hx
      · exact hw5 x hx
      · have : x = r := by simpa using hx
        omega
  · refine asgQ S fun WL h2 t2 wv wk Hf S2 hF _ => ?_
    obtain ⟨ws, hws, hwl, hw5⟩ := hF
    exact hQ h2 _ WL wv wk ws S2 hws hwl hw5
theorem law_told {Q : Flow → Shared → Prop} {D wl : Addr} {dk wk : Nat} {wv : List Value} {oc : Obj} (C : Cx w h₀) (hh : A.handled = none) (S : St h₀ H ex L h m ((wl, LstP wv wk) :: (D, LstP dv dk) :: (L + 1, oc) :: mu)) (hoc : oc.data = .cell (some (.ref D))) (hi : IntsAre dv ds) (h63 : ds.length ≤ 63) (hx : ∀ x ∈ ds, 0 ≤ x ∧ x < 1000000)
    (hQ : ∀ h' t' tt (told : Nat), told < 720 → St h₀ H ex L h' (upd m (Str.ofString "told") (.int (told : Nat) tt)) ((wl, LstP wv wk) :: (L + 1, oc) :: mu) → wpAny (Md w) A (execs (lwB.drop 3) (lwE L fa cd)) Q E ⟨h', g, d, t', os⟩) :
    wpAny (Md w) A (execs (lwB.drop 2) (lwE L fa cd)) Q E ⟨h, g, d, t, os⟩ := by
  have hdl := hi.length
  refine xAssign (wpAny_BinOp (callName (ldB (v := .builtin "sum") C S (by k_is) rfl (cwBi (spliced_more (compEv (cl := []) rfl rfl (by decide) (ldC (c := L + 1) rfl ⟨oc, S.at 2 rfl, hoc⟩ ?_)))))))
  refine compSeq hh (.inl ⟨_, _, rfl⟩) (lstAt (S.at 1 rfl)) (fun j ys _ => ∃ es, IntsAre ys es) (by decide) rfl (fun _ => ⟨[], .nil⟩) (by omega) ?_ ?_
  · rintro j v ys oI k H1 ex1 h1 m1 t1 C1 D1 I1 hv ⟨es, hes⟩ S1
    obtain ⟨n, tn, rfl, hn⟩ := IntsAre.at hi _ _ hv
    have hn6 := hx n (List.mem_of_getElem? hn)
    refine wpAny_assign_Name (stL S1 fun h3 S3 => tests_nil ?_)
    rw [if_pos rfl]
    exact wpAny_BinOp (ldL S3 rfl (cI (PyProof.Rows.floordiv_int (by decide) (CompEnd.mk S3 ⟨es ++ [n.fdiv 6], ints_snoc hes _ _⟩) (Or.inl (PyProof.noPylong_small (by omega))))))
  · refine compQ fun D' h2 t2 ys k' H' kp hD' hg hF _ => ?_
    obtain ⟨es, hes⟩ := hF
    have S2 := S.add kp hD' hg
    refine spliced_none (sumL hh (lstAt (S2.at 0 rfl)) hes fun h3 t3 tk3 k3 => cI (modI (by decide) ?_))
    have S3 : St h₀ H ex L h3 m ((wl, LstP wv wk) :: (L + 1, oc) :: mu) := (S2.keeps k3).sub (.cons _ (.cons_cons _ (.cons _ (.refl _))))
    have h720 : 0 ≤ es.sum.fmod 720 ∧ es.sum.fmod 720 < 720 := by
      rw [Int.fmod_eq_emod_of_nonneg _ (by decide)]
      omega
    obtain ⟨r, hr⟩ : ∃ r : Nat, es.sum.fmod 720 = (r : Int) := ⟨(es.sum.fmod 720).toNat, by omega⟩
    rw [hr]
    exact stL S3 fun h4 S4 => hQ h4 _ _ r (by omega) S4
end
end Mine
set_option maxHeartbeats 2000000
namespace Mine
section
variable {w : World} {A : Around} {E : Value → Shared → Prop} {h h' h₀ H hB hb : Heap} {ex : List Addr} {g : Array GenState} {d : Drawn} {t : Nat} {os : OsState} {env : Env} {m m' : Str → Option Value} {mu mu' mt mt' new : List (Addr × Obj)} {L fa sl p : Addr} {cd : Value} {sv dv wv : List Value} {ns ds : List Int} {r : List Int × Nat × Nat × Nat} {wishes : List Nat}
/-- neither an object of its own nor a table of names -/
noncomputable def Flat0 (o : Obj) : Prop := o.data ≠ .plain ∧ ∀ es n, o.data ≠ .dict es n
theorem ns_get {es : Array DictEntry} {name : Str} {v : Value} (e : getL name es.toList = some (some v)) : nsFind es name = some v := by
  unfold getL at e
  unfold nsFind findBy
  rw [← Array.find?_toList]
  split at e
  · rename_i x hx
    cases e
    have : es.toList.find? (fun e => e.key.isStr name) = some x := hx
    rw [this]; rfl
  · split at e <;> cases e
theorem WsO.off (S : St h₀ H ex L h m mu) (hm : m (Str.ofString "norm") = none) (hmu : ∀ q ∈ mu, Flat0 q.2) (W : WsO h p r) : ∀ h', (∀ b o, b ∉ L :: mu.map (·.1) → h.get? b = some o → h'.get? b = some o) → (∀ b its, h.IsTuple b its → h'.IsTuple b its) → WsO h' p r := by
  intro h' k kt
  obtain ⟨dx, es, n, N, T, vs, t1, t2, t3, a1, a2, a3, a4, a5, a6, a7, a8, a9⟩ := W
  obtain ⟨oL, esL, ep, x, xd, _, xf⟩ := S.ns
  have np : p ∉ L :: mu.map (·.1) := fun hp => by
    rcases List.mem_cons.mp hp with q | hp
    · rw [q, x] at a1; cases a1; cases xd
    · obtain ⟨q, hq, e⟩ := List.mem_map.mp hp
      have h1 := S.led q hq
      rw [e, a1] at h1
      exact (hmu q hq).1 (by rw [← Option.some.inj h1])
  have ndx : dx ∉ L :: mu.map (·.1) := fun hp => by
    rcases List.mem_cons.mp hp with q | hp
    · rw [q, x] at a2
      have a2 := Option.some.inj a2
      rw [a2] at xd
      have h1 := xf (Str.ofString "norm")
      rw [hm] at h1
      have hes : es = esL.toList := by
        cases xd
        simp
      have h2 : nsFind esL (Str.ofString "norm") = some (.ref N) := ns_get (by rw [← hes]; exact a5)
      rw [h1] at h2; cases h2
    · obtain ⟨q, hq, e⟩ := List.mem_map.mp hp
      have h1 := S.led q hq
      rw [e, a2] at h1
      have h2 := (hmu q hq).2
      rw [← Option.some.inj h1] at h2
      exact h2 _ _ rfl
  exact ⟨dx, es, n, N, T, vs, t1, t2, t3, k _ _ np a1, k _ _ ndx a2, a3, a4, a5, kt _ _ a6, kt _ _ a7, a8, a9⟩
theorem xtab : Str.ofString "x \t" = ⟨#[120, 32, 9]⟩ := by decide +kernel
theorem law_page {Q : Flow → Shared → Prop} {wl : Addr} {wk told : Nat} {oc : Obj} {tt : Tok} {due : Bool} (C : Cx w h₀) (hroom : A.depth + 3 < recursionLimit) (hh : A.handled = none) (S : St h₀ H ex L h m ((wl, LstP wv wk) :: mu)) (hmu : ∀ q ∈ mu, Flat0 q.2)
    (hi : IntsAre wv (wishes.map Int.ofNat)) (h6 : wishes.length = 6) (h5 : ∀ x ∈ wishes, x ≤ 5) (mw : m "wishes" = some (.ref wl)) (mn : m (Str.ofString "norm") = none)
    (hQ : ∀ h' H' ex' t' p r, St h₀ H' ex' L h' (upd (upd m (Str.ofString "page") (.ref p)) (Str.ofString "due") (.bool (canBe (wishes.map Int.ofNat)))) ((wl, LstP wv wk) :: mu) → WsO h' p r → r.1 = cntOf wishes → r.2.1 = 0 → wpAny (Md w) A (execs (lwB.drop 6) (lwE L fa cd)) Q E ⟨h', g, d, t', os⟩) :
    wpAny (Md w) A (execs (lwB.drop 3) (lwE L fa cd)) Q E ⟨h, g, d, t, os⟩ := by
  have hwl := hi.length
  have hws : wishes.sum ≤ 30 := by have := sum_le5 wishes h5; omega
  rw [List.length_map, h6] at hwl
  refine xAssign (callName (ldG C S (by k_is) (cwFn (f := 287) (by k_is) (spliced_more (wpAny_BinOp (MethodCall_ (cS (methStr PySem.F.slot_str_join PySem.F.type_str_join (cwBi (spliced_more (compEv (cl := []) rfl rfl (by decide) (ldL S mw ?_)))))) (by rfl)))))))
  refine compSeq hh (.inl ⟨_, _, rfl⟩) (lstAt (S.at 0 rfl)) (fun j ys _ => StrsAre ys ((wishes.take j).map rowS)) (by decide) rfl (fun _ => .nil) (by omega) ?_ ?_
  · rintro j v ys oI k H1 ex1 h1 m1 t1 C1 D1 I1 hv hF S1
    obtain ⟨n, tn, rfl, hn⟩ := IntsAre.at hi _ _ hv
    rw [List.getElem?_map] at hn
    obtain ⟨x, hx, rfl⟩ := Option.map_eq_some_iff.mp hn
    obtain ⟨hjl, hxe⟩ := List.getElem?_eq_some_iff.mp hx
    have hx5 := h5 x (List.mem_of_getElem? hx)
    refine wpAny_assign_Name (stL S1 fun h3 S3 => tests_nil ?_)
    rw [if_pos rfl]
    refine wpAny_BinOp (wpAny_BinOp (cS (ldL S3 rfl ?_)))
    refine mulSp (by omega) fun t15 k15 => cS ?_
    refine PySem.SB.add (s := ⟨h3, g, d, _, os⟩) (fun t16 k16 => ?_) ?_
    · rw [rowS_add]
      refine CompEnd.mk S3 ?_
      rw [List.take_succ_eq_append_getElem hjl, List.map_append, hxe]
      exact strs_snoc hF _ _
    · have h1 : (spS x).length = x := by show (spS _).cps.size = _; simp [spS]
      have h2 : (Str.ofString "\t").length = 1 := by rw [tab1]; rfl
      rw [h1, h2, sizeLine_eq]; omega
  · refine compQ fun D' h2 t2 ys k' H' kp hD' hg hF _ => ?_
    have hF : StrsAre ys (wishes.map rowS) := by
      have := hF
      rw [hwl, List.take_of_length_le (by omega)] at this
      exact this
    have S2 := S.add kp hD' hg
    refine spliced_none ?_
    refine join_listW (s := ⟨h2, g, d, t2, os⟩) (lstAt (S2.at 0 rfl)) hF (by decide +kernel) ?_ fun t3 k3 => ?_
    · rw [rows_weight, List.length_map, h6]; omega
    rw [join_rows]
    have hps := pageS_len wishes
    refine cS (PySem.SB.add (s := ⟨h2, g, d, _, os⟩) (fun t4 k4 => ?_) ?_)
    · generalize hz : pageS wishes ++ Str.ofString "x \t" = z
      have hzl : z.cps.toList = pageT wishes ++ [120, 32, 9] := by
        rw [← hz]
        show ((pageS wishes).cps ++ (Str.ofString "x \t").cps).toList = _
        rw [xtab]
        simp [pageS]
      have hzs : z.cps.size ≤ 40 := by
        have : z.cps.size = z.cps.toList.length := by simp
        rw [this, hzl, List.length_append, pageT_len]
        simp; omega
      have hza : z.cps.all (· < 128) = true := by
        rw [← Array.all_toList, hzl, List.all_eq_true]
        intro c hc
        rcases List.mem_append.mp hc with hc | hc
        · rcases pageT_asc hc with rfl | rfl <;> decide
        · simp only [List.mem_cons, List.not_mem_nil, or_false] at hc
          rcases hc with rfl | rfl | rfl <;> decide
      refine spliced_none ⟨C.keeps S2.keep, ?_⟩
      refine ws_make (z := z) (C.keeps S2.keep) (by omega) hh hza (by omega) fun hp5 t5 p k5 hW hp0 => ?_
      rw [hzl, wsRun_thePage] at hW
      have S5 := (S2.keeps k5).tail.re
      have W5 := hW.off S5 mn (fun q hq => by
        rcases List.mem_cons.mp hq with rfl | hq
        · exact ⟨by simp, by simp⟩
        · exact hmu q hq)
      refine stL S5 fun h6' S6 => ?_
      have W6 := W5 h6' (fun b o n e => S6.pres b o n e) S6.tup
      refine xAssign (callName (ldG C S6 (by k_is) (cwFn (f := 296) (by k_is) (spliced_more (ldL S6 mw (spliced_none ⟨C.keeps S6.keep, ?_⟩))))))
      refine can_be_spec (C.keeps S6.keep) (by omega) hh (lstAt (S6.at 0 rfl)) hi (by simp; omega) fun h7 t7 k7 => ?_
      have S7 := (S6.keeps k7).re
      have W7 := (W6.keeps k7).off S7 mn (fun q hq => by
        rcases List.mem_cons.mp hq with rfl | hq
        · exact ⟨by simp, by simp⟩
        · exact hmu q hq)
      refine stL S7 fun h8 S8 => ?_
      have W8 := W7 h8 (fun b o n e => S8.pres b o n e) S8.tup
      refine xIf (wpAny_isTrue_Compare1 (callName (ldG C S8 (by k_is) (cwFn (f := 303) (by k_is) (spliced_more (ldL S8 rfl (spliced_none ⟨C.keeps S8.keep, ?_⟩)))))))
      refine by_brackets_spec (C.keeps S8.keep) (by omega) hh W8 ?_ ?_ ?_ fun h9 t9 k9 => ?_
      · exact foldl_bump_len wishes [] 8 (by simp) fun x hx => by have := h5 x hx; omega
      · exact foldl_bump_nonneg wishes [] (by simp)
      · have := foldl_bump_sum wishes []
        unfold cntOf
        rw [this, h6]; decide
      have S9 := S8.keeps k9
      refine ldL S9 rfl (PyProof.Rows.ne_bool (wpAny_truthy_bool ?_))
      rw [brackets_can h6 h5]
      rw [if_neg (by simp)]
      exact xNil (hQ _ _ _ _ p _ S9 (W8.keeps k9) rfl rfl)
    · have h1 : (pageS wishes).length = (pageS wishes).cps.size := rfl
      have h2 : (Str.ofString "x \t").length = 3 := by rw [xtab]; rfl
      rw [h1, h2, hps, sizeLine_eq]; omega
end
end Mine
set_option maxHeartbeats 2000000
namespace Mine
section
variable {w : World} {A : Around} {E : Value → Shared → Prop} {h h' h₀ H hB hb : Heap} {ex : List Addr} {g : Array GenState} {d : Drawn} {t : Nat} {os : OsState} {env : Env} {m m' : Str → Option Value} {mu mu' mt mt' new : List (Addr × Obj)} {L fa sl p D B wl : Addr} {cd : Value} {sv dv wv : List Value} {ns ds : List Int} {r : List Int × Nat × Nat × Nat} {wishes : List Nat} {l : List Nat} {o oD : Obj} {kvs : List (Str × Value)} {bs : List (List Nat)} {due : Bool}
theorem TabsL.flat (x : TabsL mt) : ∀ q ∈ mt, Flat0 q.2 := by
  intro q hq
  rcases x.is q hq with ⟨vs, e⟩ | ⟨vs, s, tt, e, _⟩
  · rw [e]; exact ⟨by simp, by simp⟩
  · exact ⟨by rw [e]; simp, by rw [e]; simp⟩
/-- a dict is none of the flat ones -/
theorem dict_out {K : Type} [DecidableEq K] {knd : KeyKind pg w K} {ks : List (K × Value)} (S : St h₀ H ex L h m mu) (hmu : ∀ q ∈ mu, Flat0 q.2) (e : h.get? D = some o) (hd : o.IsDictOf knd ks) : D ∉ mu.map (·.1) := fun hm => by
  obtain ⟨q, hq, z⟩ := List.mem_map.mp hm
  have h1 := S.led q hq
  rw [z, e] at h1
  obtain ⟨es, ep, _, hdat, _⟩ := hd
  exact (hmu q hq).2 es ep (by rw [← Option.some.inj h1]; exact hdat)
/-- a guest's book is no frame -/
theorem book_out (N : h.Ns L m) (hm : m (Str.ofString "wishes") ≠ none) (e : h.get? B = some o) (hb : BkO w (bkC l) o) : B ≠ L := by
  intro q
  subst q
  obtain ⟨oL, es, ep, x, xd, sk, xf⟩ := N
  have x : h.get? B = some oL := x
  rw [e] at x
  cases x
  obtain ⟨ks, ⟨es', ep', _, hdat, _, hp, _⟩, hf⟩ := hb
  rw [xd] at hdat
  cases hdat
  have h1 := xf (Str.ofString "wishes")
  have h2 : nsFind es (Str.ofString "wishes") ≠ none := by rw [h1]; exact hm
  apply h2
  unfold nsFind findBy
  have : es.find? (fun e => e.key.isStr (Str.ofString "wishes")) = none := by
    rw [← Array.find?_toList, List.find?_eq_none]
    intro en hen hk
    have key : ∀ (es : List DictEntry) (ks : List (Str × Value)), Pairs (strKind pg w) es ks → ∀ en ∈ es, ∃ kv ∈ ks, (strKind pg w).is kv.1 en.key = true := by
      intro es ks x
      induction x with
      | nil => intro en he; cases he
      | cons a b _ ih =>
        intro en he
        rcases List.mem_cons.mp he with rfl | he
        · exact ⟨_, .head _, a⟩
        · obtain ⟨kv, h1, h2⟩ := ih en he
          exact ⟨kv, .tail _ h1, h2⟩
    obtain ⟨kv, hkv, his⟩ := key _ _ hp en hen
    obtain ⟨i, hi⟩ := List.mem_iff_getElem?.mp hkv
    obtain ⟨dv, hdv, hfl⟩ := hf.at (k := kv.1) (v := kv.2) hi
    obtain ⟨n, hc, rfl⟩ := kdpD_at hdv
    unfold bkC at hc
    rw [List.getElem?_map] at hc
    obtain ⟨j, hj, ee⟩ := Option.map_eq_some_iff.mp hc
    have e1 : nm j = kv.1 := congrArg Prod.fst ee
    obtain ⟨tk, hk2⟩ := strInv his
    rw [hk2, ← e1] at hk
    have hk : (nm j == Str.ofString "wishes") = true := hk
    have hk := eq_of_beq hk
    have := congrArg (fun s : Str => s.cps.size) hk
    have h6 : (Str.ofString "wishes").cps.size = 6 := by decide +kernel
    simp [nm, h6] at this
  rw [this]; rfl
theorem isnotN {a : Addr} {Q : Value → Shared → Prop} {s : Shared} (hQ : Q (.bool true) s) : wpAny (Md w) A (compareOp .IsNot (.ref a) .none) Q E s := by
  show wpAny (Md w) A (do return Value.bool (!(← isSame (.ref a) .none))) Q E s
  unfold isSame
  exact wpAny_bind (wpAny_pure (wpAny_pure hQ))
noncomputable def tryB (s : Stmt) : List Stmt := (sPart s).1
noncomputable def loopB : List Stmt := bodyOf (stmtAt lwB 6)
noncomputable def tryS : List Stmt := tryB (stmtAt loopB 0)
/-- below the law's loop -/
structure LwBase (w : World) (b : Heap) (wl : Addr) (wv : List Value) (wishes : List Nat) (p : Addr) (r : List Int × Nat × Nat × Nat) (due : Bool) : Prop where
  C : Cx w b
  MB : BmAt b
  hl : b.IsList wl wv.toArray
  hi : IntsAre wv (wishes.map Int.ofNat)
  h6 : wishes.length = 6
  h5 : ∀ x ∈ wishes, x ≤ 5
  hP : WsO b p r
  r1 : r.1 = cntOf wishes
  r2 : r.2.1 = 0
  hd : canBe (wishes.map Int.ofNat) = due
/-- the second line of the try -/
theorem law_fits {Q : Flow → Shared → Prop} (X : LwBase w h₀ wl wv wishes p r due) (hroom : A.depth + 3 < recursionLimit) (hh : A.handled = none) (hu : A.units + 74 < cLine) (S : St h₀ H ex L h m mu) (hmu : ∀ q ∈ mu, Flat0 q.2)
    (mw : m (Str.ofString "wishes") = some (.ref wl)) (mp : m (Str.ofString "page") = some (.ref p)) (hD : h.get? D = some oD) (hDL : D ≠ L) (hd : oD.IsDictOf (strKind pg w) kvs) (lo : (D == sysModules) = false) (hB : Bs w h [] kvs bs) (hI : Inv wishes due [] bs)
    (hQ : ∀ h' m' t', St h₀ H ex L h' m' mu → Same [Str.ofString "books", Str.ofString "fits", Str.ofString "nag"] m m' → m' (Str.ofString "fits") = some (.bool true) → Q .next ⟨h', g, d, t', os⟩) :
    wpAny (Md w) A (storeName (lwE L fa cd) (Str.ofString "books") (.ref D)) (fun _ s => wpAny (Md w) A (execs (tryS.drop 1) (lwE L fa cd)) Q E s) E ⟨h, g, d, t, os⟩ := by
  have C := X.C
  have nD : D ∉ mu.map (·.1) := dict_out S hmu hD hd
  have nB : ∀ (k : Nat) (l : List Nat), bs[k]? = some l → ∃ v, (kvs[k]? = some (nm k, v)) ∧ (X2 fun D' o => A5 (v = Value.ref D') (h.get? D' = some o) (D' ∉ L :: mu.map (·.1)) (BkO w (bkC l) o) ((D' == sysModules) = false)) := by
    intro k l hl
    obtain ⟨v, hv, D', o, e, ho, _, hb, lo'⟩ := hB.2 k l hl
    refine ⟨v, hv, D', o, e, ho, fun hm => ?_, hb, lo'⟩
    rcases List.mem_cons.mp hm with q | hm
    · exact book_out S.ns (by rw [mw]; simp) ho hb q
    · obtain ⟨ks, hk, _⟩ := id hb
      exact dict_out S hmu ho hk hm
  have S1 := S.re
  refine stL S1 fun h2 S2 => ?_
  have k2 : ∀ b o, b ∉ L :: mu.map (·.1) → h.get? b = some o → h2.get? b = some o := fun b o n e => S2.pres b o n e
  have hD2 := k2 D oD (fun hm => by
    rcases List.mem_cons.mp hm with q | q
    · exact hDL q
    · exact nD q) hD
  have hB2 : Bs w h2 [] kvs bs := ⟨hB.1, fun k l hl => by
    obtain ⟨v, hv, D', o, e, ho, hn, hb, lo'⟩ := nB k l hl
    exact ⟨v, hv, D', o, e, k2 _ _ hn ho, by simp, hb, lo'⟩⟩
  refine xAssign (BoolOp_and (wpAny_Compare1 (ldL S2 rfl (wpAny_Constant_none (isnotN (wpAny_truthy_bool ?_))))))
  rw [if_pos rfl]
  refine BoolOp_one (callName (ldG C S2 (by k_is) (cwFn (f := 313) (by k_is) (spliced_more (ldL S2 rfl (spliced_more (ldL S2 mw (spliced_more (ldL S2 mp (spliced_none ⟨C.keeps S2.keep, ?_⟩)))))))))) 
  refine all_shook_spec (oD := oD) (kvs := kvs) (bs := bs) (vs := wv) (wishes := wishes) (due := due) (r := r) ⟨C.keeps S2.keep, hD2, hd, lo, hB2, hI, X.hl.at (S2.keep _), X.hi, X.h6, X.h5⟩ hroom hh hu (X.hP.keeps S2.keep) X.r1 X.r2 fun h3 t3 k3 => ?_
  have S3 := S2.keeps k3
  have S4 : St h₀ H ex L h3 _ mu := ⟨S3.ns, S3.led, S3.nd, S.mtb, fun b o n e => S3.pres b o (S.out e n) (S.pres b o n e), fun b its T => S3.tup b its (S.tup b its T), S.base⟩
  refine stL S4 fun h5 S5 => ?_
  refine xNil (hQ h5 _ _ S5 (fun y hy => ?_) rfl)
  have n1 : y ≠ Str.ofString "fits" := fun e => hy (by rw [e]; decide)
  have n2 : y ≠ Str.ofString "books" := fun e => hy (by rw [e]; decide)
  simp only [upd, n1, n2, if_false]
end
end Mine
set_option maxHeartbeats 1000000
namespace Mine
section
variable {w : World} {A : Around} {E : Value → Shared → Prop} {h h' : Heap} {g : Array GenState} {d : Drawn} {t : Nat} {os : OsState}
theorem excAttr {Q : Value → Shared → Prop} {e : Addr} {oe od : Obj} {name : Str} {v : Value} {attr : Option Value} {expr : Bool} (C : Cx w h) (I : PySem.W.InstAt h e oe 222 (some od)) (ha : findIn (hd0.heap_1 w.params) (.ref 222) name = some attr) (hn : noGet (hd0.heap_1 w.params) attr = true) (hl : lookIn name od = some (some v)) (hv : handedIn v = true)
    (hQ : Q v ⟨h, g, d, t + 1, os⟩) : wpAny (Md w) A (getAttr (.ref e) name expr) Q E ⟨h, g, d, t, os⟩ := by
  have hga : findIn (hd0.heap_1 w.params) (.ref 222) "__getattribute__" = some (some (.builtin "BaseException.__getattribute__")) := by k_is
  have hno : findIn (hd0.heap_1 w.params) (.ref 222) "__getattr__" = some none := by k_is
  have hhd : hasDictIn (hd0.heap_1 w.params) 222 = true := by k_is
  have L0 := I.type (M := Md w)
  have L1 := looks_findIn (M := Md w) C.X hga
  have L2 := looks_findIn (M := Md w) C.X hno
  have L3 := looks_find (M := Md w) C.X I (findObj_own hhd ha hn hl)
  obtain ⟨cd', hc, hd'⟩ := any_some hhd
  unfold getAttr getAttrBy
  refine wpAny_bind (wpAny_mkText (wpAny_holding (wpAny_bind (L0.at (wpAny_bind (L1.at ?_))))))
  show wpAny _ _ (if (onTheHeap (Value.ref 222) && (Value.builtin "BaseException.__getattribute__" == Value.builtin "object.__getattribute__")) = true then _ else _) _ _ _
  rw [if_neg (by decide +kernel)]
  show wpAny _ _ (typeLookup (.ref 222) "__getattr__" >>= _) _ _ _
  refine wpAny_bind (L2.at ?_)
  show wpAny _ _ ((holding ([] : List Value) (callGetattribute (.ref e) (.str name t) (.builtin "BaseException.__getattribute__") expr)).attempt >>= _) _ _ _
  refine wpAny_bind (wpAny_attempt (wpAny_holding ?_))
  have hx0 : (expr && onTheHeap (Value.builtin "BaseException.__getattribute__")) = false := by cases expr <;> rfl
  unfold callGetattribute
  rw [if_neg (by rw [hx0]; decide)]
  unfold boundAndCalled
  refine wpAny_bind (wpAny_of_eq (a := (Value.builtin "BaseException.__getattribute__", [Value.ref e])) (PySem.F.attr_Exception.ga.bind _) ?_)
  have sub : Looks (Md w) h (isInstance (.ref e) (.type "BaseException")) true := I.type.andThen (looks_mroIn C.X (by kernel_rfl))
  refine callOwn (owner := "BaseException") (n := "__getattribute__") PySem.F.attr_Exception.ga.plain (.inr (by decide +kernel)) (by decide +kernel) sub PySem.F.entry_bexc_ga (PySem.F.args_bexc_ga _ _) ?_
  unfold Builtin.«object.__getattribute__»
  refine wpAny_bind (wpAny_of_eq (a := (Value.ref e, [Value.str name t])) rfl ?_)
  refine wpAny_bind (wpAny_of_eq (a := name) rfl ?_)
  refine wpAny_bind (L0.at ?_)
  refine wpAny_bind (L3.at ?_)
  refine wpAny_pure ⟨v, rfl, ?_⟩
  show wpAny _ _ (handedOut v) _ _ _
  rw [handedOut_of hv]
  exact wpAny_pure hQ
theorem get205 {Q : Value → Shared → Prop} {e : Addr} {oe : Obj} {es : List DictEntry} {n : Nat} {v : Value} (C : Cx w h) (hroom : A.depth < recursionLimit) (I : PySem.W.InstAt h e oe 222 (some (dictOf es n))) (hl : getL (Str.ofString "lineno") es = some (some v)) (hv : handedIn v = true)
    (hQ : ∀ h' t, Kp h h' → Q v ⟨h', g, d, t, os⟩) : wpAny (Md w) A (call (.ref 205) [.ref e]) Q E ⟨h, g, d, t, os⟩ := by
  refine enterCall (binds := [(Str.ofString "self", .ref e)]) C (by k_is) (by k_is) hroom (BindsTo.of_eq rfl) (locs rfl) (fun L h₁ t S => ?_) (by decide)
  exact xRet (attrName (ldL S rfl (excAttr (C.keeps S.keep) (inst_keeps I S.keep) (by k_is) (by k_is) hl hv (hQ _ _ S.keep))))
theorem get212 {Q : Value → Shared → Prop} {e : Addr} {oe : Obj} {es : List DictEntry} {n : Nat} {v : Value} (C : Cx w h) (hroom : A.depth < recursionLimit) (I : PySem.W.InstAt h e oe 222 (some (dictOf es n))) (hl : getL (Str.ofString "msg") es = some (some v)) (hv : handedIn v = true)
    (hQ : ∀ h' t, Kp h h' → Q v ⟨h', g, d, t, os⟩) : wpAny (Md w) A (call (.ref 212) [.ref e]) Q E ⟨h, g, d, t, os⟩ := by
  refine enterCall (binds := [(Str.ofString "self", .ref e)]) C (by k_is) (by k_is) hroom (BindsTo.of_eq rfl) (locs rfl) (fun L h₁ t S => ?_) (by decide)
  exact xRet (attrName (ldL S rfl (excAttr (C.keeps S.keep) (inst_keeps I S.keep) (by k_is) (by k_is) hl hv (hQ _ _ S.keep))))
theorem get219 {Q : Value → Shared → Prop} {e : Addr} {oe : Obj} {es : List DictEntry} {n : Nat} {v : Value} (C : Cx w h) (hroom : A.depth < recursionLimit) (I : PySem.W.InstAt h e oe 222 (some (dictOf es n))) (hl : getL (Str.ofString "line") es = some (some v)) (hv : handedIn v = true)
    (hQ : ∀ h' t, Kp h h' → Q v ⟨h', g, d, t, os⟩) : wpAny (Md w) A (call (.ref 219) [.ref e]) Q E ⟨h, g, d, t, os⟩ := by
  refine enterCall (binds := [(Str.ofString "self", .ref e)]) C (by k_is) (by k_is) hroom (BindsTo.of_eq rfl) (locs rfl) (fun L h₁ t S => ?_) (by decide)
  exact xRet (attrName (ldL S rfl (excAttr (C.keeps S.keep) (inst_keeps I S.keep) (by k_is) (by k_is) hl hv (hQ _ _ S.keep))))
end
end Mine
set_option maxHeartbeats 2000000
namespace Mine
noncomputable def tryH (s : Stmt) : List ExceptHandler := (sPart s).2.2.2
section
variable {w : World} {A : Around} {E : Value → Shared → Prop} {h h' h1 h₀ H hB hb : Heap} {ex : List Addr} {g : Array GenState} {d : Drawn} {t : Nat} {os : OsState} {env : Env} {m m' : Str → Option Value} {mu mu' mt mt' new : List (Addr × Obj)} {L fa sl p D B wl e : Addr} {cd : Value} {sv dv wv : List Value} {ns ds : List Int} {r : List Int × Nat × Nat × Nat} {wishes : List Nat} {l : List Nat} {o oD : Obj} {kvs : List (Str × Value)} {bs : List (List Nat)} {due : Bool}
theorem held (S : St h₀ H ex L h m (mt ++ mu)) (hT : TabsL mt) (F : Flown (hid h mt) [L] due e h') : X12 fun mt' dx oe vs es n tw tg tt wish gk rows => A10 (TabsL mt') (St h₀ H ex L h' m ((e, oe) :: (dx, dictOf es n) :: (mt' ++ mu))) (oe.cls = .ref 222) (oe.dict = some dx) (oe.data = .fields vs) (vs[2]? = some .none) (getL (Str.ofString "lineno") es = some (some (.int ((wish : Nat) : Int) tw))) (getL (Str.ofString "msg") es = some (some (.str (nm gk) tg))) ((getL (Str.ofString "line") es = some (some (.str (allS (rowT rows)) tt)) ∧ NoGet es)) (Tells due wish gk rows) := by
  obtain ⟨N0, ⟨dx, T, es, n, tw, tg, tt, wish, gk, rows, hx, hdx, e1, e2, e3, tl, hT0, hd0⟩, new0, ⟨mtA, mtB, a1, a2, a3, a4, a5⟩⟩ := F
  obtain ⟨oe, vs, he, hc, hdxo, hd, h2, h1, _⟩ := hx
  have tabs : TabsL (mtA ++ mtB) := ⟨mtA, mtB, rfl, a1, a2⟩
  have hne : e ≠ dx := fun q => by rw [q, hdx] at he; cases he; cases hd
  have n1 : e ∉ (mtA ++ mtB).map (·.1) := fun hm => by
    obtain ⟨q, hq, z⟩ := List.mem_map.mp hm
    have h3 := a3 q hq
    rw [z, he] at h3
    have h3 := Option.some.inj h3
    rcases tabs.is q hq with ⟨v, x⟩ | ⟨v, s, tt, x1, x2⟩
    · rw [← h3] at x; rw [x] at hc; cases hc
    · rw [← h3, hd] at x1; cases x1; rw [h1] at x2; cases x2
  have n2 : dx ∉ (mtA ++ mtB).map (·.1) := fun hm => by
    obtain ⟨q, hq, z⟩ := List.mem_map.mp hm
    have h3 := a3 q hq
    rw [z, hdx] at h3
    have h3 := Option.some.inj h3
    exact (tabs.flat q hq).2 _ _ (by rw [← h3])
  refine ⟨mtA ++ mtB, dx, oe, vs, es, n, tw, tg, tt, wish, gk, rows, tabs, ?_, hc, hdxo, hd, h2, e1, e2, e3, tl⟩
  refine S.flown (new := (e, oe) :: (dx, dictOf es n) :: (mtA ++ mtB)) hT N0 (fun q hq => ?_) ?_ fun a ha => ?_
  · rcases List.mem_cons.mp hq with rfl | hq
    · exact he
    · rcases List.mem_cons.mp hq with rfl | hq
      · exact hdx
      · exact a3 q hq
  · simp only [List.map_cons, List.nodup_cons, List.mem_cons, not_or]
    exact ⟨⟨hne, n1⟩, n2, a4⟩
  · simp only [List.map_cons, List.mem_cons] at ha
    rcases ha with rfl | rfl | ha
    · exact new0
    · exact hd0
    · exact a5 a ha
/-- the except's way -/
theorem law_caught {Q : Flow → Shared → Prop} (X : LwBase w h₀ wl wv wishes p r due) (hroom : A.depth + 3 < recursionLimit) (hfr : A.frames = some [lwE L fa cd]) (S : St h₀ H ex L h m (mt ++ mu)) (hT : TabsL mt) (hmu : ∀ q ∈ mu, Flat0 q.2)
    (md : m (Str.ofString "due") = some (.bool due)) (F : Flown (hid h mt) [L] due e h1)
    (hQ : ∀ h' m' t' mt', St h₀ H ex L h' m' (mt' ++ mu) → TabsL mt' → Same [Str.ofString "books", Str.ofString "fits", Str.ofString "nag"] m m' → m' (Str.ofString "fits") = some (.bool true) → Q .next ⟨h', g, d, t', os⟩) :
    wpAny (Md w) A (noteFrame (.ref e) (lwE L fa cd)) (fun _ s₂ => wpAny (Md w) A (setFlight (.ref e) none) (fun _ s₃ => wpAny (Md w) A (handleBy (.ref e) (lwE L fa cd) (tryH (stmtAt loopB 0))) Q E s₃) E s₂) E ⟨h1, g, d, t, os⟩ := by
  have C := X.C
  have hNs := S.nsHid
  have hfs : ∀ b ∈ [L], ∃ o, (hid h mt).get? b = some o ∧ ∀ vs, o.data ≠ .fields vs := fun b hb => by
    have : b = L := by simpa using hb
    subst this
    obtain ⟨o, es, ep, x, xd, _⟩ := hNs
    exact ⟨o, x, fun vs q => by rw [xd] at q; cases q⟩
  have ff1 : h1.FunFrames {} [lwE L fa cd] := by
    obtain ⟨o, es, ep, x, r⟩ := hNs
    obtain ⟨sl, hsl⟩ := F.noted.slots L o (by simp) x
    exact Heap.FunFrames.cons (L := L) (m := m) (fun q => by have q : ScopeKind.function = ScopeKind.module := q; cases q) rfl ⟨_, es, ep, hsl, r⟩ rfl trivial
  obtain ⟨dx, T, es, n, tw, tg, tt, wish, gk, rows, hx, hdx, e1, e2, e3, tl, hT0, hd0⟩ := F.exc
  refine noteOn hfr ff1 rfl hx fun h2 T' N2 hx2 hT' => ?_
  refine setFl none hx2 fun h3 N3 hx3 => ?_
  have hb : ∀ b o, h1.get? b = some o → b ≠ T' := fun b o q z => by rw [z, hT'] at q; cases q
  have N : Noted [L] [T, e] h1 h3 := by
    refine ⟨fun b o n1 n2 q => N3.keep b o (by simp) (by simpa using hb b o q) (N2.keep b o n1 n2 q), fun b o n q => ?_⟩
    obtain ⟨sl, z⟩ := N2.slots b o n q
    exact ⟨sl, N3.keep b _ (by simp) (by simpa using hb b o q) z⟩
  have F3 := flown_step F hx hT0 (by simp) N hx3 (.inl hT') hfs
  obtain ⟨mt3, dx3, oe3, vs3, es3, n3, tw3, tg3, tt3, wish3, gk3, rows3, tabs3, S3, hc3, hdo3, hd3, h23, f1, f2, f3, tl3⟩ := held S hT F3
  refine wpAny_handleBy_cons (codeAny_handlers_test (ldG C S3 (by k_is) ?_)) (by intro q; cases q)
  have hC := C.X 222 _ (by k_is)
  refine wpAny_excMatches_sub_self (S3.keep _ _ hC) (S3.at 0 rfl) hc3 (by decide +kernel) (codeAny_handlers_suite_as ?_)
  obtain ⟨dxa, Ta, esa, na, twa, tga, tta, wisha, gka, rowsa, hxa, hdxa, _, _, _, _, hTa0, _⟩ := F3.exc
  refine setFl none hxa fun h4 N4 hx4 => ?_
  have F4 := flown_step (X := [Ta]) F3 hxa hTa0 (by simp) (N4.mono (by simp) (by simp)) hx4 (.inr rfl) hfs
  obtain ⟨mt4, dx4, oe4, vs4, es4, n4, tw4, tg4, tt4, wish4, gk4, rows4, tabs4, S4, hc4, hdo4, hd4, h24, q1, q2, q3, tl4⟩ := held S hT F4
  refine stL S4 fun h5 S5 => ?_
  have I5 : PySem.W.InstAt h5 e oe4 222 (some (dictOf es4 n4)) := ⟨S5.at 0 rfl, hc4, by unfold notCls; rw [hd4], by rw [hdo4]; exact S5.at 1 rfl⟩
  have hq5 : Quiet (A.mark (some (.ref e))) h5 := .inr ⟨e, oe4, vs4, rfl, S5.at 0 rfl, hd4, h24⟩
  refine xAssign (BoolOp_and (wpAny_UnaryOp (ldL S5 md (not_of (wpAny_truthy_bool ?_)))))
  rw [tl4.due]
  refine wpAny_truthy_bool ?_
  rw [if_pos (by rfl)]
  refine BoolOp_one (callName (ldG C S5 (by k_is) (cwFn (f := 318) (by k_is) (spliced_more (MethodCall_ (ldL S5 rfl (methFn (C.keeps S5.keep) I5 (by k_is) (by k_is) (by k_is) (by k_is) q3.2.1 (cwFn0 (f := 205) (C.keeps S5.keep) (by k_is) ?_))) (by rfl))))))
  refine get205 (C.keeps S5.keep) (show A.depth < _ by omega) I5 q1 rfl fun h6 t6 k6 => ?_
  have S6 := S5.keeps k6
  have I6 := inst_keeps I5 k6
  refine spliced_more (MethodCall_ (ldL S6 rfl (methFn (C.keeps S6.keep) I6 (by k_is) (by k_is) (by k_is) (by k_is) q3.2.2.1 (cwFn0 (f := 212) (C.keeps S6.keep) (by k_is) ?_))) (by rfl))
  refine get212 (C.keeps S6.keep) (show A.depth < _ by omega) I6 q2 rfl fun h7 t7 k7 => ?_
  have S7 := S6.keeps k7
  have I7 := inst_keeps I6 k7
  refine spliced_more (MethodCall_ (ldL S7 rfl (methFn (C.keeps S7.keep) I7 (by k_is) (by k_is) (by k_is) (by k_is) q3.2.2.2 (cwFn0 (f := 219) (C.keeps S7.keep) (by k_is) ?_))) (by rfl))
  refine get219 (C.keeps S7.keep) (show A.depth < _ by omega) I7 q3.1 rfl fun h8 t8 k8 => ?_
  have S8 := S7.keeps k8
  refine spliced_none ⟨C.keeps S8.keep, ?_⟩
  refine lacks_spec (C.keeps S8.keep) (show A.depth + 1 < _ by omega) (((hq5.on k6).on k7).on k8) tl4.k6 tl4.r tl4.z tl4.h1 tl4.h2 fun h9 t9 k9 => ?_
  have S9 := S8.keeps k9
  refine stL S9 fun h10 S10 => xNil ?_
  refine wpAny_nameGoes_keeps rfl S10.ns rfl fun h11 v hn11 hs11 => ?_
  have S11 := S10.store hs11 hn11
  refine hQ h11 _ _ mt4 S11.tail.tail tabs4 (fun y hy => ?_) rfl
  have n1 : y ≠ Str.ofString "fits" := fun e => hy (by rw [e]; decide)
  have n2 : y ≠ Str.ofString "nag" := fun e => hy (by rw [e]; decide)
  simp only [upd, n1, n2, if_false]
end
end Mine
set_option maxHeartbeats 2000000
namespace Mine
section
variable {w : World} {A : Around} {E : Value → Shared → Prop} {h h' h1 h₀ H hB hb : Heap} {ex : List Addr} {g : Array GenState} {d : Drawn} {t : Nat} {os : OsState} {env : Env} {m m' : Str → Option Value} {mu mu' mt mt' new : List (Addr × Obj)} {L fa sl p D B wl e : Addr} {cd : Value} {sv dv wv : List Value} {ns ds : List Int} {r : List Int × Nat × Nat × Nat} {wishes : List Nat} {due : Bool} {ord : Nat} {way : Int} {to tw : Tok}
theorem law_turn {Q : Flow → Shared → Prop} (X : LwBase w h₀ wl wv wishes p r due) (hroom : A.depth + 4 < recursionLimit) (hh : A.handled = none) (hu : A.units + 80 < cLine) (hfr : A.frames = some [lwE L fa cd])
    (S : St h₀ H ex L h m (mt ++ mu)) (hT : TabsL mt) (hmu : ∀ q ∈ mu, Flat0 q.2) (hg : AllBare g)
    (mw : m (Str.ofString "wishes") = some (.ref wl)) (mp : m (Str.ofString "page") = some (.ref p)) (md : m (Str.ofString "due") = some (.bool due)) (mo : m (Str.ofString "order") = some (.int (ord : Nat) to)) (my : m (Str.ofString "way") = some (.int way tw)) (hord : ord ≤ 1000) (hway : way = 1 ∨ way = -1)
    (hQ : ∀ h' g' m' t' mt', St h₀ H ex L h' m' (mt' ++ mu) → TabsL mt' → AllBare g' → Same [Str.ofString "books", Str.ofString "fits", Str.ofString "nag"] m m' → Q .next ⟨h', g', d, t', os⟩) :
    wpAny (Md w) A (execs loopB (lwE L fa cd)) Q E ⟨h, g, d, t, os⟩ := by
  have C := X.C
  have fin : ∀ h' g' m' t' mt', St h₀ H ex L h' m' (mt' ++ mu) → TabsL mt' → AllBare g' → Same [Str.ofString "books", Str.ofString "fits", Str.ofString "nag"] m m' → m' (Str.ofString "fits") = some (.bool true) → wpAny (Md w) A (execs (loopB.drop 1) (lwE L fa cd)) Q E ⟨h', g', d, t', os⟩ := by
    intro h' g' m' t' mt' S' hT' hg' sm hf
    refine xIf (wpAny_isTrue_Not (wpAny_isTrue_value (ldL S' hf (wpAny_truthy_bool ?_)) (by rfl)))
    rw [if_neg (by decide)]
    exact xNil (xNil (hQ h' g' m' t' mt' S' hT' hg' sm))
  refine xCons (wpAny_Try_except ?_)
  refine xAssign (callName (ldG C S (by k_is) (cwFn (f := 308) (by k_is) (spliced_more (ldL S mw (spliced_more (ldL S mo (spliced_more (ldL S my (spliced_more (ldL S md (spliced_none ⟨C.keeps S.keep, ?_⟩))))))))))))
  have hT0 := hT
  obtain ⟨mtA, mtB, rfl, hA, hB⟩ := hT0
  have kh : Kp (hid h (mtA ++ mtB)) h := fun b o e => of_hideAll _ e
  have nd0 : ((mtA ++ mtB).map (·.1)).Nodup := by
    have := (List.nodup_cons.mp S.nd).2
    rw [List.map_append] at this
    exact (List.nodup_append.mp this).1
  have ff : (hid h (mtA ++ mtB)).FunFrames {} [lwE L fa cd] := Heap.FunFrames.cons (L := L) (m := m) (fun q => by have q : ScopeKind.function = ScopeKind.module := q; cases q) rfl S.nsHid rfl trivial
  refine lof_spec (hB := hid h (mtA ++ mtB)) (outer := [lwE L fa cd]) (wishes := wishes) (due := due) (vs := wv) (C.keeps S.kpHid) (X.MB.keeps S.kpHid) kh hA hB (fun q hq => S.led q (List.mem_append_left _ hq)) nd0 (fun a ha => hideAll_none _ ha) (by omega) hh (by omega) hfr ff (X.hl.at (S.kpHid _)) X.hi X.h6 X.h5 hway X.hd hord ?_ ?_
  · intro h1 t1 D oD kvs bs lo k1 hO hD0 hoD hdict hBs hInv
    obtain ⟨mt1, hT1, S1⟩ := S.back hT k1 hO
    have hDL : D ≠ L := by
      obtain ⟨o, _, _, x, _⟩ := S.nsHid
      have x : (hid h (mtA ++ mtB)).get? L = some o := x
      intro q
      rw [q, x] at hD0; cases hD0
    refine law_fits X (by omega) hh (by omega) S1 (fun q hq => ?_) mw mp hoD hDL hdict lo hBs hInv fun h2 m2 t2 S2 sm2 hf2 => ?_
    · rcases List.mem_append.mp hq with hq | hq
      · exact hT1.flat q hq
      · exact hmu q hq
    · exact xNil (fin h2 g m2 t2 mt1 S2 hT1 hg sm2 hf2)
  · intro e h1 g1 t1 F hgb
    refine law_caught X (by omega) hfr S hT hmu md F fun h2 m2 t2 mt2 S2 hT2 sm2 hf2 => ?_
    exact fin h2 g1 m2 t2 mt2 S2 hT2 (hgb hg) sm2 hf2
/-- how a turn ends, the generators counted -/
noncomputable def TurnEndG (h₀ : Heap) (env : Env) (I : Addr) (oI : Obj) (d : Drawn) (os : OsState) (F : Heap → List Addr → (Str → Option Value) → List (Addr × Obj) → Prop) (f : Flow) (s : Shared) : Prop :=
  (f = .next) ∧ (X7 fun h g H ex m mu t => A4 (s = ⟨h, g, d, t, os⟩) (AllBare g) (St h₀ H ex env.locals h m ((I, oI) :: mu)) (F H ex m mu))
theorem forItG {target : Expr} {I : Addr} {n : Nat} {It : Nat → Obj → Prop} {Src : Heap → Prop} {P : Nat → Value → Heap → Prop} (W : ItR w A target I n It Src P) {body : List Stmt} {R : Result → Shared → Prop} (F : Nat → Heap → List Addr → (Str → Option Value) → List (Addr × Obj) → Prop) {oI : Obj}
    (hsrc : ∀ i H ex h m mu oI, St h₀ H ex env.locals h m ((I, oI) :: mu) → F i H ex m mu → Src h)
    (S : St h₀ H ex env.locals h m ((I, oI) :: mu)) (hI : It 0 oI) (hF : F 0 H ex m mu) (hg : AllBare g)
    (turn : ∀ i v oI H ex h g m mu t, i < n → P i v h → F i H ex m mu → It (i + 1) oI → AllBare g → St h₀ H ex env.locals h m ((I, oI) :: mu) →
      wpAny (Md w) A (assign target env v) (fun _ s₂ => wpAny (Md w) A (execs body env) (TurnEndG h₀ env I oI d os (F (i + 1))) (fun _ _ => False) s₂) (fun _ _ => False) ⟨h, g, d, t, os⟩)
    (done : ∀ H ex h g m mu t, F n H ex m mu → AllBare g → St h₀ H ex env.locals h m mu → R (.ok .next) ⟨h, g, d, t, os⟩) :
    codeAny (Md w) A (.forLoop target (.ref I) body [] env) R ⟨h, g, d, t, os⟩ := by
  refine codeAny_forLoop_any (fun k s => X9 fun i oI H ex h g m mu t => A7 (s = ⟨h, g, d, t, os⟩) (AllBare g) (St h₀ H ex env.locals h m ((I, oI) :: mu)) (It i oI) (F i H ex m mu) (i ≤ n) (k = n + 1 - i)) ?_ (n + 1) ⟨0, oI, H, ex, h, g, m, mu, t, rfl, hg, S, hI, hF, Nat.zero_le _, rfl⟩
  rintro k s ⟨i, oI, H, ex, h, g, m, mu, t, rfl, hg, S, hI, hF, hi, rfl⟩
  have hsr := hsrc i H ex h m mu oI S hF
  by_cases hlt : i < n
  · refine wpAny_mono (W.item i h g d t os oI (fun v s₁ => wpAny (Md w) A (assign target env v) (fun _ s₂ => wpAny (Md w) A (execs body env) (fun f s₃ => match f with
            | .next | .cont => ∃ k', (k' < n + 1 - i) ∧ (X9 fun i oI H ex h g m mu t => A7 (s₃ = ⟨h, g, d, t, os⟩) (AllBare g) (St h₀ H ex env.locals h m ((I, oI) :: mu)) (It i oI) (F i H ex m mu) (i ≤ n) (k' = n + 1 - i))
            | .brk => R (.ok .next) s₃
            | .ret v => R (.ok (.ret v)) s₃) (notedBy (Md w) A env fun e s' => R (.error e) s') s₂) (notedBy (Md w) A env fun e s' => R (.error e) s') s₁) (fun _ => False) _ hlt (S.at 0 rfl) hI hsr (fun v h' oI' t' hP hI' ho' hk => ?_)) (fun r s₁ h1 => by cases r with | none => exact h1.elim | some v => exact h1) fun _ _ x => x
    have S' := S.put 0 rfl (W.nt _ _ hI) hk ho'
    refine wpAny_mono (turn i v oI' H ex h' g m mu t' hlt hP hF hI' hg S') (fun _ s₂ h2 => wpAny_mono h2 (fun f s₃ h3 => ?_) fun _ _ x => x.elim) fun _ _ x => x.elim
    obtain ⟨rfl, h, g, H, ex, m, mu, t, rfl, hg, S, f⟩ := h3
    exact ⟨n + 1 - (i + 1), by omega, i + 1, oI', H, ex, h, g, m, mu, t, rfl, hg, S, hI', f, hlt, rfl⟩
  · have hin : i = n := by omega
    subst hin
    refine wpAny_mono (W.done h g d t os oI (fun _ _ => False) (fun s₁ => wpAny (Md w) A (execs [] env) (fun f s₃ => R (.ok f) s₃) (notedBy (Md w) A env fun e s' => R (.error e) s') s₁) (fun _ _ => False) (S.at 0 rfl) hI hsr (fun h' t' he => wpAny_execs_nil (done H ex h' g m mu t' hF hg (S.lose (W.nt _ _ hI) he)))) (fun r s₁ h1 => by
      cases r with
      | none => exact h1
      | some v => exact wpAny_mono h1 (fun _ _ x => x.elim) fun _ _ x => x.elim) fun _ _ x => x.elim
end
end Mine
set_option maxHeartbeats 2000000
namespace Mine
section
variable {w : World} {A : Around} {E : Value → Shared → Prop} {h h' h1 h₀ H hB hb b0 : Heap} {ex : List Addr} {g : Array GenState} {d : Drawn} {t : Nat} {os : OsState} {env : Env} {m m' : Str → Option Value} {mu mu' mt mt' new : List (Addr × Obj)} {L fa sl p D B wl e : Addr} {cd : Value} {sv dv wv : List Value} {ns ds : List Int} {r : List Int × Nat × Nat × Nat} {wishes : List Nat} {due : Bool} {told : Nat} {tt : Tok} {oc : Obj}
theorem law_loop {Q : Flow → Shared → Prop} (X : LwBase w h₀ wl wv wishes p r due) (hroom : A.depth + 4 < recursionLimit) (hh : A.handled = none) (hu : A.units + 80 < cLine) (hfr : A.frames = some [lwE L fa cd])
    (S : St h₀ H ex L h m (mt ++ mu)) (hT : TabsL mt) (hmu : ∀ q ∈ mu, Flat0 q.2) (hg : AllBare g)
    (mw : m (Str.ofString "wishes") = some (.ref wl)) (mp : m (Str.ofString "page") = some (.ref p)) (md : m (Str.ofString "due") = some (.bool due)) (mo : m (Str.ofString "told") = some (.int (told : Nat) tt)) (ht : told < 720)
    (hQ : ∀ h' g' t' H' ex' m' mu' mt', St h₀ H' ex' L h' m' (mt' ++ mu') → TabsL mt' → AllBare g' → Q (.ret (.bool true)) ⟨h', g', d, t', os⟩) :
    wpAny (Md w) A (execs (lwB.drop 6) (lwE L fa cd)) Q E ⟨h, g, d, t, os⟩ := by
  refine xFor (wpAny_List (spliced_more (tup2 (ldL S mo (cI ?_)))))
  intro h' g' d' t' os' e
  cases e
  have S1 := S.pushed { cls := .type "tuple", data := .seq ([.int (told : Nat) tt, .int 1 t] : List Value).toArray }
  have hT1 : (h.push { cls := .type "tuple", data := .seq ([.int (told : Nat) tt, .int 1 t] : List Value).toArray }).IsTuple h.objs.size #[.int (told : Nat) tt, .int 1 t] := ⟨_, Heap.get?_push_size _ rfl, rfl, _, rfl⟩
  generalize h.objs.size = T1 at hT1
  generalize (h.push { cls := .type "tuple", data := .seq ([.int (told : Nat) tt, .int 1 t] : List Value).toArray }) = h1 at hT1 S1
  refine spliced_more (tup2 (wpAny_BinOp (cI (ldL S1 mo (subI (wpAny_UnaryOp (cI (negI ?_))))))))
  intro h' g' d' t' os' e
  cases e
  have e719 : (719 : Int) - ((told : Nat) : Int) = ((719 - told : Nat) : Int) := by omega
  rw [e719]
  generalize ht2 : t + 1 + 1 + 1 = t2
  generalize ht3 : t + 1 + 1 = t3
  have S2 := S1.pushed { cls := .type "tuple", data := .seq ([.int ((719 - told : Nat) : Int) t3, .int (-1) (t2 + 1)] : List Value).toArray }
  have k2 : Kp h1 (h1.push { cls := .type "tuple", data := .seq ([.int ((719 - told : Nat) : Int) t3, .int (-1) (t2 + 1)] : List Value).toArray }) := fun _ _ e => Heap.get?_push_of_some _ e
  have hT2 : (h1.push { cls := .type "tuple", data := .seq ([.int ((719 - told : Nat) : Int) t3, .int (-1) (t2 + 1)] : List Value).toArray }).IsTuple h1.objs.size #[.int ((719 - told : Nat) : Int) t3, .int (-1) (t2 + 1)] := ⟨_, Heap.get?_push_size _ rfl, rfl, _, rfl⟩
  generalize h1.objs.size = T2 at hT2
  generalize (h1.push { cls := .type "tuple", data := .seq ([.int ((719 - told : Nat) : Int) t3, .int (-1) (t2 + 1)] : List Value).toArray }) = h2 at hT2 S2 k2
  refine spliced_none ⟨by simp [sizeLine], ?_⟩
  have hT1b := tup_keeps hT1 (k2 _)
  have S3 := S2.alloc (LstP [.ref T1, .ref T2] 0) rfl
  have k3 : Kp h2 (h2.push (LstP [.ref T1, .ref T2] 0)) := fun _ _ e => Heap.get?_push_of_some _ e
  refine wpAny_pyIter_list (lstAt (S3.at 0 rfl)) ?_
  generalize h2.objs.size = LL at S3
  generalize h2.push (LstP [.ref T1, .ref T2] 0) = h3 at S3 k3
  have S4 := S3.alloc { cls := .type "list_iterator", data := .fields #[.ref LL, .int 0 0] } rfl
  have k4 : Kp h3 (h3.push { cls := .type "list_iterator", data := .fields #[.ref LL, .int 0 0] }) := fun _ _ e => Heap.get?_push_of_some _ e
  dsimp only
  generalize h3.objs.size = I at S4
  generalize h3.push { cls := .type "list_iterator", data := .fields #[.ref LL, .int 0 0] } = h4 at S4 k4
  have hA1 := tup_keeps (tup_keeps hT1b (k3 _)) (k4 _)
  have hA2 := tup_keeps (tup_keeps hT2 (k3 _)) (k4 _)
  have S5 := (S4.perm (mu' := (I, { cls := .type "list_iterator", data := .fields #[.ref LL, .int 0 0] }) :: (mt ++ ((LL, LstP [.ref T1, .ref T2] 0) :: mu))) (permC fun gg cn c0 cc ca => by
    simp only [cc, ca, c0]; omega)).re
  generalize (L :: List.map (·.1) ((I, _) :: (mt ++ ((LL, LstP [.ref T1, .ref T2] 0) :: mu)))) = ex5 at S5
  refine forItG (itSeq (A := A) hh (.inr ⟨_, _, _, rfl⟩) I LL [.ref T1, .ref T2])
    (fun i H1 ex1 m1 mu1 => H1 = h4 ∧ Same [Str.ofString "order", Str.ofString "way", Str.ofString "books", Str.ofString "fits", Str.ofString "nag"] m m1 ∧ ∃ mt1, mu1 = mt1 ++ ((LL, LstP [.ref T1, .ref T2] 0) :: mu) ∧ TabsL mt1)
    (fun i H1 ex1 h m1 mu1 oI S f => ?_) S5 ⟨rfl, rfl⟩ ⟨rfl, Same.refl, mt, rfl, hT⟩ hg ?_ ?_
  · obtain ⟨_, _, mt1, rfl, _⟩ := f
    exact SeqAt.list (lstAt (S.led (LL, LstP [.ref T1, .ref T2] 0) (.tail _ (List.mem_append_right _ (.head _)))))
  · intro i v oI' H1 ex1 h6 g6 m6 mu6 t6 hlt hv hf hI6 hg6 S6
    obtain ⟨hH1, sm, mt1, rfl, hT6⟩ := hf
    subst hH1
    have S6' := S6.perm (mu' := mt1 ++ ((I, oI') :: (LL, LstP [.ref T1, .ref T2] 0) :: mu)) (permC fun gg cn c0 cc ca => by
      simp only [cc, ca, c0]; omega)
    have hmu6 : ∀ q ∈ (I, oI') :: (LL, LstP [.ref T1, .ref T2] 0) :: mu, Flat0 q.2 := fun q hq => by
      rcases List.mem_cons.mp hq with rfl | hq
      · exact ⟨by rw [hI6.2]; simp, by rw [hI6.2]; simp⟩
      · rcases List.mem_cons.mp hq with rfl | hq
        · exact ⟨by simp, by simp⟩
        · exact hmu q hq
    have go : ∀ (T : Addr) (ord : Nat) (way : Int) (ta tb : Tok), H1.IsTuple T #[.int (ord : Nat) ta, .int way tb] → ord ≤ 1000 → (way = 1 ∨ way = -1) →
        wpAny (Md w) A (assign (.Tuple [.Name (Str.ofString "order") ⟨242, 8, 242, 13⟩, .Name (Str.ofString "way") ⟨242, 15, 242, 18⟩] 0 ⟨242, 8, 242, 18⟩) (lwE L fa cd) (.ref T)) (fun _ s₂ => wpAny (Md w) A (execs loopB (lwE L fa cd)) (TurnEndG h₀ (lwE L fa cd) I oI' d os (fun H1' ex1' m1 mu1 => H1' = H1 ∧ Same [Str.ofString "order", Str.ofString "way", Str.ofString "books", Str.ofString "fits", Str.ofString "nag"] m m1 ∧ ∃ mt1, mu1 = mt1 ++ ((LL, LstP [.ref T1, .ref T2] 0) :: mu) ∧ TabsL mt1)) (fun _ _ => False) s₂) (fun _ _ => False) ⟨h6, g6, d, t6, os⟩ := by
      intro T ord way ta tb hTT hord hway
      refine asgPair S6' hh (S6'.tup _ _ hTT) fun h7 t7 S7 => ?_
      refine law_turn X hroom hh hu hfr S7 hT6 hmu6 hg6 (sm.get mw) (sm.get mp) (sm.get md) rfl rfl hord hway fun h8 g8 m8 t8 mt8 S8 hT8 hg8 sm8 => ?_
      refine ⟨rfl, h8, g8, H1, ex1, m8, mt8 ++ ((LL, LstP [.ref T1, .ref T2] 0) :: mu), t8, rfl, hg8, S8.perm (permC fun gg cn c0 cc ca => by
        simp only [cc, ca, c0]; omega), rfl, fun y hy => ?_, mt8, rfl, hT8⟩
      simp only [List.mem_cons, List.not_mem_nil, or_false, not_or] at hy
      obtain ⟨n1, n2, n3, n4, n5⟩ := hy
      rw [sm8 y (by simp [n3, n4, n5])]
      simp only [upd, n1, n2, if_false]
      exact sm y (by simp [n1, n2, n3, n4, n5])
    rcases i with _ | _ | i
    · have : v = .ref T1 := by simpa using hv.symm
      subst this
      exact go T1 told 1 _ _ hA1 (by omega) (.inl rfl)
    · have : v = .ref T2 := by simpa using hv.symm
      subst this
      exact go T2 (719 - told) (-1) _ _ hA2 (by omega) (.inr rfl)
    · have h2 : i + 1 + 1 < 2 := hlt
      omega
  · intro H1 ex1 h6 g6 m6 mu6 t6 hf hg6 S6
    obtain ⟨hH1, sm, mt1, rfl, hT6⟩ := hf
    exact xRet (wpAny_Constant_bool (hQ h6 g6 t6 H1 ex1 m6 _ mt1 S6 hT6 hg6))
end
end Mine
set_option maxHeartbeats 2000000
namespace Mine
section
variable {w : World} {A : Around} {E : Value → Shared → Prop} {h h' h1 h₀ H hB hb b0 : Heap} {ex : List Addr} {g : Array GenState} {d : Drawn} {t : Nat} {os : OsState} {env : Env} {m m' : Str → Option Value} {mu mu' mt mt' new : List (Addr × Obj)} {L fa sl p D B wl e : Addr} {cd : Value} {sv dv wv : List Value} {ns ds : List Int} {r : List Int × Nat × Nat × Nat} {wishes : List Nat} {due : Bool} {told : Nat} {tt : Tok} {oc : Obj}
/-- what the frame and the ledger leave out is a base -/
theorem St.newBase (S : St h₀ H ex L h m mu) : St (hideAll h (L :: mu.map (·.1))) h (L :: mu.map (·.1)) L h m mu :=
  ⟨S.ns, S.led, S.nd, fun a ha => .inl ha, fun _ _ _ e => e, fun _ _ T => T, fun b o e => ⟨of_hideAll _ e, fun hm => by rw [hideAll_none _ hm] at e; cases e⟩⟩
theorem St.kpNew (S : St h₀ H ex L h m mu) : Kp h₀ (hideAll h (L :: mu.map (·.1))) := fun b o e => hideAll_get _ (S.keep b o e) fun hm => by rw [S.new hm] at e; cases e
theorem law_walk {Q : Flow → Shared → Prop} (C : Cx w b0) (MB : BmAt b0) (hroom : A.depth + 4 < recursionLimit) (hh : A.handled = none) (hu : A.units + 80 < cLine) (hfr : A.frames = some [lwE L fa cd])
    (S : St b0 H ex L h m ((L + 1, oc) :: mt)) (hT : TabsL mt) (hoc : oc.data = .cell none) (hl : b0.IsList sl sv.toArray) (hi : IntsAre sv ns) (h63 : ns.length ≤ 63) (ms : m "script" = some (.ref sl)) (mn : m (Str.ofString "norm") = none) (hg : AllBare g)
    (hQ : ∀ h' g' t' mt', Kp b0 h' → TabsL mt' → (∀ q ∈ mt', h'.get? q.1 = some q.2) → AllBare g' → Q (.ret (.bool true)) ⟨h', g', d, t', os⟩) :
    wpAny (Md w) A (execs lwB (lwE L fa cd)) Q E ⟨h, g, d, t, os⟩ := by
  refine law_dealt C hh S hoc hl hi h63 ms fun h1 t1 D dv dk oc1 ds S1 hoc1 hds hdl hdx => ?_
  refine law_wishes C hh S1 hoc1 hds hdl fun h2 t2 wl wv wk wishes S2 hwi hw6 hw5 => ?_
  refine law_told C hh S2 hoc1 hds hdl hdx fun h3 t3 tt told ht S3 => ?_
  have hcell : Flat0 oc1 := ⟨by rw [hoc1]; simp, by rw [hoc1]; simp⟩
  have hmu : ∀ q ∈ (L + 1, oc1) :: mt, Flat0 q.2 := fun q hq => by
    rcases List.mem_cons.mp hq with rfl | hq
    · exact hcell
    · exact hT.flat q hq
  refine law_page (due := true) (tt := tt) (oc := oc1) (told := told) C (by omega) hh S3 hmu hwi hw6 hw5 rfl mn fun h4 H4 ex4 t4 p r S4 W4 r1 r2 => ?_
  have S5 := S4.tail.perm (mu' := mt ++ [(L + 1, oc1)]) (permC fun gg cn c0 cc ca => by
    simp only [cc, ca, c0]; omega)
  have hmu5 : ∀ q ∈ mt ++ [(L + 1, oc1)], Flat0 q.2 := fun q hq => hmu q (by
    rcases List.mem_append.mp hq with hq | hq
    · exact .tail _ hq
    · exact (List.mem_singleton.mp hq) ▸ .head _)
  have hnt5 : ∀ q ∈ mt ++ [(L + 1, oc1)], NotTup q.2 := fun q hq => by
    rcases List.mem_append.mp hq with hq | hq
    · exact hT.nt q hq
    · have : q = (L + 1, oc1) := List.mem_singleton.mp hq
      subst this
      intro xs n z
      rw [hoc1] at z; cases z.2
  have tupOff : ∀ b its, h4.IsTuple b its → b ∉ L :: (mt ++ [(L + 1, oc1)]).map (·.1) := fun b its T hm => by
    obtain ⟨ob, ho, hc, n, hd⟩ := T
    rcases List.mem_cons.mp hm with q | hm
    · obtain ⟨oL, es, ep, x, xd, _⟩ := S5.ns
      rw [q, x] at ho; cases ho
      rw [xd] at hd; cases hd
    · obtain ⟨q, hq, z⟩ := List.mem_map.mp hm
      have := S5.led q hq
      rw [z, ho] at this
      exact hnt5 q hq _ _ (by rw [← Option.some.inj this]; exact ⟨hc, hd⟩)
  have wlOff : wl ∉ L :: (mt ++ [(L + 1, oc1)]).map (·.1) := fun hm => by
    have h1 := S4.headOut
    apply h1
    rcases List.mem_cons.mp hm with q | hm
    · rw [q]; exact .head _
    · refine .tail _ ?_
      rw [List.map_append] at hm
      rcases List.mem_append.mp hm with hm | hm
      · exact .tail _ hm
      · have : wl = L + 1 := by simpa using hm
        rw [this]; exact .head _
  have S6 := S5.newBase
  have k6 := S5.kpNew
  have W6 := W4.off S5 mn hmu5 (hideAll h4 (L :: (mt ++ [(L + 1, oc1)]).map (·.1))) (fun b o n e => hideAll_get _ e n) (fun b its T => tup_keeps T fun o e => hideAll_get _ e (tupOff b its T))
  have hwlS : h4.get? wl = some (LstP wv wk) := S4.at 0 rfl
  have hwl6 : (hideAll h4 (L :: (mt ++ [(L + 1, oc1)]).map (·.1))).get? wl = some (LstP wv wk) := hideAll_get _ hwlS wlOff
  refine law_loop (wishes := wishes) (wl := wl) (wv := wv) (p := p) (r := r) (due := canBe (wishes.map Int.ofNat)) ⟨C.keeps k6, MB.keeps k6, lstAt hwl6, hwi, hw6, hw5, W6, r1, r2, rfl⟩ hroom hh hu hfr S6 hT (fun q hq => ?_) hg rfl rfl rfl rfl ht fun h7 g7 t7 H7 ex7 m7 mu7 mt7 S7 hT7 hg7 => ?_
  · have : q = (L + 1, oc1) := List.mem_singleton.mp hq
    subst this
    exact hcell
  · exact hQ h7 g7 t7 mt7 (fun b o e => S7.keep b o (k6 b o e)) hT7 (fun q hq => S7.led q (List.mem_append_left _ hq)) hg7
end
end Mine
set_option maxHeartbeats 2000000
namespace Mine
theorem law_final {w : World} {E : Value → Shared → Prop} {Q : Flow → Shared → Prop} {s₁ : Shared} {h₁ : Heap} {tk : Nat} {oc : Obj} {fa sl : Addr} {cd : Value} {sv : List Value} {ns : List Int} {m mg mb : Str → Option Value} {mean : ExcName → Option Value} {loose : List Str} {pr : Program}
    (KX : (hd0.heap_1 w.params).In s₁.heap) (hT8 : ∀ P : Addr, P ∈ [305, 107] → s₁.heap.get? P = some (tabObj #[])) (T : Top pr loose mean mg mb s₁.heap) (hg : s₁.gens = #[]) (hL : s₁.heap.IsList sl sv.toArray) (hI : IntsAre sv ns) (hlen : ns.length ≤ 63)
    (F : Fr s₁.heap s₁.heap.objs.size h₁ m) (N0 : News s₁.heap s₁.heap.objs.size h₁ [(s₁.heap.objs.size + 1, oc)]) (hoc : oc.data = .cell none) (ms : m "script" = some (.ref sl)) (mn : m (Str.ofString "norm") = none)
    (hQ : ∀ h' g' t', OldK s₁.heap h' → AllBare g' → Q (.ret (.bool true)) ⟨h', g', s₁.drawn, t', s₁.os⟩) :
    wpAny (Md w) (callerA.deeper (lwE s₁.heap.objs.size fa cd)) (execs lwB (lwE s₁.heap.objs.size fa cd)) Q E ⟨h₁, s₁.gens, s₁.drawn, tk, s₁.os⟩ := by
  have hc1 : CodeHd s₁.heap 307 305 := codeHd_of_K KX (by kernel_rfl)
  have hc2 : CodeHd s₁.heap 111 107 := codeHd_of_K KX (by kernel_rfl)
  have t1 := hT8 305 (by simp)
  have t2 := hT8 107 (by simp)
  have hTabs : TabsAt [(307, 305), (111, 107)] s₁.heap := fun q hq => by
    rcases List.mem_cons.mp hq with rfl | hq
    · exact ⟨hc1, t1⟩
    · have : q = (111, 107) := by simpa using hq
      subst this
      exact ⟨hc2, t2⟩
  have X' := ghost_K hTabs KX (by kernel_rfl)
  have T' := ghost_top hTabs T
  have C : Cx w (ghostOf s₁.heap [(307, 305), (111, 107)]) := ⟨X', _, _, _, _, topRead_of T'⟩
  have MB : BmAt (ghostOf s₁.heap [(307, 305), (111, 107)]) := by
    obtain ⟨bm, ob, a1, a2, a3, a4, r1, r2⟩ := T'.bmain
    exact ⟨_, bm, ob, T'.g, a1, a2, a3, a4, r1, r2⟩
  have hL' := ghost_list hTabs hL
  have lt1 := Heap.lt_size t1
  have lt2 := Heap.lt_size t2
  have n0 := N0 _ (List.mem_singleton.mpr rfl)
  have old : ∀ b o, (ghostOf s₁.heap [(307, 305), (111, 107)]).get? b = some o → s₁.heap.get? b = some o := fun b o e => of_hideAll _ e
  have S : St (ghostOf s₁.heap [(307, 305), (111, 107)]) (ghostOf s₁.heap [(307, 305), (111, 107)]) [] s₁.heap.objs.size h₁ m ((s₁.heap.objs.size + 1, oc) :: ([(305, tabObj #[])] ++ [(107, tabObj #[])])) := by
    refine ⟨F.ns, fun q hq => ?_, ?_, fun a ha => .inr ?_, fun b o _ e => F.keep b o (old b o e), fun b its T => tup_keeps T fun o e => F.keep b o (old b o e), fun b o e => ⟨e, by simp⟩⟩
    · simp only [List.cons_append, List.nil_append, List.mem_cons, List.not_mem_nil, or_false] at hq
      rcases hq with rfl | rfl | rfl
      · exact n0.1
      · exact F.keep _ _ t1
      · exact F.keep _ _ t2
    · simp only [List.cons_append, List.nil_append, List.map_cons, List.map_nil, List.nodup_cons, List.mem_cons, List.not_mem_nil, or_false, not_or]
      refine ⟨⟨?_, ?_, ?_⟩, ⟨?_, ?_⟩, by decide, by simp⟩
      all_goals first | exact Nat.ne_of_lt (Nat.lt_succ_self _) | exact Nat.ne_of_gt (by assumption) | exact Nat.ne_of_gt (Nat.lt_succ_of_lt (by assumption))
    · simp only [List.cons_append, List.nil_append, List.map_cons, List.map_nil, List.mem_cons, List.not_mem_nil, or_false] at ha
      rcases ha with rfl | rfl | rfl | rfl
      · exact ghost_fresh (fresh_none _)
      · exact ghost_fresh n0.2.2
      · exact hideAll_none _ (by simp)
      · exact hideAll_none _ (by simp)
  refine law_walk (A := callerA.deeper (lwE s₁.heap.objs.size fa cd)) C MB (show callerA.depth + 1 + 4 < recursionLimit by decide +kernel) rfl (show callerA.units + 3 + 80 < cLine by decide +kernel) rfl S ⟨_, _, rfl, .inl rfl, .inl rfl⟩ hoc hL' hI hlen ms mn (.of_eq hg) fun h' g' t' mt' k hT' hm hg' => ?_
  refine hQ h' g' t' ?_ hg'
  obtain ⟨mtA, mtB, rfl, hA, hB⟩ := hT'
  have tabEnd : ∀ (c P : Addr) (q : Str) (ln cl : Int) (mt : List (Addr × Obj)), CodeHd s₁.heap c P → s₁.heap.get? P = some (tabObj #[]) → TabL P q ln cl mt → (∀ x ∈ mt, h'.get? x.1 = some x.2) → asItWas s₁.heap h' P (tabObj #[]) ∧ ∃ o', h'.get? P = some o' := by
    intro c P q ln cl mt hc hP hT hm
    rcases hT with rfl | ⟨c', oc', vs, tt, rfl, _, _⟩
    · have := hm _ (.head _)
      exact ⟨.inl this, _, this⟩
    · have := hm _ (.head _)
      exact ⟨.inr (.inl ⟨(hc.tab hP).isCodeTable, rfl, #[], #[rawInt ln, rawInt cl, .ref c'], rfl, by simpa using this⟩), _, this⟩
  have e1 := tabEnd 307 305 _ _ _ mtA hc1 t1 hA fun x hx => hm x (List.mem_append_left _ hx)
  have e2 := tabEnd 111 107 _ _ _ mtB hc2 t2 hB fun x hx => hm x (List.mem_append_right _ hx)
  have both : ∀ b o, s₁.heap.get? b = some o → asItWas s₁.heap h' b o ∧ ∃ o', h'.get? b = some o' := by
    intro b o e
    by_cases h1 : b = 305
    · subst h1
      rw [t1] at e; cases e
      exact e1
    · by_cases h2 : b = 107
      · subst h2
        rw [t2] at e; cases e
        exact e2
      · have := k b o (ghost_ne e (by simp [h1, h2]))
        exact ⟨.inl this, _, this⟩
  exact ⟨fun b o e => (both b o e).1, fun b o e => (both b o e).2⟩
end Mine
set_option maxHeartbeats 8000000
namespace Mine
theorem law_holds : PySem.Challenge.rw_xg0077_01.Holds := by
  refine hd ?_
  k_fill
  intro w s₀ s₁ mg mb G Y fa o pm cd doc dV kV ho hd hcd hD hmg hg args vals as hpre hlay hrd hwl hlo
  have KX := km_in_of Y
  km_tabs Y
  have X := (Ground.X G).1
  have V := (Ground.X G).2
  refine Ground.open G ?_
  intro T B D TE TW
  try (refine guard_noD D (by decide +kernel) ?_; clear D)
  clear hmg
  wrow_args hpre hlay hrd hwl hlo
  all_goals (
    first | refine callC_kw (enter_call ?_) | refine enter_call ?_
    w_top on
    w_call any ho hd hcd hD T F
    clear hd)
  refine law_final (by assumption) (by assumption) (by assumption) (by assumption) (by assumption) (by assumption) (by omega) (by assumption) (by assumption) (by assumption) rfl rfl fun h' g' t' hK hG => ?_
  refine ⟨.inl ⟨.bool true, .bool true, [], rfl, fun cls => rfl, .bool true, ?_, fun _ => ⟨List.nodup_nil, by simp⟩⟩, hK, rfl, hG⟩
  first | kernel_rfl | (unfold ClaimW.post; rfl) | (simp [PySem.W.RowW.claim]; done) | trace_state
end Mine
theorem PySem.Challenge.cw_xg0077_01_holds : PySem.Challenge.rw_xg0077_01.Holds :=
  Mine.law_holds
