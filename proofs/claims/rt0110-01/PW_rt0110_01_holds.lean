import PyProof.Rows.All
import Wide.All
import OpenK.AllK
import Wide.FinOn
import PyProof.StrWalks
import PyProof.SetRoads
import PyProof.GenQ
import KE.KStopIter
import KE.KSortTup
import KE.KSortKey
import KE.KSortAsk
import KE.KNestM
import KE.KLam
import Lean
import PySem.Challenge.RW_rt0110_01
set_option Elab.async false
set_option linter.unusedVariables false
set_option maxRecDepth 100000
set_option maxHeartbeats 8000000
set_option tactic.hygienic false
set_option compiler.extract_closed false
set_option genSizeOfSpec false
set_option bootstrap.genMatcherCode false
namespace Mine
open PySem PySem.Spec PySem.Calls PyProof.Rows
def sK : Lean.Syntax := Lean.Unhygienic.run `(tacticSeq| intros; kernel_rfl!)
def sR : Lean.Syntax := Lean.Unhygienic.run `(tacticSeq| intros; rfl)
def sD : Lean.Syntax := Lean.Unhygienic.run `(tacticSeq| exact of_decide_eq_true (by kernel_rfl!))
def sO : Lean.Syntax := Lean.Unhygienic.run `(tacticSeq| intros; first | exact .inl (by kernel_rfl!) | exact .inr (by first | kernel_rfl! | (constructor <;> kernel_rfl!)))
theorem eA {p:Prop}{q:Prop}{C:Prop}(h:p ∧ q)(k:p → q → C) : C := k h.1 h.2
theorem eE {α:Type}{p:α → Prop}{C:Prop}(h:∃ a, p a)(k:∀ a, p a → C) : C := h.elim fun a h1 => k a h1
theorem eAA {p:Prop}{q:Prop}{r:Prop}{C:Prop}(h:p ∧ q ∧ r)(k:p → q → r → C) : C := k h.1 h.2.1 h.2.2
theorem eEA {α:Type}{p:α → Prop}{q:α → Prop}{C:Prop}(h:∃ a, p a ∧ q a)(k:∀ a, p a → q a → C) : C := h.elim fun a h1 => k a h1.1 h1.2
theorem eEE {α β:Type}{p:α → β → Prop}{C:Prop}(h:∃ a, ∃ b, p a b)(k:∀ a, ∀ b, p a b → C) : C := h.elim fun a h1 => h1.elim fun b h2 => k a b h2
theorem Qwb {p:Prop}{q:Prop}{r:Prop}{s:Prop}{C:Prop}(h:p ∧ q ∧ r ∧ s)(k:p → q → r → s → C) : C := k h.1 h.2.1 h.2.2.1 h.2.2.2
theorem Qpj {α:Type}{p:α → Prop}{q:α → Prop}{r:α → Prop}{C:Prop}(h:∃ a, p a ∧ q a ∧ r a)(k:∀ a, p a → q a → r a → C) : C := h.elim fun a h1 => k a h1.1 h1.2.1 h1.2.2
theorem Qfw {α β:Type}{p:α → β → Prop}{q:α → β → Prop}{C:Prop}(h:∃ a, ∃ b, p a b ∧ q a b)(k:∀ a, ∀ b, p a b → q a b → C) : C := h.elim fun a h1 => h1.elim fun b h2 => k a b h2.1 h2.2
theorem eAAAA {p:Prop}{q:Prop}{r:Prop}{s:Prop}{t:Prop}{C:Prop}(h:p ∧ q ∧ r ∧ s ∧ t)(k:p → q → r → s → t → C) : C := k h.1 h.2.1 h.2.2.1 h.2.2.2.1 h.2.2.2.2
theorem QDx {α:Type}{p:Prop}{q:Prop}{r:α → Prop}{s:α → Prop}{C:Prop}(h:p ∧ q ∧ ∃ a, r a ∧ s a)(k:p → q → ∀ a, r a → s a → C) : C := h.2.2.elim fun a h1 => k h.1 h.2.1 a h1.1 h1.2
theorem Qac {α β:Type}{p:α → β → Prop}{q:α → β → Prop}{r:α → β → Prop}{C:Prop}(h:∃ a, ∃ b, p a b ∧ q a b ∧ r a b)(k:∀ a, ∀ b, p a b → q a b → r a b → C) : C := h.elim fun a h1 => h1.elim fun b h2 => k a b h2.1 h2.2.1 h2.2.2
theorem Qxw {α β γ:Type}{p:α → β → γ → Prop}{q:α → β → γ → Prop}{C:Prop}(h:∃ a, ∃ b, ∃ c, p a b c ∧ q a b c)(k:∀ a, ∀ b, ∀ c, p a b c → q a b c → C) : C := h.elim fun a h1 => h1.elim fun b h2 => h2.elim fun c h3 => k a b c h3.1 h3.2
theorem Qlq {α β:Type}{p:Prop}{q:α → β → Prop}{r:α → β → Prop}{s:α → β → Prop}{C:Prop}(h:p ∧ ∃ a, ∃ b, q a b ∧ r a b ∧ s a b)(k:p → ∀ a, ∀ b, q a b → r a b → s a b → C) : C := h.2.elim fun a h1 => h1.elim fun b h2 => k h.1 a b h2.1 h2.2.1 h2.2.2
theorem Qck {α β:Type}{p:α → β → Prop}{q:α → β → Prop}{r:α → β → Prop}{s:α → β → Prop}{C:Prop}(h:∃ a, ∃ b, p a b ∧ q a b ∧ r a b ∧ s a b)(k:∀ a, ∀ b, p a b → q a b → r a b → s a b → C) : C := h.elim fun a h1 => h1.elim fun b h2 => k a b h2.1 h2.2.1 h2.2.2.1 h2.2.2.2
theorem Qgz {α β γ:Type}{p:α → β → γ → Prop}{q:α → β → γ → Prop}{r:α → β → γ → Prop}{C:Prop}(h:∃ a, ∃ b, ∃ c, p a b c ∧ q a b c ∧ r a b c)(k:∀ a, ∀ b, ∀ c, p a b c → q a b c → r a b c → C) : C := h.elim fun a h1 => h1.elim fun b h2 => h2.elim fun c h3 => k a b c h3.1 h3.2.1 h3.2.2
theorem eEAEAAA {α β:Type}{p:α → Prop}{q:α → β → Prop}{r:α → β → Prop}{s:α → β → Prop}{t:α → β → Prop}{C:Prop}(h:∃ a, p a ∧ ∃ b, q a b ∧ r a b ∧ s a b ∧ t a b)(k:∀ a, p a → ∀ b, q a b → r a b → s a b → t a b → C) : C := h.elim fun a h1 => h1.2.elim fun b h2 => k a h1.1 b h2.1 h2.2.1 h2.2.2.1 h2.2.2.2
theorem Qnb {α β γ:Type}{p:α → β → γ → Prop}{q:α → β → γ → Prop}{r:α → β → γ → Prop}{s:α → β → γ → Prop}{C:Prop}(h:∃ a, ∃ b, ∃ c, p a b c ∧ q a b c ∧ r a b c ∧ s a b c)(k:∀ a, ∀ b, ∀ c, p a b c → q a b c → r a b c → s a b c → C) : C := h.elim fun a h1 => h1.elim fun b h2 => h2.elim fun c h3 => k a b c h3.1 h3.2.1 h3.2.2.1 h3.2.2.2
theorem Qpy {α β γ δ ε ζ:Type}{p:Prop}{q:α → β → γ → δ → ε → ζ → Prop}{C:Prop}(h:p ∧ ∃ a, ∃ b, ∃ c, ∃ d, ∃ f, ∃ g, q a b c d f g)(k:p → ∀ a, ∀ b, ∀ c, ∀ d, ∀ f, ∀ g, q a b c d f g → C) : C := h.2.elim fun a h1 => h1.elim fun b h2 => h2.elim fun c h3 => h3.elim fun d h4 => h4.elim fun f h5 => h5.elim fun g h6 => k h.1 a b c d f g h6
theorem Qhb {α β γ δ:Type}{p:α → β → Prop}{q:α → β → Prop}{r:α → β → γ → δ → Prop}{s:α → β → γ → δ → Prop}{t:α → β → γ → δ → Prop}{C:Prop}(h:∃ a, ∃ b, p a b ∧ q a b ∧ ∃ c, ∃ d, r a b c d ∧ s a b c d ∧ t a b c d)(k:∀ a, ∀ b, p a b → q a b → ∀ c, ∀ d, r a b c d → s a b c d → t a b c d → C) : C := h.elim fun a h1 => h1.elim fun b h2 => h2.2.2.elim fun c h3 => h3.elim fun d h4 => k a b h2.1 h2.2.1 c d h4.1 h4.2.1 h4.2.2
theorem Qmc {α β γ δ ε:Type}{p:α → β → γ → δ → ε → Prop}{q:α → β → γ → δ → ε → Prop}{r:α → β → γ → δ → ε → Prop}{s:α → β → γ → δ → ε → Prop}{t:α → β → γ → δ → ε → Prop}{u:α → β → γ → δ → ε → Prop}{w:α → β → γ → δ → ε → Prop}{x:α → β → γ → δ → ε → Prop}{y:α → β → γ → δ → ε → Prop}{C:Prop}(h:∃ a, ∃ b, ∃ c, ∃ d, ∃ f, p a b c d f ∧ q a b c d f ∧ r a b c d f ∧ s a b c d f ∧ t a b c d f ∧ u a b c d f ∧ w a b c d f ∧ x a b c d f ∧ y a b c d f)(k:∀ a, ∀ b, ∀ c, ∀ d, ∀ f, p a b c d f → q a b c d f → r a b c d f → s a b c d f → t a b c d f → u a b c d f → w a b c d f → x a b c d f → y a b c d f → C) : C := h.elim fun a h1 => h1.elim fun b h2 => h2.elim fun c h3 => h3.elim fun d h4 => h4.elim fun f h5 => k a b c d f h5.1 h5.2.1 h5.2.2.1 h5.2.2.2.1 h5.2.2.2.2.1 h5.2.2.2.2.2.1 h5.2.2.2.2.2.2.1 h5.2.2.2.2.2.2.2.1 h5.2.2.2.2.2.2.2.2
theorem QHb {α β γ δ:Type}{p:α → β → γ → δ → Prop}{q:α → β → γ → δ → Prop}{r:α → β → γ → δ → Prop}{s:α → β → γ → δ → Prop}{t:α → β → γ → δ → Prop}{u:α → β → γ → δ → Prop}{w:α → β → γ → δ → Prop}{x:α → β → γ → δ → Prop}{C:Prop}(h:∃ a, ∃ b, ∃ c, ∃ d, p a b c d ∧ q a b c d ∧ r a b c d ∧ s a b c d ∧ t a b c d ∧ u a b c d ∧ w a b c d ∧ x a b c d)(k:∀ a, ∀ b, ∀ c, ∀ d, p a b c d → q a b c d → r a b c d → s a b c d → t a b c d → u a b c d → w a b c d → x a b c d → C) : C := h.elim fun a h1 => h1.elim fun b h2 => h2.elim fun c h3 => h3.elim fun d h4 => k a b c d h4.1 h4.2.1 h4.2.2.1 h4.2.2.2.1 h4.2.2.2.2.1 h4.2.2.2.2.2.1 h4.2.2.2.2.2.2.1 h4.2.2.2.2.2.2.2
theorem Qwq {α β γ:Type}{p:α → β → γ → Prop}{q:α → β → γ → Prop}{r:α → β → γ → Prop}{s:α → β → γ → Prop}{t:α → β → γ → Prop}{u:α → β → γ → Prop}{C:Prop}(h:∃ a, ∃ b, ∃ c, p a b c ∧ q a b c ∧ r a b c ∧ s a b c ∧ t a b c ∧ u a b c)(k:∀ a, ∀ b, ∀ c, p a b c → q a b c → r a b c → s a b c → t a b c → u a b c → C) : C := h.elim fun a h1 => h1.elim fun b h2 => h2.elim fun c h3 => k a b c h3.1 h3.2.1 h3.2.2.1 h3.2.2.2.1 h3.2.2.2.2.1 h3.2.2.2.2.2
theorem eEEEEAAAAAA {α β γ δ:Type}{p:α → β → γ → δ → Prop}{q:α → β → γ → δ → Prop}{r:α → β → γ → δ → Prop}{s:α → β → γ → δ → Prop}{t:α → β → γ → δ → Prop}{u:α → β → γ → δ → Prop}{w:α → β → γ → δ → Prop}{C:Prop}(h:∃ a, ∃ b, ∃ c, ∃ d, p a b c d ∧ q a b c d ∧ r a b c d ∧ s a b c d ∧ t a b c d ∧ u a b c d ∧ w a b c d)(k:∀ a, ∀ b, ∀ c, ∀ d, p a b c d → q a b c d → r a b c d → s a b c d → t a b c d → u a b c d → w a b c d → C) : C := h.elim fun a h1 => h1.elim fun b h2 => h2.elim fun c h3 => h3.elim fun d h4 => k a b c d h4.1 h4.2.1 h4.2.2.1 h4.2.2.2.1 h4.2.2.2.2.1 h4.2.2.2.2.2.1 h4.2.2.2.2.2.2
theorem QDz {α β γ δ ε:Type}{p:α → β → γ → δ → ε → Prop}{q:α → β → γ → δ → ε → Prop}{r:α → β → γ → δ → ε → Prop}{s:α → β → γ → δ → ε → Prop}{t:α → β → γ → δ → ε → Prop}{u:α → β → γ → δ → ε → Prop}{w:α → β → γ → δ → ε → Prop}{x:α → β → γ → δ → ε → Prop}{C:Prop}(h:∃ a, ∃ b, ∃ c, ∃ d, ∃ f, p a b c d f ∧ q a b c d f ∧ r a b c d f ∧ s a b c d f ∧ t a b c d f ∧ u a b c d f ∧ w a b c d f ∧ x a b c d f)(k:∀ a, ∀ b, ∀ c, ∀ d, ∀ f, p a b c d f → q a b c d f → r a b c d f → s a b c d f → t a b c d f → u a b c d f → w a b c d f → x a b c d f → C) : C := h.elim fun a h1 => h1.elim fun b h2 => h2.elim fun c h3 => h3.elim fun d h4 => h4.elim fun f h5 => k a b c d f h5.1 h5.2.1 h5.2.2.1 h5.2.2.2.1 h5.2.2.2.2.1 h5.2.2.2.2.2.1 h5.2.2.2.2.2.2.1 h5.2.2.2.2.2.2.2
theorem Qpk {p:Prop}{q:Prop}{r:Prop}{s:Prop}{t:Prop}{u:Prop}{C:Prop}(h:p ∧ q ∧ r ∧ s ∧ t ∧ u)(k:p → q → r → s → t → u → C) : C := k h.1 h.2.1 h.2.2.1 h.2.2.2.1 h.2.2.2.2.1 h.2.2.2.2.2
theorem eEAAE {α β:Type}{p:α → Prop}{q:α → Prop}{r:α → β → Prop}{C:Prop}(h:∃ a, p a ∧ q a ∧ ∃ b, r a b)(k:∀ a, p a → q a → ∀ b, r a b → C) : C := h.elim fun a h1 => h1.2.2.elim fun b h2 => k a h1.1 h1.2.1 b h2
theorem eEEEAAAAAA {α β γ:Type}{p:α → β → γ → Prop}{q:α → β → γ → Prop}{r:α → β → γ → Prop}{s:α → β → γ → Prop}{t:α → β → γ → Prop}{u:α → β → γ → Prop}{w:α → β → γ → Prop}{C:Prop}(h:∃ a, ∃ b, ∃ c, p a b c ∧ q a b c ∧ r a b c ∧ s a b c ∧ t a b c ∧ u a b c ∧ w a b c)(k:∀ a, ∀ b, ∀ c, p a b c → q a b c → r a b c → s a b c → t a b c → u a b c → w a b c → C) : C := h.elim fun a h1 => h1.elim fun b h2 => h2.elim fun c h3 => k a b c h3.1 h3.2.1 h3.2.2.1 h3.2.2.2.1 h3.2.2.2.2.1 h3.2.2.2.2.2.1 h3.2.2.2.2.2.2
theorem eEAAAA {α:Type}{p:α → Prop}{q:α → Prop}{r:α → Prop}{s:α → Prop}{t:α → Prop}{C:Prop}(h:∃ a, p a ∧ q a ∧ r a ∧ s a ∧ t a)(k:∀ a, p a → q a → r a → s a → t a → C) : C := h.elim fun a h1 => k a h1.1 h1.2.1 h1.2.2.1 h1.2.2.2.1 h1.2.2.2.2
theorem eEEEEA {α β γ δ:Type}{p:α → β → γ → δ → Prop}{q:α → β → γ → δ → Prop}{C:Prop}(h:∃ a, ∃ b, ∃ c, ∃ d, p a b c d ∧ q a b c d)(k:∀ a, ∀ b, ∀ c, ∀ d, p a b c d → q a b c d → C) : C := h.elim fun a h1 => h1.elim fun b h2 => h2.elim fun c h3 => h3.elim fun d h4 => k a b c d h4.1 h4.2
theorem eEEEEAAA {α β γ δ:Type}{p:α → β → γ → δ → Prop}{q:α → β → γ → δ → Prop}{r:α → β → γ → δ → Prop}{s:α → β → γ → δ → Prop}{C:Prop}(h:∃ a, ∃ b, ∃ c, ∃ d, p a b c d ∧ q a b c d ∧ r a b c d ∧ s a b c d)(k:∀ a, ∀ b, ∀ c, ∀ d, p a b c d → q a b c d → r a b c d → s a b c d → C) : C := h.elim fun a h1 => h1.elim fun b h2 => h2.elim fun c h3 => h3.elim fun d h4 => k a b c d h4.1 h4.2.1 h4.2.2.1 h4.2.2.2
theorem eEEEEEAAAAA {α β γ δ ε:Type}{p:α → β → γ → δ → ε → Prop}{q:α → β → γ → δ → ε → Prop}{r:α → β → γ → δ → ε → Prop}{s:α → β → γ → δ → ε → Prop}{t:α → β → γ → δ → ε → Prop}{u:α → β → γ → δ → ε → Prop}{C:Prop}(h:∃ a, ∃ b, ∃ c, ∃ d, ∃ f, p a b c d f ∧ q a b c d f ∧ r a b c d f ∧ s a b c d f ∧ t a b c d f ∧ u a b c d f)(k:∀ a, ∀ b, ∀ c, ∀ d, ∀ f, p a b c d f → q a b c d f → r a b c d f → s a b c d f → t a b c d f → u a b c d f → C) : C := h.elim fun a h1 => h1.elim fun b h2 => h2.elim fun c h3 => h3.elim fun d h4 => h4.elim fun f h5 => k a b c d f h5.1 h5.2.1 h5.2.2.1 h5.2.2.2.1 h5.2.2.2.2.1 h5.2.2.2.2.2
theorem sE {α:Type}{a b:α}{C:Prop}(e:some a = some b)(k:a = b → C) : C := k (Option.some.inj e)
theorem nS {α:Type}{a:α}{C:Prop}(e:none = some a) : C := by cases e
theorem sN {α:Type}{a:α}{C:Prop}(e:some a = none) : C := by cases e
theorem fT {C:Prop}(e:false = true) : C := by cases e
theorem tF {C:Prop}(e:true = false) : C := by cases e
theorem Qjj {n i:Nat}(h:i < n) : n + 1 - (i + 1) < n + 1 - i := Nat.sub_lt_sub_left (Nat.lt_succ_of_lt h) (Nat.lt_succ_self i)
theorem Qvz {a b:Nat}(h:0 < b) : min a (b - 1) < b := Nat.lt_of_le_of_lt (Nat.min_le_right _ _) (Nat.sub_lt h Nat.one_pos)
theorem neg1_toNat {n:Nat} : ((-1 : Int) + (n:Int)).toNat = n - 1 := by rw [Int.add_comm]; exact Int.toNat_sub n 1
theorem min_toNat {a b:Nat}(h:0 < b) : (if ((b:Nat) : Int) - 1 < ((a:Nat) : Int) then ((b:Nat) : Int) - 1 else ((a:Nat) : Int)).toNat = min a (b - 1) := by
 refine eE (Nat.exists_eq_succ_of_ne_zero (Nat.ne_of_gt h)) fun c ρ0 => ?_
 subst ρ0
 have e : ((c.succ : Nat) : Int) - 1 = (c : Int) := Int.add_sub_cancel (c : Int) 1
 rw [e]
 split
 ·rename_i q; exact (Nat.min_eq_right (Nat.le_of_lt (Int.ofNat_lt.mp q))).symm
 ·rename_i q; exact (Nat.min_eq_left (Nat.le_of_not_lt fun z => q (Int.ofNat_lt.mpr z))).symm
theorem ite_t {P Q:Prop}(h:P) : if true = true then P else Q := by rw [if_pos rfl]; exact h
theorem ite_f {P Q:Prop}(h:Q) : if false = true then P else Q := by rw [if_neg (by decide)]; exact h
theorem stq {k:ScopeKind}{b:Bool}(h:k = .function) : (k == .class || (k == .module && b)) = false := by subst h; rfl
noncomputable def Qaa (h:Heap)(b:Addr) : Prop := ∃ o, h.get? b = some o
structure KpX (X : Addr → Prop) (h h' : Heap) : Prop where
 kp : ∀ b o, ¬ X b → h.get? b = some o → h'.get? b = some o
 live : ∀ b, Qaa h b → Qaa h' b
noncomputable def Kp (h h':Heap) : Prop := ∀ b o, h.get? b = some o → h'.get? b = some o
theorem Kp.kpx {X:Addr → Prop}{h h':Heap}(k:Kp h h') : KpX X h h' := ⟨fun b o ζ e => k b o e, fun b ⟨o, e⟩ => ⟨o, k b o e⟩⟩
theorem Kp.refl (h:Heap) : Kp h h := fun ζ ζ e => e
theorem Kp.trans {a b c:Heap}(x:Kp a b)(y:Kp b c) : Kp a c := fun b o e => y b o (x b o e)
theorem KpX.refl {X:Addr → Prop}(h:Heap) : KpX X h h := ⟨fun ζ ζ ζ e => e, fun ζ e => e⟩
theorem KpX.trans {X:Addr → Prop}{a b c:Heap}(x:KpX X a b)(y:KpX X b c) : KpX X a c := ⟨fun d o hd e => y.kp d o hd (x.kp d o hd e), fun d l => y.live d (x.live d l)⟩
theorem KpX.wider {X Y:Addr → Prop}{h h':Heap}(k:KpX X h h')(hY:∀ b, X b → Y b) : KpX Y h h' := ⟨fun b o hb e => k.kp b o (fun hx => hb (hY b hx)) e, k.live⟩
theorem KpX.sameBut {X:Addr → Prop}{h h':Heap}{L:Addr}(hL:X L)(hl:Qaa h' L)(hs:Heap.SameBut L h h') : KpX X h h' :=
 ⟨fun b o hb e => (hs.2 b fun x => hb (x ▸ hL)).trans e, fun b ⟨o, e⟩ => by
  by_cases hb : b = L
  ·exact hb ▸ hl
  ·exact ⟨o, (hs.2 b hb).trans e⟩⟩
theorem Qax {h:Heap}{b:Addr}(hb:h.objs.size ≤ b) : ¬ Qaa h b := fun ⟨o, e⟩ => absurd (Heap.lt_size e) (Nat.not_lt.mpr hb)
mutual
noncomputable def Rd (X:Addr → Prop)(h:Heap) : PyData → Value → Prop
 | .none, v => v = .none
 | .bool b, v => v = .bool b
 | .int i, v => ∃ t, v = .int i t
 | .str x, v => ∃ t, v = .str x t
 | .list xs, v => ∃ a vs, v = .ref a ∧ ¬ X a ∧ h.IsList a vs ∧ RdAll X h xs vs.toList
 | .tuple xs, v => ∃ a vs, v = .ref a ∧ ¬ X a ∧ h.IsTuple a vs ∧ RdAll X h xs vs.toList
 | .dict _, _ => False
noncomputable def RdAll (X:Addr → Prop)(h:Heap) : List PyData → List Value → Prop
 | [], vs => vs = []
 | d :: ds, vs => ∃ v vs', vs = v :: vs' ∧ Rd X h d v ∧ RdAll X h ds vs'
end
section
variable {X Y : Addr → Prop} {h h' : Heap} {v : Value} {d : PyData} {vs : List Value} {ds : List PyData}
theorem RdAll.cons_inv (r:RdAll X h (d :: ds) vs) : ∃ v vs', vs = v :: vs' ∧ Rd X h d v ∧ RdAll X h ds vs' := r
theorem RdAll.nil_inv (r:RdAll X h [] vs) : vs = [] := r
theorem Rd.str_inv {x:Str}(r:Rd X h (.str x) v) : ∃ t, v = .str x t := r
theorem Rd.int_inv {x:Int}(r:Rd X h (.int x) v) : ∃ t, v = .int x t := r
theorem Rd.bool_inv {x:Bool}(r:Rd X h (.bool x) v) : v = .bool x := r
theorem Rd.none_inv (r:Rd X h .none v) : v = .none := r
theorem Rd.list_inv {xs:List PyData}(r:Rd X h (.list xs) v) : ∃ a vs, v = .ref a ∧ ¬ X a ∧ h.IsList a vs ∧ RdAll X h xs vs.toList := r
theorem Rd.tuple_inv {xs:List PyData}(r:Rd X h (.tuple xs) v) : ∃ a vs, v = .ref a ∧ ¬ X a ∧ h.IsTuple a vs ∧ RdAll X h xs vs.toList := r
end
mutual
theorem Rd.map {X Y:Addr → Prop}{h h':Heap}(hk:∀ b o, ¬ X b → h.get? b = some o → ¬ Y b ∧ h'.get? b = some o) : ∀ (d:PyData)(v:Value), Rd X h d v → Rd Y h' d v
 | .none, v, r => r
 | .bool b, v, r => r
 | .int i, v, r => r
 | .str x, v, r => r
 | .list xs, v, r => by
  refine Qck (Rd.list_inv r) fun a vs e hx ν1 ra => ?_
  obtain ⟨o, ho, hr⟩ := ν1
  exact ⟨a, vs, e, (hk _ _ hx ho).1, ⟨o, (hk _ _ hx ho).2, hr⟩, RdAll.map hk xs _ ra⟩
 | .tuple xs, v, r => by
  refine Qck (Rd.tuple_inv r) fun a vs e hx ν2 ra => ?_
  obtain ⟨o, ho, hr⟩ := ν2
  exact ⟨a, vs, e, (hk _ _ hx ho).1, ⟨o, (hk _ _ hx ho).2, hr⟩, RdAll.map hk xs _ ra⟩
 | .dict _, _, r => False.elim r
theorem RdAll.map {X Y:Addr → Prop}{h h':Heap}(hk:∀ b o, ¬ X b → h.get? b = some o → ¬ Y b ∧ h'.get? b = some o) : ∀ (ds:List PyData)(vs:List Value), RdAll X h ds vs → RdAll Y h' ds vs
 | [], vs, r => r
 | d :: ds, vs, r => by
  refine Qac (RdAll.cons_inv r) fun v vs' e r1 r2 => ?_
  exact ⟨v, vs', e, Rd.map hk d v r1, RdAll.map hk ds vs' r2⟩
end
section
variable {X Y : Addr → Prop} {h h' : Heap} {v : Value} {d : PyData} {vs : List Value} {ds : List PyData}
theorem Rd.kp (r:Rd X h d v)(k:KpX X h h') : Rd X h' d v := r.map fun b o hb e => ⟨hb, k.kp b o hb e⟩
theorem RdAll.kp (r:RdAll X h ds vs)(k:KpX X h h') : RdAll X h' ds vs := r.map fun b o hb e => ⟨hb, k.kp b o hb e⟩
theorem RdAll.less (r:RdAll X h ds vs)(hY:∀ b, Y b → X b) : RdAll Y h ds vs := r.map fun b o hb e => ⟨fun y => hb (hY b y), e⟩
theorem Rd.to (r:Rd X h d v)(k:KpX X h h')(hY:∀ b, Y b → X b ∨ ¬ Qaa h b) : Rd Y h' d v := r.map fun b o hb e => ⟨fun y => (hY b y).elim hb fun z => z ⟨o, e⟩, k.kp b o hb e⟩
theorem RdAll.to (r:RdAll X h ds vs)(k:KpX X h h')(hY:∀ b, Y b → X b ∨ ¬ Qaa h b) : RdAll Y h' ds vs := r.map fun b o hb e => ⟨fun y => (hY b y).elim hb fun z => z ⟨o, e⟩, k.kp b o hb e⟩
theorem RdAll.nil : RdAll X h [] [] := rfl
theorem RdAll.cons (r:Rd X h d v)(rs:RdAll X h ds vs) : RdAll X h (d :: ds) (v :: vs) := ⟨v, vs, rfl, r, rs⟩
end
section
variable {X Y : Addr → Prop} {h h' : Heap}
theorem RdAll.length : ∀ {ds vs}, RdAll X h ds vs → vs.length = ds.length
 | [], _, r => by rw [r.nil_inv]; rfl
 | d :: ds, _, r => by obtain ⟨v, vs, rfl, _, r⟩ := r.cons_inv; simp [r.length]
theorem RdAll.append : ∀ {ds vs ds' vs'}, RdAll X h ds vs → RdAll X h ds' vs' → RdAll X h (ds ++ ds') (vs ++ vs')
 | [], _, _, _, r, r' => by rw [r.nil_inv]; exact r'
 | d :: ds, _, _, _, r, r' => by obtain ⟨v, vs, rfl, r1, r⟩ := r.cons_inv; exact .cons r1 (r.append r')
theorem RdAll.get : ∀ {ds vs}, RdAll X h ds vs → ∀ (i:Nat) d, ds[i]? = some d → ∃ v, vs[i]? = some v ∧ Rd X h d v
 | [], _, r, i, d, e => by simp at e
 | d :: ds, _, r, i, d', e => by
  obtain ⟨v, vs, rfl, r1, r⟩ := r.cons_inv
  cases i with
  | zero => simp at e; subst e; exact ⟨v, rfl, r1⟩
  | succ i => simpa using r.get i d' (by simpa using e)
theorem RdAll.snoc {ds vs d v}(r:RdAll X h ds vs)(r1:Rd X h d v) : RdAll X h (ds ++ [d]) (vs ++ [v]) := r.append (.cons r1 .nil)
theorem RdAll.take : ∀ {ds vs}(n:Nat), RdAll X h ds vs → RdAll X h (ds.take n) (vs.take n)
 | _, _, 0, _ => by simp; exact .nil
 | [], _, n + 1, r => by rw [r.nil_inv]; simp; exact .nil
 | d :: ds, _, n + 1, r => by obtain ⟨v, vs, rfl, r1, r⟩ := r.cons_inv; exact .cons r1 (r.take n)
theorem RdAll.drop : ∀ {ds vs}(n:Nat), RdAll X h ds vs → RdAll X h (ds.drop n) (vs.drop n)
 | _, _, 0, r => by simpa using r
 | [], _, n + 1, r => by rw [r.nil_inv]; simp; exact .nil
 | d :: ds, _, n + 1, r => by obtain ⟨v, vs, rfl, r1, r⟩ := r.cons_inv; exact r.drop n
end
mutual
theorem Rd.reads {X:Addr → Prop}{h:Heap} : ∀ (d:PyData)(v:Value), Rd X h d v → ∃ as, Reads h v d as
 | .none, v, r => by rw [Rd.none_inv r]; exact ⟨_, .none⟩
 | .bool b, v, r => by rw [Rd.bool_inv r]; exact ⟨_, .bool b⟩
 | .int i, v, r => eE (Rd.int_inv r) fun t e => e ▸ ⟨_, .int i t⟩
 | .str x, v, r => eE (Rd.str_inv r) fun t e => e ▸ ⟨_, .str x t⟩
 | .list xs, v, r => by
  refine Qck (Rd.list_inv r) fun a vs ρ3 hx ν4 ra => ?_
  subst ρ3
  obtain ⟨o, ho, hc, n, hd⟩ := ν4
  refine eE (RdAll.reads xs _ ra) fun as q => ?_
  exact ⟨_, .list ho hc hd q⟩
 | .tuple xs, v, r => by
  refine Qck (Rd.tuple_inv r) fun a vs ρ5 hx ν6 ra => ?_
  subst ρ5
  obtain ⟨o, ho, hc, n, hd⟩ := ν6
  refine eE (RdAll.reads xs _ ra) fun as q => ?_
  exact ⟨_, .tuple ho hc hd q⟩
 | .dict _, _, r => False.elim r
theorem RdAll.reads {X:Addr → Prop}{h:Heap} : ∀ (ds:List PyData)(vs:List Value), RdAll X h ds vs → ∃ as, ReadsAll h vs ds as
 | [], vs, r => by rw [r.nil_inv]; exact ⟨_, .nil⟩
 | d :: ds, vs, r => by
  refine Qac (r.cons_inv) fun v vs' ρ7 r1 r2 => ?_
  subst ρ7
  refine eE (Rd.reads d v r1) fun as q => ?_
  refine eE (RdAll.reads ds vs' r2) fun bs q' => ?_
  exact ⟨_, .cons q q'⟩
end
section
variable {X Y : Addr → Prop} {h h' : Heap} {v : Value}
theorem Rd.str {x:Str}{t:Tok} : Rd X h (.str x) (.str x t) := ⟨t, rfl⟩
theorem Rd.int {x:Int}{t:Tok} : Rd X h (.int x) (.int x t) := ⟨t, rfl⟩
theorem Rd.bool {x:Bool} : Rd X h (.bool x) (.bool x) := rfl
theorem Rd.none : Rd X h .none .none := rfl
theorem Rd.list {a:Addr}{vs:Array Value}{xs:List PyData}(hx:¬ X a)(hl:h.IsList a vs)(r:RdAll X h xs vs.toList) : Rd X h (.list xs) (.ref a) := ⟨a, vs, rfl, hx, hl, r⟩
theorem Rd.tuple {a:Addr}{vs:Array Value}{xs:List PyData}(hx:¬ X a)(hl:h.IsTuple a vs)(r:RdAll X h xs vs.toList) : Rd X h (.tuple xs) (.ref a) := ⟨a, vs, rfl, hx, hl, r⟩
end
structure Kt (s s' : Shared) : Prop where
 of : Keeps s s'
theorem Kt.refl (s:Shared) : Kt s s := ⟨s.heap, s.toks, rfl, fun ζ ζ e => e⟩
theorem Kt.kp {s s':Shared}(k:Kt s s') : Kp s.heap s'.heap := by obtain ⟨h, t, rfl, hk⟩ := k; exact hk
theorem Kt.trans {a b c:Shared}(x:Kt a b)(y:Kt b c) : Kt a c := by
 obtain ⟨h, t, rfl, hk⟩ := x
 obtain ⟨h', t', rfl, hk'⟩ := y
 exact ⟨h', t', rfl, fun b o e => hk' b o (hk b o e)⟩
theorem Kt.tok (s:Shared)(t:Nat) : Kt s { s with toks := t } := ⟨s.heap, t, rfl, fun ζ ζ e => e⟩
theorem Kt.mk' (s:Shared){h:Heap}(t:Nat)(k:Kp s.heap h) : Kt s { s with heap := h, toks := t } := ⟨h, t, rfl, k⟩
structure OkA (A : Around) (n : Nat) : Prop where
 handled : A.handled = none
 depth : A.depth + n ≤ 900
 units : A.units + 20 * n ≤ 9500
theorem OkA.le {A:Around}{n m:Nat}(x:OkA A n)(h:m ≤ n) : OkA A m := ⟨x.1, by have := x.2; lia, by have := x.3; lia⟩
theorem OkA.deeper {A:Around}{n:Nat}{env:Env}(x:OkA A (n + 1)) : OkA (A.deeper env) n :=
 ⟨x.1, by have := x.2; show A.depth + 1 + n ≤ 900; lia, by have := x.3; show A.units + 3 + 20 * n ≤ 9500; lia⟩
theorem OkA.in1 {A:Around}{n:Nat}(x:OkA A (n + 1)) : OkA A.in1 n := ⟨x.1, by have := x.2; show A.depth + n ≤ 900; lia, by have := x.3; show A.units + 1 + 20 * n ≤ 9500; lia⟩
theorem OkA.cline {A:Around}{n:Nat}(x:OkA A n) : A.units + 20 * n + 300 < cLine := by have := x.3; have : cLine = 9900 := rfl; lia
theorem OkA.rm1 {A:Around}{n d:Nat}(x:OkA A n)(h:d ≤ 64) : A.units + 1 + d < cLine := by have := x.cline; lia
theorem OkA.rm0 {A:Around}{n d:Nat}(x:OkA A n)(h:d ≤ 64) : A.units + d < cLine := Nat.lt_of_le_of_lt (Nat.add_le_add_right (Nat.le_succ _) _) (x.rm1 h)
theorem OkA.dline {A:Around}{n:Nat}(x:OkA A n) : A.depth < recursionLimit := by have := x.2; have : recursionLimit = 1000 := rfl; lia
structure Hp where
 p : Heap → Prop
 X : Addr → Prop
 mono : ∀ h h', KpX X h h' → p h → p h'
 live : ∀ h, p h → ∀ b, X b → Qaa h b
structure Hp.le (T' T : Hp) : Prop where
 p : ∀ h, T'.p h → T.p h
 X : ∀ b, T.X b → T'.X b
theorem Hp.le.refl (T:Hp) : T.le T := ⟨fun ζ h => h, fun ζ h => h⟩
theorem Hp.le.trans {a b c:Hp}(x:a.le b)(y:b.le c) : a.le c := ⟨fun h q => y.p h (x.p h q), fun b q => x.X b (y.X b q)⟩
noncomputable def Hp.push (T:Hp)(Y:Addr → Prop) : Hp where
 p h := (∃ h₀, T.p h₀ ∧ (∀ y, Y y → ¬ Qaa h₀ y) ∧ KpX (fun b => T.X b ∨ Y b) h₀ h) ∧ ∀ y, Y y → Qaa h y
 X b := T.X b ∨ Y b
 mono h h' k x := by
  refine eA (x) fun ν8 h4 => ?_
  obtain ⟨h₀, h1, h2, h3⟩ := ν8
  exact ⟨⟨h₀, h1, h2, h3.trans k⟩, fun y hy => k.live y (h4 y hy)⟩
 live h x b hb := by
  refine eA (x) fun ν9 h4 => ?_
  obtain ⟨h₀, h1, h2, h3⟩ := ν9
  rcases hb with hb | hb
  ·exact h3.live b (T.live _ h1 b hb)
  ·exact h4 b hb
theorem Hp.push_le (T:Hp)(Y:Addr → Prop) : (T.push Y).le T where
 p h x := by
  refine eA (x) fun ν10 h4 => ?_
  obtain ⟨h₀, h1, h2, h3⟩ := ν10
  refine T.mono h₀ h ⟨fun b o hb e => h3.kp b o (fun q => ?_) e, h3.live⟩ h1
  rcases q with q | q
  ·exact hb q
  ·exact h2 b q ⟨o, e⟩
 X b hb := .inl hb
theorem Hp.push_p {T:Hp}{Y:Addr → Prop}{h₀ h:Heap}(ht:T.p h₀)(hY:∀ y, Y y → ¬ Qaa h₀ y)(k:KpX (fun b => T.X b ∨ Y b) h₀ h)(hY':∀ y, Y y → Qaa h y) : (T.push Y).p h := ⟨⟨h₀, ht, hY, k⟩, hY'⟩
inductive Dv where
 | d (x : PyData)
 | v (x : Value)
 | pl (xs : List PyData)
 | tv (vs : List Value)
 | rg (a b c : Int)
noncomputable def Dv.p (X:Addr → Prop)(h:Heap) : Dv → Value → Prop
 | .d x, y => Rd X h x y
 | .v u, y => y = u
 | .pl xs, y => ∃ a vs o, y = .ref a ∧ ¬ X a ∧ h.get? a = some o ∧ o.cls = .type "list" ∧ o.dict = none ∧ (∃ n, o.data = .seq vs n) ∧ RdAll X h xs vs.toList
 | .tv vs, y => ∃ a, y = .ref a ∧ ¬ X a ∧ h.get? a = some { cls := .type "tuple", data := .seq vs.toArray }
 | .rg a b c, y => ∃ r t u v, y = .ref r ∧ ¬ X r ∧ IsRange h r a b c t u v
section
variable {X Y : Addr → Prop} {h h' : Heap} {v : Value} {a : Dv}
theorem Dv.p.map (hk:∀ b o, ¬ X b → h.get? b = some o → ¬ Y b ∧ h'.get? b = some o)(r:a.p X h v) : a.p Y h' v := by cases a with
 | d d => exact Rd.map hk d v r
 | v u => exact r
 | pl xs =>
  obtain ⟨a, vs, o, e, hx, ho, h1, h2, h3, h4⟩ := r
  exact ⟨a, vs, o, e, (hk _ _ hx ho).1, (hk _ _ hx ho).2, h1, h2, h3, RdAll.map hk _ _ h4⟩
 | tv vs =>
  refine Qpj (r) fun a e hx ho => ?_
  exact ⟨a, e, (hk _ _ hx ho).1, (hk _ _ hx ho).2⟩
 | rg a b c =>
  obtain ⟨r, t, u, v, e, hx, ho⟩ := r
  exact ⟨r, t, u, v, e, (hk _ _ hx ho).1, (hk _ _ hx ho).2⟩
theorem Dv.p.kp (r:a.p X h v)(k:KpX X h h') : a.p X h' v := Dv.p.map (fun b o hb e => ⟨hb, k.kp b o hb e⟩) r
theorem Dv.p.less (r:a.p X h v)(hY:∀ b, Y b → X b) : a.p Y h v := Dv.p.map (fun b o hb e => ⟨fun y => hb (hY b y), e⟩) r
theorem Dv.p.to (r:a.p X h v)(k:KpX X h h')(hY:∀ b, Y b → X b ∨ ¬ Qaa h b) : a.p Y h' v := Dv.p.map (fun b o hb e => ⟨fun y => (hY b y).elim hb fun z => z ⟨o, e⟩, k.kp b o hb e⟩) r
theorem Dv.p.plain {xs:List PyData}(r:(Dv.pl xs).p X h v) : (Dv.d (.list xs)).p X h v := by
 obtain ⟨a, vs, o, e, hx, ho, h1, h2, h3, h4⟩ := r
 exact e ▸ Rd.list hx ⟨o, ho, h1, h3⟩ h4
end
section
variable {X : Addr → Prop} {h : Heap}
theorem Dv.p.str {x:Str}{t:Tok} : (Dv.d (.str x)).p X h (.str x t) := Rd.str (X := X) (h := h)
theorem Dv.p.int {x:Int}{t:Tok} : (Dv.d (.int x)).p X h (.int x t) := Rd.int (X := X) (h := h)
theorem Dv.p.bool {x:Bool} : (Dv.d (.bool x)).p X h (.bool x) := Rd.bool (X := X) (h := h)
theorem Dv.p.none : (Dv.d .none).p X h .none := Rd.none (X := X) (h := h)
theorem Dv.p.str_inv {x:Str}{v:Value}(r:(Dv.d (.str x)).p X h v) : ∃ t, v = .str x t := Rd.str_inv (X := X) (h := h) r
theorem Dv.p.int_inv {x:Int}{v:Value}(r:(Dv.d (.int x)).p X h v) : ∃ t, v = .int x t := Rd.int_inv (X := X) (h := h) r
theorem Dv.p.bool_inv {x:Bool}{v:Value}(r:(Dv.d (.bool x)).p X h v) : v = .bool x := Rd.bool_inv (X := X) (h := h) r
theorem Dv.p.none_inv {v:Value}(r:(Dv.d .none).p X h v) : v = .none := Rd.none_inv (X := X) (h := h) r
theorem Dv.p.list_inv {xs:List PyData}{v:Value}(r:(Dv.d (.list xs)).p X h v) : ∃ a vs, v = .ref a ∧ ¬ X a ∧ h.IsList a vs ∧ RdAll X h xs vs.toList := Rd.list_inv r
theorem Dv.p.tuple_inv {xs:List PyData}{v:Value}(r:(Dv.d (.tuple xs)).p X h v) : ∃ a vs, v = .ref a ∧ ¬ X a ∧ h.IsTuple a vs ∧ RdAll X h xs vs.toList := Rd.tuple_inv r
theorem Dv.p.list {a:Addr}{vs:Array Value}{xs:List PyData}(hx:¬ X a)(hl:h.IsList a vs)(r:RdAll X h xs vs.toList) : (Dv.d (.list xs)).p X h (.ref a) := Rd.list hx hl r
theorem Dv.p.tuple {a:Addr}{vs:Array Value}{xs:List PyData}(hx:¬ X a)(hl:h.IsTuple a vs)(r:RdAll X h xs vs.toList) : (Dv.d (.tuple xs)).p X h (.ref a) := Rd.tuple hx hl r
end
noncomputable def DvAll (X:Addr → Prop)(h:Heap) : List Dv → List Value → Prop
 | [], vs => vs = []
 | a :: as, vs => ∃ v vs', vs = v :: vs' ∧ a.p X h v ∧ DvAll X h as vs'
noncomputable def Sees (env:Env)(h:Heap)(x:Str)(v:Value) : Prop :=
 (env.kindOf x = some .local ∧ ∃ m, h.Ns env.locals m ∧ m x = some v) ∨ (env.kindOf x = some .cell ∧ ∃ c, env.cells.lookup x = some c ∧ h.IsCell c (some v))
theorem Sees.kp {env:Env}{h h':Heap}{x:Str}{v:Value}(k:Kp h h')(s:Sees env h x v) : Sees env h' x v := by
 rcases s with ⟨a, m, hn, e⟩ | ⟨a, c, hc, e⟩
 ·exact .inl ⟨a, m, hn.keeps k, e⟩
 ·exact .inr ⟨a, c, hc, e.keeps k⟩
noncomputable abbrev Gam := List (Str × Dv)
noncomputable def Vw (X:Addr → Prop)(env:Env)(G:Gam)(h:Heap) : Prop := ∀ x a, G.lookup x = some a → ∃ v, Sees env h x v ∧ a.p X h v
theorem Vw.kp {X:Addr → Prop}{env:Env}{G:Gam}{h h':Heap}(k:Kp h h')(s:Vw X env G h) : Vw X env G h' := fun x a e => by
 refine eEA (s x a e) fun v h1 h2 => ?_
 exact ⟨v, h1.kp k, h2.kp k.kpx⟩
theorem Vw.less {X Y:Addr → Prop}{env:Env}{G:Gam}{h:Heap}(s:Vw X env G h)(hY:∀ b, Y b → X b) : Vw Y env G h := fun x a e => by
 refine eEA (s x a e) fun v h1 h2 => ?_
 exact ⟨v, h1, h2.less hY⟩
section
variable (prog : Program) (w : World)
structure EvA (T : Hp) (A : Around) (env : Env) (G : Gam) (e : Expr) (a : Dv) : Prop where
 of : ∀ E s, T.p s.heap → Vw T.X env G s.heap → wpAny (model prog w) A (eval e env) (fun v s' => a.p T.X s'.heap v ∧ Kt s s') E s
structure TeA (T : Hp) (A : Around) (env : Env) (G : Gam) (e : Expr) (b : Bool) : Prop where
 of : ∀ E s, T.p s.heap → Vw T.X env G s.heap → wpAny (model prog w) A (isTrue e env (eval e env)) (fun r s' => r = b ∧ Kt s s') E s
structure EvL (T : Hp) (A : Around) (env : Env) (G : Gam) (ts : List (Bool × Sem Value)) (as : List Dv) : Prop where
 plain : ts.all (fun x => !x.1) = true
 emp : ts = [] → as = []
 of : ∀ E s, T.p s.heap → Vw T.X env G s.heap → wpAny (model prog w) A (spliced ts) (fun vs s' => DvAll T.X s'.heap as vs ∧ Kt s s') E s
structure Fn (T : Hp) (A : Around) (f : Value) (as : List Dv) (r : Dv) : Prop where
 keeper : ∀ E s, T.p s.heap → wpAny (model prog w) A (keeperOf f) (fun ζ s' => s' = s) E s
 of : ∀ E s vs, T.p s.heap → DvAll T.X s.heap as vs → wpAny (model prog w) A (call f vs) (fun v s' => r.p T.X s'.heap v ∧ Kt s s') E s
end
section
variable {prog : Program} {w : World} {T : Hp} {A : Around} {env : Env} {G : Gam}
theorem EvA.plain {xs:List PyData}{e:Expr}(x:EvA prog w T A env G e (.pl xs)) : EvA prog w T A env G e (.d (.list xs)) := ⟨fun E s hp hv => wpAny_mono (x.of E s hp hv) (fun v s' k => ⟨k.1.plain, k.2⟩) fun ζ ζ x => x⟩
theorem EvA.cast {e:Expr}{a b:Dv}(x:EvA prog w T A env G e a)(h:a = b) : EvA prog w T A env G e b := h ▸ x
theorem EvA.name (a:Dv){x:Str}{pos:Pos}(hx:autoParam (G.lookup x = some a) sK)(hk:autoParam (env.scope.kind = .function) sK)(hd:autoParam ((x == ("__debug__" : Str)) = false) sK) :
  EvA prog w T A env G (.Name x pos) a := ⟨fun E s hp hv => by
 refine eEA (hv x a hx) fun v hs ha => ?_
 rcases hs with ⟨hl, m, hn, hv⟩ | ⟨hl, c, hc, hv⟩
 ·exact wpAny_Name (wpAny_loadName_local hk hl hn hv ⟨ha, .refl s⟩) hd
 ·exact wpAny_Name (wpAny_loadName_cell hk hl hc hv ⟨ha, .refl s⟩) hd⟩
theorem EvA.str {x:Str}{k:Nat}{pos:Pos} : EvA prog w T A env G (.Constant (.str x) k pos) (.d (.str x)) := ⟨fun E s ζ ζ => Constant_str ⟨Dv.p.str, .tok s _⟩⟩
theorem EvA.int {x:Int}{k:Nat}{pos:Pos} : EvA prog w T A env G (.Constant (.int x) k pos) (.d (.int x)) := ⟨fun E s ζ ζ => wpAny_Constant_int ⟨Dv.p.int, .tok s _⟩⟩
theorem EvA.noneC {k:Nat}{pos:Pos} : EvA prog w T A env G (.Constant .none k pos) (.d .none) := ⟨fun E s ζ ζ => wpAny_pure ⟨Dv.p.none, .refl s⟩⟩
theorem EvA.boolC {b:Bool}{k:Nat}{pos:Pos} : EvA prog w T A env G (.Constant (.bool b) k pos) (.d (.bool b)) := ⟨fun E s ζ ζ => wpAny_pure ⟨Dv.p.bool, .refl s⟩⟩
theorem Hp.kt (T:Hp){s s':Shared}(hp:T.p s.heap)(k:Kt s s') : T.p s'.heap := T.mono _ _ k.kp.kpx hp
theorem two {e1 e2:Expr}{a1 a2:Dv}{s:Shared}{Q:Value → Value → Shared → Prop}{E:Value → Shared → Prop}(h1:EvA prog w T A env G e1 a1)(h2:EvA prog w T A env G e2 a2)(hp:T.p s.heap)(hv:Vw T.X env G s.heap)
  (h : ∀ v1 v2 s', Kt s s' → a1.p T.X s'.heap v1 → a2.p T.X s'.heap v2 → Q v1 v2 s') :
  wpAny (model prog w) A (eval e1 env) (fun v1 s₁ => wpAny (model prog w) A (eval e2 env) (fun v2 s₂ => Q v1 v2 s₂) E s₁) E s :=
 wpAny_mono (h1.of E s hp hv) (fun v1 s₁ k1 => wpAny_mono (h2.of E s₁ (T.kt hp k1.2) (hv.kp k1.2.kp)) (fun v2 s₂ k2 => h v1 v2 s₂ (k1.2.trans k2.2) (k1.1.kp k2.2.kp.kpx) k2.1) fun ζ ζ x => x) fun ζ ζ x => x
structure Op2 (prog : Program) (w : World) (T : Hp) (A : Around) (f : Value → Value → Sem Value) (a1 a2 r : Dv) : Prop where
 of : ∀ E s v1 v2, T.p s.heap → a1.p T.X s.heap v1 → a2.p T.X s.heap v2 → wpAny (model prog w) A (f v1 v2) (fun v s' => r.p T.X s'.heap v ∧ Kt s s') E s
theorem EvA.binop {e1 e2:Expr}{op:Operator}{pos:Pos}{a1 a2 r:Dv}(h1:EvA prog w T A env G e1 a1)(h2:EvA prog w T A env G e2 a2)(h:Op2 prog w T A (binaryOp op) a1 a2 r) : EvA prog w T A env G (.BinOp e1 op e2 pos) r := ⟨fun E s hp hv =>
 wpAny_BinOp (two h1 h2 hp hv fun v1 v2 s' k p1 p2 => wpAny_mono (h.of E s' v1 v2 (T.kt hp k) p1 p2) (fun ζ ζ x => ⟨x.1, k.trans x.2⟩) fun ζ ζ x => x)⟩
theorem EvA.compare {e1 e2:Expr}{op:CmpOp}{pos:Pos}{a1 a2 r:Dv}(h1:EvA prog w T A env G e1 a1)(h2:EvA prog w T A env G e2 a2)
  (h : Op2 prog w T A (compareOp op) a1 a2 r) (hm : autoParam (behindInMarks op e2 = false) sK) :
  EvA prog w T A env G (.Compare e1 [op] [e2] pos) r := ⟨fun E s hp hv =>
 wpAny_Compare1 (two h1 h2 hp hv fun v1 v2 s' k p1 p2 => wpAny_mono (h.of E s' v1 v2 (T.kt hp k) p1 p2) (fun ζ ζ x => ⟨x.1, k.trans x.2⟩) fun ζ ζ x => x) hm⟩
theorem EvL.nil : EvL prog w T A env G [] [] := ⟨rfl, fun ζ => rfl, fun E s ζ ζ => spliced_nil ⟨rfl, .refl s⟩⟩
theorem EvL.cons {e:Expr}{rest:List Expr}{pos:Pos}{a:Dv}{as:List Dv}(h1:EvA prog w T A env G e a)(h2:EvL prog w T A env G (backTo pos (starEach rest env)) as)
  (hs : autoParam (starEach (e :: rest) env = (false, eval e env) :: starEach rest env) sK) : EvL prog w T A env G (backTo pos (starEach (e :: rest) env)) (a :: as) := by
 rw [hs]
 refine ⟨h2.plain, (fun e => nomatch e), fun E s hp hv => ?_⟩
 refine spliced_cons (wpAny_mono (h1.of E s hp hv) (fun v s₁ k1 => wpAny_mono (h2.of E s₁ (T.kt hp k1.2) (hv.kp k1.2.kp)) (fun vs s₂ k2 => ⟨⟨v, vs, rfl, k1.1.kp k2.2.kp.kpx, k2.1⟩, k1.2.trans k2.2⟩) fun ζ ζ x => x) fun ζ ζ x => x)
theorem EvL.nil' {pos:Pos} : EvL prog w T A env G (backTo pos (starEach [] env)) [] := EvL.nil
theorem Qcz {f:Value}{ts:List (Bool × Sem Value)}{as:List Dv}{s:Shared}{E:Value → Shared → Prop}{Q:Args → Shared → Prop}(h:EvL prog w T A env G ts as)(hp:T.p s.heap)(hv:Vw T.X env G s.heap)
  (hq : ∀ vs s', Kt s s' → DvAll T.X s'.heap as vs → Q ⟨vs, []⟩ s') : wpAny (model prog w) A (evalArgs f true ts []) Q E s := by
 cases ts with
 | nil =>
  refine evalArgs_nil3 (hq [] s (.refl s) ?_)
  rw [h.emp rfl]; rfl
 | cons x rest =>
  obtain ⟨st, x⟩ := x
  have hst : st = false := by
   have := h.plain
   simp at this; exact this.1
  subst hst
  exact evalArgs_plain (wpAny_mono (h.of E s hp hv) (fun vs s' k => hq vs s' k.2 k.1) fun ζ ζ x => x)
structure Mth (T : String) (name : Str) (id : String) : Prop where
 plain : PlainAttrs T
 slot : Slot T name id
 ty : typeOf (.builtin id) = pure (.type "method_descriptor")
noncomputable def OfT (ty:String)(a:Dv) : Prop := ∀ (X:Addr → Prop)(s:Shared) v, a.p X s.heap v → s.TypeIs v ty ∧ ∀ b, v = .ref b → ∃ ob, s.heap.get? b = some ob ∧ ob.dict = none
theorem Qgj {x:Str} : OfT "str" (.d (.str x)) := fun X s v h => by
 refine eE (h.str_inv) fun t ρ0 => ?_
 subst ρ0
 exact ⟨typeIs_str _ _ _, fun ζ e => nomatch e⟩
theorem ofT_list {xs:List PyData} : OfT "list" (.pl xs) := fun X s v h => by
 refine Qwq (h) fun a vs o e3 hx ho hc hd ζ => ?_
 subst e3
 exact ⟨⟨o, ho, hc⟩, fun b e => by cases e; exact ⟨o, ho, hd⟩⟩
theorem EvL.noStar {ts:List (Bool × Sem Value)}{as:List Dv}(ha:EvL prog w T A env G ts as) : ts.any (·.1) = false := by
 have := ha.plain
 rw [List.all_eq_true] at this
 rw [List.any_eq_false]
 intro x hx
 simpa using this x hx
structure OpM (prog : Program) (w : World) (T : Hp) (A : Around) (id : String) (ao : Dv) (as : List Dv) (r : Dv) : Prop where
 of : ∀ E s ov vs, T.p s.heap → ao.p T.X s.heap ov → DvAll T.X s.heap as vs → wpAny (model prog w) A (call (.builtin id) (ov :: vs)) (fun v s' => r.p T.X s'.heap v ∧ Kt s s') E s
theorem EvA.meth {o:Expr}{name:Str}{apos pos:Pos}{args:List Expr}{ty id:String}{ao r:Dv}{as:List Dv}(m:Mth ty name id)(ho:EvA prog w T A env G o ao)(hT:OfT ty ao)
  (ha : EvL prog w T A env G (backTo pos (starEach args env)) as) (hc : OpM prog w T A id ao as r)
  (hbase : autoParam (attributeBase o name env (eval o env) = eval o env) sK) (hline : autoParam ((apos.endLine == pos.line) = true) sK) (hn : autoParam (args.length < 29) sD) :
  EvA prog w T A env G (.Call (.Attribute o name apos) args [] pos) r := ⟨fun E s hp hv => by
 refine wpAny_Call_method_lateS hbase ?_ hline (wpAny_mono (ho.of E s hp hv) (fun ov s₁ k => ?_) fun ζ ζ x => x)
 ·rw [ha.plain]
  show (true && true && decide (args.length + 0 + 0 < 30)) = true
  simp; lia
 ·refine eA (hT T.X s₁ ov k.1) fun hty hd => ?_
  refine ⟨ty, id, m.plain, m.slot, m.ty, hty, hd, callWith_builtin ha.noStar ?_⟩
  refine Qcz ha (T.kt hp k.2) (hv.kp k.2.kp) fun vs s₂ k2 hvs => ?_
  exact wpAny_mono (hc.of E s₂ ov vs (T.kt hp (k.2.trans k2)) (k.1.kp k2.kp.kpx) hvs) (fun v s₃ k3 => ⟨k3.1, (k.2.trans k2).trans k3.2⟩) fun ζ ζ x => x⟩
theorem Qbx {pos:Pos}{f:Value}{first:List Value}{args:List (Bool × Sem Value)}{Q:Value → Shared → Prop}{E:Value → Shared → Prop}{s:Shared}(hplain:args.any (·.1) = false)
  (h : wpAny (model prog w) A (evalArgs f true args []) (fun a s₁ => wpAny (model prog w) A (keeperOf f) (fun ζ s₂ => wpAny (model prog w) A (call f (first ++ a.pos) a.kw) Q E s₂) E s₁) E s) :
  wpAny (model prog w) A (callWith pos f first args []) Q E s := by
 unfold callWith
 refine wpAny_bind (wpAny_holding (wpAny_mono h (fun a s₁ h₁ => wpAny_bind (wpAny_standAt ?_)) fun ζ ζ x => x))
 have tail : ∀ {t : Sem Value} {s₂ : Shared}, wpAny (model prog w) A t Q E s₂ → wpAny (model prog w) A (t >>= fun r => holding [r] point >>= fun ζ => pure r) Q E s₂ :=
  fun ht => wpAny_bind (wpAny_mono ht (fun r s₂ hr => wpAny_bind (wpAny_holding (wpAny_point (wpAny_pure hr)))) fun ζ ζ x => x)
 simp -iota only [hplain, List.any_nil, Bool.or_false]
 refine wpAny_bind (wpAny_mono h₁ (fun kp s₂ h₂ => ?_) fun ζ ζ x => x)
 cases kp with
 | frame =>
  dsimp only
  split
  ·exact tail h₂
  ·exact tail (by unfold callMarked; exact wpAny_keep h₂)
 | boundFrame =>
  dsimp only
  split
  ·exact tail h₂
  ·exact tail (by unfold callMarked; exact wpAny_keep h₂)
 | machine => exact tail h₂
 | caller => exact tail (wpAny_operating h₂)
theorem EvA.call {x:Str}{np pos:Pos}{args:List Expr}{f:Value}{as:List Dv}{r:Dv}(hf:EvA prog w T A env G (.Name x np) (.v f))(ha:EvL prog w T A env G (backTo pos (starEach args env)) as)
  (hc : Fn prog w T A f as r) : EvA prog w T A env G (.Call (.Name x np) args [] pos) r := ⟨fun E s hp hv => by
 refine Call_Name rfl (wpAny_mono (hf.of E s hp hv) (fun f' s₁ k => ?_) fun ζ ζ x => x)
 obtain ⟨rfl, k⟩ := k
 refine Qbx ha.noStar (Qcz ha (T.kt hp k) (hv.kp k.kp) fun vs s₂ k2 hvs => ?_)
 refine wpAny_mono (hc.keeper E s₂ (T.kt hp (k.trans k2))) (fun ζ s₃ e => ?_) fun ζ ζ x => x
 subst e
 exact wpAny_mono (hc.of E s₃ vs (T.kt hp (k.trans k2)) hvs) (fun v s₄ k3 => ⟨k3.1, (k.trans k2).trans k3.2⟩) fun ζ ζ x => x⟩
structure Tn (gl bl : List (Str × Value)) (h : Heap) : Prop where
 g : ∃ mg, h.Ns mainGlobals mg ∧ (∀ x v, gl.lookup x = some v → mg x = some v) ∧ ∀ x v, bl.lookup x = some v → mg x = none
 b : ∃ mb, h.Ns builtinsNs mb ∧ ∀ x v, bl.lookup x = some v → mb x = some v
theorem Tn.kp {gl bl:List (Str × Value)}{h h':Heap}(k:∀ o, h.get? mainGlobals = some o → h'.get? mainGlobals = some o)(k':∀ o, h.get? builtinsNs = some o → h'.get? builtinsNs = some o)(t:Tn gl bl h) : Tn gl bl h' :=
 ⟨eEA (t.g) fun m a b => ⟨m, a.at' k, b⟩, eEA (t.b) fun m a b => ⟨m, a.at' k', b⟩⟩
theorem EvA.glob {gl bl:List (Str × Value)}{x:Str}{pos:Pos}(v:Value)(hP:∀ h, T.p h → Tn gl bl h)(hx:autoParam (env.kindOf x = some .globalImplicit) sK)(hv:autoParam (gl.lookup x = some v) sK)
  (hk : autoParam (env.scope.kind = .function) sK) (hg : autoParam (env.globals = mainGlobals) sK) (hd : autoParam ((x == ("__debug__" : Str)) = false) sK) : EvA prog w T A env G (.Name x pos) (.v v) := ⟨fun E s hp ζ => by
 refine Qpj ((hP _ hp).g) fun mg hn h1 ζ => ?_
 exact Name_function_global hk hx (loadGlobal_global (hg ▸ hn) (h1 x v hv) ⟨rfl, .refl s⟩) hd⟩
theorem EvA.bltn {gl bl:List (Str × Value)}{x:Str}{pos:Pos}(v:Value)(hP:∀ h, T.p h → Tn gl bl h)(hx:autoParam (env.kindOf x = some .globalImplicit) sK)(hv:autoParam (bl.lookup x = some v) sK)
  (hk : autoParam (env.scope.kind = .function) sK) (hg : autoParam (env.globals = mainGlobals) sK) (hb : autoParam (env.builtins = builtinsNs) sK) (hd : autoParam ((x == ("__debug__" : Str)) = false) sK) : EvA prog w T A env G (.Name x pos) (.v v) := ⟨fun E s hp ζ => by
 refine Qpj ((hP _ hp).g) fun mg hn ζ h1 => ?_
 refine eEA ((hP _ hp).b) fun mb hn' h2 => ?_
 exact Name_function_global hk hx (loadGlobal_builtin (hg ▸ hn) (h1 x v hv) (hb ▸ hn') (h2 x v hv) ⟨rfl, .refl s⟩) hd⟩
theorem TeA.cast {e:Expr}{b c:Bool}(x:TeA prog w T A env G e b)(h:b = c) : TeA prog w T A env G e c := h ▸ x
end
structure KtX (W : Addr → Prop) (s s' : Shared) : Prop where
 of : ∃ h' tk, s' = { s with heap := h', toks := tk } ∧ KpX W s.heap h'
theorem KtX.kp {W:Addr → Prop}{s s':Shared}(k:KtX W s s') : KpX W s.heap s'.heap := by obtain ⟨h, t, rfl, hk⟩ := k.of; exact hk
theorem KtX.refl (W:Addr → Prop)(s:Shared) : KtX W s s := ⟨s.heap, s.toks, rfl, .refl _⟩
theorem KtX.trans {W:Addr → Prop}{a b c:Shared}(x:KtX W a b)(y:KtX W b c) : KtX W a c := by
 refine Qfw (x.of) fun h t ρ0 hk => ?_
 subst ρ0
 refine Qfw (y.of) fun h' t' ρ1 hk' => ?_
 subst ρ1
 exact ⟨h', t', rfl, hk.trans hk'⟩
theorem Kt.x {W:Addr → Prop}{s s':Shared}(k:Kt s s') : KtX W s s' := by
 refine Qfw (k.of) fun h t ρ2 hk => ?_
 subst ρ2
 exact ⟨h, t, rfl, Kp.kpx hk⟩
noncomputable abbrev noW : Addr → Prop := fun ζ => False
theorem KtX.kt {s s':Shared}(k:KtX noW s s') : Kt s s' := by
 refine Qfw (k.of) fun h t ρ3 hk => ?_
 subst ρ3
 exact ⟨h, t, rfl, fun b o e => hk.kp b o (fun x => x) e⟩
noncomputable def OwnAt (X:Addr → Prop)(h:Heap)(L:Addr)(ds:List PyData) : Prop := ∃ vs, h.PlainList L vs ∧ RdAll X h ds vs.toList
noncomputable abbrev Own := Option (Addr × List PyData)
structure Fx (W : Addr → Prop) (T : Hp) (s₀ : Shared) (env : Env) (G : Gam) (O : Own) (s : Shared) : Prop where
 t : T.p s.heap
 kt : KtX W s₀ s
 wX : ∀ b, W b → T.X b
 lo : W env.locals ∨ ¬ Qaa s₀.heap env.locals
 loX : T.X env.locals
 cells : ∀ n c, env.cells.lookup n = some c → T.X c ∧ (W c ∨ ¬ Qaa s₀.heap c) ∧ c ≠ env.locals
 apart : env.cells.Pairwise fun x y => x.2 ≠ y.2
 ns : ∃ m, s.heap.Ns env.locals m ∧ ∀ x a, G.lookup x = some a → env.kindOf x = some .local → ∃ v, m x = some v ∧ a.p T.X s.heap v
 cell : ∀ n c, env.cells.lookup n = some c → ∃ v, s.heap.IsCell c v ∧ ∀ a, G.lookup n = some a → env.kindOf n = some .cell → ∃ v', v = some v' ∧ a.p T.X s.heap v'
 all : ∀ x a, G.lookup x = some a → env.kindOf x = some .local ∨ (env.kindOf x = some .cell ∧ (env.cells.lookup x).isSome = true)
 own : ∀ L ds, O = some (L, ds) → T.X L ∧ (W L ∨ ¬ Qaa s₀.heap L) ∧ OwnAt T.X s.heap L ds
section
variable {W : Addr → Prop} {T : Hp} {s₀ s s' : Shared} {env : Env} {G : Gam} {O : Own}
theorem Fx.vw (F:Fx W T s₀ env G O s) : Vw T.X env G s.heap := fun x a e => by
 rcases F.all x a e with hl | ⟨hl, hc⟩
 ·refine eEA (F.ns) fun m hn h => ?_
  refine eEA (h x a e hl) fun v hv hp => ?_
  exact ⟨v, .inl ⟨hl, m, hn, hv⟩, hp⟩
 ·refine eE (Option.isSome_iff_exists.mp hc) fun c hc => ?_
  refine eEA (F.cell x c hc) fun v hi h => ?_
  refine eEA (h a e hl) fun v' ρ4 hp => ?_
  subst ρ4
  exact ⟨v', .inr ⟨hl, c, hc, hi⟩, hp⟩
theorem Fx.but {Z:Addr → Prop}{h':Heap}{tk:Nat}(F:Fx W T s₀ env G O s)(k:KpX Z s.heap h')(hZ:∀ b, Z b → T.X b ∧ (¬ Qaa s₀.heap b ∨ W b) ∧ b ≠ env.locals ∧ (∀ n, env.cells.lookup n ≠ some b) ∧ ∀ ds, O ≠ some (b, ds)) :
  Fx W T s₀ env G O { s with heap := h', toks := tk } where
 t := T.mono _ _ (k.wider fun b hb => (hZ b hb).1) F.t
 kt := by
  refine Qfw (F.kt.of) fun h1 t1 e k1 => ?_
  subst e
  refine ⟨h', tk, rfl, ⟨fun b o hb e => ?_, fun b l => k.live b (k1.live b l)⟩⟩
  refine k.kp b o (fun hz => ?_) (k1.kp b o hb e)
  rcases (hZ b hz).2.1 with q | q
  ·exact q ⟨o, e⟩
  ·exact hb q
 wX := F.wX
 lo := F.lo
 loX := F.loX
 cells := F.cells
 apart := F.apart
 ns := eEA (F.ns) fun m hn h => ⟨m, hn.at' (fun o e => k.kp _ o (fun hz => (hZ _ hz).2.2.1 rfl) e), fun x a e hl => eEA (h x a e hl) fun v hv hp => ⟨v, hv, hp.kp (k.wider fun b hb => (hZ b hb).1)⟩⟩
 cell := fun n c hc => let ⟨v, ⟨o, ho, hd⟩, h⟩ := F.cell n c hc; ⟨v, ⟨o, k.kp _ o (fun hz => (hZ _ hz).2.2.2.1 n hc) ho, hd⟩, fun a e hl => eEA (h a e hl) fun v' e' hp => ⟨v', e', hp.kp (k.wider fun b hb => (hZ b hb).1)⟩⟩
 all := F.all
 own := fun L ds e => let ⟨h1, h2, vs, h3, h4⟩ := F.own L ds e; ⟨h1, h2, vs, h3.at (fun o q => k.kp _ o (fun hz => (hZ _ hz).2.2.2.2 ds e) q), h4.kp (k.wider fun b hb => (hZ b hb).1)⟩
theorem Fx.kept (F:Fx W T s₀ env G O s)(k:Kt s s') : Fx W T s₀ env G O s' := by
 refine Qfw (k.of) fun h t ρ5 hk => ?_
 subst ρ5
 exact F.but (Z := fun ζ => False) (Kp.kpx hk) fun ζ x => x.elim
theorem Fx.less {G':Gam}(F:Fx W T s₀ env G O s)(h:∀ x a, G'.lookup x = some a → G.lookup x = some a) : Fx W T s₀ env G' O s where
 t := F.t
 kt := F.kt
 wX := F.wX
 lo := F.lo
 loX := F.loX
 cells := F.cells
 apart := F.apart
 ns := eEA (F.ns) fun m hn h1 => ⟨m, hn, fun x a e hl => h1 x a (h x a e) hl⟩
 cell := fun n c hc => eEA (F.cell n c hc) fun v hi h1 => ⟨v, hi, fun a e hl => h1 a (h _ a e) hl⟩
 all := fun x a e => F.all x a (h x a e)
 own := F.own
theorem Fx.push {Y:Addr → Prop}{h':Heap}{tk:Nat}(F:Fx W T s₀ env G O s)(k:Kp s.heap h')(hY:∀ b, Y b → ¬ Qaa s.heap b)(hY':∀ b, Y b → Qaa h' b) : Fx W (T.push Y) s₀ env G O { s with heap := h', toks := tk } where
 t := Hp.push_p F.t hY k.kpx hY'
 kt := F.kt.trans ⟨h', tk, rfl, k.kpx⟩
 wX := fun b hb => .inl (F.wX b hb)
 lo := F.lo
 loX := .inl F.loX
 cells := fun n c hc => eA (F.cells n c hc) fun a b => ⟨.inl a, b⟩
 apart := F.apart
 ns := eEA (F.ns) fun m hn h => ⟨m, hn.keeps k, fun x a e hl => eEA (h x a e hl) fun v hv hp => ⟨v, hv, hp.to k.kpx fun b hb => hb.imp_right (hY b)⟩⟩
 cell := fun n c hc => eEA (F.cell n c hc) fun v hi h => ⟨v, hi.keeps k, fun a e hl => eEA (h a e hl) fun v' e' hp => ⟨v', e', hp.to k.kpx fun b hb => hb.imp_right (hY b)⟩⟩
 all := F.all
 own := fun L ds e => let ⟨h1, h2, vs, h3, h4⟩ := F.own L ds e; ⟨.inl h1, h2, vs, h3.at (fun o q => k _ o q), h4.to k.kpx fun b hb => hb.imp_right (hY b)⟩
theorem Fx.back {Y:Addr → Prop}(F:Fx W (T.push Y) s₀ env G O s)(h0:∀ b, W b → T.X b)(h1:T.X env.locals)(h2:∀ n c, env.cells.lookup n = some c → T.X c)(h3:∀ L ds, O = some (L, ds) → T.X L) : Fx W T s₀ env G O s where
 t := (T.push_le Y).p _ F.t
 kt := F.kt
 wX := h0
 lo := F.lo
 loX := h1
 cells := fun n c hc => ⟨h2 n c hc, (F.cells n c hc).2⟩
 apart := F.apart
 ns := eEA (F.ns) fun m hn h => ⟨m, hn, fun x a e hl => eEA (h x a e hl) fun v hv hp => ⟨v, hv, hp.less fun b hb => .inl hb⟩⟩
 cell := fun n c hc => eEA (F.cell n c hc) fun v hi h => ⟨v, hi, fun a e hl => eEA (h a e hl) fun v' e' hp => ⟨v', e', hp.less fun b hb => .inl hb⟩⟩
 all := F.all
 own := fun L ds e => let ⟨_, h2, vs, hp, h4⟩ := F.own L ds e; ⟨h3 L ds e, h2, vs, hp, h4.less fun b hb => .inl hb⟩
noncomputable def Fx.may (W:Addr → Prop)(env:Env)(O:Own) : Addr → Prop := fun b => W b ∨ b = env.locals ∨ (∃ n, env.cells.lookup n = some b) ∨ ∃ ds, O = some (b, ds)
theorem Fx.may_X (F:Fx W T s₀ env G O s) : ∀ b, Fx.may W env O b → T.X b := fun b hb => by
 rcases hb with hb | rfl | ⟨n, hc⟩ | ⟨ds, e⟩
 ·exact F.wX b hb
 ·exact F.loX
 ·exact (F.cells n b hc).1
 ·exact (F.own b ds e).1
theorem Fx.rebase (F:Fx W T s₀ env G O s) : Fx (Fx.may W env O) T s env G O s where
 t := F.t
 kt := .refl _ _
 wX := F.may_X
 lo := .inl (.inr (.inl rfl))
 loX := F.loX
 cells := fun n c hc => ⟨(F.cells n c hc).1, .inl (.inr (.inr (.inl ⟨n, hc⟩))), (F.cells n c hc).2.2⟩
 apart := F.apart
 ns := F.ns
 cell := F.cell
 all := F.all
 own := fun L ds e => ⟨(F.own L ds e).1, .inl (.inr (.inr (.inr ⟨ds, e⟩))), (F.own L ds e).2.2⟩
theorem Fx.unkt {s':Shared}(F:Fx W T s₀ env G O s)(k:KtX (Fx.may W env O) s s') : KtX W s₀ s' := by
 refine Qfw (F.kt.of) fun h1 t1 e k1 => ?_
 refine Qfw (k.of) fun h2 t2 e2 k2 => ?_
 have hd : ∀ b, Fx.may W env O b → ¬ W b → ¬ Qaa s₀.heap b := fun b hb hw => by
  rcases hb with hb | rfl | ⟨n, hc⟩ | ⟨ds, e⟩
  ·exact absurd hb hw
  ·exact F.lo.resolve_left hw
  ·exact (F.cells n b hc).2.1.resolve_left hw
  ·exact (F.own b ds e).2.1.resolve_left hw
 subst e
 subst e2
 exact ⟨h2, t2, rfl, fun b o hb e => k2.kp b o (fun q => hd b q hb ⟨o, e⟩) (k1.kp b o hb e), fun b l => k2.live b (k1.live b l)⟩
theorem Fx.unbase {G':Gam}{O':Own}(F:Fx W T s₀ env G O s){T':Hp}(F':Fx (Fx.may W env O) T' s env G' O' s')(hW:∀ b, W b → T'.X b)(hO:∀ L ds, O' = some (L, ds) → ∃ ds', O = some (L, ds')) : Fx W T' s₀ env G' O' s' where
 t := F'.t
 kt := F.unkt F'.kt
 wX := hW
 lo := F.lo
 loX := F'.loX
 cells := fun n c hc => ⟨(F'.cells n c hc).1, (F.cells n c hc).2⟩
 apart := F.apart
 ns := F'.ns
 cell := F'.cell
 all := F'.all
 own := fun L ds e => eE (hO L ds e) fun ds' e' => ⟨(F'.own L ds e).1, (F.own L ds' e').2.1, (F'.own L ds e).2.2⟩
theorem Qak {G:Gam}{x:Str}{a:Dv} : List.lookup x ((x, a) :: G) = some a := by rw [List.lookup_cons]; simp
theorem Qaz {G:Gam}{x y:Str}{a:Dv}(h:y ≠ x) : List.lookup y ((x, a) :: G) = G.lookup y := by
 rw [List.lookup_cons]
 have : (y == x) = false := by simpa using h
 rw [this]
theorem Qla {h:Heap}{a b:Addr} {m} {v}(hn:h.Ns a m)(hc:h.PlainList b v) : b ≠ a := by
 rintro rfl
 refine Qgz (hn) fun o es ep e hd ζ => ?_
 refine eE (hc) fun n e' => ?_
 rw [e] at e'; cases e'; cases hd
theorem Qlz {h:Heap}{a b:Addr} {m} {v}(hn:h.IsCell a m)(hc:h.PlainList b v) : b ≠ a := by
 rintro rfl
 refine eEA (hn) fun o e hd => ?_
 refine eE (hc) fun n e' => ?_
 rw [e] at e'; cases e'; cases hd
end
section
variable {prog : Program} {w : World} {W : Addr → Prop} {T : Hp} {A : Around} {env : Env} {E : Value → Shared → Prop} {s₀ s : Shared} {G : Gam} {O : Own}
theorem Ns.live {h:Heap} {a m}(hn:h.Ns a m) : Qaa h a := let ⟨o, _, _, e, _⟩ := hn; ⟨o, e⟩
theorem Cell.live {h:Heap} {a m}(hn:h.IsCell a m) : Qaa h a := eEA (hn) fun o e ζ => ⟨o, e⟩
theorem KtX.change {W:Addr → Prop}{s₀ s:Shared}{L:Addr}{h':Heap}{tk:Nat}(k:KtX W s₀ s)(hL:W L ∨ ¬ Qaa s₀.heap L)(hs:Heap.SameBut L s.heap h')(hl:Qaa h' L) : KtX W s₀ { s with heap := h', toks := tk } := by
 refine Qfw (k.of) fun h₁ t e kw => ?_
 subst e
 refine ⟨h', tk, rfl, ⟨fun b o hb e => ?_, fun b l => ?_⟩⟩
 ·have : b ≠ L := fun q => hL.elim (fun z => hb (q ▸ z)) fun z => z (q ▸ ⟨o, e⟩)
  exact (hs.2 b this).trans (kw.kp b o hb e)
 ·by_cases hb : b = L
  ·exact hb ▸ hl
  ·refine eE (kw.live b l) fun o e => ?_
   exact ⟨o, (hs.2 b hb).trans e⟩
theorem Fx.store {x:Str}{v:Value}(a:Dv){Q:Unit → Shared → Prop}(F:Fx W T s₀ env G O s)(hk:env.scope.kind = .function)
  (hx : env.kindOf x = some .local ∨ (env.kindOf x = some .cell ∧ (env.cells.lookup x).isSome = true)) (hv : a.p T.X s.heap v)
  (h : ∀ s', Fx W T s₀ env ((x, a) :: G) O s' → Q () s') : wpAny (model prog w) A (storeName env x v) Q E s := by
 rcases hx with hl | ⟨hl, hc⟩
 ·refine eEA (F.ns) fun m hn hm => ?_
  refine wpAny_storeName_local hl hn (fun h' hn' hs' => ?_) (by rw [hk]; rfl)
  have st : KpX T.X s.heap h' := KpX.sameBut F.loX (Ns.live hn') hs'
  refine h _ ⟨T.mono _ _ st F.t, F.kt.change F.lo hs' (Ns.live hn'), F.wX, F.lo, F.loX, F.cells, F.apart, ⟨_, hn', ?_⟩, ?_, ?_, ?_⟩
  ·intro y b e hyl
   by_cases hy : y = x
   ·subst hy
    rw [Qak] at e; cases e
    exact ⟨v, by simp, hv.kp st⟩
   ·rw [Qaz hy] at e
    refine eEA (hm y b e hyl) fun v' hv' hp => ?_
    exact ⟨v', by simp [hy, hv'], hp.kp st⟩
  ·intro n c hcl
   refine eEA (F.cell n c hcl) fun v' hi hp => ?_
   refine ⟨v', hi.sameBut hs' (F.cells n c hcl).2.2, fun b e hyl => ?_⟩
   have hy : n ≠ x := by rintro rfl; rw [hl] at hyl; cases hyl
   rw [Qaz hy] at e
   refine eEA (hp b e hyl) fun v'' e' hp' => ?_
   exact ⟨v'', e', hp'.kp st⟩
  ·intro y b e
   by_cases hy : y = x
   ·subst hy; exact .inl hl
   ·rw [Qaz hy] at e; exact F.all y b e
  ·intro L ds e
   refine QDx (F.own L ds e) fun h1 h2 vs h3 h4 => ?_
   exact ⟨h1, h2, vs, h3.at (fun o q => (hs'.2 _ (Qla hn h3)).trans q), h4.kp st⟩
 ·refine eE (Option.isSome_iff_exists.mp hc) fun c hc => ?_
  refine eEA (F.cell x c hc) fun v₀ hi ζ => ?_
  refine eAA (F.cells x c hc) fun hcX hcl hcL => ?_
  refine wpAny_storeName_cell hk hl hc hi fun h' hi' hs' => ?_
  have st : KpX T.X s.heap h' := KpX.sameBut hcX (Cell.live hi') hs'
  refine h _ ⟨T.mono _ _ st F.t, F.kt.change (tk := s.toks) hcl hs' (Cell.live hi'), F.wX, F.lo, F.loX, F.cells, F.apart, ?_, ?_, ?_, ?_⟩
  ·refine eEA (F.ns) fun m hn hm => ?_
   refine ⟨m, hn.sameBut hs' (Ne.symm hcL), fun y b e hyl => ?_⟩
   have hy : y ≠ x := by rintro rfl; rw [hl] at hyl; cases hyl
   rw [Qaz hy] at e
   refine eEA (hm y b e hyl) fun v' hv' hp => ?_
   exact ⟨v', hv', hp.kp st⟩
  ·intro n c' hcl
   by_cases hn : n = x
   ·subst hn
    rw [hc] at hcl; cases hcl
    refine ⟨_, hi', fun b e ζ => ?_⟩
    rw [Qak] at e; cases e
    exact ⟨v, rfl, hv.kp st⟩
   ·refine eEA (F.cell n c' hcl) fun v' hi2 hp => ?_
    refine ⟨v', hi2.sameBut hs' fun e => hn (name_of_addr F.apart (mem_of_lookup hcl) (e ▸ mem_of_lookup hc)), fun b e hyl => ?_⟩
    rw [Qaz hn] at e
    refine eEA (hp b e hyl) fun v'' e' hp' => ?_
    exact ⟨v'', e', hp'.kp st⟩
  ·intro y b e
   by_cases hy : y = x
   ·subst hy; exact .inr ⟨hl, by rw [hc]; rfl⟩
   ·rw [Qaz hy] at e; exact F.all y b e
  ·intro L ds e
   obtain ⟨h1, h2, vs, h3, h4⟩ := F.own L ds e
   exact ⟨h1, h2, vs, h3.at (fun o q => (hs'.2 _ (Qlz hi h3)).trans q), h4.kp st⟩
noncomputable def Hp.see (T:Hp)(L:Addr)(ds:List PyData) : Hp where
 p h := T.p h ∧ OwnAt T.X h L ds
 X b := T.X b ∧ b ≠ L
 mono h h' k x := ⟨T.mono h h' (k.wider fun b hb => hb.1) x.1, eEA (x.2) fun vs h3 h4 => ⟨vs, h3.at (fun o q => k.kp _ o (fun hz => hz.2 rfl) q), h4.kp (k.wider fun b hb => hb.1)⟩⟩
 live h x b hb := T.live h x.1 b hb.1
structure EvF (prog : Program) (w : World) (T : Hp) (A : Around) (env : Env) (G : Gam) (O : Own) (e : Expr) (a : Dv) : Prop where
 of : ∀ E s, T.p s.heap → Vw T.X env G s.heap → (∀ L ds, O = some (L, ds) → OwnAt T.X s.heap L ds) → wpAny (model prog w) A (eval e env) (fun v s' => a.p T.X s'.heap v ∧ Kt s s') E s
structure TeF (prog : Program) (w : World) (T : Hp) (A : Around) (env : Env) (G : Gam) (O : Own) (e : Expr) (b : Bool) : Prop where
 of : ∀ E s, T.p s.heap → Vw T.X env G s.heap → (∀ L ds, O = some (L, ds) → OwnAt T.X s.heap L ds) → wpAny (model prog w) A (isTrue e env (eval e env)) (fun r s' => r = b ∧ Kt s s') E s
theorem EvA.f {e:Expr}{a:Dv}(h:EvA prog w T A env G e a) : EvF prog w T A env G O e a := ⟨fun E s hp hv ζ => h.of E s hp hv⟩
theorem TeA.f {e:Expr}{b:Bool}(h:TeA prog w T A env G e b) : TeF prog w T A env G O e b := ⟨fun E s hp hv ζ => h.of E s hp hv⟩
noncomputable def scal : PyData → Bool
 | .list _ => false
 | .tuple _ => false
 | .dict _ => false
 | _ => true
theorem scal_to {X Y:Addr → Prop}{h:Heap}{v:Value} : ∀ {d:PyData}, scal d = true → Rd X h d v → Rd Y h d v
 | .none, _, r => r
 | .bool _, _, r => r
 | .int _, _, r => r
 | .str _, _, r => r
theorem EvA.see {e:Expr}{d:PyData}{L:Addr}{ds:List PyData}(h:EvA prog w (T.see L ds) A env G e (.d d))(hd:autoParam (scal d = true) sR) : EvF prog w T A env G (some (L, ds)) e (.d d) :=
 ⟨fun E s hp hv ho => wpAny_mono (h.of E s ⟨hp, ho L ds rfl⟩ (hv.less fun b hb => hb.1)) (fun v s' k => ⟨scal_to hd k.1, k.2⟩) fun ζ ζ x => x⟩
theorem TeA.see {e:Expr}{b:Bool}{L:Addr}{ds:List PyData}(h:TeA prog w (T.see L ds) A env G e b) : TeF prog w T A env G (some (L, ds)) e b :=
 ⟨fun E s hp hv ho => wpAny_mono (h.of E s ⟨hp, ho L ds rfl⟩ (hv.less fun b hb => hb.1)) (fun v s' k => k) fun ζ ζ x => x⟩
theorem EvA.own {x:Str}{pos:Pos}{L:Addr}{ds:List PyData}(h:EvA prog w (T.see L ds) A env G (.Name x pos) (.v (.ref L))) : EvA prog w (T.see L ds) A env G (.Name x pos) (.d (.list ds)) :=
 ⟨fun E s hp hv => wpAny_mono (h.of E s hp hv) (fun v s' k => by
  obtain ⟨e, k⟩ := k
  subst e
  obtain ⟨vs, h3, h4⟩ := ((T.see L ds).kt hp k).2
  exact ⟨Dv.p.list (fun hz => hz.2 rfl) h3.isList (h4.less fun b hb => hb.1), k⟩) fun ζ ζ x => x⟩
structure Go (prog : Program) (w : World) (A : Around) (env : Env) (st : List Stmt) (R : Flow → Shared → Prop) (s : Shared) : Prop where
 of : wpAny (model prog w) A (execs st env) R (fun ζ ζ => False) s
noncomputable def Rn (prog:Program)(w:World)(A:Around)(env:Env)(rest:List Stmt)(R:Flow → Shared → Prop) : Flow → Shared → Prop
 | .next, s => Go prog w A env rest R s
 | f, s => R f s
noncomputable def Rf (nx bk:Shared → Prop)(R:Flow → Shared → Prop) : Flow → Shared → Prop
 | .next, s => nx s
 | .cont, s => nx s
 | .brk, s => bk s
 | .ret v, s => R (.ret v) s
noncomputable def FnAt (h:Heap)(a:Addr)(fd:FuncData) : Prop := ∃ o, h.get? a = some o ∧ o.data = .func fd ∧ h.CodeRec fd.code fd.qualname
theorem FnAt.kp {h h':Heap}{a:Addr}{fd:FuncData}(k:Kp h h')(x:FnAt h a fd) : FnAt h' a fd := Qpj (x) fun o h1 h2 h3 => ⟨o, k _ _ h1, h2, h3.keeps k⟩
theorem Qmx {kindOf:Str → Option NameKind}{n:Str}{v:Value}{r:List (Str × Value)}{m:Str → Option Value} : bindL kindOf ((n, v) :: r) m = bindL kindOf r (if kindOf n = some .local then fun y => if y = n then some v else m y else m) := rfl
theorem Qrk {kindOf:Str → Option NameKind}{n:Str}{v:Value}{r:List (Str × Value)}{m:Str → Option Value} : bindC kindOf ((n, v) :: r) m = bindC kindOf r (if kindOf n = some .local then m else fun y => if y = n then some v else m y) := rfl
theorem QIb {kindOf:Str → Option NameKind}{x:Str} : ∀ (binds:List (Str × Value))(m:Str → Option Value), (∀ p ∈ binds, p.1 ≠ x) → bindL kindOf binds m x = m x
 | [], _, _ => rfl
 | (n, v) :: r, m, h => by
  rw [Qmx, QIb r _ fun p hp => h p (.tail _ hp)]
  have : x ≠ n := Ne.symm (h (n, v) (.head _))
  split <;> simp [this]
theorem QIc {kindOf:Str → Option NameKind}{x:Str} : ∀ (binds:List (Str × Value))(m:Str → Option Value), (∀ p ∈ binds, p.1 ≠ x) → bindC kindOf binds m x = m x
 | [], _, _ => rfl
 | (n, v) :: r, m, h => by
  rw [Qrk, QIc r _ fun p hp => h p (.tail _ hp)]
  have : x ≠ n := Ne.symm (h (n, v) (.head _))
  split <;> simp [this]
theorem Qex {X:Addr → Prop}{kindOf:Str → Option NameKind}{h:Heap} : ∀ (names:List Str)(vals:List Value)(as:List Dv)(m cm:Str → Option Value), names.Nodup → DvAll X h as vals →
  ∀ x a, (names.zip as).lookup x = some a → (kindOf x = some .local → ∃ v, bindL kindOf (names.zip vals) m x = some v ∧ a.p X h v) ∧ (¬ kindOf x = some .local → ∃ v, bindC kindOf (names.zip vals) cm x = some v ∧ a.p X h v)
 | [], _, _, _, _, _, _, x, a, e => by simp at e
 | n :: names, vals, [], _, _, _, _, x, a, e => by simp at e
 | n :: names, vals, b :: as, m, cm, nd, ha, x, a, e => by
  obtain ⟨v, vals', rfl, hb, ha⟩ := ha
  have nd' := List.nodup_cons.mp nd
  simp only [List.zip_cons_cons] at e ⊢
  by_cases hx : x = n
  ·subst hx
   rw [Qak] at e; cases e
   have off : ∀ p ∈ names.zip vals', p.1 ≠ x := fun p hp he => nd'.1 (he ▸ (List.of_mem_zip (a := p.1) (b := p.2) hp).1)
   refine ⟨fun hl => ⟨v, ?_, hb⟩, fun hl => ⟨v, ?_, hb⟩⟩
   ·rw [Qmx, QIb _ _ off, if_pos hl]; simp
   ·rw [Qrk, QIc _ _ off, if_neg hl]; simp
  ·rw [Qaz hx] at e
   rw [Qmx, Qrk]
   exact Qex names vals' as _ _ nd'.2 ha x a e
noncomputable def Qba (env:Env) : Addr → Prop := fun b => b = env.locals ∨ ∃ n, env.cells.lookup n = some b
theorem fn_enter {a:Addr}{fd:FuncData}{body:List Stmt}{vals:List Value}{names:List Str}{as:List Dv}{r:Dv}{n:Nat}(hf:FnAt s.heap a fd)(hA:OkA A (n + 1))(hlim:s.heap.NoLimit)(ht:T.p s.heap)(hW:∀ b, W b → T.X b)(ha:DvAll T.X s.heap as vals)
  (hbody : fd.body = .stmts body) (hbind : bindArgs fd ⟨vals, []⟩ = pure (names.zip vals)) (hnd : names.Nodup) (hclo : fd.closure = []) (hlen : names.length = as.length)
  (hkind : ∀ x ∈ names, fd.scope.names.lookup x = some .local ∨ fd.scope.names.lookup x = some .cell)
  (hco : fd.scope.isCoroutine = false) (hgen : fd.scope.isGenerator = false) (hk : fd.scope.kind = .function)
  (h : ∀ s₁, Fx W (T.push (Qba (callEnvC fd s.heap.objs.size a))) s (callEnvC fd s.heap.objs.size a) (names.zip as) none s₁ → OkA (A.deeper (callEnvC fd s.heap.objs.size a)) n →
   Go prog w (A.deeper (callEnvC fd s.heap.objs.size a)) (callEnvC fd s.heap.objs.size a) body (fun f s' => r.p T.X s'.heap (match f with | .ret v => v | _ => .none) ∧ KtX W s s') s₁) :
  wpAny (model prog w) A (call (.ref a) vals) (fun v s' => r.p T.X s'.heap v ∧ KtX W s s') E s := by
 refine Qpj (hf) fun o ho hdata hcd => ?_
 have hcells : ∀ x, fd.scope.names.lookup x = some .cell → ((cellsFrom (s.heap.objs.size + 1) fd.scope.names []).lookup x).isSome = true := fun x hx => PySem.W.cellsFrom_some _ _ _ (.inl hx)
 refine wpAny_call (codeAny_call_cells hA.dline ho hdata hlim hcd hbody hbind hclo (fun x hx => ?_) (fun s₁ I => ?_) hco hgen hk)
 ·have hm : x.1 ∈ names := (List.of_mem_zip (a := x.1) (b := x.2) hx).1
  rcases hkind _ hm with q | q
  ·exact .inl q
  ·exact .inr ⟨q, hcells _ q⟩
 ·have hlo : s.heap.objs.size ≤ (callEnvC fd s.heap.objs.size a).locals := I.toInCall.fresh
  have habove : ∀ n c, (callEnvC fd s.heap.objs.size a).cells.lookup n = some c → (callEnvC fd s.heap.objs.size a).locals < c := fun n c hc => I.above n c (mem_of_lookup hc)
  have hYn : ∀ b, Qba (callEnvC fd s.heap.objs.size a) b → ¬ Qaa s.heap b := fun b hb => by
   rcases hb with rfl | ⟨n, hc⟩
   ·exact Qax hlo
   ·exact Qax (Nat.le_of_lt (Nat.lt_of_le_of_lt hlo (habove n b hc)))
  have kp : Kp s.heap s₁.heap := I.toInCall.keep
  have F : Fx W (T.push (Qba (callEnvC fd s.heap.objs.size a))) s (callEnvC fd s.heap.objs.size a) (names.zip as) none s₁ := by
   refine ⟨Hp.push_p ht hYn kp.kpx fun b hb => ?_, ?_, fun b hb => .inl (hW b hb), .inr (Qax hlo), .inr (.inl rfl), fun n c hc => ⟨.inr (.inr ⟨n, hc⟩), .inr (hYn c (.inr ⟨n, hc⟩)), Nat.ne_of_gt (habove n c hc)⟩, I.apart, ⟨_, I.toInCall.ns, fun x b e hl => ?_⟩, fun x c hc => ⟨_, I.cell x c hc, fun b e hl => ?_⟩, fun x b e => ?_, fun L ds e => nomatch e⟩
   ·rcases hb with rfl | ⟨n, hc⟩
    ·exact Ns.live I.toInCall.ns
    ·exact Cell.live (I.cell n b hc)
   ·refine Qfw (I.done) fun h' tk e k => ?_
    subst e
    exact ⟨h', tk, rfl, Kp.kpx k⟩
   ·obtain ⟨v, hv, hp⟩ := (Qex (kindOf := (callEnvC fd s.heap.objs.size a).kindOf) names vals as _ (fun ζ => none) hnd ha x b e).1 hl
    exact ⟨v, hv, hp.to kp.kpx fun b hb => hb.imp_right (hYn b)⟩
   ·obtain ⟨v, hv, hp⟩ := (Qex (kindOf := (callEnvC fd s.heap.objs.size a).kindOf) names vals as (fun ζ => none) _ hnd ha x b e).2 (by rw [hl]; decide)
    exact ⟨v, hv, hp.to kp.kpx fun b hb => hb.imp_right (hYn b)⟩
   ·have hm : x ∈ names := (List.of_mem_zip (a := x) (b := b) (mem_of_lookup e)).1
    rcases hkind _ hm with q | q
    ·exact .inl q
    ·exact .inr ⟨q, hcells _ q⟩
  exact wpAny_mono (h s₁ F hA.deeper).of (fun f s' x => x) fun ζ ζ x => x.elim
end
section
variable {prog : Program} {w : World} {W : Addr → Prop} {T : Hp} {A : Around} {env : Env} {E : Value → Shared → Prop} {s₀ s : Shared} {G : Gam} {O : Own} {R : Flow → Shared → Prop} {rest : List Stmt}
theorem Fx.ow (F:Fx W T s₀ env G O s) : ∀ L ds, O = some (L, ds) → OwnAt T.X s.heap L ds := fun L ds e => (F.own L ds e).2.2
theorem QEj {e:Expr}{pos:Pos}(a:Dv)(F:Fx W T s₀ env G O s)(he:EvF prog w T A env G O e a)(h:∀ v s', a.p T.X s'.heap v → KtX W s₀ s' → R (.ret v) s') :
  Go prog w A env (.Return (some e) pos :: rest) R s :=
 ⟨wpAny_execs_cons (wpAny_Return_some (wpAny_mono (he.of _ s F.t F.vw F.ow) (fun v s' k => h v s' k.1 (F.kt.trans k.2.x)) fun ζ ζ x => x))⟩
theorem Qcx {x:Str}{e:Expr}{pos pos':Pos}(a:Dv)(F:Fx W T s₀ env G O s)(he:EvF prog w T A env G O e a)
  (h : ∀ s', Fx W T s₀ env ((x, a) :: G) O s' → Go prog w A env rest R s') (hk : autoParam (env.scope.kind = .function) sK)
  (hx : autoParam (env.kindOf x = some .local ∨ (env.kindOf x = some .cell ∧ (env.cells.lookup x).isSome = true)) sO)
  (hs : autoParam (swapsWith e (some (.Name x pos')) pos.line env = pure false) sK) : Go prog w A env (.Assign [.Name x pos'] e pos :: rest) R s :=
 ⟨wpAny_execs_cons (wpAny_Assign_Name (wpAny_mono (he.of _ s F.t F.vw F.ow) (fun v s' k => (F.kept k.2).store a hk hx k.1 fun s'' F' => (h s'' F').of) fun ζ ζ x => x) hs)⟩
theorem Qiy {test:Expr}{body orelse:List Stmt}{pos:Pos}(b:Bool)(F:Fx W T s₀ env G O s)(ht:TeF prog w T A env G O test b)
  (h1 : b = true → ∀ s', Fx W T s₀ env G O s' → Go prog w A env body (Rn prog w A env rest R) s')
  (h2 : b = false → ∀ s', Fx W T s₀ env G O s' → Go prog w A env orelse (Rn prog w A env rest R) s') : Go prog w A env (.If test body orelse pos :: rest) R s := by
 refine ⟨wpAny_execs_cons (wpAny_If (wpAny_mono (ht.of _ s F.t F.vw F.ow) (fun r s' k => ?_) fun ζ ζ x => x))⟩
 obtain ⟨rfl, k⟩ := k
 cases r with
 | true =>
  refine wpAny_mono (h1 rfl s' (F.kept k)).of (fun f s'' q => ?_) fun ζ ζ x => x.elim
  cases f <;> first | exact q.of | exact q
 | false =>
  refine wpAny_mono (h2 rfl s' (F.kept k)).of (fun f s'' q => ?_) fun ζ ζ x => x.elim
  cases f <;> first | exact q.of | exact q
theorem Qaw (h:R .next s) : Go prog w A env [] R s := ⟨by rw [show execs [] env = pure .next from rfl]; exact wpAny_pure h⟩
theorem st_continue {pos:Pos}(h:R .cont s) : Go prog w A env (.Continue pos :: rest) R s := ⟨wpAny_execs_cons (wpAny_Continue h)⟩
theorem Qsb {pos:Pos}(h:R .brk s) : Go prog w A env (.Break pos :: rest) R s := ⟨wpAny_execs_cons (wpAny_Break h)⟩
end
structure ItOk (prog : Program) (w : World) (T : Hp) (A : Around) (xs : List PyData) (h₀ : Heap) (it : Value) (s₂ : Shared) (I : Addr) (fp wr : List Addr) (P : Nat → Value → Prop) (St : Nat → Heap → Prop) (h₁ : Heap) : Prop where
 it : it = .ref I
 W : Walks prog w A I fp wr xs.length P St
 st : St 0 s₂.heap
 live : ∀ i h, St i h → ∀ b ∈ fp, Qaa h b
 fresh : ∀ b ∈ wr, ¬ Qaa h₁ b
 fix : ∀ b ∈ fp, b ∈ wr ∨ ¬ T.X b
 k₁ : Kp h₀ h₁
 k₂ : Kp h₁ s₂.heap
 rd : ∀ i v d, P i v → xs[i]? = some d → Rd T.X h₁ d v
structure EvIt (prog : Program) (w : World) (T : Hp) (A : Around) (env : Env) (G : Gam) (iter : Expr) (xs : List PyData) : Prop where
 of : ∀ E s, T.p s.heap → Vw T.X env G s.heap → wpAny (model prog w) A (eval iter env) (fun xv s₁ => wpAny (model prog w) A (pyIter xv) (fun it s₂ => Kt s s₂ ∧
  ∃ I fp wr P St h₁, ItOk prog w T A xs s.heap it s₂ I fp wr P St h₁) E s₁) E s
section
variable {prog : Program} {w : World} {T : Hp} {A : Around} {env : Env} {G : Gam}
theorem Qav (h:Heap)(o:Obj) : Kp h (h.push o) := fun ζ ζ e => Heap.get?_push_of_some _ e
theorem EvIt.list {iter:Expr}{xs:List PyData}{n:Nat}(ok:OkA A n)(he:EvA prog w T A env G iter (.d (.list xs))) : EvIt prog w T A env G iter xs := ⟨fun E s hp hv => by
 refine wpAny_mono (he.of E s hp hv) (fun v s₁ k => ?_) fun ζ ζ x => x
 obtain ⟨hd, k⟩ := k
 obtain ⟨a, vs, rfl, hx, hl, hr⟩ := hd.list_inv
 have hlt : a < s₁.heap.objs.size := eEA (hl) fun o e ζ => Heap.lt_size e
 refine wpAny_pyIter_list hl ⟨k.trans (Kt.mk' s₁ s₁.toks (Qav _ _)), s₁.heap.objs.size, [s₁.heap.objs.size, a], [s₁.heap.objs.size], (fun i v => vs[i]? = some v), (fun i h => h.IsListIter s₁.heap.objs.size a i ∧ h.IsList a vs), s₁.heap, ?_⟩
 have hlen : vs.size = xs.length := by have := hr.length; simpa using this
 have W := Walks.list (prog := prog) (w := w) (A := A) ok.handled s₁.heap.objs.size a (Nat.ne_of_lt hlt) vs
 rw [hlen] at W
 refine ⟨rfl, W, ⟨⟨_, Heap.get?_push_size _ rfl, rfl, rfl⟩, hl.push _⟩, ?_, ?_, ?_, k.kp, Qav _ _, ?_⟩
 ·intro i h κ0 b hb
  refine eA (κ0) fun ν0 ν1 => ?_
  obtain ⟨o, e, _⟩ := ν0
  obtain ⟨o', e', _⟩ := ν1
  rcases List.mem_cons.mp hb with rfl | hb
  ·exact ⟨o, e⟩
  ·rw [List.mem_singleton.mp hb]; exact ⟨o', e'⟩
 ·intro b hb; rw [List.mem_singleton.mp hb]; exact Qax (Nat.le_refl _)
 ·intro b hb
  rcases List.mem_cons.mp hb with rfl | hb
  ·exact .inl (.head _)
  ·rw [List.mem_singleton.mp hb]; exact .inr hx
 ·intro i v d hv hd
  refine eEA (hr.get i d hd) fun v' e r => ?_
  have : vs[i]? = some v' := by simpa using e
  rw [show vs[i]? = some v from hv] at this; cases this
  exact r⟩
theorem EvIt.tuple {iter:Expr}{xs:List PyData}{n:Nat}(ok:OkA A n)(he:EvA prog w T A env G iter (.d (.tuple xs))) : EvIt prog w T A env G iter xs := ⟨fun E s hp hv => by
 refine wpAny_mono (he.of E s hp hv) (fun v s₁ k => ?_) fun ζ ζ x => x
 obtain ⟨hd, k⟩ := k
 obtain ⟨a, vs, rfl, hx, hl, hr⟩ := hd.tuple_inv
 have hlt : a < s₁.heap.objs.size := eEA (hl) fun o e ζ => Heap.lt_size e
 refine wpAny_pyIter_tuple hl ⟨k.trans (Kt.mk' s₁ s₁.toks (Qav _ _)), s₁.heap.objs.size, [s₁.heap.objs.size, a], [s₁.heap.objs.size], (fun i v => vs[i]? = some v), (fun i h => h.IsTupleIter s₁.heap.objs.size a i ∧ h.IsTuple a vs), s₁.heap, ?_⟩
 have hlen : vs.size = xs.length := by have := hr.length; simpa using this
 have W := Walks.tuple (prog := prog) (w := w) (A := A) ok.handled s₁.heap.objs.size a (Nat.ne_of_lt hlt) vs
 rw [hlen] at W
 refine ⟨rfl, W, ⟨⟨_, Heap.get?_push_size _ rfl, rfl, rfl⟩, hl.push _⟩, ?_, ?_, ?_, k.kp, Qav _ _, ?_⟩
 ·intro i h κ1 b hb
  refine eA (κ1) fun ν2 ν3 => ?_
  obtain ⟨o, e, _⟩ := ν2
  obtain ⟨o', e', _⟩ := ν3
  rcases List.mem_cons.mp hb with rfl | hb
  ·exact ⟨o, e⟩
  ·rw [List.mem_singleton.mp hb]; exact ⟨o', e'⟩
 ·intro b hb; rw [List.mem_singleton.mp hb]; exact Qax (Nat.le_refl _)
 ·intro b hb
  rcases List.mem_cons.mp hb with rfl | hb
  ·exact .inl (.head _)
  ·rw [List.mem_singleton.mp hb]; exact .inr hx
 ·intro i v d hv hd
  refine eEA (hr.get i d hd) fun v' e r => ?_
  have : vs[i]? = some v' := by simpa using e
  rw [show vs[i]? = some v from hv] at this; cases this
  exact r⟩
structure TeL (prog : Program) (w : World) (T : Hp) (A : Around) (env : Env) (G : Gam) (ifs : List Expr) (b : Bool) : Prop where
 of : ∀ E s, T.p s.heap → Vw T.X env G s.heap → wpAny (model prog w) A (forIn ifs true fun c r => if r = true then do let ok ← isTrue c env (eval c env); pure (ForInStep.yield ok) else pure (ForInStep.yield r)) (fun r s' => r = b ∧ Kt s s') E s
theorem TeL.nil : TeL prog w T A env G [] true := ⟨fun E s ζ ζ => wpAny_tests_nil ⟨rfl, .refl s⟩⟩
theorem TeL.one {c:Expr}{b:Bool}(h:TeA prog w T A env G c b) : TeL prog w T A env G [c] b := ⟨fun E s hp hv => wpAny_tests_one (h.of E s hp hv)⟩
structure Takes (env : Env) (scope : Scope) (cl : List (Str × Addr)) (G Gf : Gam) : Prop where
 of : ∀ n a, Gf.lookup n = some a → G.lookup n = some a ∧ env.kindOf n = some .cell ∧ (relabel scope env).names.lookup n = some .cell ∧ cl.lookup n = env.cells.lookup n
theorem Qhz {α β:Type}(p:α → Bool)(f:α → β)(l:List α)(i:Nat)(v:α)(h:l[i]? = some v) : ((l.take (i + 1)).filter p).map f = ((l.take i).filter p).map f ++ (if p v then [f v] else []) := by
 rw [take_succ_filter p l i v h, List.map_append]
 split <;> simp
theorem QIy {use:Option (Value → Sem Unit)}{Q:Value → Shared → Prop}{E:Value → Shared → Prop}{s:Shared}{elt iter:Expr}{x:Str}{px:Pos}{ifs:List Expr}{scope:Scope}{pos:Pos}{xs:List PyData}{Gf:Gam}{n:Nat}(cl:List (Str × Addr))(p:PyData → Bool)(f:PyData → PyData)(ok:OkA A n)
  (hit : EvIt prog w T A env G iter xs) (hsz : xs.length ≤ sizeLine) (hG : Takes env scope cl G Gf)
  (ht : ∀ T' C d, T'.le T → d ∈ xs → TeL prog w T' A (compEnvC scope cl C env) ((x, .d d) :: Gf) ifs (p d))
  (he : ∀ T' C d, T'.le T → d ∈ xs → p d = true → EvA prog w T' A (compEnvC scope cl C env) ((x, .d d) :: Gf) elt (.d (f d)))
  (hclos : autoParam (closureFor scope env = pure cl) sK) (hcell : autoParam (∀ y ∈ scope.names, y.2 ≠ .cell) sD) (hkind : autoParam (scope.kind = .function) sK)
  (hnames : autoParam (∀ y ∈ scope.names, y.2 = .local → scope.names.lookup y.1 = some .local) sD) (hx : autoParam (scope.names.lookup x = some .local) sK)
  (hs : autoParam (∀ x, foldedSetIterable iter env x = pure x) sK) (hlot : autoParam (∀ it v, letOwnedTupleGo (.Name x px) it v = pure ()) sR)
  (hp : T.p s.heap) (hv : Vw T.X env G s.heap)
  (hfin : ∀ (D C : Addr) (h' : Heap) (tk : Nat) (m' : Str → Option Value) (ys : Array Value), ¬ Qaa s.heap D → ¬ Qaa s.heap C → D ≠ C → h'.Ns C m' → h'.PlainList D ys → RdAll (fun b => T.X b ∨ b = D ∨ b = C) h' ((xs.filter p).map f) ys.toList → Kp s.heap h' →
   compPost (model prog w) A E use Q (.ref D) C (.ok .next) { s with heap := h', toks := tk }) :
  wpAny (model prog w) A (comprehension (.ListComp elt [⟨.Name x px, iter, ifs, 0⟩] scope pos) scope env (firstIterPos [⟨.Name x px, iter, ifs, 0⟩] pos) (newList []) (firstAsync [⟨.Name x px, iter, ifs, 0⟩]) (firstIter [⟨.Name x px, iter, ifs, 0⟩] env) use) Q E s := by
 refine wpAny_comprehension_free (use := use) rfl hs hclos hkind hnames (wpAny_mono (hit.of E s hp hv) (fun xv s₁ h₁ => wpAny_mono h₁ (fun it s₂ h₂ => ?_) fun ζ ζ e => e) fun ζ ζ e => e)
 refine Qpy (h₂) fun ks I fp wr P St h₁ K => ?_
 obtain ⟨rfl, W, hst, hlv, hfr, hfx, k₁, k₂, hrd⟩ := K
 refine wpAny_newObj_type (wpAny_newFunctionEnv hcell (by intro y hy; simp at hy) (fun H₁ hns₁ hsb₁ => ?_) hkind)
 dsimp only at hns₁ hsb₁ ⊢
 generalize hH2 : s₂.heap.push { cls := .type "list", dict := none, data := .seq ([] : List Value).toArray } = H2 at hns₁ hsb₁ ⊢
 generalize hD : s₂.heap.objs.size = D at *
 generalize hC : H2.objs.size = C at *
 have hCD : C = D + 1 := by rw [← hC, ← hH2, Heap.size_push, hD]
 have hDC : D ≠ C := by lia
 have hDn : ¬ Qaa s₂.heap D := Qax (Nat.le_of_eq hD)
 have hCn : ¬ Qaa s₂.heap C := Qax (by lia)
 have hDf : D ∉ fp := fun hm => hDn (hlv _ _ hst D hm)
 have hCf : C ∉ fp := fun hm => hCn (hlv _ _ hst C hm)
 have hCw : C ∉ wr := fun h => hCf (W.sub _ h)
 have hDw : D ∉ wr := fun h => hDf (W.sub _ h)
 have old : Kp s₂.heap H₁ := fun b o e => hsb₁.extBut b o (fun q => hCn (q ▸ ⟨o, e⟩)) (Heap.get?_push_of_some _ (hH2 ▸ Heap.get?_push_of_some _ e))
 have hacc : H₁.PlainList D #[] := ⟨_, hsb₁.extBut _ _ hDC (Heap.get?_push_of_some _ (hH2 ▸ hD ▸ Heap.get?_push_size _ rfl))⟩
 have hst₁ : St 0 H₁ := W.frame _ _ _ hst fun b ζ o e => old b o e
 let Y : Addr → Prop := fun b => b ∈ wr ∨ b = D ∨ b = C
 have hYn : ∀ b, Y b → ¬ Qaa h₁ b := fun b hb => by
  rcases hb with hb | rfl | rfl
  ·exact hfr b hb
  ·exact fun ⟨o, e⟩ => hDn ⟨o, k₂ _ _ e⟩
  ·exact fun ⟨o, e⟩ => hCn ⟨o, k₂ _ _ e⟩
 have hTle := Hp.push_le T Y
 have hp₁ : T.p h₁ := T.mono _ _ k₁.kpx hp
 let cenv : Env := compEnvC scope cl C env
 have hcl : cenv.locals = C := rfl
 have vw : ∀ H m' i v d, Kp h₁ H → H.Ns C m' → m' x = some v → P i v → xs[i]? = some d → Vw (T.push Y).X cenv ((x, .d d) :: Gf) H := by
  intro H m' i v d kH hn hmx hPv hd y a e
  by_cases hy : y = x
  ·subst hy
   rw [Qak] at e; cases e
   exact ⟨v, .inl ⟨lookup_relabel_local hx, m', hn, hmx⟩, (hrd i v d hPv hd).to kH.kpx fun b hb => hb.imp_right (hYn b)⟩
  ·rw [Qaz hy] at e
   refine Qwb (hG.of y a e) fun q1 q2 q3 q4 => ?_
   refine eEA (hv y a q1) fun u hu ha => ?_
   rcases hu with ⟨hl, _⟩ | ⟨_, c, hc, hi⟩
   ·rw [q2] at hl; cases hl
   ·exact ⟨u, .inr ⟨q3, c, q4.trans hc, hi.keeps (k₁.trans kH)⟩, ha.to (k₁.trans kH).kpx fun b hb => hb.imp_right fun z l => hYn b z (eE (l) fun o e => ⟨o, k₁ b o e⟩)⟩
 have tle : (T.push Y).le T := hTle
 have loop : ∀ (RR : Result → Shared → Prop) tk₀, (∀ h' tk m' ys, h'.Ns C m' → h'.PlainList D ys → RdAll (T.push Y).X h' ((xs.filter p).map f) ys.toList → Kp h₁ h' → RR (.ok .next) { s₂ with heap := h', toks := tk }) →
   codeAny (model prog w) A (.compLoop (.ListComp elt [⟨.Name x px, iter, ifs, 0⟩] scope pos) 0 (.ref I) (.ref D) cenv) RR { s₂ with heap := H₁, toks := tk₀ } := by
  intro RR tk₀ hRR
  refine codeAny_compLoop_tests
   (fun k s' => ∃ i H tk m' ys, s' = { s₂ with heap := H, toks := tk } ∧ i ≤ xs.length ∧ k = xs.length + 1 - i ∧ St i H ∧ H.PlainList D ys ∧ H.Ns C m' ∧ RdAll (T.push Y).X H (((xs.take i).filter p).map f) ys.toList ∧
    (T.push Y).p H ∧ Kp h₁ H) ?_ (xs.length + 1)
   ⟨0, H₁, tk₀, _, #[], rfl, Nat.zero_le _, rfl, hst₁, hacc, hns₁, by simpa using RdAll.nil, Hp.push_p hp₁ hYn (k₂.trans old).kpx ?_, k₂.trans old⟩ (fun v => hlot _ v)
  ·intro k s' κ2
   refine Qmc κ2 fun i H tk m' ys e1 hi e2 hSt hacc' hn' hys hpT hkp => ?_
   subst e1
   subst e2
   have step : ∀ {H H' : Heap}, KpX (T.push Y).X H H' → (T.push Y).p H → (T.push Y).p H' := fun k q => (T.push Y).mono _ _ k q
   by_cases hlt : i < xs.length
   ·have hd : xs[i]? = some xs[i] := List.getElem?_eq_getElem hlt
    have hdm : xs[i] ∈ xs := List.getElem_mem hlt
    refine W.item i _ _ _ hlt hSt fun v h1 tk1 hPv hst1 hk1 => ?_
    have l1 : KpX (T.push Y).X H h1 := ⟨fun b o hb e => hk1 b o (fun hw => hb (.inr (.inl hw))) e, fun b l => by
     by_cases hb : b ∈ wr
     ·exact hlv _ _ hst1 b (W.sub b hb)
     ·exact eE (l) fun o e => ⟨o, hk1 b o hb e⟩⟩
    have kp1 : Kp h₁ h1 := fun b o e => hk1 b o (fun hw => hfr b hw ⟨o, e⟩) (hkp b o e)
    refine wpAny_assign_Name (wpAny_storeName_local (lookup_relabel_local hx) (hn'.at' fun o e => hk1 _ o hCw e) (fun h2 hn2 hs2 => ?_) (stq hkind))
    have hn2' : h2.Ns C (fun y => if y = x then some v else m' y) := hn2
    have hs2' : Heap.SameBut C h1 h2 := hs2
    have l2 : KpX (T.push Y).X h1 h2 := KpX.sameBut (.inr (.inr (.inr rfl))) (Ns.live hn2') hs2'
    have kp2 : Kp h₁ h2 := fun b o e => (hs2'.2 b (fun q => hCn (q ▸ let e' := k₂ _ _ e; ⟨o, e'⟩))).trans (kp1 b o e)
    have hst2 : St (i + 1) h2 := W.frame _ _ _ hst1 fun b hb o e => (hs2'.2 b (fun h => hCf (h ▸ hb))).trans e
    have hacc2 : h2.PlainList D ys := hacc'.at fun o e => (hs2'.2 _ hDC).trans (hk1 _ o hDw e)
    have pT2 := step (l1.trans l2) hpT
    have vw2 := vw h2 _ i v xs[i] kp2 hn2' (by simp) hPv hd
    refine wpAny_mono ((ht (T.push Y) C xs[i] tle hdm).of _ { s₂ with heap := h2, toks := _ } pT2 vw2) (fun okb s3 q3 => ?_) fun ζ ζ e => e
    refine eA (q3) fun ρ0 k3 => ?_
    subst ρ0
    refine Qfw (k3.of) fun h3 tk3 ρ1 hk3 => ?_
    subst ρ1
    have kp3 : Kp h₁ h3 := kp2.trans hk3
    cases hpb : p xs[i] with
    | false =>
     refine ite_f ?_
     refine ⟨xs.length + 1 - (i + 1), Qjj hlt, i + 1, h3, tk3, _, ys, rfl, hlt, rfl, W.frame _ _ _ hst2 fun b ζ o e => hk3 b o e, hacc2.at fun o e => hk3 _ o e, hn2'.keeps hk3, ?_, step (Kp.kpx hk3) pT2, kp3⟩
     rw [Qhz p f xs i _ hd, hpb]
     simpa using hys.kp ((l1.trans l2).trans (Kp.kpx hk3))
    | true =>
     refine ite_t ?_
     refine wpAny_mono ((he (T.push Y) C xs[i] tle hdm hpb).of _ { s₂ with heap := h3, toks := tk3 } (step (Kp.kpx hk3) pT2) (vw2.kp hk3)) (fun y s4 q4 => ?_) fun ζ ζ e => e
     refine eA (q4) fun ry k4 => ?_
     refine Qfw (k4.of) fun h4 tk4 ρ2 hk4 => ?_
     subst ρ2
     have hyl : ys.size ≤ sizeLine := by
      have e1 := hys.length
      have e2 : ((xs.take i).filter p).length ≤ (xs.take i).length := List.length_filter_le _ _
      have e3 : (xs.take i).length ≤ xs.length := by rw [List.length_take]; exact Nat.min_le_right _ _
      have e4 : ys.toList.length = ys.size := by simp
      rw [List.length_map] at e1
      lia
     have hacc4 : h4.PlainList D ys := hacc2.at fun o e => hk4 _ o (hk3 _ o e)
     refine wpAny_list_append_plain (hsz := hyl) hacc4 fun h5 hl5 hs5 => ?_
     have l5 : KpX (T.push Y).X h4 h5 := KpX.sameBut (.inr (.inr (.inl rfl))) (eE (hl5) fun n e => ⟨_, e⟩) hs5
     have kp5 : Kp h₁ h5 := fun b o e => (hs5.2 b (fun q => hDn (q ▸ let e' := k₂ _ _ e; ⟨o, e'⟩))).trans (hk4 _ _ (kp3 b o e))
     refine ⟨xs.length + 1 - (i + 1), Qjj hlt, i + 1, h5, tk4, _, ys.push y, rfl, hlt, rfl, ?_, hl5, ((hn2'.keeps hk3).keeps hk4).sameBut hs5 (Ne.symm hDC), ?_, step l5 (step (Kp.kpx hk4) (step (Kp.kpx hk3) pT2)), kp5⟩
     ·exact W.frame _ _ h5 (W.frame _ _ h4 (W.frame _ _ h3 hst2 fun b ζ o e => hk3 b o e) fun b ζ o e => hk4 b o e) fun b hb o e => (hs5.2 b (fun h => hDf (h ▸ hb))).trans e
     ·rw [Qhz p f xs i _ hd, hpb]
      have r1 := ((((hys.kp l1).kp l2).kp (Kp.kpx hk3)).kp (Kp.kpx hk4)).kp l5
      have r2 : Rd (T.push Y).X h5 (f xs[i]) y := Rd.kp ry l5
      simpa using r1.snoc r2
   ·have hin : i = xs.length := by lia
    subst hin
    refine W.done _ _ _ hSt fun h1 tk1 hk1 => ?_
    have kp1 : Kp h₁ h1 := fun b o e => hk1 b o (fun hw => hfr b hw ⟨o, e⟩) (hkp b o e)
    have hys' : RdAll (T.push Y).X H ((xs.filter p).map f) ys.toList := by simpa using hys
    refine hRR h1 tk1 m' ys (hn'.at' fun o e => hk1 _ o hCw e) (hacc'.at fun o e => hk1 _ o hDw e) ?_ kp1
    exact RdAll.map (fun b o hb e => ⟨hb, hk1 b o (fun hw => hb (.inr (.inl hw))) e⟩) _ _ hys'
  ·intro b hb
   rcases hb with hb | rfl | rfl
   ·exact hlv _ _ hst₁ b (W.sub b hb)
   ·exact eE (hacc) fun n e => ⟨_, e⟩
   ·exact Ns.live hns₁
 have fin : ∀ h' tk m' ys, h'.Ns C m' → h'.PlainList D ys → RdAll (T.push Y).X h' ((xs.filter p).map f) ys.toList → Kp h₁ h' →
   compPost (model prog w) A E use Q (.ref D) C (.ok .next) { s₂ with heap := h', toks := tk } := by
  intro h' tk m' ys hn hl hr hk
  have q1 : ¬ Qaa s.heap D := fun l => hDn (ks.kp.kpx (X := T.X) |>.live _ l)
  have q2 : ¬ Qaa s.heap C := fun l => hCn (ks.kp.kpx (X := T.X) |>.live _ l)
  have q3 : RdAll (fun b => T.X b ∨ b = D ∨ b = C) h' ((xs.filter p).map f) ys.toList := RdAll.map (fun b o hb e => ⟨fun hx => hb (hx.elim .inl fun z => .inr (.inr z)), e⟩) _ _ hr
  have q4 : Kp s.heap h' := fun b o e => hk b o (k₁ b o e)
  refine Qfw (ks.of) fun h9 t9 e9 k9 => ?_
  subst e9
  exact hfin D C h' tk m' ys q1 q2 hDC hn hl q3 q4
 exact codeAny_compStart_list (loop _ _ fin) (W.self 0 _ _ _ hst₁ (loop _ _ fin))
theorem EvA.listComp {elt iter:Expr}{x:Str}{px:Pos}{ifs:List Expr}{scope:Scope}{pos:Pos}{xs:List PyData}{Gf:Gam}{n:Nat}(cl:List (Str × Addr))(p:PyData → Bool)(f:PyData → PyData)(ok:OkA A n)
  (hit : EvIt prog w T A env G iter xs) (hsz : xs.length ≤ sizeLine) (hG : Takes env scope cl G Gf)
  (ht : ∀ T' C d, T'.le T → d ∈ xs → TeL prog w T' A (compEnvC scope cl C env) ((x, .d d) :: Gf) ifs (p d))
  (he : ∀ T' C d, T'.le T → d ∈ xs → p d = true → EvA prog w T' A (compEnvC scope cl C env) ((x, .d d) :: Gf) elt (.d (f d)))
  (hclos : autoParam (closureFor scope env = pure cl) sK) (hcell : autoParam (∀ y ∈ scope.names, y.2 ≠ .cell) sD) (hkind : autoParam (scope.kind = .function) sK)
  (hnames : autoParam (∀ y ∈ scope.names, y.2 = .local → scope.names.lookup y.1 = some .local) sD) (hx : autoParam (scope.names.lookup x = some .local) sK)
  (hs : autoParam (∀ x, foldedSetIterable iter env x = pure x) sK) (hlot : autoParam (∀ it v, letOwnedTupleGo (.Name x px) it v = pure ()) sR) :
  EvA prog w T A env G (.ListComp elt [⟨.Name x px, iter, ifs, 0⟩] scope pos) (.d (.list ((xs.filter p).map f))) := ⟨fun E s hp hv => by
 rw [eval_ListComp]
 refine QIy (use := none) cl p f ok hit hsz hG ht he hclos hcell hkind hnames hx hs hlot hp hv fun D C h' tk m' ys nD nC hDC hn hl hr hk => ?_
 refine ⟨m', hn, fun h'' hs'' => ⟨?_, ?_⟩⟩
 ·refine Dv.p.list (fun hz => nD (T.live _ hp D hz)) (hl.at fun o e => (hs''.2 _ hDC).trans e).isList ?_
  exact RdAll.map (fun b o hb e => ⟨fun hx => hb (.inl hx), (hs''.2 b (fun q => hb (.inr (.inr q)))).trans e⟩) _ _ hr
 ·exact ⟨h'', tk, rfl, fun b o e => (hs''.2 b (fun q => nC (q ▸ ⟨o, e⟩))).trans (hk b o e)⟩⟩
end
section
variable {prog : Program} {w : World} {W : Addr → Prop} {T : Hp} {A : Around} {env : Env} {E : Value → Shared → Prop} {s₀ s : Shared} {G : Gam} {O : Own} {R : Flow → Shared → Prop} {rest : List Stmt}
theorem Fx.done {Y:Addr → Prop}{h':Heap}{tk:Nat}(F:Fx W (T.push Y) s₀ env G O s)(h0:∀ b, W b → T.X b)(h1:T.X env.locals)(h2:∀ n c, env.cells.lookup n = some c → T.X c)(h3:∀ L ds, O = some (L, ds) → T.X L)
  (tp : T.p h') (hk : ∀ b o, ¬ Y b → s.heap.get? b = some o → h'.get? b = some o) (hY0 : ∀ b, Y b → ¬ Qaa s₀.heap b) (hYX : ∀ b, Y b → ¬ T.X b) : Fx W T s₀ env G O { s with heap := h', toks := tk } where
 t := tp
 kt := by
  refine Qfw (F.kt.of) fun hh t1 e k1 => ?_
  subst e
  exact ⟨h', tk, rfl, fun b o hb e => hk b o (fun hy => hY0 b hy ⟨o, e⟩) (k1.kp b o hb e), fun b l => eE (k1.live b l) fun o e => ⟨o, hk b o (fun hy => hY0 b hy l) e⟩⟩
 wX := h0
 lo := F.lo
 loX := h1
 cells := fun n c hc => ⟨h2 n c hc, (F.cells n c hc).2⟩
 apart := F.apart
 ns := eEA (F.ns) fun m hn h => ⟨m, hn.at' (fun o e => hk _ o (fun hy => hYX _ hy h1) e), fun x a e hl => eEA (h x a e hl) fun v hv hp => ⟨v, hv, hp.map fun b o hb e => ⟨fun q => hb (.inl q), hk b o (fun hy => hb (.inr hy)) e⟩⟩⟩
 cell := fun n c hc => let ⟨v, ⟨o, ho, hd⟩, h⟩ := F.cell n c hc; ⟨v, ⟨o, hk _ o (fun hy => hYX _ hy (h2 n c hc)) ho, hd⟩, fun a e hl => eEA (h a e hl) fun v' e' hp => ⟨v', e', hp.map fun b o hb e => ⟨fun q => hb (.inl q), hk b o (fun hy => hb (.inr hy)) e⟩⟩⟩
 all := F.all
 own := fun L ds e => let ⟨_, q2, vs, q3, q4⟩ := F.own L ds e; ⟨h3 L ds e, q2, vs, q3.at (fun o q => hk _ o (fun hy => hYX _ hy (h3 L ds e)) q), q4.map fun b o hb e => ⟨fun q => hb (.inl q), hk b o (fun hy => hb (.inr hy)) e⟩⟩
noncomputable def FNx (W:Addr → Prop)(T:Hp)(s₁:Shared)(env:Env)(J:Gam → Own → Prop)(O':Own)(s:Shared) : Prop := ∃ G'' O'', J G'' O'' ∧ (∀ L ds, O'' = some (L, ds) → ∃ ds', O' = some (L, ds')) ∧ Fx W T s₁ env G'' O'' s
theorem QEk {x:Str}{px pos:Pos}{iter:Expr}{body:List Stmt}{xs:List PyData}(F:Fx W T s₀ env G O s)(hit:EvIt prog w T A env G iter xs)
  (J : Nat → Gam → Own → Prop) (h0 : J 0 G O) (hJ : ∀ i G' O', J i G' O' → ∀ L ds, O' = some (L, ds) → ∃ ds', O = some (L, ds'))
  (hstep : ∀ T' W₁ s₁ i d G' O' s', T'.le T → (∀ s'', KtX W₁ s₁ s'' → KtX W s₀ s'') → xs[i]? = some d → J i G' O' → Fx W₁ T' s₁ env ((x, .d d) :: G') O' s' →
   Go prog w A env body (Rf (FNx W₁ T' s₁ env (J (i + 1)) O') (fun ζ => False) R) s')
  (hend : ∀ G' O' s', J xs.length G' O' → Fx W T s₀ env G' O' s' → Go prog w A env rest R s')
  (hk : autoParam (env.scope.kind = .function) sK)
  (hx : autoParam (env.kindOf x = some .local ∨ (env.kindOf x = some .cell ∧ (env.cells.lookup x).isSome = true)) sO)
  (hs : autoParam (∀ x, foldedSetIterable iter env x = pure x) sK) : Go prog w A env (.For (.Name x px) iter body [] pos :: rest) R s := by
 refine ⟨wpAny_execs_cons (wpAny_For (wpAny_mono (hit.of _ s F.t F.vw) (fun xv s₁ h₁ => wpAny_mono h₁ (fun it s₂ h₂ => ?_) fun ζ ζ x => x) fun ζ ζ x => x) hs)⟩
 refine Qpy (h₂) fun ks I fp wr P St h₁ K => ?_
 obtain ⟨rfl, Wk, hst, hlv, hfr, hfx, k₁, k₂, hrd⟩ := K
 let Y : Addr → Prop := fun b => b ∈ wr
 have hp₁ : T.p h₁ := T.mono _ _ k₁.kpx F.t
 have hYX : ∀ b, Y b → ¬ T.X b := fun b hb hx => hfr b hb (T.live _ hp₁ b hx)
 have hYs : ∀ b, Y b → ¬ Qaa s.heap b := fun b hb l => hfr b hb (eE (l) fun o e => ⟨o, k₁ b o e⟩)
 have hY0 : ∀ b, Y b → ¬ Qaa s₀.heap b := fun b hb l => hYs b hb (F.kt.kp.live b l)
 have hYl : ∀ b, Y b → Qaa s₂.heap b := fun b hb => hlv _ _ hst b (Wk.sub b hb)
 have F₂ : Fx W (T.push Y) s₀ env G O s₂ := by
  refine Qfw (ks.of) fun h9 t9 ρ0 k9 => ?_
  subst ρ0
  exact F.push k9 hYs hYl
 have tle : (T.push Y).le T := Hp.push_le T Y
 refine codeAny_forLoop (fun k s' => ∃ i G' O', k = xs.length + 1 - i ∧ i ≤ xs.length ∧ J i G' O' ∧ St i s'.heap ∧ Fx W (T.push Y) s₀ env G' O' s' ∧ KpX (T.push Y).X h₁ s'.heap) ?_ (xs.length + 1)
  ⟨0, G, O, rfl, Nat.zero_le _, h0, hst, F₂, k₂.kpx⟩
 intro k s' κ0
 refine Qwq κ0 fun i G' O' e1 hi hj hSt F' hkp => ?_
 subst e1
 by_cases hlt : i < xs.length
 ·have hd : xs[i]? = some xs[i] := List.getElem?_eq_getElem hlt
  refine Wk.item i _ _ _ hlt hSt fun v h1 tk1 hPv hst1 hk1 => ?_
  have l1 : KpX Y s'.heap h1 := ⟨fun b o hb e => hk1 b o hb e, fun b l => by
   by_cases hb : b ∈ wr
   ·exact hlv _ _ hst1 b (Wk.sub b hb)
   ·exact eE (l) fun o e => ⟨o, hk1 b o hb e⟩⟩
  have F1 : Fx W (T.push Y) s₀ env G' O' { s' with heap := h1, toks := tk1 } := F'.but l1 fun b hb => ⟨.inr hb, .inl (hY0 b hb), fun q => hYX b hb (q ▸ F.loX), fun n q => hYX b hb (F.cells n b q).1, fun ds q => by
   refine eE (hJ i G' O' hj b ds q) fun ds' e => ?_
   exact hYX b hb (F.own b ds' e).1⟩
  have kp1 : KpX (T.push Y).X h₁ h1 := hkp.trans (l1.wider fun b hb => .inr hb)
  refine wpAny_assign_Name (F1.rebase.store (.d xs[i]) hk hx (Rd.map (fun b o hb e => have h : ¬ (T.push Y).X b := fun q => q.elim hb fun z => hfr b z ⟨o, e⟩; ⟨h, kp1.kp b o h e⟩) xs[i] v (hrd i v xs[i] hPv hd)) fun s2 F2 => ?_)
  have kF2 := F2.kt.kp
  have hfpM : ∀ b ∈ fp, ¬ Fx.may W env O' b := fun b hb hm => by
   have hTX : T.X b := by
    rcases hm with hm | rfl | ⟨n, hc⟩ | ⟨ds, e⟩
    ·exact F.wX b hm
    ·exact F.loX
    ·exact (F.cells n b hc).1
    ·refine eE (hJ i G' O' hj b ds e) fun ds' e' => ?_
     exact (F.own b ds' e').1
   rcases hfx b hb with q | q
   ·exact hYX b q hTX
   ·exact q hTX
  refine wpAny_mono (hstep (T.push Y) _ _ i xs[i] G' O' s2 tle (fun s'' k => F1.unkt k) hd hj F2).of (fun f s3 q => ?_) fun ζ ζ x => x.elim
  have after : ∀ G'' O'', J (i + 1) G'' O'' → (∀ L ds, O'' = some (L, ds) → ∃ ds', O' = some (L, ds')) → Fx (Fx.may W env O') (T.push Y) { s' with heap := h1, toks := tk1 } env G'' O'' s3 →
    ∃ m, m < xs.length + 1 - i ∧ ∃ i G' O', m = xs.length + 1 - i ∧ i ≤ xs.length ∧ J i G' O' ∧ St i s3.heap ∧ Fx W (T.push Y) s₀ env G' O' s3 ∧ KpX (T.push Y).X h₁ s3.heap := fun G'' O'' hj' hO F3 => by
   have k3 := F3.kt.kp
   refine ⟨xs.length + 1 - (i + 1), Qjj hlt, i + 1, G'', O'', rfl, hlt, hj', Wk.frame _ _ _ hst1 fun b hb o e => k3.kp b o (hfpM b hb) e, F1.unbase F3 (fun b hb => .inl (F.wX b hb)) hO, kp1.trans (k3.wider F1.may_X)⟩
  cases f with
  | next => exact Qac (q) fun G'' O'' hj' hO F3 => after G'' O'' hj' hO F3
  | cont => exact Qac (q) fun G'' O'' hj' hO F3 => after G'' O'' hj' hO F3
  | brk => exact q.elim
  | ret v => exact q
 ·have hin : i = xs.length := by lia
  subst hin
  refine Wk.done _ _ _ hSt fun h1 tk1 hk1 => ?_
  have tp : T.p h1 := by
   refine T.mono h₁ h1 ⟨fun b o hb e => ?_, fun b l => ?_⟩ hp₁
   ·have hbY : ¬ Y b := fun q => hfr b q ⟨o, e⟩
    exact hk1 b o hbY (hkp.kp b o (fun q => q.elim hb hbY) e)
   ·have hbY : ¬ Y b := fun q => hfr b q l
    refine eE (hkp.live b l) fun o e => ?_
    exact ⟨o, hk1 b o hbY e⟩
  have F9 : Fx W T s₀ env G' O' { s' with heap := h1, toks := tk1 } := F'.done F.wX F.loX (fun n c hc => (F.cells n c hc).1) (fun L ds e => eE (hJ _ G' O' hj L ds e) fun ds' e' => (F.own L ds' e').1) tp hk1 hY0 hYX
  rw [show execs [] env = pure .next from rfl]
  exact wpAny_pure (hend G' O' _ hj F9).of
end
section
variable {prog : Program} {w : World} {W : Addr → Prop} {T : Hp} {A : Around} {env : Env} {E : Value → Shared → Prop} {s₀ s : Shared} {G : Gam} {O : Own} {R : Flow → Shared → Prop} {rest : List Stmt}
theorem Qmv {x:Str}{v:Value}{Q:Value → Shared → Prop}(hk:env.scope.kind = .function)(h:Sees env s.heap x v)(hq:Q v s) : wpAny (model prog w) A (loadName env x) Q E s := by
 rcases h with ⟨hl, m, hn, hv⟩ | ⟨hl, c, hc, hv⟩
 ·exact wpAny_loadName_local hk hl hn hv hq
 ·exact wpAny_loadName_cell hk hl hc hv hq
theorem EvF.run {e:Expr}{a:Dv}(he:EvF prog w T A env G O e a)(F:Fx W T s₀ env G O s){Q:Value → Shared → Prop}(h:∀ v s', a.p T.X s'.heap v → Kt s s' → Fx W T s₀ env G O s' → Q v s') : wpAny (model prog w) A (eval e env) Q E s :=
 wpAny_mono (he.of _ s F.t F.vw F.ow) (fun v s' k => h v s' k.1 k.2 (F.kept k.2)) fun ζ ζ x => x
theorem st_aug {x:Str}{op:Operator}{e:Expr}{pos pos':Pos}(a0 a1 a:Dv)(F:Fx W T s₀ env G O s)(he:EvF prog w T A env G O e a1)(h2:Op2 prog w T A (inplaceOp op) a0 a1 a)
  (h : ∀ s', Fx W T s₀ env ((x, a) :: G) O s' → Go prog w A env rest R s') (h0 : autoParam (G.lookup x = some a0) sK) (hk : autoParam (env.scope.kind = .function) sK)
  (hx : autoParam (env.kindOf x = some .local ∨ (env.kindOf x = some .cell ∧ (env.cells.lookup x).isSome = true)) sO) :
  Go prog w A env (.AugAssign (.Name x pos') op e pos :: rest) R s := by
 refine eEA (F.vw x a0 h0) fun v0 hs ha => ?_
 refine ⟨wpAny_execs_cons (wpAny_AugAssign_Name (Qmv hk hs (he.run F fun v s' hv ks F' => wpAny_mono (h2.of _ s' v0 v F'.t (ha.kp ks.kp.kpx) hv) (fun r s'' k => ?_) fun ζ ζ x => x)))⟩
 exact (F'.kept k.2).store a hk hx k.1 fun s3 F3 => (h s3 F3).of
theorem Fx.chown {L:Addr}{ds ds':List PyData}{vs:Array Value}{h':Heap}{tk:Nat}(F:Fx W T s₀ env G (some (L, ds)) s)(hs:Heap.SameBut L s.heap h')(hl:h'.PlainList L vs)(hr:RdAll T.X s.heap ds' vs.toList) :
  Fx W T s₀ env G (some (L, ds')) { s with heap := h', toks := tk } := by
 refine QDx (F.own L ds rfl) fun hX hdead us hus ζ => ?_
 have hlv : Qaa h' L := eE (hl) fun n e => ⟨_, e⟩
 have k : KpX T.X s.heap h' := KpX.sameBut hX hlv hs
 refine eEA (F.ns) fun m0 hn0 ζ => ?_
 refine ⟨T.mono _ _ k F.t, F.kt.change hdead hs hlv, F.wX, F.lo, F.loX, F.cells, F.apart, ?_, ?_, F.all, ?_⟩
 ·refine eEA (F.ns) fun m hn h => ?_
  exact ⟨m, hn.sameBut hs (Ne.symm (Qla hn hus)), fun x a e hl => eEA (h x a e hl) fun v hv hp => ⟨v, hv, hp.kp k⟩⟩
 ·intro n c hc
  refine eEA (F.cell n c hc) fun v hi h => ?_
  exact ⟨v, hi.sameBut hs (Ne.symm (Qlz hi hus)), fun a e hl => eEA (h a e hl) fun v' e' hp => ⟨v', e', hp.kp k⟩⟩
 ·intro L' ds₂ e
  cases e
  exact ⟨hX, hdead, vs, hl, hr.kp k⟩
theorem own_meth {x:Str}{px apos pos:Pos}{name:Str}{id:String}{args:List Expr}{as:List Dv}{L:Addr}{ds:List PyData}{Q:Value → Shared → Prop}(m:Mth "list" name id)(F:Fx W T s₀ env G (some (L, ds)) s)
  (hx : G.lookup x = some (.v (.ref L))) (hk : env.scope.kind = .function) (hd : (x == ("__debug__" : Str)) = false)
  (ha : ∀ E s, T.p s.heap → Vw T.X env G s.heap → OwnAt T.X s.heap L ds → wpAny (model prog w) A (evalArgs (.builtin id) true (backTo pos (starEach args env)) []) (fun r s' => r.kw = [] ∧ DvAll T.X s'.heap as r.pos ∧ Kt s s') E s)
  (hst : (backTo pos (starEach args env)).any (·.1) = false)
  (hc : ∀ s' vs, Kt s s' → Fx W T s₀ env G (some (L, ds)) s' → DvAll T.X s'.heap as vs → wpAny (model prog w) A (call (.builtin id) (.ref L :: vs)) Q E s')
  (hbase : attributeBase (.Name x px) name env (eval (.Name x px) env) = eval (.Name x px) env) (hline : (apos.endLine == pos.line) = true)
  (hfew : ((backTo pos (starEach args env)).all (fun x => !x.1) && decide (args.length < 30)) = true) :
  wpAny (model prog w) A (eval (.Call (.Attribute (.Name x px) name apos) args [] pos) env) Q E s := by
 refine wpAny_Call_method_lateS hbase ?_ hline ?_
 ·rw [Bool.and_eq_true] at hfew
  rw [hfew.1]
  show (true && true && decide (args.length + 0 + 0 < 30)) = true
  simpa using hfew.2
 ·refine eEA (F.vw x _ hx) fun v hsee hv => ?_
  have hv' : v = .ref L := hv
  subst hv'
  refine wpAny_Name (Qmv hk hsee ?_) hd
  refine QDx (F.own L ds rfl) fun hX hdead us hus ζ => ?_
  refine eE (hus) fun n hn => ?_
  refine ⟨"list", id, m.plain, m.slot, m.ty, ⟨_, hn, rfl⟩, fun b e => by cases e; exact ⟨_, hn, rfl⟩, callWith_builtin hst ?_⟩
  refine wpAny_mono (ha _ s F.t F.vw (F.ow L ds rfl)) (fun r s' k => ?_) fun ζ ζ x => x
  obtain ⟨h1, h2, k⟩ := k
  obtain ⟨rp, rk⟩ := r
  simp only at h1 h2
  subst h1
  exact hc s' rp k (F.kept k) h2
theorem Qox {x:Str}{px apos pos pos':Pos}{e:Expr}(d:PyData){L:Addr}{ds:List PyData}(F:Fx W T s₀ env G (some (L, ds)) s)(he:EvF prog w T A env G (some (L, ds)) e (.d d))(hsz:ds.length ≤ sizeLine)
  (h : ∀ s', Fx W T s₀ env G (some (L, ds ++ [d])) s' → Go prog w A env rest R s') (hx : autoParam (G.lookup x = some (.v (.ref L))) sK) (hk : autoParam (env.scope.kind = .function) sK) (hd : autoParam ((x == ("__debug__" : Str)) = false) sK)
  (hs : autoParam (starEach [e] env = [(false, eval e env)]) sK)
  (hbase : autoParam (attributeBase (.Name x px) "append" env (eval (.Name x px) env) = eval (.Name x px) env) sK) (hline : autoParam ((apos.endLine == pos.line) = true) sK)
  (hi : autoParam (interactive env = false) sK) (hsw : autoParam (swapsWith (.Call (.Attribute (.Name x px) "append" apos) [e] [] pos) none pos'.line env = pure false) sK) :
  Go prog w A env (.Expr (.Call (.Attribute (.Name x px) "append" apos) [e] [] pos) pos' :: rest) R s := by
 refine ⟨wpAny_execs_cons (wpAny_Expr_any (hi := hi) (hs := hsw) (own_meth (as := [.d d]) (id := "list.append") ⟨PySem.F.plainAttrs_list, PySem.F.slot_list_append, PySem.F.type_list_append⟩ F hx hk hd ?_ ?_ ?_ hbase hline ?_))⟩
 ·intro E s hp hv ho
  rw [hs]
  refine evalArgs_plain (wpAny_mono (spliced_cons (Q := fun vs s' => DvAll T.X s'.heap [.d d] vs ∧ Kt s s') (wpAny_mono (he.of E s hp hv fun L' ds' q => by cases q; exact ho) (fun v s₁ k1 => spliced_nil ⟨⟨v, [], rfl, k1.1, rfl⟩, k1.2⟩) fun ζ ζ x => x)) (fun vs s' k => ⟨rfl, k.1, k.2⟩) fun ζ ζ x => x)
 ·rw [hs]; rfl
 ·intro s' vs k F' hvs
  refine Qac (hvs) fun v vs' ρ0 hv ρ1 => ?_
  subst ρ0
  subst ρ1
  refine QDx (F'.own L ds rfl) fun hX hdead us hus hur => ?_
  have hlen : us.size ≤ sizeLine := by have := hur.length; simp at this; lia
  refine wpAny_list_append_plain (hsz := hlen) hus fun h' hl' hs' => ?_
  exact (h _ (F'.chown (tk := s'.toks) hs' hl' (by simpa using hur.snoc hv))).of
 ·rw [hs]; rfl
theorem QEy {x:Str}{px pos pos':Pos}(F:Fx W T s₀ env G none s)
  (h : ∀ T' L s', T'.le T → ¬ T.X L → (∀ b, b ≠ L → T'.X b → T.X b) → Fx W T' s₀ env ((x, .v (.ref L)) :: G) (some (L, [])) s' → Go prog w A env rest R s') (hk : autoParam (env.scope.kind = .function) sK)
  (hx : autoParam (env.kindOf x = some .local ∨ (env.kindOf x = some .cell ∧ (env.cells.lookup x).isSome = true)) sO)
  (hs : autoParam (swapsWith (.List [] pos') (some (.Name x px)) pos.line env = pure false) sK) :
  Go prog w A env (.Assign [.Name x px] (.List [] pos') pos :: rest) R s := by
 refine ⟨wpAny_execs_cons (wpAny_Assign_Name (wpAny_List (spliced_nil ⟨Nat.zero_le _, ?_⟩)) hs)⟩
 have F1 := F.push (Y := fun b => b = s.heap.objs.size) (tk := s.toks) (Qav s.heap { cls := .type "list", data := .seq ([] : List Value).toArray }) (fun b hb => hb ▸ Qax (Nat.le_refl _)) (fun b hb => hb ▸ ⟨_, Heap.get?_push_size _ rfl⟩)
 have F2 : Fx W (T.push fun b => b = s.heap.objs.size) s₀ env G (some (s.heap.objs.size, [])) { s with heap := s.heap.push { cls := .type "list", data := .seq ([] : List Value).toArray } } :=
  ⟨F1.t, F1.kt, F1.wX, F1.lo, F1.loX, F1.cells, F1.apart, F1.ns, F1.cell, F1.all, fun L ds e => by
   cases e
   exact ⟨.inr rfl, .inr fun l => Qax (Nat.le_refl _) (F.kt.kp.live _ l), #[], ⟨_, Heap.get?_push_size _ rfl⟩, by simpa using RdAll.nil⟩⟩
 exact F2.store (.v (.ref s.heap.objs.size)) hk hx rfl fun s' F3 => (h _ _ s' (Hp.push_le _ _) (fun hx => Qax (Nat.le_refl _) (T.live _ F.t _ hx)) (fun b hb hx => hx.elim id fun q => absurd q hb) F3).of
end
section
variable {prog : Program} {w : World} {W : Addr → Prop} {T : Hp} {A : Around} {env : Env} {E : Value → Shared → Prop} {s₀ s : Shared} {G : Gam} {O : Own} {R : Flow → Shared → Prop} {rest : List Stmt}
noncomputable def WNx (W:Addr → Prop)(T:Hp)(s₀:Shared)(env:Env)(J:Nat → Gam → Own → Prop)(k:Nat)(s:Shared) : Prop := ∃ m G'' O'', m < k ∧ J m G'' O'' ∧ Fx W T s₀ env G'' O'' s
theorem st_while {test:Expr}{body:List Stmt}{pos:Pos}(F:Fx W T s₀ env G O s)(J:Nat → Gam → Own → Prop)(n:Nat)(h0:J n G O)
  (hstep : ∀ k G' O' s', J k G' O' → Fx W T s₀ env G' O' s' → ∃ b, TeF prog w T A env G' O' test b ∧
   (b = true → ∀ s'', Fx W T s₀ env G' O' s'' → Go prog w A env body (Rf (WNx W T s₀ env J k) (Go prog w A env rest R) R) s'') ∧
   (b = false → ∀ s'', Fx W T s₀ env G' O' s'' → Go prog w A env rest R s'')) : Go prog w A env (.While test body [] pos :: rest) R s := by
 refine ⟨wpAny_execs_cons (wpAny_While ?_)⟩
 refine codeAny_whileLoop (fun k s' => ∃ G' O', J k G' O' ∧ Fx W T s₀ env G' O' s') ?_ n ⟨G, O, h0, F⟩
 intro k s' κ0
 refine Qfw (κ0) fun G' O' hj F' => ?_
 refine Qpj (hstep k G' O' s' hj F') fun b ht h1 h2 => ?_
 refine wpAny_mono (ht.of _ s' F'.t F'.vw F'.ow) (fun r s2 q => ?_) fun ζ ζ x => x
 refine eA (q) fun ρ0 k2 => ?_
 subst ρ0
 have F2 := F'.kept k2
 cases r with
 | true =>
  rw [if_pos rfl]
  refine wpAny_mono (h1 rfl s2 F2).of (fun f s3 q => ?_) fun ζ ζ x => x.elim
  cases f with
  | next => obtain ⟨m, G'', O'', hm, hj', F3⟩ := q; exact ⟨m, hm, G'', O'', hj', F3⟩
  | cont => obtain ⟨m, G'', O'', hm, hj', F3⟩ := q; exact ⟨m, hm, G'', O'', hj', F3⟩
  | brk => exact q.of
  | ret v => exact q
 | false =>
  rw [if_neg (by decide)]
  rw [show execs [] env = pure .next from rfl]
  exact wpAny_pure (h2 rfl s2 F2).of
theorem st_try {body:List Stmt}{h₀:ExceptHandler}{hs:List ExceptHandler}{pos:Pos}(h:Go prog w A env body (Rn prog w A env rest R) s) : Go prog w A env (.Try body (h₀ :: hs) [] [] pos :: rest) R s := by
 refine ⟨wpAny_execs_cons (wpAny_Try_except (wpAny_mono h.of (fun f s' q => ?_) fun ζ ζ x => x.elim))⟩
 cases f with
 | next => rw [show execs [] env = pure .next from rfl]; exact wpAny_pure q.of
 | cont => exact q
 | brk => exact q
 | ret v => exact q
theorem Fx.give {x:Str}{L:Addr}{ds:List PyData}(F:Fx W T s₀ env G (some (L, ds)) s)(hx:G.lookup x = some (.v (.ref L)))(hW:¬ W L) :
  ∃ T', (∀ h, T'.p h → T.p h) ∧ (∀ b, T'.X b ↔ (T.X b ∧ b ≠ L)) ∧ Fx W T' s₀ env ((x, .pl ds) :: G) none s := by
 refine QDx (F.own L ds rfl) fun hX hdead us hus hur => ?_
 let T' : Hp := ⟨T.p, fun b => T.X b ∧ b ≠ L, fun h h' k p => T.mono h h' (k.wider fun b hb => hb.1) p, fun h p b hb => T.live h p b hb.1⟩
 have less : ∀ b, T'.X b → T.X b := fun b hb => hb.1
 have hL : (Dv.pl ds).p T'.X s.heap (.ref L) := by
  refine eE (hus) fun n e => ?_
  exact ⟨L, us, _, rfl, fun q => q.2 rfl, e, rfl, rfl, ⟨n, rfl⟩, hur.less less⟩
 refine eEA (F.ns) fun m0 hn0 hm0 => ?_
 refine ⟨T', fun ζ h => h, fun b => Iff.rfl, F.t, F.kt, fun b hb => ⟨F.wX b hb, fun q => hW (q ▸ hb)⟩, F.lo, ⟨F.loX, fun q => Qla hn0 hus q.symm⟩, fun n c hc => ?_, F.apart, ⟨m0, hn0, fun y a e hl => ?_⟩, fun n c hc => ?_, fun y a e => ?_, fun L' ds' e => nomatch e⟩
 ·refine eEA (F.cell n c hc) fun v hi ζ => ?_
  exact ⟨⟨(F.cells n c hc).1, fun q => Qlz hi hus q.symm⟩, (F.cells n c hc).2⟩
 ·by_cases hy : y = x
  ·subst hy
   rw [Qak] at e; cases e
   refine eEA (hm0 y _ hx hl) fun v hv hp => ?_
   have : v = .ref L := hp
   exact ⟨v, hv, this ▸ hL⟩
  ·rw [Qaz hy] at e
   refine eEA (hm0 y a e hl) fun v hv hp => ?_
   exact ⟨v, hv, hp.less less⟩
 ·refine eEA (F.cell n c hc) fun v hi hc' => ?_
  refine ⟨v, hi, fun a e hl => ?_⟩
  by_cases hy : n = x
  ·subst hy
   rw [Qak] at e; cases e
   refine eEA (hc' _ hx hl) fun v' e' hp => ?_
   have : v' = .ref L := hp
   exact ⟨v', e', this ▸ hL⟩
  ·rw [Qaz hy] at e
   refine eEA (hc' a e hl) fun v' e' hp => ?_
   exact ⟨v', e', hp.less less⟩
 ·by_cases hy : y = x
  ·subst hy; exact F.all y _ hx
  ·exact F.all y a (by rw [Qaz hy] at e; exact e)
noncomputable def Qbc : PyData → Bool
 | .none => false
 | .bool b => b
 | .int i => i != 0
 | .str x => (x.length : Int) != 0
 | .list xs => decide (0 < xs.length)
 | .tuple xs => decide (0 < xs.length)
 | .dict _ => false
noncomputable def smallD : PyData → Prop
 | .str x => x.length ≤ sizeLine
 | .list xs => xs.length ≤ sizeLine
 | .tuple _ => False
 | .dict _ => False
 | _ => True
theorem Qty {d:PyData}{v:Value}{X:Addr → Prop}{Q:Bool → Shared → Prop}(hs:smallD d)(hv:Rd X s.heap d v)(h:∀ tk, Q (Qbc d) { s with toks := tk }) : wpAny (model prog w) A (truthy v) Q E s := by
 cases d with
 | none => rw [hv.none_inv]; exact truthy_none (h s.toks)
 | bool b => rw [hv.bool_inv]; exact wpAny_truthy_bool (h s.toks)
 | int i => obtain ⟨t, rfl⟩ := hv.int_inv; exact P.truthy_int (h s.toks)
 | str x =>
  refine eE (hv.str_inv) fun t ρ1 => ?_
  subst ρ1
  have : x.length ≤ 2 ^ 24 := hs
  exact P.truthy_str (by lia) (h _)
 | list xs =>
  refine Qck (hv.list_inv) fun a vs ρ2 hx hl hr => ?_
  subst ρ2
  have e : vs.size = xs.length := by have := hr.length; simpa using this
  have : xs.length ≤ 2 ^ 24 := hs
  refine wpAny_truthy_list hl (by lia) ?_
  have e2 : (!vs.isEmpty) = decide (0 < xs.length) := by
   unfold Array.isEmpty
   rw [e]
   cases xs.length <;> rfl
  rw [e2]; exact h _
 | tuple xs => exact hs.elim
 | dict xs => exact hs.elim
theorem TeA.val {e:Expr}{d:PyData}(h:EvA prog w T A env G e (.d d))(hs:smallD d)(he:autoParam (isTrue e env (eval e env) = (do let v ← eval e env; standAt e.pos; holding [v] (truthy v))) sK) : TeA prog w T A env G e (Qbc d) := ⟨fun E s hp hv =>
 wpAny_isTrue_value (wpAny_mono (h.of E s hp hv) (fun v s' k => Qty hs k.1 fun tk => ⟨rfl, k.2.trans (.tok s' tk)⟩) fun ζ ζ x => x) he⟩
theorem TeA.cmp {e1 e2:Expr}{op:CmpOp}{pos:Pos}{a1 a2:Dv}{b:Bool}(h1:EvA prog w T A env G e1 a1)(h2:EvA prog w T A env G e2 a2)(h:Op2 prog w T A (compareOp op) a1 a2 (.d (.bool b)))(hm:autoParam (behindInMarks op e2 = false) sK) :
  TeA prog w T A env G (.Compare e1 [op] [e2] pos) b := ⟨fun E s hp hv =>
 wpAny_isTrue_Compare1 (two h1 h2 hp hv fun v1 v2 s' k p1 p2 => wpAny_mono (h.of E s' v1 v2 (T.kt hp k) p1 p2) (fun v s'' x => by
  refine eA (x) fun hv k2 => ?_
  rw [hv.bool_inv]
  exact wpAny_truthy_bool ⟨rfl, k.trans k2⟩) fun ζ ζ x => x) hm⟩
theorem TeA.not {e:Expr}{pos:Pos}{b:Bool}(h:TeA prog w T A env G e b) : TeA prog w T A env G (.UnaryOp .Not e pos) (!b) := ⟨fun E s hp hv => wpAny_isTrue_Not (wpAny_mono (h.of E s hp hv) (fun r s' k => ⟨by rw [k.1], k.2⟩) fun ζ ζ x => x)⟩
theorem TeA.and0 {pos:Pos} : TeA prog w T A env G (.BoolOp .And [] pos) true := ⟨fun E s hp hv => isTrue_and_nil ⟨rfl, .refl s⟩⟩
theorem TeA.or0 {pos:Pos} : TeA prog w T A env G (.BoolOp .Or [] pos) false := ⟨fun E s hp hv => isTrue_or_nil ⟨rfl, .refl s⟩⟩
theorem TeA.and {x:Expr}{rest:List Expr}{pos:Pos}{b c:Bool}(h1:TeA prog w T A env G x b)(h2:b = true → TeA prog w T A env G (.BoolOp .And rest pos) c) : TeA prog w T A env G (.BoolOp .And (x :: rest) pos) (b && c) := ⟨fun E s hp hv =>
 isTrue_and (wpAny_mono (h1.of E s hp hv) (fun r s' k => by
  obtain ⟨rfl, k⟩ := k
  cases r with
  | false => simpa using k
  | true =>
   simp only [if_true, Bool.true_and]
   exact wpAny_mono ((h2 rfl).of E s' (T.kt hp k) (hv.kp k.kp)) (fun r s'' k' => ⟨k'.1, k.trans k'.2⟩) fun ζ ζ x => x) fun ζ ζ x => x)⟩
theorem TeA.or {x:Expr}{rest:List Expr}{pos:Pos}{b c:Bool}(h1:TeA prog w T A env G x b)(h2:b = false → TeA prog w T A env G (.BoolOp .Or rest pos) c) : TeA prog w T A env G (.BoolOp .Or (x :: rest) pos) (b || c) := ⟨fun E s hp hv =>
 isTrue_or (wpAny_mono (h1.of E s hp hv) (fun r s' k => by
  obtain ⟨rfl, k⟩ := k
  cases r with
  | true => simpa using k
  | false =>
   simp only [Bool.false_eq_true, if_false, Bool.false_or]
   exact wpAny_mono ((h2 rfl).of E s' (T.kt hp k) (hv.kp k.kp)) (fun r s'' k' => ⟨k'.1, k.trans k'.2⟩) fun ζ ζ x => x) fun ζ ζ x => x)⟩
theorem EvA.ifExp {test body orelse:Expr}{pos:Pos}{a:Dv}(b:Bool)(ht:TeA prog w T A env G test b)(h1:b = true → EvA prog w T A env G body a)(h2:b = false → EvA prog w T A env G orelse a) : EvA prog w T A env G (.IfExp test body orelse pos) a := ⟨fun E s hp hv =>
 wpAny_IfExp (wpAny_mono (ht.of E s hp hv) (fun r s' k => by
  obtain ⟨rfl, k⟩ := k
  cases r with
  | true => exact wpAny_mono ((h1 rfl).of E s' (T.kt hp k) (hv.kp k.kp)) (fun r s'' k' => ⟨k'.1, k.trans k'.2⟩) fun ζ ζ x => x
  | false => exact wpAny_mono ((h2 rfl).of E s' (T.kt hp k) (hv.kp k.kp)) (fun r s'' k' => ⟨k'.1, k.trans k'.2⟩) fun ζ ζ x => x) fun ζ ζ x => x)⟩
theorem EvA.or2 {x y:Expr}{pos:Pos}{d d':PyData}(hs:smallD d)(h1:EvA prog w T A env G x (.d d))(h2:Qbc d = false → EvA prog w T A env G y (.d d')) : EvA prog w T A env G (.BoolOp .Or [x, y] pos) (.d (if Qbc d then d else d')) := ⟨fun E s hp hv =>
 wpAny_Or2 (wpAny_mono (h1.of E s hp hv) (fun v s' k => Qty hs k.1 fun tk => by
  have k' := k.2.trans (.tok s' tk)
  cases ht : Qbc d with
  | true => exact ⟨k.1, k'⟩
  | false => exact wpAny_mono ((h2 ht).of E _ (T.kt hp k') (hv.kp k'.kp)) (fun r s'' k2 => ⟨k2.1, k'.trans k2.2⟩) fun ζ ζ x => x) fun ζ ζ x => x)⟩
theorem op_eq {d1 d2:PyData}{n:Nat}(ok:OkA A n)(h1:d1.canLay0 = true)(h2:d2.canLay0 = true)(hd:d1.depth ≤ 64) : Op2 prog w T A (compareOp .Eq) (.d d1) (.d d2) (.d (.bool (PyData.eqv d1 d2))) := ⟨fun E s v1 v2 hp p1 p2 => by
 refine eE (Rd.reads _ _ p1) fun as r1 => ?_
 refine eE (Rd.reads _ _ p2) fun bs r2 => ?_
 exact SeqAt.compareEq_reads r1 r2 h1 h2 (ok.rm0 (Nat.le_trans (Nat.min_le_left _ _) hd)) ⟨Dv.p.bool, .refl s⟩⟩
theorem QAc {d1 d2:PyData}{n:Nat}(ok:OkA A n)(h1:d1.canLay0 = true)(h2:d2.canLay0 = true)(hd:d1.depth ≤ 64) : Op2 prog w T A (compareOp .NotEq) (.d d1) (.d d2) (.d (.bool (!PyData.eqv d1 d2))) := ⟨fun E s v1 v2 hp p1 p2 => by
 refine eE (Rd.reads _ _ p1) fun as r1 => ?_
 refine eE (Rd.reads _ _ p2) fun bs r2 => ?_
 exact SeqAt.compareNe_reads r1 r2 h1 h2 (ok.rm0 (Nat.le_trans (Nat.min_le_left _ _) hd)) ⟨Dv.p.bool, .refl s⟩⟩
theorem op_notIn {d:PyData}{xs:List PyData}{n:Nat}(ok:OkA A n)(h1:d.canLay0 = true)(h2:PyData.canLayAll0 xs = true)(hd:d.depth ≤ 64) : Op2 prog w T A (compareOp .NotIn) (.d d) (.d (.list xs)) (.d (.bool (!xs.any fun y => PyData.eqv y d))) := ⟨fun E s v1 v2 hp p1 p2 => by
 refine eE (Rd.reads _ _ p1) fun as r1 => ?_
 refine eE (Rd.reads _ _ p2) fun bs r2 => ?_
 exact SeqAt.notIn_list_reads r2 r1 h2 h1 (ok.rm1 (Nat.le_trans (Nat.min_le_right _ _) hd)) ⟨Dv.p.bool, .refl s⟩⟩
end
noncomputable abbrev Gx (prog:Program)(w:World)(A:Around)(W:Addr → Prop)(T:Hp)(s₀:Shared)(env:Env)(R:Flow → Shared → Prop)(O:Own)(G:Gam)(st:List Stmt) : Prop := ∀ s, Fx W T s₀ env G O s → Go prog w A env st R s
section
variable {prog : Program} {w : World} {W : Addr → Prop} {T : Hp} {A : Around} {env : Env} {s₀ s : Shared} {G : Gam} {O : Own} {R : Flow → Shared → Prop} {rest : List Stmt}
theorem x_at (F:Fx W T s₀ env G O s){st:List Stmt}(h:Gx prog w A W T s₀ env R O G st) : Go prog w A env st R s := h s F
theorem x_nil (h:∀ s, Fx W T s₀ env G O s → R .next s) : Gx prog w A W T s₀ env R O G [] := fun s F => Qaw (h s F)
theorem x_try {body:List Stmt}{h₀:ExceptHandler}{hs:List ExceptHandler}{pos:Pos}(h:Gx prog w A W T s₀ env (Rn prog w A env rest R) O G body) : Gx prog w A W T s₀ env R O G (.Try body (h₀ :: hs) [] [] pos :: rest) := fun s F => st_try (h s F)
theorem Qbq {x:Str}{e:Expr}{pos pos':Pos}(a:Dv)(he:EvF prog w T A env G O e a)
  (h : Gx prog w A W T s₀ env R O ((x, a) :: G) rest) (hk : autoParam (env.scope.kind = .function) sK)
  (hx : autoParam (env.kindOf x = some .local ∨ (env.kindOf x = some .cell ∧ (env.cells.lookup x).isSome = true)) sO)
  (hs : autoParam (swapsWith e (some (.Name x pos')) pos.line env = pure false) sK) : Gx prog w A W T s₀ env R O G (.Assign [.Name x pos'] e pos :: rest) := fun s F => Qcx a F he h hk hx hs
theorem x_ifT {test:Expr}{body orelse:List Stmt}{pos:Pos}(ht:TeF prog w T A env G O test true)(h:Gx prog w A W T s₀ env (Rn prog w A env rest R) O G body) : Gx prog w A W T s₀ env R O G (.If test body orelse pos :: rest) := fun s F => Qiy true F ht (fun ζ => h) fun e => nomatch e
theorem x_ifF {test:Expr}{body orelse:List Stmt}{pos:Pos}(ht:TeF prog w T A env G O test false)(h:Gx prog w A W T s₀ env (Rn prog w A env rest R) O G orelse) : Gx prog w A W T s₀ env R O G (.If test body orelse pos :: rest) := fun s F => Qiy false F ht (fun e => nomatch e) fun ζ => h
end
noncomputable def stmtAt (i:Nat) : Stmt := (PySem.Challenge.pw_rt0110_01.main.body[i]?).getD (.Pass default)
noncomputable def Qdz (i:Nat)(c pm dfl:Value) : FuncData := match stmtAt i with
 | .FunctionDef name args body _ _ _ scope _ _ _ => { name, qualname := name, params := args, body := .stmts body, scope, globals := mainGlobals, closure := [], defaults := dfl, kwdefaults := .none, doc := .none, pyModule := pm, code := c, builtins := builtinsNs }
 | _ => default
noncomputable def Qda (i:Nat) : List Stmt := match stmtAt i with
 | .FunctionDef name args body _ _ _ scope _ _ _ => body
 | _ => []
noncomputable def glTab : List (Str × Value) := [("_strcoll", .ref 51), ("_strxfrm", .ref 58), ("_grouping_intervals", .ref 65), ("fspath", .ref 138), ("_get_sep", .ref 152), ("join_posixpath", .ref 159), ("splitroot", .ref 166), ("basename", .ref 173),
 ("dirname_posixpath", .ref 180), ("normpath", .ref 187), ("commonpath", .ref 192), ("StringIO", .ref 745), ("_index", .ref 211), ("shlex", .ref 880), ("split", .ref 892), ("_find_unsafe", .ref 893), ("quote", .ref 900), ("_law_names", .ref 905), ("_law_path", .ref 912),
 ("_law_sorted", .ref 917), ("_law_sizes", .ref 922), ("_law_cut", .ref 929), ("deque", .type "collections.deque")]
noncomputable def blTab : List (Str × Value) := [("len", .builtin "len"), ("sum", .builtin "sum"), ("min", .builtin "min"), ("max", .builtin "max"), ("ord", .builtin "ord"), ("sorted", .builtin "sorted"), ("isinstance", .builtin "isinstance"), ("issubclass", .builtin "issubclass"),
 ("type", .type "type"), ("range", .type "range"), ("enumerate", .type "enumerate"), ("tuple", .type "tuple"), ("map", .type "map"), ("list", .type "list"), ("str", .type "str"), ("bytes", .type "bytes"), ("int", .type "int"), ("bool", .type "bool"), ("object", .type "object")]
noncomputable def DefAt (h:Heap)(a i:Nat) : Prop := ∃ pm, FnAt h a (Qdz i (.ref (a - 1)) pm .none)
noncomputable def Qnc : List (Nat × Nat) := [(51, 4), (58, 5), (65, 7), (138, 16), (152, 21), (159, 22), (166, 24), (173, 25), (180, 26), (187, 28), (192, 29), (211, 33), (900, 54), (905, 56), (912, 57), (917, 58), (922, 59), (929, 60)]
structure Tpp (h : Heap) : Prop where
 n : Tn glTab blTab h
 lim : h.NoLimit
 defs : ∀ a i, (a, i) ∈ Qnc → DefAt h a i
theorem Tpp.kp {h h':Heap}(k:Kp h h')(t:Tpp h) : Tpp h' :=
 ⟨t.n.kp (fun o e => k _ o e) (fun o e => k _ o e), eEA (t.lim) fun m a b => ⟨m, a.keeps k, b⟩, fun a i hm => eE (t.defs a i hm) fun pm f => ⟨pm, f.kp k⟩⟩
noncomputable def Tp : Hp where
 p := Tpp
 X := fun ζ => False
 mono h h' k t := t.kp fun b o e => k.kp b o (fun q => q) e
 live h _ b hb := hb.elim
section
variable {prog : Program} {w : World} {T : Hp} {A : Around} {env : Env} {G : Gam}
theorem glob {x:Str}{pos:Pos}(v:Value)(hT:T.le Tp)(hx:autoParam (env.kindOf x = some .globalImplicit) sK)(hv:autoParam (glTab.lookup x = some v) sK)
  (hk : autoParam (env.scope.kind = .function) sK) (hg : autoParam (env.globals = mainGlobals) sK) (hd : autoParam ((x == ("__debug__" : Str)) = false) sK) : EvA prog w T A env G (.Name x pos) (.v v) := EvA.glob v (fun h p => (hT.p h p).n) hx hv hk hg hd
theorem bltn {x:Str}{pos:Pos}(v:Value)(hT:T.le Tp)(hx:autoParam (env.kindOf x = some .globalImplicit) sK)(hv:autoParam (blTab.lookup x = some v) sK)
  (hk : autoParam (env.scope.kind = .function) sK) (hg : autoParam (env.globals = mainGlobals) sK) (hb : autoParam (env.builtins = builtinsNs) sK) (hd : autoParam ((x == ("__debug__" : Str)) = false) sK) : EvA prog w T A env G (.Name x pos) (.v v) := EvA.bltn v (fun h p => (hT.p h p).n) hx hv hk hg hb hd
end
theorem DvAll.length {X:Addr → Prop}{h:Heap} : ∀ {as:List Dv}{vs:List Value}, DvAll X h as vs → vs.length = as.length
 | [], vs, e => by have : vs = [] := e; subst this; rfl
 | a :: as, vs, ⟨v, vs', e, _, h2⟩ => by subst e; simpa using DvAll.length h2
structure CtT (T₀ : Hp) (prog : Program) (w : World) (n : Nat) (f : Value) (as : List Dv) (r : Dv) : Prop where
 of : ∀ T A, T.le T₀ → OkA A n → Fn prog w T A f as r
noncomputable abbrev Ct := CtT Tp
noncomputable def Ret (T:Hp)(r:Dv)(s₀:Shared) : Flow → Shared → Prop := fun f s' => r.p T.X s'.heap (match f with | .ret v => v | _ => .none) ∧ KtX noW s₀ s'
noncomputable def Qna (i a:Nat)(L:Addr)(pm:Value) : Env := callEnvC (Qdz i (.ref (a - 1)) pm .none) L a
section
variable {prog : Program} {w : World} {T T' : Hp} {A : Around} {env : Env} {G : Gam} {O : Own} {s₀ s : Shared} {rest : List Stmt}
theorem ret {e:Expr}{pos:Pos}{a:Dv}{R:Flow → Shared → Prop}(hT:T'.le T)(F:Fx noW T' s₀ env G O s)(he:EvF prog w T' A env G O e a)(hR:∀ v s', Ret T a s₀ (.ret v) s' → R (.ret v) s' := by exact fun ζ ζ h => h) : Go prog w A env (.Return (some e) pos :: rest) R s :=
 QEj a F he fun v s' h k => hR v s' ⟨h.less hT.X, k⟩
theorem Qby {T₀:Hp}{x:Str}{np pos:Pos}{args:List Expr}{f:Value}{as:List Dv}{r:Dv}{n m:Nat}(ct:CtT T₀ prog w n f as r)(hT:T.le T₀)(ok:OkA A m)(hf:EvA prog w T A env G (.Name x np) (.v f))(ha:EvL prog w T A env G (backTo pos (starEach args env)) as)
  (hn : n ≤ m := by lia) : EvA prog w T A env G (.Call (.Name x np) args [] pos) r := EvA.call hf ha (ct.of T A hT (ok.le hn))
theorem Qev {a:Addr}{fd:FuncData}{E:Value → Shared → Prop}(hf:FnAt s.heap a fd) : wpAny (model prog w) A (keeperOf (.ref a)) (fun ζ s' => s' = s) E s := by
 refine Qpj (hf) fun o ho hd ζ => ?_
 unfold keeperOf
 refine wpAny_bind (wpAny_load ho ?_)
 rw [hd]
 exact wpAny_pure rfl
theorem ct_def {T₀:Hp}(hT₀:T₀.le Tp){a i n:Nat}{names:List Str}{as:List Dv}{r:Dv}(hm:(a, i) ∈ Qnc)
  (h : ∀ T T' A L pm s₀ s₁, T.le T₀ → T'.le T → OkA A n → Fx noW T' s₀ (Qna i a L pm) (names.zip as) none s₁ → Go prog w A (Qna i a L pm) (Qda i) (Ret T r s₀) s₁)
  (hbody : autoParam (∀ c pm, (Qdz i c pm .none).body = .stmts (Qda i)) sK) (hbind : ∀ c pm vals, vals.length = names.length → bindArgs (Qdz i c pm .none) ⟨vals, []⟩ = pure (names.zip vals)) (hnd : autoParam (names.Nodup) sD)
  (hclo : autoParam (∀ c pm, (Qdz i c pm .none).closure = []) sK) (hlen : autoParam (names.length = as.length) sR)
  (hkind : ∀ c pm, ∀ x ∈ names, (Qdz i c pm .none).scope.names.lookup x = some .local ∨ (Qdz i c pm .none).scope.names.lookup x = some .cell)
  (hco : autoParam (∀ c pm, (Qdz i c pm .none).scope.isCoroutine = false) sK) (hgen : autoParam (∀ c pm, (Qdz i c pm .none).scope.isGenerator = false) sK) (hk : autoParam (∀ c pm, (Qdz i c pm .none).scope.kind = .function) sK) :
  CtT T₀ prog w (n + 1) (.ref a) as r := ⟨fun T A hT ok => by
 refine ⟨fun E s hp => ?_, fun E s vs hp hv => ?_⟩
 ·refine eE (((hT.trans hT₀).p _ hp).defs a i hm) fun pm hf => ?_
  exact Qev hf
 ·refine eE (((hT.trans hT₀).p _ hp).defs a i hm) fun pm hf => ?_
  have hvl : vs.length = names.length := by rw [hlen]; exact DvAll.length hv
  refine wpAny_mono (fn_enter (W := noW) (T := T) (body := Qda i) (names := names) (as := as) (r := r) (n := n) hf ok ((hT.trans hT₀).p _ hp).lim hp (fun ζ q => q.elim) hv (hbody _ _) (hbind _ _ vs hvl) hnd (hclo _ _) hlen (hkind _ _) (hco _ _) (hgen _ _) (hk _ _) (fun s₁ F ok' => ?_)) (fun v s' q => ⟨q.1, q.2.kt⟩) fun ζ ζ x => x
  exact h T _ _ s.heap.objs.size pm s s₁ hT (Hp.push_le _ _) ok' F⟩
end
theorem len1 {vs:List Value}{x:Str}(h:vs.length = [x].length) : ∃ v, vs = [v] := by
 exact List.length_eq_one_iff.mp h
theorem len2 {vs:List Value}{x y:Str}(h:vs.length = [x, y].length) : ∃ v u, vs = [v, u] := by
 cases vs with
 | nil => exact absurd (show 0 = 2 from h) (by decide)
 | cons a t => exact eE (List.length_eq_one_iff.mp (Nat.succ.inj h)) fun b e => ⟨a, b, e ▸ rfl⟩
end Mine
namespace Mine
open PySem PySem.Spec PySem.Calls PyProof.Rows
open Sem (wp)
theorem kind_isn : builtinKind "issubclass.nested" = none := by decide +kernel
theorem plain_isn : plainId "issubclass.nested" = true := by decide +kernel
theorem args_isn (a b c:Value) : argsOk "issubclass.nested" ⟨[a, b, c], []⟩ := by unfold argsOk; kernel_rfl
section
variable {prog : Program} {w : World} {A : Around} {E : Value → Shared → Prop}
theorem isn_str {dep:Int}{tk:Tok} : Meets (Builtin.«issubclass.nested» ⟨[.type "str", .type "str", .int dep tk], []⟩) (fun ζ R s => R (.ok (.ret (.bool true))) s) := by
 refine .of_wp fun prog w A R s h => ?_
 obtain ⟨hp, g, d, t, os⟩ := s
 have f1 : isSubtype (.type "str") (.type "str") = pure true := F.sub_str_str
 have f2 : typeOf (.type "str") = pure (.type "type") := by first | rfl | kernel_rfl
 repeat (any_goals (first | assumption | (rw [f2]) | (rw [f1]) | wp_step))
 exact ⟨_, rfl, h⟩
theorem issub_tuple {tp:Addr}{cs:List Value}(hcs:cs = [.type "str", .type "bytes"]) : Meets (Builtin.«issubclass» ⟨[.type "str", .ref tp], []⟩)
   (fun ζ R s => s.heap.get? tp = some { cls := .type "tuple", data := .seq cs.toArray } ∧ R (.ok (.ret (.bool true))) s) := by
 intro prog w A R s hs
 refine eA (hs) fun htp hq => ?_
 refine issubclass_outer ?_
 obtain ⟨h, g, d, t, os⟩ := s
 have hT2 : (⟨h, g, d, t, os⟩ : Shared).TypeIs (.ref tp) "tuple" := ⟨_, htp, rfl⟩
 have f1 := F.isi_sub_tuple
 repeat (any_goals (first | assumption | wp_step))
 refine wpAny_arrayLoop ?_
 subst hcs
 show wpAny _ _ (forIn [Value.type "str", Value.type "bytes"] _ _) _ _ _
 rw [List.forIn_cons]
 refine wpAny_bind (wpAny_bind (call_function_meets kind_isn plain_isn F.entry_issubclass_nested (args_isn _ _ _) isn_str ?_))
 show wpAny _ _ (truthy (.bool true) >>= _) _ _ _
 refine wpAny_bind (m := truthy (.bool true)) (wpAny_pure ?_)
 refine wpAny_bind (wpAny_pure (wpAny_pure (wpAny_pure ?_)))
 repeat (any_goals (first | assumption | wp_step))
end
end Mine
namespace Mine
open PySem PySem.Spec PySem.Calls PyProof.Rows
section
variable {prog : Program} {w : World} {T : Hp} {A : Around} {env : Env} {G : Gam}
theorem wrp {s:Shared}{X:Addr → Prop}{r:Dv}{v:Value}{k:Nat}(h:r.p X s.heap v) : r.p X ({ s with toks := k } : Shared).heap v ∧ Kt s { s with toks := k } := ⟨h, .tok s k⟩
theorem Qyz {X:Addr → Prop}{h:Heap} : ∀ {xs:List Str}{vs:List Value}, RdAll X h (xs.map .str) vs → ∃ l : List (Str × Tok), vs = strValues l ∧ l.map (·.1) = xs
 | [], _, r => ⟨[], by simpa [strValues] using RdAll.nil_inv (X := X) (h := h) r, rfl⟩
 | x :: xs, _, r => by
  refine Qac (RdAll.cons_inv (d := .str x) (ds := xs.map .str) r) fun v vs' e0 r1 r2 => ?_
  refine eE (r1.str_inv) fun t e1 => ?_
  refine eEA (Qyz r2) fun l e2 e => ?_
  exact ⟨(x, t) :: l, by rw [e0, e1, e2]; rfl, by simp [e]⟩
theorem Qiw {X:Addr → Prop}{h:Heap} : ∀ (l:List (Str × Tok)), RdAll X h ((l.map (·.1)).map .str) (strValues l)
 | [] => RdAll.nil
 | (x, t) :: l => RdAll.cons Rd.str (Qiw l)
theorem QDj {X:Addr → Prop}{h:Heap} : ∀ {ds:List PyData}{vs:List Value}, DvAll X h (ds.map .d) vs → RdAll X h ds vs
 | [], vs, r => by have : vs = [] := r; subst this; exact RdAll.nil
 | d :: ds, vs, r => by
  refine Qac (r) fun v vs' e h1 h2 => ?_
  subst e
  exact RdAll.cons h1 (QDj h2)
theorem dvAll_v {X:Addr → Prop}{h:Heap} : ∀ {us:List Value}{vs:List Value}, DvAll X h (us.map .v) vs → vs = us
 | [], vs, r => r
 | u :: us, vs, r => by
  refine Qac (r) fun v vs' e h1 h2 => ?_
  rw [e, dvAll_v h2]
  have : v = u := h1
  rw [this]
theorem EvA.tuple {elts:List Expr}{k:Nat}{pos:Pos}{ds:List PyData}(h:EvL prog w T A env G (backTo pos (starEach elts env)) (ds.map .d))(hsz:autoParam (ds.length ≤ sizeLine) sD) : EvA prog w T A env G (.Tuple elts k pos) (.d (.tuple ds)) := ⟨fun E s hp hv =>
 wpAny_Tuple (wpAny_mono (h.of E s hp hv) (fun vs s' q => by
  refine eA (q) fun h1 k => ?_
  have r := QDj h1
  refine ⟨by rw [r.length]; exact hsz, ?_, k.trans (Kt.mk' s' s'.toks (Qav _ _))⟩
  have hp' := T.kt hp k
  exact Dv.p.tuple (fun hx => Qax (Nat.le_refl _) (T.live _ hp' _ hx)) ⟨_, Heap.get?_push_size _ rfl, rfl, _, rfl⟩ (by simpa using r.kp (Qav _ _).kpx)) fun ζ ζ x => x)⟩
theorem EvA.tupleV {elts:List Expr}{k:Nat}{pos:Pos}{us:List Value}(h:EvL prog w T A env G (backTo pos (starEach elts env)) (us.map .v))(hsz:autoParam (us.length ≤ sizeLine) sD) : EvA prog w T A env G (.Tuple elts k pos) (.tv us) := ⟨fun E s hp hv =>
 wpAny_Tuple (wpAny_mono (h.of E s hp hv) (fun vs s' q => by
  refine eA (q) fun h1 k => ?_
  have r := dvAll_v h1
  subst r
  have hp' := T.kt hp k
  exact ⟨hsz, ⟨_, rfl, fun hx => Qax (Nat.le_refl _) (T.live _ hp' _ hx), Heap.get?_push_size _ rfl⟩, k.trans (Kt.mk' s' s'.toks (Qav _ _))⟩) fun ζ ζ x => x)⟩
theorem EvA.list {elts:List Expr}{pos:Pos}{ds:List PyData}(h:EvL prog w T A env G (backTo pos (starEach elts env)) (ds.map .d))(hsz:autoParam (ds.length ≤ sizeLine) sD) : EvA prog w T A env G (.List elts pos) (.pl ds) := ⟨fun E s hp hv =>
 wpAny_List (wpAny_mono (h.of E s hp hv) (fun vs s' q => by
  refine eA (q) fun h1 k => ?_
  have r := QDj h1
  refine ⟨by rw [r.length]; exact hsz, ?_, k.trans (Kt.mk' s' s'.toks (Qav _ _))⟩
  have hp' := T.kt hp k
  exact ⟨_, _, _, rfl, fun hx => Qax (Nat.le_refl _) (T.live _ hp' _ hx), Heap.get?_push_size _ rfl, rfl, rfl, ⟨_, rfl⟩, by simpa using r.kp (Qav _ _).kpx⟩) fun ζ ζ x => x)⟩
theorem OpM.str1 {id:String}{x y:Str}{r:PyData}(h:∀ (E:Value → Shared → Prop)(s:Shared)(t u:Tok)(Q:Value → Shared → Prop), (∀ v k, (Dv.d r).p T.X s.heap v → Q v { s with toks := k }) → wpAny (model prog w) A (call (.builtin id) [.str x t, .str y u]) Q E s) : OpM prog w T A id (.d (.str x)) [.d (.str y)] (.d r) := ⟨fun E s ov vs ζ h1 h2 => by
 refine eE (h1.str_inv) fun t ρ0 => ?_
 subst ρ0
 refine Qac (h2) fun v vs' ρ1 h3 ρ2 => ?_
 subst ρ1
 subst ρ2
 refine eE (h3.str_inv) fun u ρ3 => ?_
 subst ρ3
 exact h E s t u _ fun v k hv => wrp hv⟩
theorem Qok {x y:Str} : OpM prog w T A "str.startswith" (.d (.str x)) [.d (.str y)] (.d (.bool (Txt.startswith x y))) := .str1 fun E s t u Q h => SC.startswith (h _ s.toks Dv.p.bool)
theorem op_endswith {x y:Str} : OpM prog w T A "str.endswith" (.d (.str x)) [.d (.str y)] (.d (.bool (Txt.endswith x y))) := .str1 fun E s t u Q h => SC.endswith (h _ s.toks Dv.p.bool)
theorem op_count {x y:Str} : OpM prog w T A "str.count" (.d (.str x)) [.d (.str y)] (.d (.int (Txt.count x y))) := .str1 fun E s t u Q h => SC.count (h _ _ Dv.p.int)
theorem op_rfind {x y:Str} : OpM prog w T A "str.rfind" (.d (.str x)) [.d (.str y)] (.d (.int (Txt.rfind x y))) := .str1 fun E s t u Q h => SC.rfind (h _ _ Dv.p.int)
theorem op_rstrip {x y:Str}(hsz:x.length ≤ sizeLine) : OpM prog w T A "str.rstrip" (.d (.str x)) [.d (.str y)] (.d (.str (Txt.rstripChars x y))) := .str1 fun E s t u Q h => SC.rstripChars (fun t' k => h _ _ Dv.p.str) hsz
theorem Qrw : Mth "str" "startswith" "str.startswith" := ⟨F.plainAttrs_str, F.slot_str_startswith, F.type_str_startswith⟩
theorem m_endswith : Mth "str" "endswith" "str.endswith" := ⟨F.plainAttrs_str, F.slot_str_endswith, F.type_str_endswith⟩
theorem m_count : Mth "str" "count" "str.count" := ⟨F.plainAttrs_str, F.slot_str_count, F.type_str_count⟩
theorem m_rfind : Mth "str" "rfind" "str.rfind" := ⟨F.plainAttrs_str, F.slot_str_rfind, F.type_str_rfind⟩
theorem m_rstrip : Mth "str" "rstrip" "str.rstrip" := ⟨F.plainAttrs_str, F.slot_str_rstrip, F.type_str_rstrip⟩
theorem m_join : Mth "str" "join" "str.join" := ⟨F.plainAttrs_str, F.slot_str_join, F.type_str_join⟩
theorem QCq : Mth "str" "split" "str.split" := ⟨F.plainAttrs_str, F.slot_str_split, F.type_str_split⟩
theorem m_replace : Mth "str" "replace" "str.replace" := ⟨F.plainAttrs_str, F.slot_str_replace, F.type_str_replace⟩
theorem Qrz {s:Shared}{vs:List Value}{xs:List PyData}{k:Nat}(hp:T.p s.heap)(r:RdAll T.X s.heap xs vs) :
  (Dv.d (.list xs)).p T.X (s.heap.push { cls := .type "list", data := .seq vs.toArray }) (.ref s.heap.objs.size) ∧ Kt s { s with heap := s.heap.push { cls := .type "list", data := .seq vs.toArray }, toks := k } :=
 ⟨Dv.p.list (fun hx => Qax (Nat.le_refl _) (T.live _ hp _ hx)) ⟨_, Heap.get?_push_size _ rfl, rfl, _, rfl⟩ (by simpa using r.kp (Qav _ _).kpx), Kt.mk' s k (Qav _ _)⟩
open Builtin Builtin.Str in
theorem Qtz {x y:Str}(hy:(y.length == 0) = false)(hsz:x.length ≤ sizeLine)(hsz2:(partsBetween x (occurrences x y 0 x.length (x.length + 1)) y.length).length ≤ sizeLine) : OpM prog w T A "str.split" (.d (.str x)) [.d (.str y)] (.d (.list ((Txt.split x y).map .str))) := ⟨fun E s ov vs hp h1 h2 => by
 refine eE (h1.str_inv) fun t ρ4 => ?_
 subst ρ4
 refine Qac (h2) fun v vs' ρ5 h3 ρ6 => ?_
 subst ρ5
 subst ρ6
 refine eE (h3.str_inv) fun u ρ7 => ?_
 subst ρ7
 unfold Txt.split
 cases h1 : (decide (x.length < y.length) || decide (strKind x < strKind y)) with
 | true =>
  simp only [if_true]
  exact call_meets F.slot_str_split (typeIs_str _ _ _) F.entry_str_split (F.args_str_split_2 _ _) (meets_str_split_cannot_occur x y t u h1) (Qrz (k := s.toks) hp (Qiw [(x, t)]))
 | false =>
  cases hf : (occurrences x y 0 x.length (x.length + 1)).isEmpty with
  | true =>
   simp only [Bool.false_eq_true, if_false, if_true]
   exact call_meets F.slot_str_split (typeIs_str _ _ _) F.entry_str_split (F.args_str_split_2 _ _) (meets_str_split_not_found x y t u h1 hy hf) (Qrz (k := s.toks) hp (Qiw [(x, t)]))
  | false =>
   simp only [Bool.false_eq_true, if_false]
   refine call_meets F.slot_str_split (typeIs_str _ _ _) F.entry_str_split (F.args_str_split_2 _ _) (meets_str_split_sep x y t u h1 hy hf hsz hsz2) ?_
   have e := numbered_texts s.toks (partsBetween x (occurrences x y 0 x.length (x.length + 1)) y.length)
   show wants _ E _ { s with toks := _, heap := s.heap.push { cls := .type "list", data := .seq (strsFrom s.toks (partsBetween x (occurrences x y 0 x.length (x.length + 1)) y.length)).toArray } }
   rw [strsFrom_eq]
   have r := Qiw (X := T.X) (h := s.heap) (numbered s.toks (partsBetween x (occurrences x y 0 x.length (x.length + 1)) y.length))
   rw [e] at r
   exact Qrz hp r⟩
theorem EvA.join {o e:Expr}{apos pos:Pos}{sep:Str}{xs:List Str}(ho:EvA prog w T A env G o (.d (.str sep)))(he:EvA prog w T A env G e (.d (.list (xs.map .str))))(hok:JoinOk sep xs = true)
  (hbase : autoParam (attributeBase o "join" env (eval o env) = eval o env) sK) (hline : autoParam ((apos.endLine == pos.line) = true) sK) (hs : autoParam (starEach [e] env = (false, eval e env) :: starEach [] env) sK) :
  EvA prog w T A env G (.Call (.Attribute o "join" apos) [e] [] pos) (.d (.str (Txt.join sep xs))) :=
 EvA.meth m_join ho Qgj (EvL.cons he .nil' hs) ⟨fun E s ov vs ζ h1 h2 => by
  refine eE (h1.str_inv) fun t ρ8 => ?_
  subst ρ8
  refine Qac (h2) fun v vs' ρ9 h3 ρ10 => ?_
  subst ρ9
  subst ρ10
  refine Qck (h3.list_inv) fun D items ρ11 hx hl hr => ?_
  subst ρ11
  refine eEA (Qyz hr) fun l e1 e2 => ?_
  exact SC.join (l := l) (by rw [← e1]; exact hl) e2 hok fun t' k => wrp Dv.p.str⟩ hbase hline
theorem Qfc {x y:Str}(hz:x.length + y.length ≤ sizeLine) : Op2 prog w T A (binaryOp .Add) (.d (.str x)) (.d (.str y)) (.d (.str (x ++ y))) := ⟨fun E s v1 v2 ζ p1 p2 => by
 refine eE (p1.str_inv) fun t ρ12 => ?_
 subst ρ12
 refine eE (p2.str_inv) fun u ρ13 => ?_
 subst ρ13
 exact PyProof.Rows.add_str (fun t' k => wrp Dv.p.str) hz⟩
theorem Qia {x y:Str}(hz:x.length + y.length ≤ sizeLine) : Op2 prog w T A (inplaceOp .Add) (.d (.str x)) (.d (.str y)) (.d (.str (x ++ y))) := ⟨fun E s v1 v2 ζ p1 p2 => by
 refine eE (p1.str_inv) fun t ρ14 => ?_
 subst ρ14
 refine eE (p2.str_inv) fun u ρ15 => ?_
 subst ρ15
 exact PyProof.Rows.iadd_str (fun t' k => wrp Dv.p.str) hz⟩
theorem op_gtStr {x y:Str} : Op2 prog w T A (compareOp .Gt) (.d (.str x)) (.d (.str y)) (.d (.bool (decide (y.cps.toList < x.cps.toList)))) := ⟨fun E s v1 v2 ζ p1 p2 => by
 refine eE (p1.str_inv) fun t ρ16 => ?_
 subst ρ16
 refine eE (p2.str_inv) fun u ρ17 => ?_
 subst ρ17
 exact P.gt_str ⟨Dv.p.bool, .refl s⟩⟩
theorem op_ltStr {x y:Str} : Op2 prog w T A (compareOp .Lt) (.d (.str x)) (.d (.str y)) (.d (.bool (decide (x.cps.toList < y.cps.toList)))) := ⟨fun E s v1 v2 ζ p1 p2 => by
 refine eE (p1.str_inv) fun t ρ18 => ?_
 subst ρ18
 refine eE (p2.str_inv) fun u ρ19 => ?_
 subst ρ19
 exact P.lt_str ⟨Dv.p.bool, .refl s⟩⟩
theorem Qcb {x y:Str} : Op2 prog w T A (compareOp .Eq) (.d (.str x)) (.d (.str y)) (.d (.bool (x == y))) := ⟨fun E s v1 v2 ζ p1 p2 => by
 refine eE (p1.str_inv) fun t ρ20 => ?_
 subst ρ20
 refine eE (p2.str_inv) fun u ρ21 => ?_
 subst ρ21
 exact eq_str ⟨Dv.p.bool, .refl s⟩⟩
theorem Qiz {x y:Str} : Op2 prog w T A (compareOp .NotEq) (.d (.str x)) (.d (.str y)) (.d (.bool (!(x == y)))) := ⟨fun E s v1 v2 ζ p1 p2 => by
 refine eE (p1.str_inv) fun t ρ22 => ?_
 subst ρ22
 refine eE (p2.str_inv) fun u ρ23 => ?_
 subst ρ23
 exact ne_str ⟨Dv.p.bool, .refl s⟩⟩
theorem Qbj {x y:Str} : Op2 prog w T A (compareOp .In) (.d (.str x)) (.d (.str y)) (.d (.bool (Txt.contains y x))) := ⟨fun E s v1 v2 ζ p1 p2 => by
 refine eE (p1.str_inv) fun t ρ24 => ?_
 subst ρ24
 refine eE (p2.str_inv) fun u ρ25 => ?_
 subst ρ25
 exact in_str ⟨Dv.p.bool, .refl s⟩⟩
theorem op_subBool {p q:Bool} : Op2 prog w T A (binaryOp .Sub) (.d (.bool p)) (.d (.bool q)) (.d (.int (b2i p - b2i q))) := ⟨fun E s v1 v2 ζ p1 p2 => by
 rw [p1.bool_inv, p2.bool_inv]
 exact sub_bool (wrp Dv.p.int)⟩
theorem Qhw {x y:Int} : Op2 prog w T A (binaryOp .Add) (.d (.int x)) (.d (.int y)) (.d (.int (x + y))) := ⟨fun E s v1 v2 ζ p1 p2 => by
 refine eE (p1.int_inv) fun t ρ26 => ?_
 subst ρ26
 refine eE (p2.int_inv) fun u ρ27 => ?_
 subst ρ27
 exact P.add_int (wrp Dv.p.int)⟩
theorem Qub {x y:Int} : Op2 prog w T A (binaryOp .Sub) (.d (.int x)) (.d (.int y)) (.d (.int (x - y))) := ⟨fun E s v1 v2 ζ p1 p2 => by
 refine eE (p1.int_inv) fun t ρ30 => ?_
 subst ρ30
 refine eE (p2.int_inv) fun u ρ31 => ?_
 subst ρ31
 exact P.sub_int (wrp Dv.p.int)⟩
theorem Qkc {x y:Int}(hy:y ≠ 0) : Op2 prog w T A (binaryOp .Mod) (.d (.int x)) (.d (.int y)) (.d (.int (x.fmod y))) := ⟨fun E s v1 v2 ζ p1 p2 => by
 refine eE (p1.int_inv) fun t ρ32 => ?_
 subst ρ32
 refine eE (p2.int_inv) fun u ρ33 => ?_
 subst ρ33
 exact mod_int hy (wrp Dv.p.int)⟩
theorem Qow {x y:Int} : Op2 prog w T A (compareOp .Lt) (.d (.int x)) (.d (.int y)) (.d (.bool (decide (x < y)))) := ⟨fun E s v1 v2 ζ p1 p2 => by
 refine eE (p1.int_inv) fun t ρ34 => ?_
 subst ρ34
 refine eE (p2.int_inv) fun u ρ35 => ?_
 subst ρ35
 exact lt_int ⟨Dv.p.bool, .refl s⟩⟩
theorem op_gtInt {x y:Int} : Op2 prog w T A (compareOp .Gt) (.d (.int x)) (.d (.int y)) (.d (.bool (decide (y < x)))) := ⟨fun E s v1 v2 ζ p1 p2 => by
 refine eE (p1.int_inv) fun t ρ36 => ?_
 subst ρ36
 refine eE (p2.int_inv) fun u ρ37 => ?_
 subst ρ37
 exact gt_int ⟨Dv.p.bool, .refl s⟩⟩
theorem Fn.plain {f:Value}{as:List Dv}{r:Dv}(hf:∀ a, f ≠ .ref a)(h:∀ E s vs, T.p s.heap → DvAll T.X s.heap as vs → wpAny (model prog w) A (call f vs) (fun v s' => r.p T.X s'.heap v ∧ Kt s s') E s) : Fn prog w T A f as r := by
 refine ⟨fun E s hp => ?_, h⟩
 unfold keeperOf
 cases f with
 | ref a => exact absurd rfl (hf a)
 | _ => exact wpAny_pure rfl
theorem Qrx {x:Str} : Fn prog w T A (.type "type") [.d (.str x)] (.v (.type "str")) := .plain (fun ζ e => nomatch e) fun E s vs hp h => by
 refine Qac (h) fun v vs' ρ38 h1 ρ39 => ?_
 subst ρ38
 subst ρ39
 refine eE (h1.str_inv) fun t ρ40 => ?_
 subst ρ40
 exact call_type_of (typeIs_str _ _ _) (by decide +kernel) ⟨rfl, .refl s⟩
theorem fn_issub : Fn prog w T A (.builtin "issubclass") [.v (.type "str"), .tv [.type "str", .type "bytes"]] (.d (.bool true)) := .plain (fun ζ e => nomatch e) fun E s vs hp h => by
 refine Qhb (h) fun v vs' ρ41 h1 u us' ρ42 h2 ρ43 => ?_
 subst ρ41
 subst ρ42
 subst ρ43
 have : v = .type "str" := h1
 subst this
 refine Qpj (h2) fun a ρ44 hx ha => ?_
 subst ρ44
 exact call_issubclass (issub_tuple rfl) ⟨ha, ⟨Dv.p.bool, .refl s⟩⟩
theorem Qga {x:Str} : Fn prog w T A (.builtin "isinstance") [.d (.str x), .v (.type "bytes")] (.d (.bool false)) := .plain (fun ζ e => nomatch e) fun E s vs hp h => by
 refine Qhb (h) fun v vs' ρ45 h1 u us' ρ46 h2 ρ47 => ?_
 subst ρ45
 subst ρ46
 subst ρ47
 have : u = .type "bytes" := h2
 subst this
 refine eE (h1.str_inv) fun t ρ48 => ?_
 subst ρ48
 exact IsiPair.str_bytes (wrp Dv.p.bool)
theorem QHj {x:Str} : Fn prog w T A (.builtin "isinstance") [.d (.str x), .v (.type "str")] (.d (.bool true)) := .plain (fun ζ e => nomatch e) fun E s vs hp h => by
 refine Qhb (h) fun v vs' ρ49 h1 u us' ρ50 h2 ρ51 => ?_
 subst ρ49
 subst ρ50
 subst ρ51
 have : u = .type "str" := h2
 subst this
 refine eE (h1.str_inv) fun t ρ52 => ?_
 subst ρ52
 exact IsiPair.str_str ⟨Dv.p.bool, .refl s⟩
theorem QHx {x:Str}(hx:x.length ≤ sizeLine) : Fn prog w T A (.builtin "len") [.d (.str x)] (.d (.int x.length)) := .plain (fun ζ e => nomatch e) fun E s vs hp h => by
 refine Qac (h) fun v vs' ρ53 h1 ρ54 => ?_
 subst ρ53
 subst ρ54
 refine eE (h1.str_inv) fun t ρ55 => ?_
 subst ρ55
 have : x.length ≤ 2 ^ 24 := hx
 exact P.len_str (by lia) (wrp Dv.p.int)
theorem Qbz {xs:List PyData}(hx:xs.length ≤ sizeLine) : Fn prog w T A (.builtin "len") [.d (.list xs)] (.d (.int xs.length)) := .plain (fun ζ e => nomatch e) fun E s vs hp h => by
 refine Qac (h) fun v vs' ρ56 h1 ρ57 => ?_
 subst ρ56
 subst ρ57
 refine Qck (h1.list_inv) fun a us ρ58 hX hl hr => ?_
 subst ρ58
 have : xs.length ≤ 2 ^ 24 := hx
 have e : us.size = xs.length := by have := hr.length; simpa using this
 refine len_list hl (by lia) ?_
 rw [e]; exact wrp Dv.p.int
end
section
variable {prog : Program} {w : World} {T : Hp} {A : Around} {env : Env} {G : Gam}
theorem sub_tail {value slice:Expr}{o i:Value}{ty id:String}{E:Value → Shared → Prop}{Q:Value → Shared → Prop}{s:Shared}(hT:s.TypeIs o ty)(hl:typeLookup (.type ty) "__getitem__" = pure (some (.builtin id)))
  (hs : ∀ {Q : Value → Shared → Prop} {s : Shared}, wpAny (model prog w) A (getItem o i) Q E s → wpAny (model prog w) A (subscripted slice false o i) Q E s)
  (h : wpAny (model prog w) A (getItem o i) Q E s) : wpAny (model prog w) A (subscriptTail value slice o i) Q E s := by
 unfold subscriptTail
 refine wpAny_bind ?_
 rw [getitemInPython_of_ne hT.not_modules]
 refine wpAny_bind (wpAny_specialOf hT hl ?_)
 have fin : wpAny (model prog w) A (subscripted slice false o i) (fun r s₃ => wpAny (model prog w) A (letTemporaryGo value o r >>= fun ζ => pure r) Q E s₃) E s :=
  hs (wpAny_mono h (fun r s₃ h₃ => wpAny_bind (wpAny_letTemporaryGo (wpAny_pure h₃))) fun ζ ζ x => x)
 exact wpAny_pure (wpAny_bind fin)
structure ItT (a : Dv) (ty id : String) : Prop where
 of : ∀ (X : Addr → Prop) (s : Shared) v, a.p X s.heap v → s.TypeIs v ty
 look : typeLookup (.type ty) "__getitem__" = pure (some (.builtin id))
theorem Qfv {xs:List PyData} : ItT (.d (.list xs)) "list" "list.__getitem__" := ⟨fun X s v h => by obtain ⟨a, vs, rfl, hx, ⟨o, ho, hc, _⟩, _⟩ := h.list_inv; exact ⟨o, ho, hc⟩, list_getitem_lookup⟩
theorem itT_tuple {xs:List PyData} : ItT (.d (.tuple xs)) "tuple" "tuple.__getitem__" := ⟨fun X s v h => by obtain ⟨a, vs, rfl, hx, ⟨o, ho, hc, _⟩, _⟩ := h.tuple_inv; exact ⟨o, ho, hc⟩, F.slot_tuple_getitem.lookup⟩
theorem itT_str {x:Str} : ItT (.d (.str x)) "str" "str.__getitem__" := ⟨fun X s v h => by obtain ⟨t, rfl⟩ := h.str_inv; exact typeIs_str _ _ _, F.slot_str_getitem.lookup⟩
theorem EvA.sub {value slice:Expr}{pos:Pos}{ty id:String}{a1 a2 r:Dv}(t:ItT a1 ty id)(h1:EvA prog w T A env G value a1)(h2:EvA prog w T A env G slice a2)(h:Op2 prog w T A getItem a1 a2 r)(hs:autoParam (∀ o i, subscripted slice false o i = operate [o, i] (getItem o i)) sK) : EvA prog w T A env G (.Subscript value slice pos) r := ⟨fun E s hp hv =>
 Subscript_ (two h1 h2 hp hv fun v1 v2 s' k p1 p2 => sub_tail (t.of _ s' v1 p1) t.look (fun q => by rw [hs]; exact wpAny_operating q) (wpAny_mono (h.of E s' v1 v2 (T.kt hp k) p1 p2) (fun ζ ζ x => ⟨x.1, k.trans x.2⟩) fun ζ ζ x => x))⟩
theorem Qdq {xs:List PyData}{i:Int}{d:PyData}(h0:0 ≤ i)(hi:i < 2 ^ 63)(hd:xs[i.toNat]? = some d) : Op2 prog w T A getItem (.d (.list xs)) (.d (.int i)) (.d d) := ⟨fun E s v1 v2 ζ p1 p2 => by
 refine Qck (p1.list_inv) fun a vs ρ0 hx hl hr => ?_
 subst ρ0
 refine eE (p2.int_inv) fun t ρ1 => ?_
 subst ρ1
 refine eEA (hr.get i.toNat d hd) fun v hv r => ?_
 exact wpAny_getItem_list hl h0 hi (by simpa using hv) ⟨r, .refl s⟩⟩
theorem Qxx {xs:List PyData}{i:Int}{d:PyData}(h0:i < 0)(h1:-(xs.length : Int) ≤ i)(hi:-(2 ^ 63) ≤ i)(hd:xs[(i + xs.length).toNat]? = some d) : Op2 prog w T A getItem (.d (.list xs)) (.d (.int i)) (.d d) := ⟨fun E s v1 v2 ζ p1 p2 => by
 refine Qck (p1.list_inv) fun a vs ρ2 hx hl hr => ?_
 subst ρ2
 refine eE (p2.int_inv) fun t ρ3 => ?_
 subst ρ3
 have e : vs.size = xs.length := by have := hr.length; simpa using this
 refine eEA (hr.get _ d hd) fun v hv r => ?_
 exact wpAny_getItem_list_neg hl h0 (by rw [e]; exact h1) hi (by rw [e]; simpa using hv) ⟨r, .refl s⟩⟩
structure EvPt (prog : Program) (w : World) (T : Hp) (A : Around) (env : Env) (G : Gam) (e : Option Expr) (k : Option Int) : Prop where
 of : ∀ E s, T.p s.heap → Vw T.X env G s.heap → wpAny (model prog w) A (evalPart e env) (fun v s' => (∃ p : Option (Int × Tok), v = partValue p ∧ p.map (·.1) = k) ∧ Kt s s') E s
theorem EvPt.none : EvPt prog w T A env G none none := ⟨fun E s ζ ζ => by rw [evalPart_none]; exact wpAny_pure ⟨⟨Option.none, rfl, rfl⟩, .refl s⟩⟩
theorem EvPt.some {e:Expr}{i:Int}(h:EvA prog w T A env G e (.d (.int i))) : EvPt prog w T A env G (some e) (some i) := ⟨fun E s hp hv => by
 rw [evalPart_some]
 refine wpAny_mono (h.of E s hp hv) (fun v s' k => ?_) fun ζ ζ x => x
 refine eE (k.1.int_inv) fun t ρ4 => ?_
 subst ρ4
 exact ⟨⟨Option.some (i, t), rfl, rfl⟩, k.2⟩⟩
theorem Qzk {value:Expr}{lower upper:Option Expr}{p pos:Pos}{ty id:String}{a r:Dv}{lo hi:Option Int}(t:ItT a ty id)(hv:EvA prog w T A env G value a)(hl:EvPt prog w T A env G lower lo)(hu:EvPt prog w T A env G upper hi)
  (h : ∀ (E : Value → Shared → Prop) (s : Shared) (v vl vu : Value), T.p s.heap → a.p T.X s.heap v → (∃ p : Option (Int × Tok), vl = partValue p ∧ p.map (·.1) = lo) → (∃ p : Option (Int × Tok), vu = partValue p ∧ p.map (·.1) = hi) →
   wpAny (model prog w) A (getItem v (.ref s.heap.objs.size)) (fun v' s' => r.p T.X s'.heap v' ∧ Kt { s with heap := s.heap.push { cls := .type "slice", data := .fields #[vl, vu, .none] } } s') E { s with heap := s.heap.push { cls := .type "slice", data := .fields #[vl, vu, .none] } }) :
  EvA prog w T A env G (.Subscript value (.Slice lower upper none p) pos) r := ⟨fun E s hp hvw =>
 Subscript_ (wpAny_mono (hv.of E s hp hvw) (fun v s₁ k1 => wpAny_Slice (wpAny_mono (hl.of E s₁ (T.kt hp k1.2) (hvw.kp k1.2.kp)) (fun vl s₂ k2 => wpAny_mono (hu.of E s₂ (T.kt hp (k1.2.trans k2.2)) (hvw.kp (k1.2.trans k2.2).kp)) (fun vu s₃ k3 => by
  have kt := (k1.2.trans k2.2).trans k3.2
  have p1 := k1.1.kp (k2.2.trans k3.2).kp.kpx
  rw [evalPart_none]
  refine wpAny_pure (sub_tail (t.of T.X { s₃ with heap := _ } v (p1.kp (Qav _ _).kpx)) t.look (fun q => wpAny_operating q) ?_)
  refine wpAny_mono (h E s₃ v vl vu (T.kt hp kt) p1 k2.1 k3.1) (fun v' s' q => ⟨q.1, kt.trans ((Kt.mk' s₃ s₃.toks (Qav _ _)).trans q.2)⟩) fun ζ ζ x => x) fun ζ ζ x => x) fun ζ ζ x => x)) fun ζ ζ x => x)⟩
theorem EvA.sliceStr {value:Expr}{lower upper:Option Expr}{p pos:Pos}{x:Str}{lo hi:Option Int}(hv:EvA prog w T A env G value (.d (.str x)))(hl:EvPt prog w T A env G lower lo)(hu:EvPt prog w T A env G upper hi)(hsz:x.length ≤ sizeLine) :
  EvA prog w T A env G (.Subscript value (.Slice lower upper none p) pos) (.d (.str (Txt.slice x lo hi))) := Qzk itT_str hv hl hu fun E s v vl vu hp h1 h2 h3 => by
 refine eE (h1.str_inv) fun t ρ5 => ?_
 subst ρ5
 refine eEA (h2) fun p ρ6 ρ7 => ?_
 subst ρ6
 subst ρ7
 refine eEA (h3) fun q ρ8 ρ9 => ?_
 subst ρ8
 subst ρ9
 exact wpAny_getItem_str_slice (l := p) (u := q) (st := none) ⟨_, Heap.get?_push_size _ rfl, rfl, rfl⟩ rfl (post_val_or_str ⟨Nat.le_trans (Txt.slice_le x _ _) hsz, fun t' k => wrp Dv.p.str⟩)
noncomputable def Qmw (xs:List PyData)(lo hi:Option Int) : List PyData := (xs.drop (lo.elim 0 (clipAt xs.length))).take (hi.elim xs.length (clipAt xs.length) - lo.elim 0 (clipAt xs.length))
theorem part_is {p:Option (Int × Tok)} : IsPart (partValue p) (p.map (·.1)) := by
 cases p with
 | none => exact .none
 | some q => exact .int q.1 q.2
theorem rdAll_slice {X:Addr → Prop}{h:Heap}{xs:List PyData}{vs:Array Value}{lo hi:Option Int}(r:RdAll X h xs vs.toList) : RdAll X h (Qmw xs lo hi) (slicePick vs lo hi none).toList := by
 have e : vs.size = xs.length := by have := r.length; simpa using this
 rw [slicePick_plain, e]
 exact (r.drop _).take _
theorem EvA.sliceList {value:Expr}{lower upper:Option Expr}{p pos:Pos}{xs:List PyData}{lo hi:Option Int}(hv:EvA prog w T A env G value (.d (.list xs)))(hl:EvPt prog w T A env G lower lo)(hu:EvPt prog w T A env G upper hi)(hsz:xs.length ≤ sizeLine) :
  EvA prog w T A env G (.Subscript value (.Slice lower upper none p) pos) (.pl (Qmw xs lo hi)) := Qzk Qfv hv hl hu fun E s v vl vu hp h1 h2 h3 => by
 refine Qck (h1.list_inv) fun a vs ρ10 hx hls hr => ?_
 subst ρ10
 refine eEA (h2) fun p ρ11 ρ12 => ?_
 subst ρ11
 subst ρ12
 refine eEA (h3) fun q ρ13 ρ14 => ?_
 subst ρ13
 subst ρ14
 have e : vs.size = xs.length := by have := hr.length; simpa using this
 refine wpAny_getItem_list_slice (hls.push _) (Heap.IsSliceOf.new ..) part_is part_is .none (by simp) ?_ (by rw [e]; exact hsz)
 have hp' : T.p (s.heap.push { cls := .type "slice", data := .fields #[partValue p, partValue q, .none] }) := T.mono _ _ (Qav _ _).kpx hp
 exact ⟨⟨_, _, _, rfl, fun hx => Qax (Nat.le_refl _) (T.live _ hp' _ hx), Heap.get?_push_size _ rfl, rfl, rfl, ⟨_, rfl⟩, rdAll_slice (hr.kp ((Qav _ _).trans (Qav _ _)).kpx)⟩, Kt.mk' _ _ (Qav _ _)⟩
end
section
variable {prog : Program} {w : World}
theorem Qiv {a i n:Nat}{x:Str}{b r:Dv}
  (h : ∀ T T' A L pm s₀ s₁, T.le Tp → T'.le T → T'.le Tp → OkA A n → Fx noW T' s₀ (Qna i a L pm) [(x, b)] none s₁ → Go prog w A (Qna i a L pm) (Qda i) (Ret T r s₀) s₁)
  (hm : autoParam ((a, i) ∈ Qnc) sD)
  (hbody : autoParam (∀ c pm, (Qdz i c pm .none).body = .stmts (Qda i)) sK) (hbind : autoParam (∀ c pm v, bindArgs (Qdz i c pm .none) ⟨[v], []⟩ = pure [(x, v)]) sK)
  (hclo : autoParam (∀ c pm, (Qdz i c pm .none).closure = []) sK)
  (hkind : autoParam (∀ c pm, (Qdz i c pm .none).scope.names.lookup x = some .local ∨ (Qdz i c pm .none).scope.names.lookup x = some .cell) sO)
  (hco : autoParam (∀ c pm, (Qdz i c pm .none).scope.isCoroutine = false) sK) (hgen : autoParam (∀ c pm, (Qdz i c pm .none).scope.isGenerator = false) sK) (hk : autoParam (∀ c pm, (Qdz i c pm .none).scope.kind = .function) sK) :
  Ct prog w (n + 1) (.ref a) [b] r :=
 ct_def (.refl Tp) (names := [x]) hm (fun T T' A L pm s₀ s₁ hT hT' ok F => h T T' A L pm s₀ s₁ hT hT' (hT'.trans hT) ok F) hbody (fun c pm vals hl => by obtain ⟨v, rfl⟩ := len1 hl; exact hbind c pm v) (by simp) hclo rfl
  (fun c pm y hy => by rw [List.mem_singleton.mp hy]; exact hkind c pm) hco hgen hk
theorem ct_def2T {T₀:Hp}(hT₀:T₀.le Tp){a i n:Nat}{x y:Str}{b b' r:Dv}
  (h : ∀ T T' A L pm s₀ s₁, T.le T₀ → T'.le T → T'.le T₀ → OkA A n → Fx noW T' s₀ (Qna i a L pm) [(x, b), (y, b')] none s₁ → Go prog w A (Qna i a L pm) (Qda i) (Ret T r s₀) s₁)
  (hm : autoParam ((a, i) ∈ Qnc) sD) (hxy : autoParam ([x, y].Nodup) sD)
  (hbody : autoParam (∀ c pm, (Qdz i c pm .none).body = .stmts (Qda i)) sK) (hbind : autoParam (∀ c pm v u, bindArgs (Qdz i c pm .none) ⟨[v, u], []⟩ = pure [(x, v), (y, u)]) sK)
  (hclo : autoParam (∀ c pm, (Qdz i c pm .none).closure = []) sK)
  (hkind : autoParam (∀ c pm, (Qdz i c pm .none).scope.names.lookup x = some .local ∨ (Qdz i c pm .none).scope.names.lookup x = some .cell) sO)
  (hkind' : autoParam (∀ c pm, (Qdz i c pm .none).scope.names.lookup y = some .local ∨ (Qdz i c pm .none).scope.names.lookup y = some .cell) sO)
  (hco : autoParam (∀ c pm, (Qdz i c pm .none).scope.isCoroutine = false) sK) (hgen : autoParam (∀ c pm, (Qdz i c pm .none).scope.isGenerator = false) sK) (hk : autoParam (∀ c pm, (Qdz i c pm .none).scope.kind = .function) sK) :
  CtT T₀ prog w (n + 1) (.ref a) [b, b'] r :=
 ct_def hT₀ (names := [x, y]) hm (fun T T' A L pm s₀ s₁ hT hT' ok F => h T T' A L pm s₀ s₁ hT hT' (hT'.trans hT) ok F) hbody (fun c pm vals hl => by obtain ⟨v, u, rfl⟩ := len2 hl; exact hbind c pm v u) hxy hclo rfl
  (fun c pm z hz => by
   rcases List.mem_cons.mp hz with rfl | hz
   ·exact hkind c pm
   ·rw [List.mem_singleton.mp hz]; exact hkind' c pm) hco hgen hk
theorem ct_def2 {a i n:Nat}{x y:Str}{b b' r:Dv}
  (h : ∀ T T' A L pm s₀ s₁, T.le Tp → T'.le T → T'.le Tp → OkA A n → Fx noW T' s₀ (Qna i a L pm) [(x, b), (y, b')] none s₁ → Go prog w A (Qna i a L pm) (Qda i) (Ret T r s₀) s₁)
  (hm : autoParam ((a, i) ∈ Qnc) sD) (hxy : autoParam ([x, y].Nodup) sD)
  (hbody : autoParam (∀ c pm, (Qdz i c pm .none).body = .stmts (Qda i)) sK) (hbind : autoParam (∀ c pm v u, bindArgs (Qdz i c pm .none) ⟨[v, u], []⟩ = pure [(x, v), (y, u)]) sK)
  (hclo : autoParam (∀ c pm, (Qdz i c pm .none).closure = []) sK)
  (hkind : autoParam (∀ c pm, (Qdz i c pm .none).scope.names.lookup x = some .local ∨ (Qdz i c pm .none).scope.names.lookup x = some .cell) sO)
  (hkind' : autoParam (∀ c pm, (Qdz i c pm .none).scope.names.lookup y = some .local ∨ (Qdz i c pm .none).scope.names.lookup y = some .cell) sO)
  (hco : autoParam (∀ c pm, (Qdz i c pm .none).scope.isCoroutine = false) sK) (hgen : autoParam (∀ c pm, (Qdz i c pm .none).scope.isGenerator = false) sK) (hk : autoParam (∀ c pm, (Qdz i c pm .none).scope.kind = .function) sK) :
  Ct prog w (n + 1) (.ref a) [b, b'] r := ct_def2T (.refl Tp) h hm hxy hbody hbind hclo hkind hkind' hco hgen hk
theorem Qmz (xs:List Str)(hok:JoinOk "/" xs = true)(hz:(Str.ofString "/").length + (Txt.join "/" xs).length ≤ sizeLine) :
  Ct prog w 1 (.ref 912) [.d (.list (xs.map .str))] (.d (.str (Str.ofString "/" ++ Txt.join "/" xs))) :=
 Qiv (i := 57) (x := "names") fun T T' A L pm s₀ s₁ hT hT' hTp ok F => ret hT' F (EvA.binop EvA.str (EvA.join EvA.str (EvA.name _) hok) (Qfc hz)).f
noncomputable def coll (x y:Str) : Int := b2i (decide (y.cps.toList < x.cps.toList)) - b2i (decide (x.cps.toList < y.cps.toList))
theorem ct_strcoll (x y:Str) : Ct prog w 1 (.ref 51) [.d (.str x), .d (.str y)] (.d (.int (coll x y))) :=
 ct_def2 (i := 4) (x := "a") (y := "b") fun T T' A L pm s₀ s₁ hT hT' hTp ok F =>
  ret hT' F (EvA.binop (EvA.compare (EvA.name (.d (.str x))) (EvA.name (.d (.str y))) op_gtStr) (EvA.compare (EvA.name (.d (.str x))) (EvA.name (.d (.str y))) op_ltStr) op_subBool).f
theorem Qzb (x:Str) : Ct prog w 1 (.ref 58) [.d (.str x)] (.d (.str x)) :=
 Qiv (i := 5) (x := "s") fun T T' A L pm s₀ s₁ hT hT' hTp ok F => ret hT' F (EvA.name (.d (.str x))).f
theorem Qhc (x:Str) : Ct prog w 1 (.ref 138) [.d (.str x)] (.d (.str x)) :=
 Qiv (i := 16) (x := "path") fun T T' A L pm s₀ s₁ hT hT' hTp ok F => by
  refine x_at F ?_
  refine Qbq (.v (.type "str")) (EvA.call (bltn (.type "type") hTp) (EvL.cons (EvA.name (.d (.str x))) .nil') Qrx).f ?_
  refine x_ifT (TeA.val (EvA.call (bltn (.builtin "issubclass") hTp) (EvL.cons (EvA.name (.v (.type "str"))) (EvL.cons (EvA.tupleV (us := [.type "str", .type "bytes"]) (EvL.cons (bltn _ hTp) (EvL.cons (bltn _ hTp) .nil')) (by decide)) .nil')) fn_issub) trivial).f ?_
  intro s₃ F
  exact ret hT' F (EvA.name (.d (.str x))).f
theorem Qwx (x:Str) : Ct prog w 1 (.ref 152) [.d (.str x)] (.d (.str "/")) :=
 Qiv (i := 21) (x := "path") fun T T' A L pm s₀ s₁ hT hT' hTp ok F => by
  refine Qiy false F (TeA.val (EvA.call (bltn (.builtin "isinstance") hTp) (EvL.cons (EvA.name (.d (.str x))) (EvL.cons (bltn (.type "bytes") hTp) .nil')) Qga) trivial).f (fun e => nomatch e) (fun ζ s₃ F => ?_)
  exact ret hT' F EvA.str.f
end
section
variable {prog : Program} {w : World} {W : Addr → Prop} {T : Hp} {A : Around} {env : Env} {E : Value → Shared → Prop} {s₀ s : Shared} {G : Gam} {O : Own} {R : Flow → Shared → Prop} {rest : List Stmt}
noncomputable abbrev Qww (env:Env)(x:Str) : Prop := env.kindOf x = some .local ∨ (env.kindOf x = some .cell ∧ (env.cells.lookup x).isSome = true)
theorem Qgk {x:Str}{p:Pos}{ts:List (Value → Sem Unit)}{v:Value}{vs:List Value}{a:Dv}{Q:Unit → Shared → Prop}(F:Fx W T s₀ env G O s)(hk:env.scope.kind = .function)(hx:Qww env x)(hv:a.p T.X s.heap v)
  (h : ∀ s', Fx W T s₀ env ((x, a) :: G) O s' → KpX T.X s.heap s'.heap → wpAny (model prog w) A (assignInOrder ts vs) Q E s') : wpAny (model prog w) A (assignInOrder (assign (.Name x p) env :: ts) (v :: vs)) Q E s :=
 assignInOrder_cons (wpAny_assign_Name (F.rebase.store a hk hx hv fun s' F' => h s' (F.unbase F' F.wX fun L ds e => ⟨ds, e⟩) (F'.kt.kp.wider F.may_X)))
theorem st_unpack3 {x y z:Str}{px py pz tpos pos:Pos}{k:Nat}{e:Expr}{n:Nat}(a b c:PyData)(ok:OkA A n)(F:Fx W T s₀ env G O s)(he:EvF prog w T A env G O e (.d (.tuple [a, b, c])))
  (h : ∀ s', Fx W T s₀ env ((z, .d c) :: (y, .d b) :: (x, .d a) :: G) O s' → Go prog w A env rest R s') (hk : autoParam (env.scope.kind = .function) sK)
  (hx : autoParam (Qww env x) sO)
  (hy : autoParam (Qww env y) sO)
  (hz : autoParam (Qww env z) sO)
  (hs : autoParam (swapsWithSole [.Tuple [.Name x px, .Name y py, .Name z pz] k tpos] e pos.line env = pure false) sK)
  (hw : autoParam (swappedStores [.Tuple [.Name x px, .Name y py, .Name z pz] k tpos] e env = pure none) sK) :
  Go prog w A env (.Assign [.Tuple [.Name x px, .Name y py, .Name z pz] k tpos] e pos :: rest) R s := by
 refine ⟨wpAny_execs_cons (Assign_Tuple (he.run F fun v s' hv ks F' => ?_) hs hw)⟩
 refine Qck (hv.tuple_inv) fun t vs ρ0 hX hl hr => ?_
 subst ρ0
 refine Qac (hr.cons_inv) fun v1 w1 e1 r1 hr => ?_
 refine Qac (hr.cons_inv) fun v2 w2 e2 r2 hr => ?_
 refine Qac (hr.cons_inv) fun v3 w3 e3 r3 hr => ?_
 have e4 := hr.nil_inv
 subst e4; subst e3; subst e2
 refine wpAny_assign_Tuple ok.handled hl (by rw [← Array.length_toList, e1]; rfl) rfl fun h' he' => ?_
 have k' : Kp s'.heap h' := fun b o q => he' b o (fun z => Qax (Nat.le_of_eq z.symm) ⟨o, q⟩) q
 have F'' : Fx W T s₀ env G O { s' with heap := h' } := F'.kept (Kt.mk' s' s'.toks k')
 rw [e1]
 have k0 : KpX T.X s'.heap h' := k'.kpx
 refine Qgk (a := .d a) F'' hk hx (Rd.kp r1 k0) fun s2 F2 k2 => ?_
 refine Qgk (a := .d b) F2 hk hy (Rd.kp r2 (k0.trans k2)) fun s3 F3 k3 => ?_
 refine Qgk (a := .d c) F3 hk hz (Rd.kp r3 ((k0.trans k2).trans k3)) fun s4 F4 k4 => ?_
 exact assignInOrder_nil (h s4 F4).of
end
section
variable {prog : Program} {w : World}
noncomputable def Qay (x:Str) : Str × Str × Str :=
 if !(Txt.slice x none (some 1) == "/") then ("", "", x)
 else if !(Txt.slice x (some 1) (some 2) == "/") || (Txt.slice x (some 2) (some 3) == "/") then ("", "/", Txt.slice x (some 1) none)
 else ("", Txt.slice x none (some 2), Txt.slice x (some 2) none)
theorem QIx (x:Str)(hsz:x.length ≤ sizeLine) : Ct prog w 2 (.ref 166) [.d (.str x)] (.d (.tuple [.str (Qay x).1, .str (Qay x).2.1, .str (Qay x).2.2])) :=
 Qiv (i := 24) (x := "p") fun T T' A L pm s₀ s₁ hT hT' hTp ok F => by
  refine x_at F ?_
  refine Qbq (.d (.str x)) (Qby (Qhc x) hTp ok (glob _ hTp) (EvL.cons (EvA.name (.d (.str x))) .nil')).f ?_
  refine x_ifF (TeA.val (EvA.call (bltn (.builtin "isinstance") hTp) (EvL.cons (EvA.name (.d (.str x))) (EvL.cons (bltn (.type "bytes") hTp) .nil')) Qga) trivial).f ?_
  refine Qbq (.d (.str "/")) EvA.str.f ?_
  refine Qbq (.d (.str "")) EvA.str.f (x_nil ?_)
  intro s₅ F
  have hp : ∀ {G : Gam}, G = [(Str.ofString "empty", Dv.d (.str "")), ("sep", .d (.str "/")), ("p", .d (.str x)), ("p", .d (.str x))] → ∀ {pos : Pos}, EvA prog w T' A (Qna 24 166 L pm) G (.Name "p" pos) (.d (.str x)) := fun e => by subst e; exact EvA.name _
  refine Qiy (!(Txt.slice x none (some 1) == "/")) F (TeA.cmp (EvA.sliceStr (EvA.name (.d (.str x))) .none (.some EvA.int) hsz) (EvA.name (.d (.str "/"))) Qiz).f (fun hb s₆ F => ?_) (fun hb s₆ F => ?_)
  ·refine ret hT' F (EvA.cast (EvA.tuple (ds := [.str "", .str "", .str x]) (EvL.cons (EvA.name (.d (.str ""))) (EvL.cons (EvA.name (.d (.str ""))) (EvL.cons (EvA.name (.d (.str x))) .nil')))) ?_).f
   rw [Qay, if_pos hb]
  refine Qiy (!(Txt.slice x (some 1) (some 2) == "/") || ((Txt.slice x (some 2) (some 3) == "/") || false)) F (TeA.or (TeA.cmp (EvA.sliceStr (EvA.name (.d (.str x))) (.some EvA.int) (.some EvA.int) hsz) (EvA.name (.d (.str "/"))) Qiz) fun ζ => TeA.or (TeA.cmp (EvA.sliceStr (EvA.name (.d (.str x))) (.some EvA.int) (.some EvA.int) hsz) (EvA.name (.d (.str "/"))) Qcb) fun ζ => TeA.or0).f (fun hc s₇ F => ?_) (fun hc s₇ F => ?_)
  ·refine ret hT' F (EvA.cast (EvA.tuple (ds := [.str "", .str "/", .str (Txt.slice x (some 1) none)]) (EvL.cons (EvA.name (.d (.str ""))) (EvL.cons (EvA.name (.d (.str "/"))) (EvL.cons (EvA.sliceStr (EvA.name (.d (.str x))) (.some EvA.int) .none hsz) .nil')))) ?_).f
   rw [Bool.or_false] at hc
   rw [Qay, if_neg (by rw [hb]; decide), if_pos hc]
  ·refine ret hT' F (EvA.cast (EvA.tuple (ds := [.str "", .str (Txt.slice x none (some 2)), .str (Txt.slice x (some 2) none)]) (EvL.cons (EvA.name (.d (.str ""))) (EvL.cons (EvA.sliceStr (EvA.name (.d (.str x))) .none (.some EvA.int) hsz) (EvL.cons (EvA.sliceStr (EvA.name (.d (.str x))) (.some EvA.int) .none hsz) .nil')))) ?_).f
   rw [Bool.or_false] at hc
   rw [Qay, if_neg (by rw [hb]; decide), if_neg (by rw [hc]; decide)]
noncomputable def Qeq (x:Str) : Str := Txt.slice x (some (Txt.rfind x "/" + 1)) none
theorem ct_basename (x:Str)(hsz:x.length ≤ sizeLine) : Ct prog w 2 (.ref 173) [.d (.str x)] (.d (.str (Qeq x))) :=
 Qiv (i := 25) (x := "p") fun T T' A L pm s₀ s₁ hT hT' hTp ok F => by
  refine x_at F ?_
  refine Qbq (.d (.str x)) (Qby (Qhc x) hTp ok (glob _ hTp) (EvL.cons (EvA.name (.d (.str x))) .nil')).f ?_
  refine Qbq (.d (.str "/")) (Qby (Qwx x) hTp ok (glob _ hTp) (EvL.cons (EvA.name (.d (.str x))) .nil')).f ?_
  refine Qbq (.d (.int (Txt.rfind x "/" + 1))) (EvA.binop (EvA.meth m_rfind (EvA.name (.d (.str x))) Qgj (EvL.cons (EvA.name (.d (.str "/"))) .nil') op_rfind) EvA.int Qhw).f ?_
  intro s₄ F
  exact ret hT' F (EvA.sliceStr (EvA.name (.d (.str x))) (.some (EvA.name (.d (.int (Txt.rfind x "/" + 1))))) .none hsz).f
noncomputable def Qkq (x:Str) : Str := Txt.slice x none (some (Txt.rfind x "/" + 1))
noncomputable def Qey (x:Str) : Str := if Qbc (.str (Qkq x)) && (!(Qkq x == Txt.mul "/" (Qkq x).length)) then Txt.rstripChars (Qkq x) "/" else Qkq x
theorem op_mulStr {T:Hp}{A:Around}{x:Str}{n:Int}(h:MulOk x n) : Op2 prog w T A (binaryOp .Mult) (.d (.str x)) (.d (.int n)) (.d (.str (Txt.mul x n))) := ⟨fun E s v1 v2 ζ p1 p2 => by
 refine eE (p1.str_inv) fun t ρ1 => ?_
 subst ρ1
 refine eE (p2.int_inv) fun u ρ2 => ?_
 subst ρ2
 exact SB.mul h fun t' k => wrp Dv.p.str⟩
theorem ct_dirname (x:Str)(hsz:x.length ≤ sizeLine)(hm:MulOk "/" (Qkq x).length) : Ct prog w 2 (.ref 180) [.d (.str x)] (.d (.str (Qey x))) :=
 Qiv (i := 26) (x := "p") fun T T' A L pm s₀ s₁ hT hT' hTp ok F => by
  have hh : (Qkq x).length ≤ sizeLine := Nat.le_trans (Txt.slice_le x _ _) hsz
  refine x_at F ?_
  refine Qbq (.d (.str x)) (Qby (Qhc x) hTp ok (glob _ hTp) (EvL.cons (EvA.name (.d (.str x))) .nil')).f ?_
  refine Qbq (.d (.str "/")) (Qby (Qwx x) hTp ok (glob _ hTp) (EvL.cons (EvA.name (.d (.str x))) .nil')).f ?_
  refine Qbq (.d (.int (Txt.rfind x "/" + 1))) (EvA.binop (EvA.meth m_rfind (EvA.name (.d (.str x))) Qgj (EvL.cons (EvA.name (.d (.str "/"))) .nil') op_rfind) EvA.int Qhw).f ?_
  refine Qbq (.d (.str (Qkq x))) (EvA.sliceStr (EvA.name (.d (.str x))) .none (.some (EvA.name (.d (.int (Txt.rfind x "/" + 1))))) hsz).f ?_
  intro s₅ F
  refine Qiy (Qbc (.str (Qkq x)) && ((!(Qkq x == Txt.mul "/" (Qkq x).length)) && true)) F (TeA.and (TeA.val (EvA.name (.d (.str (Qkq x)))) hh) fun ζ => TeA.and (TeA.cmp (EvA.name (.d (.str (Qkq x)))) (EvA.binop (EvA.name (.d (.str "/"))) (EvA.call (bltn (.builtin "len") hTp) (EvL.cons (EvA.name (.d (.str (Qkq x)))) .nil') (QHx hh)) (op_mulStr hm)) Qiz) fun ζ => TeA.and0).f (fun hb s₆ F => ?_) (fun hb s₆ F => ?_)
  ·refine Qcx (.d (.str (Txt.rstripChars (Qkq x) "/"))) F (EvA.meth m_rstrip (EvA.name (.d (.str (Qkq x)))) Qgj (EvL.cons (EvA.name (.d (.str "/"))) .nil') (op_rstrip hh)).f fun s₇ F => Qaw ?_
   refine ret hT' F (EvA.cast (EvA.name (.d (.str (Txt.rstripChars (Qkq x) "/")))) ?_).f
   rw [Bool.and_true] at hb
   rw [Qey, if_pos hb]
  ·refine Qaw (ret hT' F (EvA.cast (EvA.name (.d (.str (Qkq x)))) ?_).f)
   rw [Bool.and_true] at hb
   rw [Qey, if_neg (by rw [hb]; decide)]
end
theorem Fx.drop {W:Addr → Prop}{T:Hp}{env:Env}{s₀ s:Shared}{G:Gam}{O:Own}{x:Str}{a:Dv}(F:Fx W T s₀ env ((x, a) :: G) O s)(h:autoParam (G.lookup x = none) sK) : Fx W T s₀ env G O s :=
 F.less fun y b e => by
  have : y ≠ x := by rintro rfl; rw [h] at e; cases e
  rw [Qaz this]; exact e
theorem Hp.le_of {T':Hp}(h:T'.le Tp){T'':Hp}(hp:∀ h, T''.p h → T'.p h) : T''.le Tp := ⟨fun x q => h.p x (hp x q), fun b q => q.elim⟩
section
variable {prog : Program} {w : World}
noncomputable def Qgb (x:Str) : List Str := (Txt.split (Qay x).2.2 "/").filter fun c => Qbc (.str c) && !(c == ".")
noncomputable def Qvq (x:Str) : Str := (Qay x).2.1 ++ Txt.join "/" (Qgb x)
noncomputable def normD (x:Str) : Str := if Qbc (.str (Qvq x)) then Qvq x else "."
open Builtin Builtin.Str in
structure NormOk (x : Str) : Prop where
 sz : x.length ≤ sizeLine
 some : Qbc (.str x) = true
 sz2 : (Qay x).2.2.length ≤ sizeLine
 cut : (partsBetween (Qay x).2.2 (occurrences (Qay x).2.2 "/" 0 (Qay x).2.2.length ((Qay x).2.2.length + 1)) (Str.ofString "/").length).length ≤ sizeLine
 few : (Txt.split (Qay x).2.2 "/").length ≤ sizeLine
 part : ∀ c ∈ Txt.split (Qay x).2.2 "/", c.length ≤ sizeLine ∧ (c == "..") = false
 join : JoinOk "/" (Qgb x) = true
 all : (Qay x).2.1.length + (Txt.join "/" (Qgb x)).length ≤ sizeLine
theorem Qpq {x y:Str}(h:x.length + y.length ≤ sizeLine) : (x ++ y).length ≤ sizeLine := by
 show (x.cps ++ y.cps).size ≤ sizeLine
 rw [Array.size_append]; exact h
theorem ct_normpath (x:Str)(ok1:NormOk x) : Ct prog w 3 (.ref 187) [.d (.str x)] (.d (.str (normD x))) :=
 Qiv (i := 28) (x := "path") fun T T' A L pm s₀ s₁ hT hT' hTp ok F => by
  refine x_at F ?_
  refine Qbq (.d (.str x)) (Qby (Qhc x) hTp ok (glob _ hTp) (EvL.cons (EvA.name (.d (.str x))) .nil')).f ?_
  refine x_ifF (TeA.val (EvA.call (bltn (.builtin "isinstance") hTp) (EvL.cons (EvA.name (.d (.str x))) (EvL.cons (bltn (.type "bytes") hTp) .nil')) Qga) trivial).f ?_
  refine Qbq (.d (.str "/")) EvA.str.f ?_
  refine Qbq (.d (.str ".")) EvA.str.f ?_
  refine Qbq (.d (.str "..")) EvA.str.f (x_nil ?_)
  refine x_ifF (TeA.cast (TeA.not (TeA.val (EvA.name (.d (.str x))) ok1.sz)) (by rw [ok1.some]; rfl)).f (x_nil ?_)
  intro s₇ F
  refine st_unpack3 (.str (Qay x).1) (.str (Qay x).2.1) (.str (Qay x).2.2) ok F (Qby (QIx x ok1.sz) hTp ok (glob _ hTp) (EvL.cons (EvA.name (.d (.str x))) .nil')).f fun s₈ F => ?_
  refine Qcx (.d (.list ((Txt.split (Qay x).2.2 "/").map .str))) F (EvA.meth QCq (EvA.name (.d (.str (Qay x).2.2))) Qgj (EvL.cons (EvA.name (.d (.str "/"))) .nil') (Qtz (by decide +kernel) ok1.sz2 ok1.cut)).f fun s₉ F => ?_
  refine QEy F fun T₂ Lo sa hT₂ hLo hX F => ?_
  have hTp2 := hT₂.trans hTp
  refine QEk F (EvIt.list ok (EvA.name (.d (.list ((Txt.split (Qay x).2.2 "/").map .str)))))
   (fun i G' O' => G' = _ ∧ O' = some (Lo, (((Txt.split (Qay x).2.2 "/").take i).filter fun c => Qbc (.str c) && !(c == ".")).map .str)) ⟨rfl, by simp⟩ (fun i G' O' h L' ds e => ⟨_, by rw [h.2] at e; cases e; rfl⟩) ?_ ?_
  ·intro T₃ W₁ sb i d G' O' sc hT₃ hW hd κ0 F
   refine eA (κ0) fun ρ0 ρ1 => ?_
   subst ρ0
   subst ρ1
   have hTp3 := hT₃.trans hTp2
   obtain ⟨c, hc, rfl⟩ : ∃ c, (Txt.split (Qay x).2.2 "/")[i]? = some c ∧ d = .str c := by
    rw [List.getElem?_map] at hd
    cases hq : (Txt.split (Qay x).2.2 "/")[i]? with
    | none => rw [hq] at hd; cases hd
    | some c => rw [hq] at hd; cases hd; exact ⟨c, rfl, rfl⟩
   have hcm : c ∈ Txt.split (Qay x).2.2 "/" := List.mem_of_getElem? hc
   refine eA (ok1.part c hcm) fun hcl hcd => ?_
   have hstep : (((Txt.split (Qay x).2.2 "/").take (i + 1)).filter fun c => Qbc (.str c) && !(c == ".")).map PyData.str = (((Txt.split (Qay x).2.2 "/").take i).filter fun c => Qbc (.str c) && !(c == ".")).map .str ++ if Qbc (.str c) && !(c == ".") then [.str c] else [] := Qhz _ _ _ _ _ hc
   refine Qiy (!Qbc (.str c) || ((c == ".") || false)) F (TeA.or (TeA.not (TeA.val (EvA.name (.d (.str c))) hcl)) fun ζ => TeA.or (TeA.cmp (EvA.name (.d (.str c))) (EvA.name (.d (.str "."))) Qcb) fun ζ => TeA.or0).f (fun hb sd F => ?_) (fun hb sd F => Qaw ?_)
   ·refine st_continue ⟨_, _, ⟨rfl, ?_⟩, fun ζ ζ e => ⟨_, by cases e; rfl⟩, F.drop⟩
    rw [Bool.or_false, Bool.or_eq_true, Bool.not_eq_true'] at hb
    have : (Qbc (.str c) && !(c == ".")) = false := by rcases hb with h | h <;> simp [h]
    rw [hstep, this]; simp
   ·rw [Bool.or_false, Bool.or_eq_false_iff, Bool.not_eq_false'] at hb
    refine Qiy true F (TeA.cast (TeA.or (c := false) (TeA.cmp (EvA.name (.d (.str c))) (EvA.name (.d (.str ".."))) Qiz) fun e => by rw [hcd] at e; cases e) (by rw [hcd]; rfl)).f (fun ζ se F => ?_) (fun e => nomatch e)
    refine Qox (.str c) F (EvA.name (.d (.str c))).f ?_ fun sf F => Qaw (Qaw ⟨_, _, ⟨rfl, ?_⟩, fun ζ ζ e => ⟨_, by cases e; rfl⟩, F.drop⟩)
    ·have h1 := List.length_filter_le (fun c => Qbc (.str c) && !(c == ".")) ((Txt.split (Qay x).2.2 "/").take i)
     have h2 : ((Txt.split (Qay x).2.2 "/").take i).length ≤ (Txt.split (Qay x).2.2 "/").length := by rw [List.length_take]; exact Nat.min_le_right _ _
     have h3 := ok1.few
     rw [List.length_map]; lia
    ·rw [hstep, hb.1, hb.2]; rfl
  ·intro G' O' sb κ1 F
   refine eA (κ1) fun ρ2 ρ3 => ?_
   subst ρ2
   subst ρ3
   have e : (((Txt.split (Qay x).2.2 "/").take ((Txt.split (Qay x).2.2 "/").map PyData.str).length).filter fun c => Qbc (.str c) && !(c == ".")) = Qgb x := by
    rw [List.length_map, List.take_length]; rfl
   rw [e] at F
   refine Qpj (F.give (x := "new_comps") (by kernel_rfl!) (fun q => q)) fun T₄ hp4 hX4 F => ?_
   have hTp4 : T₄.le Tp := Hp.le_of hTp2 hp4
   have hT4 : T₄.le T := ⟨fun h q => hT'.p h (hT₂.p h (hp4 h q)), fun b q => (hX4 b).2 ⟨hT₂.X b (hT'.X b q), fun z => hLo (z ▸ hT'.X b q)⟩⟩
   refine x_at F ?_
   refine Qbq (.d (.list ((Qgb x).map .str))) (EvA.plain (EvA.name (.pl ((Qgb x).map .str)))).f ?_
   refine Qbq (.d (.str (Qvq x))) (EvA.binop (EvA.name (.d (.str (Qay x).2.1))) (EvA.join (EvA.name (.d (.str "/"))) (EvA.name _) ok1.join) (Qfc ok1.all)).f ?_
   intro sd F
   refine ret hT4 F (EvA.cast (EvA.or2 (d := .str (Qvq x)) (Qpq ok1.all) (EvA.name (.d (.str (Qvq x)))) fun ζ => EvA.name (.d (.str "."))) ?_).f
   unfold normD; split <;> rfl
end
section
variable {prog : Program} {w : World} {T : Hp} {A : Around} {env : Env} {G : Gam}
theorem Quc {x y:Int}(hy:y ≠ 0)(hs:y.natAbs < 1073741824) : Op2 prog w T A (binaryOp .FloorDiv) (.d (.int x)) (.d (.int y)) (.d (.int (x.fdiv y))) := ⟨fun E s v1 v2 ζ p1 p2 => by
 refine eE (p1.int_inv) fun t ρ0 => ?_
 subst ρ0
 refine eE (p2.int_inv) fun u ρ1 => ?_
 subst ρ1
 exact floordiv_int hy (wrp Dv.p.int) (.inl (PyProof.noPylong_small hs))⟩
theorem op_pow {x n:Int}(hn:0 ≤ n)(hn2:n ≤ 1000000)(ha:x.natAbs < 2 ^ 64) : Op2 prog w T A (binaryOp .Pow) (.d (.int x)) (.d (.int n)) (.d (.int (x ^ n.toNat))) := ⟨fun E s v1 v2 ζ p1 p2 => by
 refine eE (p1.int_inv) fun t ρ2 => ?_
 subst ρ2
 refine eE (p2.int_inv) fun u ρ3 => ?_
 subst ρ3
 exact pow_int_small hn hn2 ha (wrp Dv.p.int)⟩
theorem EvA.neg {e:Expr}{pos:Pos}{i:Int}(h:EvA prog w T A env G e (.d (.int i))) : EvA prog w T A env G (.UnaryOp .USub e pos) (.d (.int (-i))) := ⟨fun E s hp hv =>
 wpAny_UnaryOp (wpAny_mono (h.of E s hp hv) (fun v s' k => by
  refine eE (k.1.int_inv) fun t ρ4 => ?_
  subst ρ4
  exact P.neg_int ⟨Dv.p.int, k.2.trans (.tok s' _)⟩) fun ζ ζ x => x)⟩
theorem Qib {xs ys:List PyData}(hsz:xs.length + ys.length ≤ sizeLine) : Op2 prog w T A (binaryOp .Add) (.d (.list xs)) (.d (.list ys)) (.pl (xs ++ ys)) := ⟨fun E s v1 v2 hp p1 p2 => by
 refine Qck (p1.list_inv) fun a vs ρ5 hx ν6 hr => ?_
 subst ρ5
 obtain ⟨⟨cls, dd, data, sl⟩, ho, hc, n, hd⟩ := ν6
 refine Qck (p2.list_inv) fun b us ρ7 hx' ν8 hr2 => ?_
 subst ρ7
 obtain ⟨⟨cls2, dd2, data2, sl2⟩, ho2, hc2, n2, hd2⟩ := ν8
 simp only at hc hd hc2 hd2
 subst hc hd hc2 hd2
 have e : vs.size = xs.length := by have := hr.length; simpa using this
 have e2 : us.size = ys.length := by have := hr2.length; simpa using this
 refine concat_meets ⟨_, ho, rfl⟩ ⟨_, ho2, rfl⟩ noFill_list_add seq_list_add PySem.F.slot_list_add PySem.F.entry_list_add (PySem.F.args_list_add_2 _ _) (list_addW a b vs us n n2 dd dd2 sl sl2 (by rw [e, e2]; exact hsz)) ⟨ho, ho2, ?_⟩
 exact ⟨⟨_, _, _, rfl, fun hx => Qax (Nat.le_refl _) (T.live _ hp _ hx), Heap.get?_push_size _ rfl, rfl, rfl, ⟨_, rfl⟩, by simpa using (hr.append hr2).kp (Qav _ _).kpx⟩, Kt.mk' s s.toks (Qav _ _)⟩⟩
theorem Qpx {n:Int} : Fn prog w T A (.type "range") [.d (.int n)] (.rg 0 n 1) := .plain (fun ζ e => nomatch e) fun E s vs hp h => by
 refine Qac (h) fun v vs' ρ9 h1 ρ10 => ?_
 subst ρ9
 subst ρ10
 refine eE (h1.int_inv) fun t ρ11 => ?_
 subst ρ11
 refine call_range_1 ⟨⟨_, _, _, _, rfl, fun hx => Qax (Nat.le_refl _) (T.live _ hp _ hx), Heap.get?_push_size _ rfl⟩, Kt.mk' s _ (Qav _ _)⟩
theorem fn_range3 {a b c:Int}(hc:c ≠ 0)(hs:c.natAbs < 1073741824) : Fn prog w T A (.type "range") [.d (.int a), .d (.int b), .d (.int c)] (.rg a b c) := .plain (fun ζ e => nomatch e) fun E s vs hp h => by
 obtain ⟨v, vs', rfl, h1, v2, vs2, rfl, h2, v3, vs3, rfl, h3, rfl⟩ := h
 refine eE (h1.int_inv) fun t ρ12 => ?_
 subst ρ12
 refine eE (h2.int_inv) fun u ρ13 => ?_
 subst ρ13
 refine eE (h3.int_inv) fun v ρ14 => ?_
 subst ρ14
 exact call_range_3 hc ⟨⟨_, _, _, _, rfl, fun hx => Qax (Nat.le_refl _) (T.live _ hp _ hx), Heap.get?_push_size _ rfl⟩, Kt.mk' s _ (Qav _ _)⟩ (.inl (PyProof.noPylong_small hs))
theorem EvIt.range {iter:Expr}{a b c:Int}{m n:Nat}(ok:OkA A m)(he:EvA prog w T A env G iter (.rg a b c))(hsm:Builtin.Range.small a b c = true)(hn:Builtin.Range.rangeSize a b c = (n:Int)) :
  EvIt prog w T A env G iter ((List.range n).map fun i => .int (a + (i : Nat) * c)) := ⟨fun E s hp hv => by
 refine wpAny_mono (he.of E s hp hv) (fun v s₁ k => ?_) fun ζ ζ x => x
 obtain ⟨⟨r, t, u, v, rfl, hx, hr⟩, k⟩ := k
 refine wpAny_pyIter_range hr hsm ⟨k.trans (Kt.mk' s₁ s₁.toks (Qav _ _)), s₁.heap.objs.size, [s₁.heap.objs.size], [s₁.heap.objs.size], (fun i v => ∃ t, v = .int (a + i * c) t), (fun i h => IsRangeIter h s₁.heap.objs.size (a + (i : Nat) * c) ((n : Int) - (i : Nat)) c), s₁.heap, ?_⟩
 have W := Walks.range (prog := prog) (w := w) (A := A) ok.handled s₁.heap.objs.size a c n
 refine ⟨rfl, by simpa using W, ?_, ?_, ?_, ?_, k.kp, Qav _ _, ?_⟩
 ·have := Heap.get?_push_size s₁.heap (o := { cls := .type "range_iterator", data := .fields #[rawInt a, rawInt (Builtin.Range.rangeSize a b c), rawInt c] }) rfl
  rw [hn] at this
  simpa [IsRangeIter, hn] using this
 ·intro i h st b hb
  rw [List.mem_singleton.mp hb]; exact ⟨_, st⟩
 ·intro b hb; rw [List.mem_singleton.mp hb]; exact Qax (Nat.le_refl _)
 ·intro b hb; exact .inl hb
 ·intro i v d κ0 hd
  refine eE (κ0) fun t ρ0 => ?_
  subst ρ0
  rw [List.getElem?_map] at hd
  cases hq : (List.range n)[i]? with
  | none => rw [hq] at hd; cases hd
  | some j =>
   rw [hq] at hd; cases hd
   have : j = i := by
    have := List.getElem?_eq_some_iff.mp hq
    obtain ⟨hlt, e⟩ := this
    simpa using e.symm
   subst this
   exact Rd.int⟩
noncomputable def Qqz : List Int → Int
 | [] => 0
 | x :: xs => x + Qqz xs
theorem fn_min2 {m:Nat}(ok:OkA A m){a b:Int} : Fn prog w T A (.builtin "min") [.d (.int a), .d (.int b)] (.d (.int (if b < a then b else a))) := .plain (fun ζ e => nomatch e) fun E s vs hp h => by
 refine Qhb (h) fun v vs' ρ15 h1 v2 vs2 ρ16 h2 ρ17 => ?_
 subst ρ15
 subst ρ16
 subst ρ17
 refine eE (h1.int_inv) fun t ρ18 => ?_
 subst ρ18
 refine eE (h2.int_inv) fun u ρ19 => ?_
 subst ρ19
 refine min_two_ints ok.handled fun h' tk hk => ?_
 split
 ·exact ⟨Dv.p.int, Kt.mk' s tk hk⟩
 ·exact ⟨Dv.p.int, Kt.mk' s tk hk⟩
theorem fn_ord {x:Str}(h1:x.length = 1) : Fn prog w T A (.builtin "ord") [.d (.str x)] (.d (.int (x.cps.getD 0 0 : Nat))) := .plain (fun ζ e => nomatch e) fun E s vs hp h => by
 refine Qac (h) fun v vs' ρ20 hv ρ21 => ?_
 subst ρ20
 subst ρ21
 refine eE (hv.str_inv) fun t ρ22 => ?_
 subst ρ22
 exact ord_of_one h1 (wrp Dv.p.int)
theorem Qyj {X:Addr → Prop}{h:Heap} : ∀ {xs:List Int}{vs:List Value}, RdAll X h (xs.map PyData.int) vs → ∀ i v, vs[i]? = some v → ∃ t, v = Value.int (xs.getD i 0) t
 | [], vs, r, i, v, e => by have : vs = [] := RdAll.nil_inv (X := X) (h := h) r; subst this; simp at e
 | x :: xs, vs, r, i, v, e => by
  refine Qac (RdAll.cons_inv (d := .int x) (ds := xs.map PyData.int) r) fun u us ρ23 h1 h2 => ?_
  subst ρ23
  refine eE (h1.int_inv) fun t ρ24 => ?_
  subst ρ24
  cases i with
  | zero => simp at e; exact ⟨t, by simp [← e]⟩
  | succ i => simpa using Qyj h2 i v (by simpa using e)
theorem Qtk : ∀ (a:List Int)(b:Int), Qqz (a ++ [b]) = Qqz a + b
 | [], b => (Int.add_zero b).trans (Int.zero_add b).symm
 | x :: xs, b => (congrArg (x + ·) (Qtk xs b)).trans (Int.add_assoc _ _ _).symm
theorem Quy : ∀ (xs:List Int)(n:Nat), n ≤ xs.length → preSum (fun i => xs.getD i 0) n = Qqz (xs.take n)
 | xs, 0, _ => rfl
 | xs, n + 1, h => by
  show preSum _ n + xs.getD n 0 = _
  rw [Quy xs n (Nat.le_of_succ_le h), List.take_succ_eq_append_getElem h, Qtk]
  have : n < xs.length := by lia
  simp [List.getD, this]
theorem QHz {m:Nat}(ok:OkA A (m + 1)){xs:List Int} : Fn prog w T A (.builtin "sum") [.d (.list (xs.map PyData.int))] (.d (.int (Qqz xs))) := .plain (fun ζ e => nomatch e) fun E s vs hp h => by
 refine Qac (h) fun v vs' ρ25 hv ρ26 => ?_
 subst ρ25
 subst ρ26
 refine Qck (hv.list_inv) fun a us ρ27 hx hl hr => ?_
 subst ρ27
 have hlt : a < s.heap.objs.size := eEA (hl) fun o e ζ => Heap.lt_size e
 have e : us.size = xs.length := by have := hr.length; simpa using this
 refine call_sum_walkG (wpAny_pyIter_list hl ⟨s.heap.objs.size, [s.heap.objs.size, a], [s.heap.objs.size], us.size, (fun i v => us[i]? = some v), (fun i h => h.IsListIter s.heap.objs.size a i ∧ h.IsList a us), (fun i => xs.getD i 0), rfl,
  Walks.list (A := A.in1) ok.in1.handled s.heap.objs.size a (Nat.ne_of_lt hlt) us, ⟨⟨_, Heap.get?_push_size _ rfl, rfl, rfl⟩, hl.push _⟩, ?_, ?_, ?_⟩)
 ·intro b hb
  show b < (s.heap.push _).objs.size
  rw [Heap.size_push]
  rcases List.mem_cons.mp hb with rfl | hb
  ·exact Nat.lt_succ_self _
  ·rw [List.mem_singleton.mp hb]; exact Nat.lt_succ_of_lt hlt
 ·intro i v hv
  exact Qyj hr i v (by simpa using hv)
 ·intro h' tk t' hk
  rw [e, Quy xs _ (Nat.le_refl _), List.take_length]
  refine ⟨Dv.p.int, Kt.mk' s tk fun b o q => hk b o ?_ (Heap.get?_push_of_some _ q)⟩
  intro hb
  rw [List.mem_singleton.mp hb] at q
  exact Qax (Nat.le_refl _) ⟨o, q⟩
end
section
variable {prog : Program} {w : World}
theorem Takes.nil {env:Env}{scope:Scope}{cl:List (Str × Addr)}{G:Gam} : Takes env scope cl G [] := ⟨fun n a e => by simp at e⟩
theorem Takes.cons {env:Env}{scope:Scope}{cl:List (Str × Addr)}{G Gf:Gam}{n:Str}(a:Dv)(h:Takes env scope cl G Gf)(h1:autoParam (G.lookup n = some a) sK)(h2:autoParam (env.kindOf n = some .cell) sK)
  (h3 : autoParam ((relabel scope env).names.lookup n = some .cell) sK) (h4 : autoParam (cl.lookup n = env.cells.lookup n) sK) : Takes env scope cl G ((n, a) :: Gf) := ⟨fun x b e => by
 by_cases hx : x = n
 ·subst hx; rw [Qak] at e; cases e; exact ⟨h1, h2, h3, h4⟩
 ·rw [Qaz hx] at e; exact h.of x b e⟩
noncomputable def nmTab : List Str := ["a", "a b", "a-", "A"]
noncomputable def Qix (x:Int)(k:Nat) : Str := nmTab.getD (((x.fdiv 3).fdiv (4 ^ k)).fmod 4).toNat ""
noncomputable def Qcv (x:Int) : List Str := (List.range (1 + x.fmod 3).toNat).map (Qix x)
theorem fmod_lt (x:Int)(n:Nat)(hn:0 < n) : ∃ r : Nat, r < n ∧ x.fmod n = (r:Int) := by
 have h0 : (0 : Int) < n := Int.ofNat_lt.mpr hn
 have h1 : 0 ≤ x.fmod n := Int.fmod_nonneg_of_pos x h0
 exact ⟨(x.fmod n).toNat, (Int.toNat_lt h1).mpr (Int.fmod_lt_of_pos x h0), (Int.toNat_of_nonneg h1).symm⟩
noncomputable def namesF (x:Int) : PyData → PyData
 | .int k => .str (Qix x k.toNat)
 | _ => .none
theorem Qwz (x:Int) : Ct prog w 1 (.ref 905) [.d (.int x)] (.d (.list ((Qcv x).map .str))) :=
 Qiv (i := 56) (x := "x") fun T T' A L pm s₀ s₁ hT hT' hTp ok F => by
  refine eEA (fmod_lt x 3 (by decide)) fun r hr er => ?_
  have er' : x.fmod 3 = (r : Int) := er
  have en : (1 : Int) + x.fmod 3 = ((1 + r : Nat) : Int) := by rw [er']; push_cast; rfl
  refine ret hT' F (EvA.cast (EvA.listComp (xs := (List.range (1 + r)).map fun i => .int (0 + (i : Nat) * 1)) (Gf := [("x", .d (.int x))]) [("x", L + 1)] (fun ζ => true) (namesF x) ok
   (EvIt.range ok (EvA.call (bltn (.type "range") hTp) (EvL.cons (EvA.binop EvA.int (EvA.binop (EvA.name (.d (.int x))) EvA.int (Qkc (by decide))) Qhw) .nil') Qpx) (by rw [en]; rcases r with _ | _ | _ | r <;> first | decide | lia) (by rw [en]; rcases r with _ | _ | _ | r <;> first | decide | lia))
   (by rw [List.length_map, List.length_range]; show 1 + r ≤ 2 ^ 24; lia) (Takes.cons _ .nil) (fun T'' C d hT'' hd => TeL.nil) (fun T'' C d hT'' hd ζ => ?_)) ?_).f
  ·refine eEA (List.mem_map.mp hd) fun i hi ρ0 => ?_
   subst ρ0
   have hi3 : i < 3 := by have := List.mem_range.mp hi; lia
   have e1 : (0 : Int) + (i : Nat) * 1 = (i : Int) := by lia
   rw [e1]
   have hTp'' := hT''.trans hTp
   have hp4 : (4 : Int) ^ ((i : Int)).toNat = ((4 ^ i : Nat) : Int) := by rw [Int.toNat_natCast]; push_cast; rfl
   have h16 : 0 < 4 ^ i ∧ 4 ^ i ≤ 16 := by rcases i with _ | _ | _ | i <;> first | decide | lia
   refine eEA (fmod_lt ((x.fdiv 3).fdiv ((4 : Int) ^ ((i : Int)).toNat)) 4 (by decide)) fun q hq eq => ?_
   have eq' : ((x.fdiv 3).fdiv ((4 : Int) ^ ((i : Int)).toNat)).fmod 4 = (q : Int) := eq
   refine EvA.cast (EvA.sub Qfv (EvA.plain (EvA.list (ds := nmTab.map .str) (EvL.cons EvA.str (EvL.cons EvA.str (EvL.cons EvA.str (EvL.cons EvA.str .nil')))))) (EvA.binop (EvA.binop (EvA.binop (EvA.name (.d (.int x))) EvA.int (Quc (by decide) (by decide))) (EvA.binop EvA.int (EvA.name (.d (.int i))) (op_pow (by lia) (by lia) (by decide))) (Quc (by rw [hp4]; lia) (by rw [hp4]; lia))) EvA.int (Qkc (by decide)))
    (Qdq (d := .str (nmTab.getD q "")) (by rw [eq']; lia) (by rw [eq']; lia) ?_)) ?_
   ·rw [eq', Int.toNat_natCast]
    rcases q with _ | _ | _ | _ | q <;> first | rfl | lia
   ·have : Qix x i = nmTab.getD q "" := by
     unfold Qix
     rw [Int.toNat_natCast] at eq'
     rw [eq', Int.toNat_natCast]
    show Dv.d (.str (nmTab.getD q "")) = Dv.d (.str (Qix x ((i : Int)).toNat))
    rw [Int.toNat_natCast, this]
  ·have e : (1 + x.fmod 3).toNat = 1 + r := by rw [en, Int.toNat_natCast]
   congr 2
   unfold Qcv
   rw [e, List.filter_eq_self.mpr (fun ζ ζ => rfl), List.map_map, List.map_map]
   refine List.map_congr_left fun i hi => ?_
   show namesF x (.int (0 + (i : Int) * 1)) = .str (Qix x i)
   show PyData.str (Qix x (0 + (i : Int) * 1).toNat) = _
   rw [Int.zero_add, Int.mul_one]; rfl
end
section
variable {prog : Program} {w : World} {W : Addr → Prop} {T : Hp} {A : Around} {env : Env} {E : Value → Shared → Prop} {s₀ s : Shared} {G : Gam} {O : Own} {R : Flow → Shared → Prop} {rest : List Stmt}
theorem Qpc {x:Str}{ts:List (Value → Sem Unit)}{v:Value}{vs:List Value}{a:Dv}{Q:Unit → Shared → Prop}(F:Fx W T s₀ env G O s)(hk:env.scope.kind = .function)(hx:Qww env x)(hv:a.p T.X s.heap v)
  (h : ∀ s', Fx W T s₀ env ((x, a) :: G) O s' → KpX T.X s.heap s'.heap → wpAny (model prog w) A (assignInOrder ts vs) Q E s') : wpAny (model prog w) A (assignInOrder ((fun v => bindName env x v) :: ts) (v :: vs)) Q E s :=
 assignInOrder_cons (bindName_ (F.rebase.store a hk hx hv fun s' F' => h s' (F.unbase F' F.wX fun L ds e => ⟨ds, e⟩) (F'.kt.kp.wider F.may_X)))
theorem Qyq {x y:Str}{px py tpos pos lpos vpos:Pos}{k kv:Nat}{e:Expr}{n:Nat}(a:Dv)(ok:OkA A n)(F:Fx W T s₀ env G none s)(he:EvA prog w T A env G e a)
  (h : ∀ T' L s', T'.le T → ¬ T.X L → (∀ b, b ≠ L → T'.X b → T.X b) → Fx W T' s₀ env ((x, a) :: (y, .v (.ref L)) :: G) (some (L, [])) s' → Go prog w A env rest R s') (hk : autoParam (env.scope.kind = .function) sK)
  (hx : autoParam (Qww env x) sO)
  (hy : autoParam (Qww env y) sO)
  (hse : autoParam (starEach [e, .List [] lpos] env = [(false, eval e env), (false, eval (.List [] lpos) env)]) sK)
  (hs : autoParam (swapsWithSole [.Tuple [.Name x px, .Name y py] k tpos] (.Tuple [e, .List [] lpos] kv vpos) pos.line env = pure false) sK)
  (hw : autoParam (swappedStores [.Tuple [.Name x px, .Name y py] k tpos] (.Tuple [e, .List [] lpos] kv vpos) env = pure (some [x, y])) sK) :
  Go prog w A env (.Assign [.Tuple [.Name x px, .Name y py] k tpos] (.Tuple [e, .List [] lpos] kv vpos) pos :: rest) R s := by
 refine ⟨wpAny_execs_cons (Assign_Tuple_swapped (wpAny_Tuple ?_) hs hw)⟩
 rw [hse]
 refine spliced_cons (wpAny_mono (he.of _ s F.t F.vw) (fun v s₁ k1 => ?_) fun ζ ζ x => x)
 have F1 := F.kept k1.2
 refine spliced_cons (wpAny_List (spliced_nil ⟨Nat.zero_le _, spliced_nil ⟨Nat.le_of_ble_eq_true rfl, ?_⟩⟩))
 have F2 := F1.push (Y := fun b => b = s₁.heap.objs.size) (tk := s₁.toks) (Qav s₁.heap { cls := .type "list", data := .seq ([] : List Value).toArray }) (fun b hb => hb ▸ Qax (Nat.le_refl _)) (fun b hb => hb ▸ ⟨_, Heap.get?_push_size _ rfl⟩)
 have F3 : Fx W (T.push fun b => b = s₁.heap.objs.size) s₀ env G (some (s₁.heap.objs.size, [])) { s₁ with heap := s₁.heap.push { cls := .type "list", data := .seq ([] : List Value).toArray } } :=
  ⟨F2.t, F2.kt, F2.wX, F2.lo, F2.loX, F2.cells, F2.apart, F2.ns, F2.cell, F2.all, fun L ds e => by
   cases e
   exact ⟨.inr rfl, .inr fun l => Qax (Nat.le_refl _) (F1.kt.kp.live _ l), #[], ⟨_, Heap.get?_push_size _ rfl⟩, by simpa using RdAll.nil⟩⟩
 have hv2 : a.p (T.push fun b => b = s₁.heap.objs.size).X (s₁.heap.push { cls := .type "list", data := .seq ([] : List Value).toArray }) v := k1.1.to (Qav _ _).kpx fun b hb => hb.imp_right fun (q : b = s₁.heap.objs.size) => q ▸ Qax (Nat.le_refl _)
 have key : ∀ (s9 : Shared) (t : Addr) (u1 u2 : Value) (Q : List Value → Shared → Prop), s9.heap.IsTuple t #[u1, u2] → (∀ h', Kp s9.heap h' → Q [u1, u2] { s9 with heap := h' }) → wpAny (model prog w) A (unpackItems (.ref t) [x, y].length none) Q (fun ζ ζ => False) s9 := fun s9 t u1 u2 Q ht hq =>
  wpAny_unpackItems_tuple (items := #[u1, u2]) ok.handled ht fun h' he' => hq h' fun b o q => he' b o (fun z => Qax (Nat.le_of_eq z.symm) ⟨o, q⟩) q
 refine key _ _ v (.ref s₁.heap.objs.size) _ ⟨_, Heap.get?_push_size _ rfl, rfl, _, rfl⟩ fun h' he' => ?_
 have k' : Kp (s₁.heap.push { cls := .type "list", data := .seq ([] : List Value).toArray }) h' := (Qav _ _).trans he'
 have F4 := F3.kept (Kt.mk' _ s₁.toks k')
 refine Qpc (a := .v (.ref s₁.heap.objs.size)) F4 hk hy rfl fun s5 F5 k5 => ?_
 refine Qpc (a := a) F5 hk hx (hv2.kp (k'.kpx.trans k5)) fun s6 F6 k6 => ?_
 exact assignInOrder_nil (h _ _ s6 (Hp.push_le _ _) (fun hx => Qax (Nat.le_refl _) (T.live _ F1.t _ hx)) (fun b hb hx => hx.elim id fun q => absurd q hb) F6).of
end
section
variable {prog : Program} {w : World}
theorem getD_at {l:List Int}{i:Nat}(h:i < l.length) : l.getD i 0 = l[i] := by rw [List.getD, List.getElem?_eq_getElem h]; rfl
theorem Qry (a b:Int) : PyData.eqv (.int a) (.int b) = (a == b) := rfl
theorem EvA.bnd {T:Hp}{A:Around}{env:Env}{G:Gam}{e:Expr}{i j:Int}(h:EvA prog w T A env G e (.d (.int i)))(q:i = j) : EvA prog w T A env G e (.d (.int j)) := q ▸ h
noncomputable def Qcj (ruler:List Int) : List Int := ruler.filter fun n => !(0 == n || (127 == n))
noncomputable def lsCond (ruler sizes:List Int)(many:Int)(told:List Int) : Bool := decide (Qqz told < many) && ((decide ((told.length : Int) < sizes.length) || ((ruler.getLastD 0 == 0) || false)) && true)
noncomputable def Qvx (sizes told:List Int) : Int := sizes.getD (min told.length (sizes.length - 1)) 0
noncomputable def Qra (ruler sizes:List Int)(many:Int) : Nat → List Int → List Int
 | 0, t => t
 | k + 1, t => if lsCond ruler sizes many t then Qra ruler sizes many k (t ++ [Qvx sizes t]) else t
theorem Qvj {ruler sizes t:List Int}{many:Int}{k:Nat} : Qra ruler sizes many (k + 1) t = if lsCond ruler sizes many t then Qra ruler sizes many k (t ++ [Qvx sizes t]) else t := rfl
noncomputable abbrev gSizes (ruler:List Int)(Lo:Addr)(many:Nat) : Gam := [("sizes", .d (.list ((Qcj ruler).map .int))), ("told", .v (.ref Lo)), ("ruler", .d (.list (ruler.map .int))), ("many", .d (.int many))]
theorem ct_lawSizes (ruler:List Int)(many:Nat)(hr:ruler ≠ [])(hrl:ruler.length ≤ 1000)(hs:Qcj ruler ≠ [])(hpos:∀ n ∈ Qcj ruler, 1 ≤ n)(hm:many ≤ 100000) :
  Ct prog w 2 (.ref 922) [.d (.list (ruler.map .int)), .d (.int many)] (.d (.list ((Qra ruler (Qcj ruler) many many []).map .int))) :=
 ct_def2 (i := 59) (x := "ruler") (y := "many") fun T T' A L pm s₀ s₁ hT hT' hTp ok F => by
  have hsl : (Qcj ruler).length ≤ ruler.length := List.length_filter_le _ _
  have hs0 : 0 < (Qcj ruler).length := List.length_pos_iff.mpr hs
  have hr0 : 0 < ruler.length := List.length_pos_iff.mpr hr
  have hmap : ((ruler.map PyData.int).filter fun d => !([PyData.int 0, .int 127].any fun y => PyData.eqv y d)).map id = (Qcj ruler).map .int := by
   rw [List.map_id, List.filter_map]
   congr 1
   refine List.filter_congr fun n ζ => ?_
   show (!(PyData.eqv (.int 0) (.int n) || (PyData.eqv (.int 127) (.int n) || false))) = !(0 == n || (127 == n))
   rw [Qry, Qry, Bool.or_false]
  refine Qyq (.d (.list ((Qcj ruler).map .int))) ok F (EvA.cast (EvA.listComp (Gf := []) [] (fun d => !([PyData.int 0, .int 127].any fun y => PyData.eqv y d)) id ok (EvIt.list ok (EvA.name (.d (.list (ruler.map .int))))) (by rw [List.length_map]; show ruler.length ≤ 2 ^ 24; lia) .nil
   (fun T'' C d hT'' hd => TeL.one (TeA.cmp (EvA.name (.d d)) (EvA.plain (EvA.list (ds := [.int 0, .int 127]) (EvL.cons EvA.int (EvL.cons EvA.int .nil')))) (by
    refine eEA (List.mem_map.mp hd) fun n ζ ρ0 => ?_
    subst ρ0
    exact op_notIn ok rfl rfl (by simp [PyData.depth]))))
   (fun T'' C d hT'' hd ζ => EvA.name (.d d))) (by rw [hmap])) fun T₂ Lo sa hT₂ hLo hX F => ?_
  have hTp2 := hT₂.trans hTp
  refine st_while F (fun k G' O' => ∃ t : List Int, G' = gSizes ruler Lo many ∧ O' = some (Lo, t.map .int) ∧ Qra ruler (Qcj ruler) many k t = Qra ruler (Qcj ruler) many many [] ∧ (many : Int) ≤ Qqz t + k ∧ t.length + k = many) many ⟨[], rfl, rfl, rfl, by simp [Qqz], by simp⟩ ?_
  intro k G' O' sb κ0 F
  obtain ⟨t, rfl, rfl, h1, h2, h3⟩ := κ0
  have hTs : (T₂.see Lo (t.map .int)).le Tp := Hp.le_of hTp2 fun h q => q.1
  have htl : (t.map PyData.int).length ≤ sizeLine := by rw [List.length_map]; show t.length ≤ 2 ^ 24; lia
  have hzl : ((Qcj ruler).map PyData.int).length ≤ sizeLine := by rw [List.length_map]; show (Qcj ruler).length ≤ 2 ^ 24; lia
  have told : ∀ {pos : Pos}, EvA prog w (T₂.see Lo (t.map .int)) A (Qna 59 922 L pm) (gSizes ruler Lo many) (.Name "told" pos) (.d (.list (t.map .int))) := fun {pos} => EvA.own (EvA.name (.v (.ref Lo)))
  refine ⟨lsCond ruler (Qcj ruler) many t, TeA.see (TeA.and (TeA.cmp (EvA.call (bltn (.builtin "sum") hTs) (EvL.cons told .nil') (QHz (ok.le (by decide) : OkA A (0 + 1)))) (EvA.name (.d (.int many))) Qow) fun ζ => TeA.and (TeA.or (TeA.cmp (EvA.bnd (EvA.call (bltn (.builtin "len") hTs) (EvL.cons told .nil') (Qbz htl)) (by rw [List.length_map])) (EvA.bnd (EvA.call (bltn (.builtin "len") hTs) (EvL.cons (EvA.name (.d (.list ((Qcj ruler).map .int)))) .nil') (Qbz hzl)) (by rw [List.length_map])) Qow) fun ζ => TeA.or (TeA.cmp (EvA.sub Qfv (EvA.name (.d (.list (ruler.map .int)))) (EvA.neg EvA.int) (Qxx (d := .int (ruler.getLastD 0)) (by decide) ?_ (by decide) ?_)) EvA.int (op_eq ok rfl rfl (by simp [PyData.depth]))) fun ζ => TeA.or0) fun ζ => TeA.and0), fun hb sc F => ?_, fun hb sc F => ?_⟩
  ·rw [List.length_map]; lia
  ·rw [List.length_map, List.getElem?_map]
   rw [neg1_toNat]
   have : ruler[ruler.length - 1]? = some (ruler.getLastD 0) := by
    rw [List.getLastD_eq_getLast?, ← List.getLast?_eq_getElem?]
    refine eE (Option.isSome_iff_exists.mp (List.getLast?_isSome.mpr hr)) fun a ha => ?_
    rw [ha]; rfl
   rw [this]; rfl
  ·have hk0 : k ≠ 0 := by
    rintro rfl
    have h2' : (many : Int) ≤ Qqz t := by simpa using h2
    have : decide (Qqz t < (many : Int)) = false := decide_eq_false (by lia)
    have hb' : (decide (Qqz t < (many : Int)) && _) = true := hb
    rw [this] at hb'
    exact Bool.false_ne_true hb'
   refine eE (Nat.exists_eq_succ_of_ne_zero hk0) fun k ρ1 => ?_
   subst ρ1
   have hmem : Qvx (Qcj ruler) t ∈ Qcj ruler := by
    unfold Qvx
    have hlt := Qvz (a := t.length) hs0
    rw [getD_at hlt]
    exact List.getElem_mem hlt
   have hn1 := hpos _ hmem
   refine Qox (.int (Qvx (Qcj ruler) t)) F (EvA.see (EvA.sub Qfv (EvA.name (.d (.list ((Qcj ruler).map .int)))) (EvA.call (bltn (.builtin "min") hTs) (EvL.cons (EvA.bnd (EvA.call (bltn (.builtin "len") hTs) (EvL.cons told .nil') (Qbz htl)) (by rw [List.length_map])) (EvL.cons (EvA.binop (EvA.bnd (EvA.call (bltn (.builtin "len") hTs) (EvL.cons (EvA.name (.d (.list ((Qcj ruler).map .int)))) .nil') (Qbz hzl)) (by rw [List.length_map])) EvA.int Qub) .nil')) (fn_min2 ok)) (Qdq ?_ ?_ ?_))) htl fun sd F => Qaw ⟨k, _, _, Nat.lt_succ_self k, ⟨t ++ [Qvx (Qcj ruler) t], rfl, by rw [List.map_append]; rfl, ?_, ?_, ?_⟩, F⟩
   ·split <;> lia
   ·split <;> lia
   ·rw [min_toNat hs0, List.getElem?_map]
    have hlt := Qvz (a := t.length) hs0
    rw [List.getElem?_eq_getElem hlt]
    unfold Qvx
    rw [getD_at hlt]; rfl
   ·rw [← h1, Qvj, if_pos hb]
   ·rw [Qtk]; push_cast at h2; lia
   ·rw [List.length_append]; simp; lia
  ·refine Qpj (F.give (x := "told") (by kernel_rfl!) (fun q => q)) fun T₄ hp4 hX4 F => ?_
   have hT4 : T₄.le T := ⟨fun h q => hT'.p h (hT₂.p h (hp4 h q)), fun b q => (hX4 b).2 ⟨hT₂.X b (hT'.X b q), fun z => hLo (z ▸ hT'.X b q)⟩⟩
   have e : Qra ruler (Qcj ruler) many many [] = t := by
    rw [← h1]
    cases k with
    | zero => rfl
    | succ k => rw [Qvj, if_neg (by rw [hb]; decide)]
   rw [e]
   exact ret hT4 F (EvA.plain (EvA.name (.pl (t.map .int)))).f
end
end Mine
namespace Mine
open PySem PySem.Spec PySem.Calls PyProof.Rows
open AutoSeq1 (wpAny_loadPart')
open MeetsSeq MeetsSeq2 MeetsSeq3 SeqAt
noncomputable def ltA : PyData → PyData → Bool
 | .str x, .str y => decide (x.cps.toList < y.cps.toList)
 | .int x, .int y => decide (x < y)
 | _, _ => false
noncomputable def isI : PyData → Bool
 | .int _ => true
 | _ => false
noncomputable def isS : PyData → Bool
 | .str _ => true
 | _ => false
noncomputable def Qly (x y:PyData) : Bool := (isI x && isI y) || (isS x && isS y)
noncomputable def ltL : List PyData → List PyData → Bool
 | [], [] => false
 | [], _ :: _ => true
 | _ :: _, [] => false
 | x :: xs, y :: ys => if PyData.eqv x y then ltL xs ys else ltA x y
noncomputable def leL : List PyData → List PyData → Bool
 | [], _ => true
 | _ :: _, [] => false
 | x :: xs, y :: ys => if PyData.eqv x y then leL xs ys else !ltA y x
theorem isI_inv {x:PyData}(h:isI x = true) : ∃ i, x = .int i := by cases x <;> first | exact ⟨_, rfl⟩ | cases h
theorem isS_inv {x:PyData}(h:isS x = true) : ∃ i, x = .str i := by cases x <;> first | exact ⟨_, rfl⟩ | cases h
theorem kinds {x y:PyData}(hk:Qly x y = true) : (∃ i j, x = .int i ∧ y = .int j) ∨ ∃ u v, x = .str u ∧ y = .str v := by
 rcases (Bool.or_eq_true _ _).mp hk with h | h
 ·have h := (Bool.and_eq_true _ _).mp h
  exact eE (isI_inv h.1) fun i e => eE (isI_inv h.2) fun j e2 => .inl ⟨i, j, e, e2⟩
 ·have h := (Bool.and_eq_true _ _).mp h
  exact eE (isS_inv h.1) fun i e => eE (isS_inv h.2) fun j e2 => .inr ⟨i, j, e, e2⟩
noncomputable def gtL : List PyData → List PyData → Bool
 | [], _ => false
 | _ :: _, [] => true
 | x :: xs, y :: ys => if PyData.eqv x y then gtL xs ys else ltA y x
theorem atom_lt {X:Addr → Prop}{s:Shared}{x y:PyData}{a b:Value}(hk:Qly x y = true)(hx:Rd X s.heap x a)(hy:Rd X s.heap y b){prog:Program}{w:World}{A:Around}{E:Value → Shared → Prop}{Q:Value → Shared → Prop}
  (h : Q (.bool (ltA x y)) s) : wpAny (model prog w) A (richCompare .Lt a b) Q E s := by
 rcases kinds hk with ⟨i, j, rfl, rfl⟩ | ⟨i, j, rfl, rfl⟩
 ·refine eE (hx.int_inv) fun t ρ0 => ?_
  subst ρ0
  refine eE (hy.int_inv) fun u ρ1 => ?_
  subst ρ1
  exact lt_int (A := A) h
 ·refine eE (hx.str_inv) fun t ρ2 => ?_
  subst ρ2
  refine eE (hy.str_inv) fun u ρ3 => ?_
  subst ρ3
  exact P.lt_str (A := A) h
theorem atom_le {X:Addr → Prop}{s:Shared}{x y:PyData}{a b:Value}(hk:Qly x y = true)(hx:Rd X s.heap x a)(hy:Rd X s.heap y b){prog:Program}{w:World}{A:Around}{E:Value → Shared → Prop}{Q:Value → Shared → Prop}
  (h : Q (.bool (!ltA y x)) s) : wpAny (model prog w) A (richCompare .LtE a b) Q E s := by
 rcases kinds hk with ⟨i, j, rfl, rfl⟩ | ⟨i, j, rfl, rfl⟩
 ·refine eE (hx.int_inv) fun t ρ4 => ?_
  subst ρ4
  refine eE (hy.int_inv) fun u ρ5 => ?_
  subst ρ5
  refine le_int (A := A) ?_
  have e : (!ltA (.int j) (.int i)) = decide (i ≤ j) := by
   show (!decide (j < i)) = _
   by_cases q : j < i
   ·have q' : ¬ i ≤ j := Int.not_le.mpr q
    rw [decide_eq_true q, decide_eq_false q']; rfl
   ·have q' : i ≤ j := Int.not_lt.mp q
    rw [decide_eq_false q, decide_eq_true q']; rfl
  rw [e] at h
  exact h
 ·refine eE (hx.str_inv) fun t ρ6 => ?_
  subst ρ6
  refine eE (hy.str_inv) fun u ρ7 => ?_
  subst ρ7
  exact P.le_str (A := A) h
theorem atom_gt {X:Addr → Prop}{s:Shared}{x y:PyData}{a b:Value}(hk:Qly x y = true)(hx:Rd X s.heap x a)(hy:Rd X s.heap y b){prog:Program}{w:World}{A:Around}{E:Value → Shared → Prop}{Q:Value → Shared → Prop}
  (h : Q (.bool (ltA y x)) s) : wpAny (model prog w) A (richCompare .Gt a b) Q E s := by
 rcases kinds hk with ⟨i, j, rfl, rfl⟩ | ⟨i, j, rfl, rfl⟩
 ·refine eE (hx.int_inv) fun t ρ8 => ?_
  subst ρ8
  refine eE (hy.int_inv) fun u ρ9 => ?_
  subst ρ9
  exact gt_int (A := A) h
 ·refine eE (hx.str_inv) fun t ρ10 => ?_
  subst ρ10
  refine eE (hy.str_inv) fun u ρ11 => ?_
  subst ρ11
  exact P.gt_str (A := A) h
theorem Qny {x y:PyData}(hk:Qly x y = true)(hx:x.canLay0 = true) : x.depth = 0 := by
 rcases kinds hk with ⟨i, j, rfl, rfl⟩ | ⟨i, j, rfl, rfl⟩ <;> rfl
noncomputable def Qfb : List PyData → List PyData → Prop
 | x :: xs, y :: ys => (Qly x y = true ∧ x.canLay0 = true ∧ y.canLay0 = true) ∧ Qfb xs ys
 | _, _ => True
theorem getN {items:Array Value}{i:Nat}(e:items.size = i + 0) : items[((i:Nat) : Int).toNat]? = none := Array.getElem?_eq_none (Nat.le_of_eq e)
theorem ltN {n i k:Nat}(e:n = i + (k + 1)) : i < n := e ▸ Nat.lt_add_of_pos_right (Nat.succ_pos k)
theorem getS {items:Array Value}{i:Nat}(h:i < items.size) : items[((i:Nat) : Int).toNat]? = some items[i] := Array.getElem?_eq_getElem h
theorem dropA {items:Array Value}{i:Nat}(h:i < items.size) : items.toList.drop i = items[i] :: items.toList.drop (i + 1) := List.drop_eq_getElem_cons (i := i) (l := items.toList) h
theorem sizeN {n i k:Nat}(e:n = i + (k + 1)) : n = i + 1 + k := e.trans (Nat.add_right_comm i 1 k).symm
theorem ltL_nil {a b i:Nat}{ys:List PyData}(e1:a = i + 0)(e2:b = i + ys.length) : decide (a < b) = ltL [] ys := by
 subst e1 e2
 cases ys with
 | nil => exact decide_eq_false (Nat.lt_irrefl _)
 | cons y ys => exact decide_eq_true (Nat.lt_add_of_pos_right (Nat.succ_pos _))
theorem ltL_end {a b i k:Nat}(e1:a = i + (k + 1))(e2:b = i + 0) : decide (a < b) = false := decide_eq_false (Nat.not_lt.mpr (e1 ▸ e2 ▸ Nat.le_add_right _ _))
theorem leL_nil {a b i k:Nat}(e1:a = i + 0)(e2:b = i + k) : decide (a ≤ b) = true := decide_eq_true (e1 ▸ e2 ▸ Nat.le_add_right _ _)
theorem leL_end {a b i k:Nat}(e1:a = i + (k + 1))(e2:b = i + 0) : decide (a ≤ b) = false := decide_eq_false (Nat.not_le.mpr (e1 ▸ e2 ▸ Nat.lt_add_of_pos_right (Nat.succ_pos k)))
theorem gtL_nil {a b i k:Nat}(e1:a = i + 0)(e2:b = i + k) : decide (a > b) = false := decide_eq_false (Nat.not_lt.mpr (e1 ▸ e2 ▸ Nat.le_add_right _ _))
theorem gtL_end {a b i k:Nat}(e1:a = i + (k + 1))(e2:b = i + 0) : decide (a > b) = true := decide_eq_true (e1 ▸ e2 ▸ Nat.lt_add_of_pos_right (Nat.succ_pos k))
theorem ltL_cons {x y:PyData}{xs ys:List PyData} : ltL (x :: xs) (y :: ys) = if PyData.eqv x y then ltL xs ys else ltA x y := rfl
theorem leL_cons {x y:PyData}{xs ys:List PyData} : leL (x :: xs) (y :: ys) = if PyData.eqv x y then leL xs ys else !ltA y x := rfl
theorem gtL_cons {x y:PyData}{xs ys:List PyData} : gtL (x :: xs) (y :: ys) = if PyData.eqv x y then gtL xs ys else ltA y x := rfl
theorem lt_loop {X:Addr → Prop}(l b:Addr)(items items2:Array Value)(n n2:Nat)(dd dd2:Option Addr)(sl sl2:Array (Option Value)) :
  ∀ (xs ys : List PyData) (i : Nat), Qfb xs ys → items.size = i + xs.length → items2.size = i + ys.length → Meets (Builtin.«list.__eq__.loop» ⟨[.ref l, .ref b, rawInt i, rawInt 0], []⟩)
   (fun A R s => s.heap.get? l = some { cls := .type "list", dict := dd, data := .seq items n, slots := sl } ∧ s.heap.get? b = some { cls := .type "list", dict := dd2, data := .seq items2 n2, slots := sl2 } ∧
    RdAll X s.heap xs (items.toList.drop i) ∧ RdAll X s.heap ys (items2.toList.drop i) ∧ A.units + 1 < cLine ∧ R (.ok (.ret (.bool (ltL xs ys)))) s) := by
 intro xs
 induction xs with
 | nil =>
  intro ys i hp e1 e2 prog w A R s h
  refine Qpk h fun hl hb hx hy hu h => ?_
  refine wpAny_bind (m := Builtin.List.listItems (.ref l)) (wpAny_listItems hl rfl ?_)
  refine wpAny_bind (m := Builtin.List.listItems (.ref b)) (wpAny_listItems hb rfl ?_)
  rw [getN e1]
  refine wpAny_bind (m := Builtin.List.listItems (.ref l)) (wpAny_listItems hl rfl ?_)
  refine wpAny_bind (m := Builtin.List.listItems (.ref b)) (wpAny_listItems hb rfl (wpAny_pure ?_))
  show R (.ok (.ret (.bool (decide (items.size < items2.size))))) _
  rw [ltL_nil e1 e2]; exact h
 | cons x xs ih =>
  intro ys i hp e1 e2 prog w A R s h
  refine Qpk h fun hl hb hx hy hu h => ?_
  refine wpAny_bind (m := Builtin.List.listItems (.ref l)) (wpAny_listItems hl rfl ?_)
  refine wpAny_bind (m := Builtin.List.listItems (.ref b)) (wpAny_listItems hb rfl ?_)
  have hlt := ltN e1
  rw [getS hlt]
  cases ys with
  | nil =>
   rw [getN e2]
   refine wpAny_bind (m := Builtin.List.listItems (.ref l)) (wpAny_listItems hl rfl ?_)
   refine wpAny_bind (m := Builtin.List.listItems (.ref b)) (wpAny_listItems hb rfl (wpAny_pure ?_))
   show R (.ok (.ret (.bool (decide (items.size < items2.size))))) _
   rw [ltL_end e1 e2]; exact h
  | cons y ys =>
   have hlt2 := ltN e2
   rw [getS hlt2]
   refine Qac (hx.cons_inv) fun v vs ev rx hx' => ?_
   refine Qac (hy.cons_inv) fun u us eu ry hy' => ?_
   rw [dropA hlt] at ev; rw [dropA hlt2] at eu
   refine eA (List.cons.inj ev) fun ρ12 ρ13 => ?_
   subst ρ12
   subst ρ13
   refine eA (List.cons.inj eu) fun ρ14 ρ15 => ?_
   subst ρ14
   subst ρ15
   refine eA (hp) fun ν16 hp' => ?_
   refine eAA (ν16) fun hk c1 c2 => ?_
   refine eE (Rd.reads _ _ rx) fun as q1 => ?_
   refine eE (Rd.reads _ _ ry) fun bs q2 => ?_
   refine wpAny_bind (eqAt_reads x y _ _ _ _ as bs q1 q2 c1 c2 ?_ prog w _ _ ?_)
   ·rw [Qny hk c1]; exact hu
   cases he : PyData.eqv x y with
   | true =>
    refine wpAny_bind (wpAny_pure (wpAny_pure ⟨plainId_quiet plain_eq_loop _, codeAny_builtin entry_eq_loop ?_⟩))
    rw [Around.under_plainId plain_eq_loop _]
    exact ih ys (i + 1) hp' (sizeN e1) (sizeN e2) prog w A R _ ⟨hl, hb, hx', hy', hu, (congrArg (fun b => R (.ok (.ret (.bool b))) _) (ltL_cons.trans (if_pos he))).mp h⟩
   | false =>
    refine wpAny_bind (m := Builtin.List.listItems (.ref l)) (wpAny_listItems hl rfl ?_)
    refine wpAny_bind (m := Builtin.List.listItems (.ref b)) (wpAny_listItems hb rfl ?_)
    rw [getS hlt, getS hlt2]
    refine wpAny_bind (m := richCompare CmpOp.Lt items[i] items2[i]) (atom_lt hk rx ry (wpAny_pure ?_))
    exact (congrArg (fun b => R (.ok (.ret (.bool b))) _) (ltL_cons.trans (if_neg (Bool.eq_false_iff.mp he)))).mp h
theorem le_loop {X:Addr → Prop}(l b:Addr)(items items2:Array Value)(n n2:Nat)(dd dd2:Option Addr)(sl sl2:Array (Option Value)) :
  ∀ (xs ys : List PyData) (i : Nat), Qfb xs ys → items.size = i + xs.length → items2.size = i + ys.length → Meets (Builtin.«list.__eq__.loop» ⟨[.ref l, .ref b, rawInt i, rawInt 1], []⟩)
   (fun A R s => s.heap.get? l = some { cls := .type "list", dict := dd, data := .seq items n, slots := sl } ∧ s.heap.get? b = some { cls := .type "list", dict := dd2, data := .seq items2 n2, slots := sl2 } ∧
    RdAll X s.heap xs (items.toList.drop i) ∧ RdAll X s.heap ys (items2.toList.drop i) ∧ A.units + 1 < cLine ∧ R (.ok (.ret (.bool (leL xs ys)))) s) := by
 intro xs
 induction xs with
 | nil =>
  intro ys i hp e1 e2 prog w A R s h
  refine Qpk h fun hl hb hx hy hu h => ?_
  refine wpAny_bind (m := Builtin.List.listItems (.ref l)) (wpAny_listItems hl rfl ?_)
  refine wpAny_bind (m := Builtin.List.listItems (.ref b)) (wpAny_listItems hb rfl ?_)
  rw [getN e1]
  refine wpAny_bind (m := Builtin.List.listItems (.ref l)) (wpAny_listItems hl rfl ?_)
  refine wpAny_bind (m := Builtin.List.listItems (.ref b)) (wpAny_listItems hb rfl (wpAny_pure ?_))
  show R (.ok (.ret (.bool (decide (items.size ≤ items2.size))))) _
  rw [leL_nil e1 e2]; exact h
 | cons x xs ih =>
  intro ys i hp e1 e2 prog w A R s h
  refine Qpk h fun hl hb hx hy hu h => ?_
  refine wpAny_bind (m := Builtin.List.listItems (.ref l)) (wpAny_listItems hl rfl ?_)
  refine wpAny_bind (m := Builtin.List.listItems (.ref b)) (wpAny_listItems hb rfl ?_)
  have hlt := ltN e1
  rw [getS hlt]
  cases ys with
  | nil =>
   rw [getN e2]
   refine wpAny_bind (m := Builtin.List.listItems (.ref l)) (wpAny_listItems hl rfl ?_)
   refine wpAny_bind (m := Builtin.List.listItems (.ref b)) (wpAny_listItems hb rfl (wpAny_pure ?_))
   show R (.ok (.ret (.bool (decide (items.size ≤ items2.size))))) _
   rw [leL_end e1 e2]; exact h
  | cons y ys =>
   have hlt2 := ltN e2
   rw [getS hlt2]
   refine Qac (hx.cons_inv) fun v vs ev rx hx' => ?_
   refine Qac (hy.cons_inv) fun u us eu ry hy' => ?_
   rw [dropA hlt] at ev; rw [dropA hlt2] at eu
   refine eA (List.cons.inj ev) fun ρ12 ρ13 => ?_
   subst ρ12
   subst ρ13
   refine eA (List.cons.inj eu) fun ρ14 ρ15 => ?_
   subst ρ14
   subst ρ15
   refine eA (hp) fun ν16 hp' => ?_
   refine eAA (ν16) fun hk c1 c2 => ?_
   refine eE (Rd.reads _ _ rx) fun as q1 => ?_
   refine eE (Rd.reads _ _ ry) fun bs q2 => ?_
   refine wpAny_bind (eqAt_reads x y _ _ _ _ as bs q1 q2 c1 c2 ?_ prog w _ _ ?_)
   ·rw [Qny hk c1]; exact hu
   cases he : PyData.eqv x y with
   | true =>
    refine wpAny_bind (wpAny_pure (wpAny_pure ⟨plainId_quiet plain_eq_loop _, codeAny_builtin entry_eq_loop ?_⟩))
    rw [Around.under_plainId plain_eq_loop _]
    exact ih ys (i + 1) hp' (sizeN e1) (sizeN e2) prog w A R _ ⟨hl, hb, hx', hy', hu, (congrArg (fun b => R (.ok (.ret (.bool b))) _) (leL_cons.trans (if_pos he))).mp h⟩
   | false =>
    refine wpAny_bind (m := Builtin.List.listItems (.ref l)) (wpAny_listItems hl rfl ?_)
    refine wpAny_bind (m := Builtin.List.listItems (.ref b)) (wpAny_listItems hb rfl ?_)
    rw [getS hlt, getS hlt2]
    refine wpAny_bind (m := richCompare CmpOp.LtE items[i] items2[i]) (atom_le hk rx ry (wpAny_pure ?_))
    exact (congrArg (fun b => R (.ok (.ret (.bool b))) _) (leL_cons.trans (if_neg (Bool.eq_false_iff.mp he)))).mp h
theorem gt_loop {X:Addr → Prop}(l b:Addr)(items items2:Array Value)(n n2:Nat)(dd dd2:Option Addr)(sl sl2:Array (Option Value)) :
  ∀ (xs ys : List PyData) (i : Nat), Qfb xs ys → items.size = i + xs.length → items2.size = i + ys.length → Meets (Builtin.«list.__eq__.loop» ⟨[.ref l, .ref b, rawInt i, rawInt 4], []⟩)
   (fun A R s => s.heap.get? l = some { cls := .type "list", dict := dd, data := .seq items n, slots := sl } ∧ s.heap.get? b = some { cls := .type "list", dict := dd2, data := .seq items2 n2, slots := sl2 } ∧
    RdAll X s.heap xs (items.toList.drop i) ∧ RdAll X s.heap ys (items2.toList.drop i) ∧ A.units + 1 < cLine ∧ R (.ok (.ret (.bool (gtL xs ys)))) s) := by
 intro xs
 induction xs with
 | nil =>
  intro ys i hp e1 e2 prog w A R s h
  refine Qpk h fun hl hb hx hy hu h => ?_
  refine wpAny_bind (m := Builtin.List.listItems (.ref l)) (wpAny_listItems hl rfl ?_)
  refine wpAny_bind (m := Builtin.List.listItems (.ref b)) (wpAny_listItems hb rfl ?_)
  rw [getN e1]
  refine wpAny_bind (m := Builtin.List.listItems (.ref l)) (wpAny_listItems hl rfl ?_)
  refine wpAny_bind (m := Builtin.List.listItems (.ref b)) (wpAny_listItems hb rfl (wpAny_pure ?_))
  show R (.ok (.ret (.bool (decide (items.size > items2.size))))) _
  rw [gtL_nil e1 e2]; exact h
 | cons x xs ih =>
  intro ys i hp e1 e2 prog w A R s h
  refine Qpk h fun hl hb hx hy hu h => ?_
  refine wpAny_bind (m := Builtin.List.listItems (.ref l)) (wpAny_listItems hl rfl ?_)
  refine wpAny_bind (m := Builtin.List.listItems (.ref b)) (wpAny_listItems hb rfl ?_)
  have hlt := ltN e1
  rw [getS hlt]
  cases ys with
  | nil =>
   rw [getN e2]
   refine wpAny_bind (m := Builtin.List.listItems (.ref l)) (wpAny_listItems hl rfl ?_)
   refine wpAny_bind (m := Builtin.List.listItems (.ref b)) (wpAny_listItems hb rfl (wpAny_pure ?_))
   show R (.ok (.ret (.bool (decide (items.size > items2.size))))) _
   rw [gtL_end e1 e2]; exact h
  | cons y ys =>
   have hlt2 := ltN e2
   rw [getS hlt2]
   refine Qac (hx.cons_inv) fun v vs ev rx hx' => ?_
   refine Qac (hy.cons_inv) fun u us eu ry hy' => ?_
   rw [dropA hlt] at ev; rw [dropA hlt2] at eu
   refine eA (List.cons.inj ev) fun ρ12 ρ13 => ?_
   subst ρ12
   subst ρ13
   refine eA (List.cons.inj eu) fun ρ14 ρ15 => ?_
   subst ρ14
   subst ρ15
   refine eA (hp) fun ν16 hp' => ?_
   refine eAA (ν16) fun hk c1 c2 => ?_
   refine eE (Rd.reads _ _ rx) fun as q1 => ?_
   refine eE (Rd.reads _ _ ry) fun bs q2 => ?_
   refine wpAny_bind (eqAt_reads x y _ _ _ _ as bs q1 q2 c1 c2 ?_ prog w _ _ ?_)
   ·rw [Qny hk c1]; exact hu
   cases he : PyData.eqv x y with
   | true =>
    refine wpAny_bind (wpAny_pure (wpAny_pure ⟨plainId_quiet plain_eq_loop _, codeAny_builtin entry_eq_loop ?_⟩))
    rw [Around.under_plainId plain_eq_loop _]
    exact ih ys (i + 1) hp' (sizeN e1) (sizeN e2) prog w A R _ ⟨hl, hb, hx', hy', hu, (congrArg (fun b => R (.ok (.ret (.bool b))) _) (gtL_cons.trans (if_pos he))).mp h⟩
   | false =>
    refine wpAny_bind (m := Builtin.List.listItems (.ref l)) (wpAny_listItems hl rfl ?_)
    refine wpAny_bind (m := Builtin.List.listItems (.ref b)) (wpAny_listItems hb rfl ?_)
    rw [getS hlt, getS hlt2]
    refine wpAny_bind (m := richCompare CmpOp.Gt items[i] items2[i]) (atom_gt hk rx ry (wpAny_pure ?_))
    exact (congrArg (fun b => R (.ok (.ret (.bool b))) _) (gtL_cons.trans (if_neg (Bool.eq_false_iff.mp he)))).mp h
theorem OkA.cl {A:Around}{n k:Nat}(x:OkA A n)(h:k ≤ 300) : A.units + k < cLine := Nat.lt_of_le_of_lt (Nat.add_le_add (Nat.le_add_right _ _) h) x.cline
theorem list_lt {X:Addr → Prop}(l b:Addr)(items items2:Array Value)(n n2:Nat)(dd dd2:Option Addr)(sl sl2:Array (Option Value))(xs ys:List PyData)(hp:Qfb xs ys) : Meets (Builtin.«list.__lt__» ⟨[.ref l, .ref b], []⟩)
   (fun A R s => s.heap.get? l = some { cls := .type "list", dict := dd, data := .seq items n, slots := sl } ∧ s.heap.get? b = some { cls := .type "list", dict := dd2, data := .seq items2 n2, slots := sl2 } ∧
    RdAll X s.heap xs items.toList ∧ RdAll X s.heap ys items2.toList ∧ A.units + 1 < cLine ∧ R (.ok (.ret (.bool (ltL xs ys)))) s) := by
 intro prog w A R s h
 refine Qpk h fun hl hb hx hy hu h => ?_
 have f3 := AutoSeq1.sub_list_list
 have e1 : items.size = 0 + xs.length := hx.length.trans (Nat.zero_add _).symm
 have e2 : items2.size = 0 + ys.length := hy.length.trans (Nat.zero_add _).symm
 refine wpAny_bind (m := slotArgs "__lt__" 1 ⟨[.ref l, .ref b], []⟩) (wpAny_pure ?_)
 refine wpAny_bind (m := isInstance (.ref b) (.type "list")) (wpAny_isInstance (T := "list") (b := true) ⟨_, hb, rfl⟩ f3 ?_)
 refine wpAny_pure ?_
 exact ⟨plainId_quiet plain_eq_loop _, codeAny_builtin entry_eq_loop (by
  rw [Around.under_plainId plain_eq_loop _]
  exact lt_loop l b items items2 n n2 dd dd2 sl sl2 xs ys 0 hp e1 e2 prog w A R _ ⟨hl, hb, hx, hy, hu, h⟩)⟩
theorem rc_ltList {X:Addr → Prop}{prog:Program}{w:World}{A:Around}{E:Value → Shared → Prop}{s:Shared}{Q:Value → Shared → Prop}{xs ys:List PyData}{v1 v2:Value}(hu:A.units + 2 < cLine)(hk:Qfb xs ys)
  (p1 : Rd X s.heap (.list xs) v1) (p2 : Rd X s.heap (.list ys) v2) (h : Q (.bool (ltL xs ys)) s) : wpAny (model prog w) A (richCompare .Lt v1 v2) Q E s := by
 refine Qck (p1.list_inv) fun a vs ρ27 hx ν28 hr => ?_
 subst ρ27
 obtain ⟨⟨cls, dd, data, sl⟩, ho, hc, n, hd⟩ := ν28
 refine Qck (p2.list_inv) fun b us ρ29 hx' ν30 hr2 => ?_
 subst ρ29
 obtain ⟨⟨cls2, dd2, data2, sl2⟩, ho2, hc2, n2, hd2⟩ := ν30
 cases hc; cases hd; cases hc2; cases hd2
 refine wpAny_richCompare_same_room ⟨_, ho, rfl⟩ ⟨_, ho2, rfl⟩ PySem.F.slot_list_lt (call_meets PySem.F.slot_list_lt ⟨_, ho, rfl⟩ PySem.F.entry_list_lt (PySem.F.args_list_lt_2 _ _) (list_lt (X := X) a b vs us n n2 dd dd2 sl sl2 xs ys hk) ⟨ho, ho2, hr, hr2, ?_, ?_⟩) (by lia)
 ·exact Nat.lt_of_succ_lt hu
 ·exact ⟨(fun e => nomatch e), h⟩
theorem list_le {X:Addr → Prop}(l b:Addr)(items items2:Array Value)(n n2:Nat)(dd dd2:Option Addr)(sl sl2:Array (Option Value))(xs ys:List PyData)(hp:Qfb xs ys) : Meets (Builtin.«list.__le__» ⟨[.ref l, .ref b], []⟩)
   (fun A R s => s.heap.get? l = some { cls := .type "list", dict := dd, data := .seq items n, slots := sl } ∧ s.heap.get? b = some { cls := .type "list", dict := dd2, data := .seq items2 n2, slots := sl2 } ∧
    RdAll X s.heap xs items.toList ∧ RdAll X s.heap ys items2.toList ∧ A.units + 1 < cLine ∧ R (.ok (.ret (.bool (leL xs ys)))) s) := by
 intro prog w A R s h
 refine Qpk h fun hl hb hx hy hu h => ?_
 have f3 := AutoSeq1.sub_list_list
 have e1 : items.size = 0 + xs.length := hx.length.trans (Nat.zero_add _).symm
 have e2 : items2.size = 0 + ys.length := hy.length.trans (Nat.zero_add _).symm
 refine wpAny_bind (m := slotArgs "__le__" 1 ⟨[.ref l, .ref b], []⟩) (wpAny_pure ?_)
 refine wpAny_bind (m := isInstance (.ref b) (.type "list")) (wpAny_isInstance (T := "list") (b := true) ⟨_, hb, rfl⟩ f3 ?_)
 refine wpAny_pure ?_
 exact ⟨plainId_quiet plain_eq_loop _, codeAny_builtin entry_eq_loop (by
  rw [Around.under_plainId plain_eq_loop _]
  exact le_loop l b items items2 n n2 dd dd2 sl sl2 xs ys 0 hp e1 e2 prog w A R _ ⟨hl, hb, hx, hy, hu, h⟩)⟩
theorem rc_leList {X:Addr → Prop}{prog:Program}{w:World}{A:Around}{E:Value → Shared → Prop}{s:Shared}{Q:Value → Shared → Prop}{xs ys:List PyData}{v1 v2:Value}(hu:A.units + 2 < cLine)(hk:Qfb xs ys)
  (p1 : Rd X s.heap (.list xs) v1) (p2 : Rd X s.heap (.list ys) v2) (h : Q (.bool (leL xs ys)) s) : wpAny (model prog w) A (richCompare .LtE v1 v2) Q E s := by
 refine Qck (p1.list_inv) fun a vs ρ31 hx ν32 hr => ?_
 subst ρ31
 obtain ⟨⟨cls, dd, data, sl⟩, ho, hc, n, hd⟩ := ν32
 refine Qck (p2.list_inv) fun b us ρ33 hx' ν34 hr2 => ?_
 subst ρ33
 obtain ⟨⟨cls2, dd2, data2, sl2⟩, ho2, hc2, n2, hd2⟩ := ν34
 cases hc; cases hd; cases hc2; cases hd2
 refine wpAny_richCompare_same_room ⟨_, ho, rfl⟩ ⟨_, ho2, rfl⟩ PySem.F.slot_list_le (call_meets PySem.F.slot_list_le ⟨_, ho, rfl⟩ PySem.F.entry_list_le (PySem.F.args_list_le_2 _ _) (list_le (X := X) a b vs us n n2 dd dd2 sl sl2 xs ys hk) ⟨ho, ho2, hr, hr2, ?_, ?_⟩) (by lia)
 ·exact Nat.lt_of_succ_lt hu
 ·exact ⟨(fun e => nomatch e), h⟩
theorem op_leList {prog:Program}{w:World}{T:Hp}{A:Around}{m:Nat}{xs ys:List PyData}(ok:OkA A m)(hk:Qfb xs ys) : Op2 prog w T A (compareOp .LtE) (.d (.list xs)) (.d (.list ys)) (.d (.bool (leL xs ys))) := ⟨fun E s v1 v2 hp p1 p2 =>
 rc_leList (ok.cl (Nat.le_of_ble_eq_true rfl)) hk p1 p2 ⟨Dv.p.bool, .refl s⟩⟩
theorem list_gt {X:Addr → Prop}(l b:Addr)(items items2:Array Value)(n n2:Nat)(dd dd2:Option Addr)(sl sl2:Array (Option Value))(xs ys:List PyData)(hp:Qfb xs ys) : Meets (Builtin.«list.__gt__» ⟨[.ref l, .ref b], []⟩)
   (fun A R s => s.heap.get? l = some { cls := .type "list", dict := dd, data := .seq items n, slots := sl } ∧ s.heap.get? b = some { cls := .type "list", dict := dd2, data := .seq items2 n2, slots := sl2 } ∧
    RdAll X s.heap xs items.toList ∧ RdAll X s.heap ys items2.toList ∧ A.units + 1 < cLine ∧ R (.ok (.ret (.bool (gtL xs ys)))) s) := by
 intro prog w A R s h
 refine Qpk h fun hl hb hx hy hu h => ?_
 have f3 := AutoSeq1.sub_list_list
 have e1 : items.size = 0 + xs.length := hx.length.trans (Nat.zero_add _).symm
 have e2 : items2.size = 0 + ys.length := hy.length.trans (Nat.zero_add _).symm
 refine wpAny_bind (m := slotArgs "__gt__" 1 ⟨[.ref l, .ref b], []⟩) (wpAny_pure ?_)
 refine wpAny_bind (m := isInstance (.ref b) (.type "list")) (wpAny_isInstance (T := "list") (b := true) ⟨_, hb, rfl⟩ f3 ?_)
 refine wpAny_pure ?_
 exact ⟨plainId_quiet plain_eq_loop _, codeAny_builtin entry_eq_loop (by
  rw [Around.under_plainId plain_eq_loop _]
  exact gt_loop l b items items2 n n2 dd dd2 sl sl2 xs ys 0 hp e1 e2 prog w A R _ ⟨hl, hb, hx, hy, hu, h⟩)⟩
theorem rc_gtList {X:Addr → Prop}{prog:Program}{w:World}{A:Around}{E:Value → Shared → Prop}{s:Shared}{Q:Value → Shared → Prop}{xs ys:List PyData}{v1 v2:Value}(hu:A.units + 2 < cLine)(hk:Qfb xs ys)
  (p1 : Rd X s.heap (.list xs) v1) (p2 : Rd X s.heap (.list ys) v2) (h : Q (.bool (gtL xs ys)) s) : wpAny (model prog w) A (richCompare .Gt v1 v2) Q E s := by
 refine Qck (p1.list_inv) fun a vs ρ35 hx ν36 hr => ?_
 subst ρ35
 obtain ⟨⟨cls, dd, data, sl⟩, ho, hc, n, hd⟩ := ν36
 refine Qck (p2.list_inv) fun b us ρ37 hx' ν38 hr2 => ?_
 subst ρ37
 obtain ⟨⟨cls2, dd2, data2, sl2⟩, ho2, hc2, n2, hd2⟩ := ν38
 cases hc; cases hd; cases hc2; cases hd2
 refine wpAny_richCompare_same_room ⟨_, ho, rfl⟩ ⟨_, ho2, rfl⟩ PySem.F.slot_list_gt (call_meets PySem.F.slot_list_gt ⟨_, ho, rfl⟩ PySem.F.entry_list_gt (PySem.F.args_list_gt_2 _ _) (list_gt (X := X) a b vs us n n2 dd dd2 sl sl2 xs ys hk) ⟨ho, ho2, hr, hr2, ?_, ?_⟩) (by lia)
 ·exact Nat.lt_of_succ_lt hu
 ·exact ⟨(fun e => nomatch e), h⟩
end Mine
namespace Mine
open PySem PySem.Spec PySem.Calls PyProof.Rows
section
variable {prog : Program} {w : World}
structure Pick (G G' : Gam) : Prop where
 of : ∀ p ∈ G', G.lookup p.1 = some p.2
theorem Pick.nil {G:Gam} : Pick G [] := ⟨fun ζ h => nomatch h⟩
theorem Pick.cons {G G':Gam}{n:Str}{a:Dv}(h:Pick G G')(h1:autoParam (G.lookup n = some a) sK) : Pick G ((n, a) :: G') := ⟨fun p hp => by
 rcases List.mem_cons.mp hp with rfl | hp
 ·exact h1
 ·exact h.of p hp⟩
theorem Fx.pick {W:Addr → Prop}{T:Hp}{env:Env}{s₀ s:Shared}{G G':Gam}{O:Own}(F:Fx W T s₀ env G O s)(h:Pick G G') : Fx W T s₀ env G' O s := F.less fun x a e => h.of (x, a) (mem_of_lookup e)
noncomputable def Qdx (mk:PyData → List PyData)(order:List PyData)(row:PyData) : List PyData :=
 order.take (order.filter fun o => leL (mk o) (mk row)).length ++ [row] ++ order.drop (order.filter fun o => leL (mk o) (mk row)).length
noncomputable def Qic (mk:PyData → List PyData)(rows:List PyData) : List PyData := rows.foldl (Qdx mk) []
theorem Qvy (mk:PyData → List PyData)(order:List PyData)(row:PyData) : (Qdx mk order row).length = order.length + 1 := by
 unfold Qdx
 have := List.length_filter_le (fun o => leL (mk o) (mk row)) order
 simp; lia
theorem QGj (mk:PyData → List PyData)(order:List PyData)(row d:PyData)(h:d ∈ Qdx mk order row) : d = row ∨ d ∈ order := by
 unfold Qdx at h
 simp only [List.mem_append, List.mem_singleton] at h
 rcases h with (h | h) | h
 ·exact .inr (List.mem_of_mem_take h)
 ·exact .inl h
 ·exact .inr (List.mem_of_mem_drop h)
theorem Qtw (mk:PyData → List PyData)(rows:List PyData) : ∀ i, i ≤ rows.length → ((rows.take i).foldl (Qdx mk) []).length = i ∧ ∀ d ∈ (rows.take i).foldl (Qdx mk) [], d ∈ rows
 | 0, _ => by simp
 | i + 1, h => by
  have hd : rows[i]? = some rows[i] := List.getElem?_eq_getElem (by lia)
  rw [List.take_succ_eq_append_getElem (by lia), List.foldl_append]
  refine eA (Qtw mk rows i (by lia)) fun h1 h2 => ?_
  refine ⟨by show (Qdx mk _ _).length = _; rw [Qvy, h1], fun d hd' => ?_⟩
  rcases QGj mk _ _ d hd' with rfl | h
  ·exact List.getElem_mem _
  ·exact h2 d h
theorem Qek (xs:List PyData)(p:Nat) : Qmw xs none (some (p:Int)) = xs.take p := by
 unfold Qmw
 simp only [Option.elim, clipAt_nat, List.drop_zero, Nat.sub_zero]
 by_cases h : p ≤ xs.length
 ·rw [Nat.min_eq_left h]
 ·rw [Nat.min_eq_right (by lia), List.take_length, List.take_of_length_le (by lia)]
theorem Qnj (xs:List PyData)(p:Nat) : Qmw xs (some (p:Int)) none = xs.drop p := by
 unfold Qmw
 simp only [Option.elim, clipAt_nat]
 by_cases h : p ≤ xs.length
 ·rw [Nat.min_eq_left h, List.take_of_length_le (by rw [List.length_drop]; exact Nat.le_refl _)]
 ·rw [Nat.min_eq_right (by lia), List.drop_length, List.drop_eq_nil_of_le (by lia)]; simp
end
theorem QHv : entryFor table "re.Pattern.search" = some Builtin.«re.Pattern.search» := entryFor_of_tree (by kernel_rfl)
theorem kind_search : builtinKind "re.Pattern.search" = some .method := by first | decide +kernel | kernel_rfl
theorem QFy : plainId "re.Pattern.search" = true := by decide +kernel
noncomputable def QHc : Nat → Sre.M → Option Sre.M
 | 0, _ => none
 | k + 1, m => if (m.runFor Builtin.Re.reTurnSteps).outcome.isSome then some (m.runFor Builtin.Re.reTurnSteps) else QHc k (m.runFor Builtin.Re.reTurnSteps)
theorem driveN_succ {k:Nat}{m:Sre.M} : QHc (k + 1) m = if (m.runFor Builtin.Re.reTurnSteps).outcome.isSome then some (m.runFor Builtin.Re.reTurnSteps) else QHc k (m.runFor Builtin.Re.reTurnSteps) := rfl
theorem QFq {k:Nat}{m:Sre.M} : Builtin.Re.reDrive (k + 1) m = if (m.runFor Builtin.Re.reTurnSteps).outcome.isSome then pure (m.runFor Builtin.Re.reTurnSteps) else (do rule "sre.turn"; Builtin.Re.reDrive k (m.runFor Builtin.Re.reTurnSteps)) := rfl
section
variable {prog : Program} {w : World} {A : Around} {E : Value → Shared → Prop} {s : Shared}
theorem Qoz {Q:Sre.M → Shared → Prop}{m':Sre.M} : ∀ (k n:Nat)(m:Sre.M), k ≤ n → QHc k m = some m' → Q m' s → wpAny (model prog w) A (Builtin.Re.reDrive n m) Q E s
 | 0, _, _, _, h, _ => nomatch h
 | k + 1, 0, _, hk, _, _ => nomatch hk
 | k + 1, n + 1, m, hk, h, hq => by
  rw [driveN_succ] at h
  rw [QFq]
  by_cases ho : (m.runFor Builtin.Re.reTurnSteps).outcome.isSome = true
  ·rw [if_pos ho] at h ⊢
   cases h
   exact wpAny_pure hq
  ·rw [if_neg ho] at h ⊢
   exact wpAny_bind (wpAny_rule (Qoz k n _ (Nat.le_of_succ_le_succ hk) h hq))
theorem wpAny_rules {l:List Nat}{f:Nat → Bool}{g:Nat → String}{Q:PUnit → Shared → Prop}(h:Q ⟨⟩ s) : wpAny (model prog w) A (forIn l PUnit.unit fun i ζ => do
  if f i then rule (g i)
  pure (ForInStep.yield PUnit.unit)) Q E s := by
 induction l with
 | nil => exact wpAny_pure h
 | cons i l ih =>
  rw [List.forIn_cons]
  refine wpAny_bind ?_
  cases f i with
  | true => exact wpAny_bind (wpAny_rule (wpAny_pure ih))
  | false => exact wpAny_pure ih
end
noncomputable def Qlj : Array Nat := #[14, 17, 4, 1, 1, 21, 9, 0, 604043296, 1, 0, 0, 0, 0, 0, 8, 4, 0, 13, 14, 21, 9, 0, 604043296, 1, 0, 0, 0, 0, 0, 8, 4, 0, 1]
noncomputable def unsafeM (x:Str) : Option Sre.M := QHc 100 (Sre.forSearch Qlj x.cps 0 0 x.length false)
noncomputable def Qgv (x:Str) : Option Bool := match unsafeM x with
 | some m => match m.outcome with
  | some .matched => some true
  | some .failed => some false
  | _ => none
 | none => none
example : Qgv "a/b" = some false := by decide +kernel
example : Qgv "a b" = some true := by decide +kernel
example : Qgv "a-b/a b/" = some true := by decide +kernel
structure RxAt (h : Heap) : Prop where
 fn : ∃ o, h.get? 893 = some o ∧ o.cls = .type "builtin_function_or_method" ∧ o.data = .fields #[.builtin "re.Pattern.search", .ref 197]
 pat : ∃ o vs, h.get? 197 = some o ∧ o.cls = .type "re.Pattern" ∧ o.data = .fields vs ∧ vs.getD 6 .none = rawInt 0 ∧ vs.getD 5 .none = .ref 196 ∧ Builtin.Re.reRawNat (vs.getD 2 .none) = 0
 code : ∃ o vs n, h.get? 196 = some o ∧ o.data = .seq vs n ∧ (vs.map Builtin.Re.reRawOf).map (·.toNat) = Qlj
theorem RxAt.kp {h h':Heap}(k:Kp h h')(x:RxAt h) : RxAt h' :=
 ⟨let ⟨o, a, b⟩ := x.fn; ⟨o, k _ _ a, b⟩, let ⟨o, vs, a, b⟩ := x.pat; ⟨o, vs, k _ _ a, b⟩, let ⟨o, vs, n, a, b⟩ := x.code; ⟨o, vs, n, k _ _ a, b⟩⟩
section
variable {prog : Program} {w : World} {A : Around} {E : Value → Shared → Prop} {s : Shared}
theorem search_tree {x:Str}{t:Tok}{b:Bool}(hx:Qgv x = some b)(hxl:x.length ≤ sizeLine)(hr:RxAt s.heap){P:Fin → Shared → Prop}(h:∀ v s', Kt s s' → (v = .none ↔ b = false) → P (.done (.ret v)) s') :
  wpAny (model prog w) A (Builtin.«re.Pattern.search» ⟨[.ref 197, .str x t], []⟩) P E s := by
 obtain ⟨o, vs, ho, hc, hd, h6, h5, h2⟩ := hr.pat
 refine Qgz (hr.code) fun o' us n ho' hd' hcode => ?_
 unfold Builtin.«re.Pattern.search» Builtin.Re.reTarget
 dsimp only
 refine wpAny_bind (wpAny_bind (wpAny_of_eq (a := [some (.str x t), none, none]) ?_ ?_))
 ·first | rfl | kernel_rfl
 refine wpAny_bind (wpAny_pure ?_)
 refine wpAny_bind (wpAny_pure ?_)
 refine wpAny_bind (m := fieldsOf (.ref 197)) (wpAny_bind (wpAny_load ho ?_))
 rw [hd]
 refine wpAny_pure ?_
 refine wpAny_bind (m := Builtin.Re.reTextOf (.str x t)) (wpAny_bind (wpAny_pure (wpAny_pure ?_)))
 rw [h6, h5, h2]
 refine wpAny_bind (m := Builtin.Re.reNoCollectionInside (.str x t) 0) (wpAny_pure ?_)
 refine wpAny_bind (m := Builtin.Re.reRawItems (.ref 196)) (wpAny_bind (m := seqItems? (.ref 196)) (wpAny_bind (wpAny_load ho' ?_)))
 rw [hd']
 refine wpAny_pure (wpAny_pure (wpAny_pure ?_))
 have hl : min ((2 : Int) ^ 63 - 1).toNat x.cps.size = x.length := Nat.min_eq_right (Nat.le_trans hxl (by decide))
 have hl0 : min (Int.toNat 0) x.cps.size = 0 := Nat.zero_min _
 dsimp only
 rw [hl, hl0]
 have hcode' : Array.map (fun x => Int.toNat x) (((some us).getD #[]).map Builtin.Re.reRawOf) = Qlj := hcode
 rw [hcode']
 unfold Qgv at hx
 cases hm : unsafeM x with
 | none => rw [hm] at hx; cases hx
 | some m =>
  rw [hm] at hx
  unfold Builtin.Re.reAnswer Builtin.Re.reRunToEnd
  refine wpAny_bind (wpAny_bind (Qoz 100 (2 ^ 64) _ (by decide) hm ?_))
  refine wpAny_bind (wpAny_rules (f := fun i => m.seen.has i) ?_)
  dsimp only at hx
  cases ho3 : m.outcome with
  | none => rw [ho3] at hx; cases hx
  | some r =>
   rw [ho3] at hx
   cases r with
   | stuck why => cases hx
   | failed =>
    cases hx
    exact wpAny_pure (wpAny_pure (h _ s (.refl s) (by simp)))
   | matched =>
    cases hx
    refine wpAny_pure (wpAny_bind ?_)
    dsimp only
    refine wpAny_bind (m := newTuple [rawInt m.start, rawInt m.handed]) (wpAny_newTuple ?_ (Nat.le_of_ble_eq_true rfl))
    unfold newFields
    refine wpAny_newObj_type ?_ (Nat.le_of_ble_eq_true rfl)
    exact wpAny_pure (h _ _ (Kt.mk' s s.toks ((Qav _ _).trans (Qav _ _))) (by simp))
theorem f1_search : isSubtype (.type "re.Pattern") (.type "module") = pure false := by rw [isSubtype_type]; kernel_rfl
theorem full_search : toString (Bind.lastOf "re.Pattern") ++ toString "." ++ toString (Bind.lastOf "re.Pattern.search") = "Pattern.search" := by decide +kernel
theorem sig_search {x:Str}{t:Tok} : (match Manifest.signature? "re.Pattern.search" with | some sig => Bind.checkArgs "re.Pattern.search" { sig with full := "Pattern.search" } ⟨[.ref 197, .str x t], []⟩ | none => pure ()) = (pure () : Sem Unit) := by
 rw [signature?_of (id := "re.Pattern.search") (n := ['h', 'c', 'r', 'a', 'e', 's']) (o := ['n', 'r', 'e', 't', 't', 'a', 'P', '.', 'e', 'r']) (by kernel_rfl) rfl]
 kernel_rfl
theorem call_search {x:Str}{t:Tok}{b:Bool}(hx:Qgv x = some b)(hxl:x.length ≤ sizeLine)(hr:RxAt s.heap){Q:Value → Shared → Prop}(h:∀ v s', Kt s s' → (v = .none ↔ b = false) → Q v s') :
  wpAny (model prog w) A (call (.ref 893) [.str x t]) Q E s := by
 refine Qpj (hr.fn) fun o ho hc hd => ?_
 refine wpAny_call (codeAny_of_tree ?_)
 refine wpAny_bind (m := load 893) (wpAny_load ho ?_)
 rw [hd]
 show wpAny _ _ (if _ then _ else _) _ _ _
 rw [hc, if_pos (by decide +kernel)]
 show wpAny _ _ (do checkBoundCall "re.Pattern.search" ⟨[.ref 197, .str x t], []⟩; again (Code.builtin "re.Pattern.search" ⟨[.ref 197, .str x t], []⟩)) _ _ _
 refine wpAny_bind ?_
 have fin : wpAny (model prog w) (A.under (Code.call (.ref 893) ⟨[.str x t], []⟩)) (again (Code.builtin "re.Pattern.search" ⟨[.ref 197, .str x t], []⟩)) (fun fin s' => match fin with
   | .done f => match (Except.ok f : Except Value Flow) with | .ok (.ret v) => Q v s' | .ok _ => False | .error e => E e s'
   | .again c' => c'.quiet = true ∧ codeAny (model prog w) A c' (fun r s' => match r with | .ok (.ret v) => Q v s' | .ok _ => False | .error e => E e s') s') (fun e s' => E e s') s := by
  refine wpAny_pure ⟨plainId_quiet QFy _, codeAny_builtin QHv ?_⟩
  exact search_tree hx hxl hr fun v s' k e => h v s' k e
 refine Qac (hr.pat) fun o1 vs1 ho1 hc1 ζ => ?_
 have hT : s.TypeIs (.ref 197) "re.Pattern" := ⟨o1, ho1, hc1⟩
 have f1 : isSubtype (.type "re.Pattern") (.type "module") = pure false := by rw [isSubtype_type]; kernel_rfl
 have f2 : Manifest.varargsMethods.contains "re.Pattern.search" = false := by decide +kernel
 have hsig := sig_search (x := x) (t := t)
 unfold checkBoundCall
 cases hs : Manifest.signature? "re.Pattern.search" with
 | none => exact wpAny_pure fin
 | some sig =>
  rw [hs] at hsig
  rw [kind_search]
  refine wpAny_bind (m := isInstance (.ref 197) (.type "module")) (wpAny_isInstance (T := "re.Pattern") (b := false) hT f1_search ?_)
  rw [f2, if_neg (by decide)]
  refine Qck (hr.pat) fun o2 vs2 ho2 hc2 hd2 ζ => ?_
  refine wpAny_bind (m := isType (.ref 197)) ?_
  unfold isType
  refine wpAny_bind (wpAny_load ho2 ?_)
  rw [hd2]
  refine wpAny_pure ?_
  dsimp only
  rw [if_neg (by decide)]
  refine wpAny_bind (wpAny_typeOf hT ?_)
  dsimp only
  rw [full_search]
  exact wpAny_of_eq hsig fin
end
end Mine
namespace Mine
open PySem PySem.Spec PySem.Calls PyProof.Rows
open Builtin Builtin.Str
noncomputable def Tr : Hp where
 p h := Tpp h ∧ RxAt h
 X := fun ζ => False
 mono h h' k t := ⟨t.1.kp fun b o e => k.kp b o (fun q => q) e, t.2.kp fun b o e => k.kp b o (fun q => q) e⟩
 live h _ b hb := hb.elim
theorem Tr.le : Tr.le Tp := ⟨fun ζ h => h.1, fun ζ h => h⟩
section
variable {prog : Program} {w : World} {T : Hp} {A : Around} {env : Env} {G : Gam}
theorem TeA.isNone {e:Expr}{pos cp:Pos}{k:Nat}{b:Bool}(h:∀ (E:Value → Shared → Prop) s, T.p s.heap → Vw T.X env G s.heap → wpAny (model prog w) A (eval e env) (fun v s' => (v = .none ↔ b = true) ∧ Kt s s') E s)
  (hm : autoParam (behindInMarks .Is (.Constant .none k cp) = false) sK) : TeA prog w T A env G (.Compare e [.Is] [.Constant .none k cp] pos) b := ⟨fun E s hp hv =>
 wpAny_isTrue_Compare1 (wpAny_mono (h E s hp hv) (fun v s' q => by
  refine eA (q) fun hb kt => ?_
  refine wpAny_pure (is_none_gen ?_)
  refine wpAny_truthy_bool ⟨?_, kt⟩
  cases b with
  | true => rw [hb.mpr rfl]; rfl
  | false =>
   have : v ≠ .none := fun q => by have := hb.mp q; cases this
   simpa using this) fun ζ ζ x => x) hm⟩
theorem Qxz {x y z:Str}(hx:(occurrences x y 0 x.length (x.length + 1)).isEmpty = true) : OpM prog w T A "str.replace" (.d (.str x)) [.d (.str y), .d (.str z)] (.d (.str x)) := ⟨fun E s ov vs hp h1 h2 => by
 refine eE (h1.str_inv) fun t ρ0 => ?_
 subst ρ0
 refine Qhb (h2) fun v vs' ρ1 h3 v2 vs2 ρ2 h4 ρ3 => ?_
 subst ρ1
 subst ρ2
 subst ρ3
 refine eE (h3.str_inv) fun u ρ4 => ?_
 subst ρ4
 refine eE (h4.str_inv) fun u2 ρ5 => ?_
 subst ρ5
 refine call_gives F.slot_str_replace (typeIs_str _ _ _) F.entry_str_replace (F.args_str_replace_3 _ _ _) (gives_str_replace x y z t u u2 fun e => by rw [hx] at e; cases e) ?_
 rw [hx]
 simp only [Bool.true_or, if_true]
 exact ⟨Dv.p.str, .refl s⟩⟩
theorem QCk {E:Value → Shared → Prop}{s:Shared}(hr:RxAt s.heap) : wpAny (model prog w) A (keeperOf (.ref 893)) (fun ζ s' => s' = s) E s := by
 refine Qpj (hr.fn) fun o ho hc hd => ?_
 unfold keeperOf
 refine wpAny_bind (wpAny_load ho ?_)
 rw [hd]
 dsimp only
 rw [hc, if_pos (by decide +kernel)]
 exact wpAny_pure rfl
noncomputable def Qfy (x:Str) : Str := if Qbc (.str x) then (if Qgv x == some false then x else "'" ++ x ++ "'") else "''"
structure QuoteOk (x : Str) : Prop where
 sz : x.length ≤ 1000
 rx : ∃ b, Qgv x = some b
 noq : (occurrences x "'" 0 x.length (x.length + 1)).isEmpty = true
theorem ct_def1T {T₀:Hp}(hT₀:T₀.le Tp){a i n:Nat}{x:Str}{b r:Dv}
  (h : ∀ T T' A L pm s₀ s₁, T.le T₀ → T'.le T → T'.le T₀ → OkA A n → Fx noW T' s₀ (Qna i a L pm) [(x, b)] none s₁ → Go prog w A (Qna i a L pm) (Qda i) (Ret T r s₀) s₁)
  (hm : autoParam ((a, i) ∈ Qnc) sD)
  (hbody : autoParam (∀ c pm, (Qdz i c pm .none).body = .stmts (Qda i)) sK) (hbind : autoParam (∀ c pm v, bindArgs (Qdz i c pm .none) ⟨[v], []⟩ = pure [(x, v)]) sK)
  (hclo : autoParam (∀ c pm, (Qdz i c pm .none).closure = []) sK)
  (hkind : autoParam (∀ c pm, (Qdz i c pm .none).scope.names.lookup x = some .local ∨ (Qdz i c pm .none).scope.names.lookup x = some .cell) sO)
  (hco : autoParam (∀ c pm, (Qdz i c pm .none).scope.isCoroutine = false) sK) (hgen : autoParam (∀ c pm, (Qdz i c pm .none).scope.isGenerator = false) sK) (hk : autoParam (∀ c pm, (Qdz i c pm .none).scope.kind = .function) sK) :
  CtT T₀ prog w (n + 1) (.ref a) [b] r :=
 ct_def hT₀ (names := [x]) hm (fun T T' A L pm s₀ s₁ hT hT' ok F => h T T' A L pm s₀ s₁ hT hT' (hT'.trans hT) ok F) hbody (fun c pm vals hl => by obtain ⟨v, rfl⟩ := len1 hl; exact hbind c pm v) (by simp) hclo rfl
  (fun c pm y hy => by rw [List.mem_singleton.mp hy]; exact hkind c pm) hco hgen hk
theorem ct_quote (x:Str)(ok1:QuoteOk x) : CtT Tr prog w 1 (.ref 900) [.d (.str x)] (.d (.str (Qfy x))) :=
 ct_def1T Tr.le (i := 54) (x := "s") fun T T' A L pm s₀ s₁ hT hT' hTr ok F => by
  have hTp := hTr.trans Tr.le
  have hs := ok1.sz
  have hsz : x.length ≤ sizeLine := by show x.length ≤ 2 ^ 24; lia
  refine eE (ok1.rx) fun b hb => ?_
  refine Qiy (!Qbc (.str x)) F (TeA.not (TeA.val (EvA.name (.d (.str x))) hsz)).f (fun h s₂ F => ?_) (fun h s₂ F => Qaw ?_)
  ·refine ret hT' F (EvA.cast EvA.str ?_).f
   rw [Bool.not_eq_true'] at h
   rw [Qfy, if_neg (by rw [h]; decide)]
  ·rw [Bool.not_eq_false'] at h
   refine Qiy (Qgv x == some false) F (TeA.isNone fun E s hp hv => ?_).f (fun hn s₃ F => ?_) (fun hn s₃ F => Qaw ?_)
   ·refine Call_Name rfl (wpAny_mono ((glob (.ref 893) hTp).of E s hp hv) (fun f' s₁ k => ?_) fun ζ ζ x => x)
    obtain ⟨rfl, k⟩ := k
    refine Qbx (by kernel_rfl!) (Qcz (G := [("s", .d (.str x))]) (EvL.cons (EvA.name (.d (.str x))) .nil') (T'.kt hp k) (hv.kp k.kp) fun vs s₂ k2 hvs => ?_)
    have hr : RxAt s₂.heap := ((hTr.p _ (T'.kt hp (k.trans k2)))).2
    refine wpAny_mono (QCk hr) (fun ζ s₃ e => ?_) fun ζ ζ x => x
    subst e
    refine Qac (hvs) fun v vs' ρ6 hx ρ7 => ?_
    subst ρ6
    subst ρ7
    obtain ⟨t, rfl⟩ := hx.str_inv
    refine call_search hb hsz hr fun v s' k3 e => ⟨?_, (k.trans k2).trans k3⟩
    rw [e, hb]
    cases b <;> simp
   ·refine ret hT' F (EvA.cast (EvA.name (.d (.str x))) ?_).f
    rw [Qfy, if_pos h, if_pos hn]
   ·refine ret hT' F (EvA.cast (EvA.binop (EvA.binop EvA.str (EvA.meth m_replace (EvA.name (.d (.str x))) Qgj (EvL.cons EvA.str (EvL.cons EvA.str .nil')) (Qxz ok1.noq)) (Qfc ?_)) EvA.str (Qfc ?_)) ?_).f
    ·have : (Str.ofString "'").length = 1 := by decide +kernel
     show _ ≤ 2 ^ 24; lia
    ·have : (Str.ofString "'").length = 1 := by decide +kernel
     have h2 : ((Str.ofString "'") ++ x).length = (Str.ofString "'").length + x.length := by show (_ ++ _ : Array Nat).size = _; rw [Array.size_append]; rfl
     show _ ≤ 2 ^ 24; lia
    ·rw [Qfy, if_pos h, if_neg (by rw [hn]; decide)]
end
end Mine
namespace Mine
open PySem PySem.Spec PySem.Calls PyProof.Rows
section
variable {prog : Program} {w : World} {W : Addr → Prop} {T : Hp} {A : Around} {E : Value → Shared → Prop} {s : Shared}
theorem fn_enterB {a:Addr}{fd:FuncData}{body:List Stmt}{args:Args}{names:List Str}{as:List Dv}{r:Dv}{n:Nat}(hf:FnAt s.heap a fd)(hA:OkA A (n + 1))(hlim:s.heap.NoLimit)(ht:T.p s.heap)(hW:∀ b, W b → T.X b)
  (hbody : fd.body = .stmts body)
  (hbind : ∀ (E : Value → Shared → Prop) (Q : List (Str × Value) → Shared → Prop), (∀ vals s', Kt s s' → DvAll T.X s'.heap as vals → Q (names.zip vals) s') → wpAny (model prog w) A.in1 (bindArgs fd args) Q E s)
  (hnd : names.Nodup) (hclo : fd.closure = []) (hlen : names.length = as.length)
  (hkind : ∀ x ∈ names, fd.scope.names.lookup x = some .local ∨ fd.scope.names.lookup x = some .cell)
  (hco : fd.scope.isCoroutine = false) (hgen : fd.scope.isGenerator = false) (hk : fd.scope.kind = .function)
  (h : ∀ sb s₁, Kt s sb → Fx W (T.push (Qba (callEnvC fd sb.heap.objs.size a))) sb (callEnvC fd sb.heap.objs.size a) (names.zip as) none s₁ → OkA (A.deeper (callEnvC fd sb.heap.objs.size a)) n →
   Go prog w (A.deeper (callEnvC fd sb.heap.objs.size a)) (callEnvC fd sb.heap.objs.size a) body (fun f s' => r.p T.X s'.heap (match f with | .ret v => v | _ => .none) ∧ KtX W sb s') s₁) :
  wpAny (model prog w) A (call (.ref a) args.pos args.kw) (fun v s' => r.p T.X s'.heap v ∧ KtX W s s') E s := by
 refine Qpj (hf) fun o ho hdata hcd => ?_
 refine wpAny_call (codeAny_call_function hA.dline ho hdata hco hgen hbody hcd (hbind _ _ fun vals sb kb ha => ?_))
 rw [hclo]
 have hcells : ∀ x, fd.scope.names.lookup x = some .cell → ((cellsFrom (sb.heap.objs.size + 1) fd.scope.names []).lookup x).isSome = true := fun x hx => PySem.W.cellsFrom_some _ _ _ (.inl hx)
 refine wpAny_newFunctionEnv_cells hk (fun x hx => ?_) fun env he s₁ I => ?_
 ·have hm : x.1 ∈ names := (List.of_mem_zip (a := x.1) (b := x.2) hx).1
  rcases hkind _ hm with q | q
  ·exact .inl q
  ·exact .inr ⟨q, hcells _ q⟩
 ·have he' : env = callEnvC fd sb.heap.objs.size a := he
  subst he'
  have hlo : sb.heap.objs.size ≤ (callEnvC fd sb.heap.objs.size a).locals := I.toInCall.fresh
  have habove : ∀ n c, (callEnvC fd sb.heap.objs.size a).cells.lookup n = some c → (callEnvC fd sb.heap.objs.size a).locals < c := fun n c hc => I.above n c (mem_of_lookup hc)
  have hYn : ∀ b, Qba (callEnvC fd sb.heap.objs.size a) b → ¬ Qaa sb.heap b := fun b hb => by
   rcases hb with rfl | ⟨n, hc⟩
   ·exact Qax hlo
   ·exact Qax (Nat.le_of_lt (Nat.lt_of_le_of_lt hlo (habove n b hc)))
  have kp : Kp sb.heap s₁.heap := I.toInCall.keep
  have F : Fx W (T.push (Qba (callEnvC fd sb.heap.objs.size a))) sb (callEnvC fd sb.heap.objs.size a) (names.zip as) none s₁ := by
   refine ⟨Hp.push_p (T.kt ht kb) hYn kp.kpx fun b hb => ?_, ?_, fun b hb => .inl (hW b hb), .inr (Qax hlo), .inr (.inl rfl), fun n c hc => ⟨.inr (.inr ⟨n, hc⟩), .inr (hYn c (.inr ⟨n, hc⟩)), Nat.ne_of_gt (habove n c hc)⟩, I.apart, ⟨_, I.toInCall.ns, fun x b e hl => ?_⟩, fun x c hc => ⟨_, I.cell x c hc, fun b e hl => ?_⟩, fun x b e => ?_, fun L ds e => nomatch e⟩
   ·rcases hb with rfl | ⟨n, hc⟩
    ·exact Ns.live I.toInCall.ns
    ·exact Cell.live (I.cell n b hc)
   ·refine Qfw (I.done) fun h' tk e k => ?_
    subst e
    exact ⟨h', tk, rfl, Kp.kpx k⟩
   ·obtain ⟨v, hv, hp⟩ := (Qex (kindOf := (callEnvC fd sb.heap.objs.size a).kindOf) names vals as _ (fun ζ => none) hnd ha x b e).1 hl
    exact ⟨v, hv, hp.to kp.kpx fun b hb => hb.imp_right (hYn b)⟩
   ·obtain ⟨v, hv, hp⟩ := (Qex (kindOf := (callEnvC fd sb.heap.objs.size a).kindOf) names vals as (fun ζ => none) _ hnd ha x b e).2 (by rw [hl]; decide)
    exact ⟨v, hv, hp.to kp.kpx fun b hb => hb.imp_right (hYn b)⟩
   ·have hm : x ∈ names := (List.of_mem_zip (a := x) (b := b) (mem_of_lookup e)).1
    rcases hkind _ hm with q | q
    ·exact .inl q
    ·exact .inr ⟨q, hcells _ q⟩
  refine ⟨hlim.keeps (kb.kp.trans kp), codeAny_func (wpAny_mono (h sb s₁ kb F hA.deeper).of (fun f s' x => ?_) fun ζ ζ x => x.elim)⟩
  exact ⟨x.1, (kb.x (W := W)).trans x.2⟩
end
section
variable {prog : Program} {w : World}
noncomputable def Qcy (p b:Str) : Str := if Txt.startswith b "/" || (!Qbc (.str p)) then b else if Txt.endswith p "/" then p ++ b else p ++ ("/" ++ b)
theorem bind_join (c pm:Value)(v u:Value) : bindArgs (Qdz 22 c pm .none) ⟨[v, u], []⟩ = (do let t ← newTuple [u]; pure [("a", v), ("p", t)]) := by kernel_rfl!
theorem ct_join (x y:Str)(hsz:x.length + y.length + 1 ≤ sizeLine) : Ct prog w 2 (.ref 159) [.d (.str x), .d (.str y)] (.d (.str (Qcy x y))) := ⟨fun T A hT ok => by
 have hslash : (Str.ofString "/").length = 1 := by decide +kernel
 refine ⟨fun E s hp => ?_, fun E s vs hp hv => ?_⟩
 ·refine eE ((hT.p _ hp).defs 159 22 (by decide)) fun pm hf => ?_
  exact Qev hf
 refine eE ((hT.p _ hp).defs 159 22 (by decide)) fun pm hf => ?_
 refine Qhb (hv) fun v vs' ρ0 hv1 u us' ρ1 hv2 ρ2 => ?_
 subst ρ0
 subst ρ1
 subst ρ2
 refine wpAny_mono (fn_enterB (args := ⟨[v, u], []⟩) (W := noW) (T := T) (body := Qda 22) (names := ["a", "p"]) (as := [.d (.str x), .d (.tuple [.str y])]) (r := .d (.str (Qcy x y))) (n := 1) hf ok (hT.p _ hp).lim hp (fun ζ q => q.elim) (by kernel_rfl!) (fun E Q hq => ?_) (by decide +kernel) (by kernel_rfl!) rfl (fun z hz => ?_) (by kernel_rfl!) (by kernel_rfl!) (by kernel_rfl!) (fun sb s₁ kb F ok' => ?_)) (fun v s' q => ⟨q.1, q.2.kt⟩) fun ζ ζ x => x
 ·rw [bind_join]
  refine wpAny_bind (wpAny_newTuple ?_ (Nat.le_of_ble_eq_true rfl))
  refine wpAny_pure (hq [v, .ref s.heap.objs.size] _ (Kt.mk' s s.toks (Qav _ _)) ⟨v, _, rfl, hv1.kp (Qav _ _).kpx, _, _, rfl, ?_, rfl⟩)
  exact Dv.p.tuple (fun hx => Qax (Nat.le_refl _) (T.live _ hp _ hx)) ⟨_, Heap.get?_push_size _ rfl, rfl, _, rfl⟩ (RdAll.cons (Rd.kp hv2 (Qav _ _).kpx) .nil)
 ·rcases List.mem_cons.mp hz with rfl | hz
  ·exact .inl (by kernel_rfl!)
  ·rw [List.mem_singleton.mp hz]; exact .inl (by kernel_rfl!)
 ·have hTT := Hp.push_le T (Qba (callEnvC (Qdz 22 (.ref (159 - 1)) pm .none) sb.heap.objs.size 159))
  generalize T.push (Qba (callEnvC (Qdz 22 (.ref (159 - 1)) pm .none) sb.heap.objs.size 159)) = T' at F hTT
  have hTp := hTT.trans hT
  have hx : x.length ≤ sizeLine := by lia
  refine x_at F ?_
  refine Qbq (.d (.str x)) (Qby (Qhc x) hTp ok' (glob _ hTp) (EvL.cons (EvA.name (.d (.str x))) .nil')).f ?_
  refine Qbq (.d (.str "/")) (Qby (Qwx x) hTp ok' (glob _ hTp) (EvL.cons (EvA.name (.d (.str x))) .nil')).f ?_
  refine Qbq (.d (.str x)) (EvA.name (.d (.str x))).f (x_try ?_)
  intro s₄ F
  have F := F.pick (G' := [("path", .d (.str x)), ("sep", .d (.str "/")), ("a", .d (.str x)), ("p", .d (.tuple [.str y]))]) (.cons (.cons (.cons (.cons .nil))))
  refine QEk F (EvIt.tuple ok' (EvA.name (.d (.tuple [.str y])))) (fun i G' O' => G' = ([("path", .d (.str (if i = 0 then x else Qcy x y))), ("sep", .d (.str "/")), ("a", .d (.str x)), ("p", .d (.tuple [.str y]))] : Gam) ∧ O' = none) ⟨rfl, rfl⟩ (fun i G' O' h L' ds e => by rw [h.2] at e; cases e) ?_ ?_
  ·intro T₃ W₁ sb2 i d G' O' sc hT₃ hW hd κ0 F
   refine eA (κ0) fun ρ0 ρ1 => ?_
   subst ρ0
   subst ρ1
   obtain ⟨rfl, rfl⟩ : i = 0 ∧ d = .str y := by
    cases i with
    | zero => simp at hd; exact ⟨rfl, hd.symm⟩
    | succ i => simp at hd
   rw [if_pos rfl] at F
   have hTp3 := hT₃.trans hTp
   have fin : ∀ (z : Str) se G'' , z = Qcy x y → Pick G'' [("path", .d (.str z)), ("sep", .d (.str "/")), ("a", .d (.str x)), ("p", .d (.tuple [.str y]))] → Fx W₁ T₃ sb2 (callEnvC (Qdz 22 (.ref (159 - 1)) pm .none) sb.heap.objs.size 159) G'' none se →
     ∃ G3 O3, (G3 = ([("path", .d (.str (if 0 + 1 = 0 then x else Qcy x y))), ("sep", .d (.str "/")), ("a", .d (.str x)), ("p", .d (.tuple [.str y]))] : Gam) ∧ O3 = none) ∧ (∀ L ds, O3 = some (L, ds) → ∃ ds', (none : Own) = some (L, ds')) ∧ Fx W₁ T₃ sb2 (callEnvC (Qdz 22 (.ref (159 - 1)) pm .none) sb.heap.objs.size 159) G3 O3 se := fun z se G'' e hp F => by
    refine ⟨_, _, ⟨rfl, rfl⟩, (fun ζ ζ e => nomatch e), ?_⟩
    rw [if_neg (by decide)]
    subst e
    exact F.pick hp
   refine Qcx (.d (.str y)) F (Qby (Qhc y) hTp3 ok' (glob _ hTp3) (EvL.cons (EvA.name (.d (.str y))) .nil')).f fun s₅ F => ?_
   refine Qiy (Txt.startswith y "/" || ((!Qbc (.str x)) || false)) F (TeA.or (TeA.val (EvA.meth Qrw (EvA.name (.d (.str y))) Qgj (EvL.cons (EvA.name (.d (.str "/"))) .nil') Qok) trivial) fun ζ => TeA.or (TeA.not (TeA.val (EvA.name (.d (.str x))) hx)) fun ζ => TeA.or0).f (fun hb s₆ F => ?_) (fun hb s₆ F => ?_)
   ·refine Qcx (.d (.str y)) F (EvA.name (.d (.str y))).f fun s₇ F => Qaw (Qaw (fin y _ _ ?_ (.cons (.cons (.cons (.cons .nil)))) F))
    rw [Bool.or_false] at hb
    rw [Qcy, if_pos hb]
   ·rw [Bool.or_false] at hb
    refine Qiy (Txt.endswith x "/") F (TeA.val (EvA.meth m_endswith (EvA.name (.d (.str x))) Qgj (EvL.cons (EvA.name (.d (.str "/"))) .nil') op_endswith) trivial).f (fun hc s₆ F => ?_) (fun hc s₆ F => ?_)
    ·refine st_aug (.d (.str x)) (.d (.str y)) (.d (.str (x ++ y))) F (EvA.name (.d (.str y))).f (Qia (by lia)) fun s₇ F => Qaw (Qaw (Qaw (fin (x ++ y) _ _ ?_ (.cons (.cons (.cons (.cons .nil)))) F)))
     rw [Qcy, if_neg (by rw [hb]; decide), if_pos hc]
    ·refine st_aug (.d (.str x)) (.d (.str ("/" ++ y))) (.d (.str (x ++ ("/" ++ y)))) F (EvA.binop (EvA.name (.d (.str "/"))) (EvA.name (.d (.str y))) (Qfc (by lia))).f (Qia ?_) fun s₇ F => Qaw (Qaw (Qaw (fin (x ++ ("/" ++ y)) _ _ ?_ (.cons (.cons (.cons (.cons .nil)))) F)))
     ·have h2 : ((Str.ofString "/") ++ y).length = (Str.ofString "/").length + y.length := by show (_ ++ _ : Array Nat).size = _; rw [Array.size_append]; rfl
      lia
     ·rw [Qcy, if_neg (by rw [hb]; decide), if_neg (by rw [hc]; decide)]
  ·intro G' O' sc κ1 F
   refine eA (κ1) fun ρ2 ρ3 => ?_
   subst ρ2
   subst ρ3
   rw [if_neg (by simp)] at F
   exact Qaw (QEj (.d (.str (Qcy x y))) F (EvA.name (.d (.str (Qcy x y)))).f fun v s' h k => ⟨h.less hTT.X, k⟩)⟩
end
end Mine
namespace Mine
open PySem PySem.Spec PySem.Calls PyProof.Rows PySem.W
section
variable {prog : Program} {w : World} {T : Hp} {A : Around} {E : Value → Shared → Prop} {s : Shared}
theorem lam_enter {a:Addr}{fd:FuncData}{body:Expr}{vals:List Value}{names:List Str}{as:List Dv}{r:Dv}{n:Nat}(hf:FnAt s.heap a fd)(hA:OkA A (n + 1))(hlim:s.heap.NoLimit)(ht:T.p s.heap)(ha:DvAll T.X s.heap as vals)
  (hbody : fd.body = .expr body) (hbind : bindArgs fd ⟨vals, []⟩ = pure (names.zip vals)) (hnd : names.Nodup) (hclo : fd.closure = []) (hlen : names.length = as.length)
  (hkind : ∀ x ∈ names, fd.scope.names.lookup x = some .local ∨ fd.scope.names.lookup x = some .cell)
  (hco : fd.scope.isCoroutine = false) (hgen : fd.scope.isGenerator = false) (hk : fd.scope.kind = .function)
  (h : OkA (A.deeper (callEnvC fd s.heap.objs.size a)) n →
   EvA prog w (T.push (Qba (callEnvC fd s.heap.objs.size a))) (A.deeper (callEnvC fd s.heap.objs.size a)) (callEnvC fd s.heap.objs.size a) (names.zip as) body r) :
  wpAny (model prog w) A (call (.ref a) vals) (fun v s' => r.p T.X s'.heap v ∧ Kt s s') E s := by
 refine Qpj (hf) fun o ho hdata hcd => ?_
 refine wpAny_call (kla_callFunE hA.dline ho hdata hco hgen hbody hcd ?_)
 rw [hbind, hclo]
 have hcells : ∀ x, fd.scope.names.lookup x = some .cell → ((cellsFrom (s.heap.objs.size + 1) fd.scope.names []).lookup x).isSome = true := fun x hx => PySem.W.cellsFrom_some _ _ _ (.inl hx)
 refine wpAny_pure (wpAny_newFunctionEnv_cells hk (fun x hx => ?_) fun env he s₁ I => ?_)
 ·have hm : x.1 ∈ names := (List.of_mem_zip (a := x.1) (b := x.2) hx).1
  rcases hkind _ hm with q | q
  ·exact .inl q
  ·exact .inr ⟨q, hcells _ q⟩
 ·have he' : env = callEnvC fd s.heap.objs.size a := he
  subst he'
  have hlo : s.heap.objs.size ≤ (callEnvC fd s.heap.objs.size a).locals := I.toInCall.fresh
  have habove : ∀ n c, (callEnvC fd s.heap.objs.size a).cells.lookup n = some c → (callEnvC fd s.heap.objs.size a).locals < c := fun n c hc => I.above n c (mem_of_lookup hc)
  have hYn : ∀ b, Qba (callEnvC fd s.heap.objs.size a) b → ¬ Qaa s.heap b := fun b hb => by
   rcases hb with rfl | ⟨n, hc⟩
   ·exact Qax hlo
   ·exact Qax (Nat.le_of_lt (Nat.lt_of_le_of_lt hlo (habove n b hc)))
  have kp : Kp s.heap s₁.heap := I.toInCall.keep
  have kt : Kt s s₁ := by
   refine Qfw (I.done) fun h' tk e k => ?_
   exact ⟨h', tk, e, k⟩
  have hp' : (T.push (Qba (callEnvC fd s.heap.objs.size a))).p s₁.heap := Hp.push_p ht hYn kp.kpx fun b hb => by
   rcases hb with rfl | ⟨n, hc⟩
   ·exact Ns.live I.toInCall.ns
   ·exact Cell.live (I.cell n b hc)
  have hv : Vw (T.push (Qba (callEnvC fd s.heap.objs.size a))).X (callEnvC fd s.heap.objs.size a) (names.zip as) s₁.heap := fun x b e => by
   have hm : x ∈ names := (List.of_mem_zip (a := x) (b := b) (mem_of_lookup e)).1
   have bs := Qex (X := T.X) (h := s.heap) (kindOf := (callEnvC fd s.heap.objs.size a).kindOf) names vals as (fun ζ => none) (fun ζ => none) hnd ha x b e
   rcases hkind _ hm with q | q
   ·refine eEA (bs.1 q) fun v hv hp => ?_
    exact ⟨v, .inl ⟨q, _, I.toInCall.ns, hv⟩, hp.to kp.kpx fun b hb => hb.imp_right (hYn b)⟩
   ·obtain ⟨v, hv, hp⟩ := bs.2 (by show ¬ fd.scope.names.lookup x = _; rw [q]; decide)
    refine eE (Option.isSome_iff_exists.mp (hcells x q)) fun c hc => ?_
    exact ⟨v, .inr ⟨q, c, hc, hv ▸ I.cell x c hc⟩, hp.to kp.kpx fun b hb => hb.imp_right (hYn b)⟩
  refine ⟨hlim.keeps kp, kla_codeExpr (wpAny_mono ((h hA.deeper).of _ s₁ hp' hv) (fun v s' q => ?_) fun ζ ζ x => x)⟩
  exact ⟨q.1.less fun b hb => .inl hb, kt.trans q.2⟩
theorem ct_lam {T₀:Hp}(hT₀:T₀.le Tp){a:Addr}{fd:FuncData}{body:Expr}{x:Str}{b r:Dv}{n:Nat}(hfn:∀ h, T₀.p h → FnAt h a fd)
  (h : ∀ T' A L, T'.le T₀ → OkA A n → EvA prog w T' A (callEnvC fd L a) [(x, b)] body r)
  (hbody : fd.body = .expr body) (hbind : ∀ v, bindArgs fd ⟨[v], []⟩ = pure [(x, v)]) (hclo : fd.closure = [])
  (hkind : fd.scope.names.lookup x = some .local ∨ fd.scope.names.lookup x = some .cell)
  (hco : fd.scope.isCoroutine = false) (hgen : fd.scope.isGenerator = false) (hk : fd.scope.kind = .function) : CtT T₀ prog w (n + 1) (.ref a) [b] r := ⟨fun T A hT ok => by
 refine ⟨fun E s hp => Qev (hfn _ (hT.p _ hp)), fun E s vs hp hv => ?_⟩
 obtain ⟨v, rfl⟩ : ∃ v, vs = [v] := by obtain ⟨v, vs', rfl, _, e⟩ := hv; have : vs' = [] := e; exact ⟨v, by rw [this]⟩
 exact lam_enter (names := [x]) (as := [b]) (hfn _ (hT.p _ hp)) ok ((hT.trans hT₀).p _ hp).lim hp hv hbody (hbind v) (by simp) hclo rfl (fun y hy => by rw [List.mem_singleton.mp hy]; exact hkind) hco hgen hk
  fun ok' => h _ _ _ ((Hp.push_le _ _).trans hT) ok'⟩
end
end Mine
namespace Mine
open PySem PySem.Spec PySem.Calls PyProof.Rows
noncomputable abbrev Qnz (h:Heap)(B:Addr)(vs:Array Value) : Prop := ∃ n, h.get? B = some { cls := .type "list", data := .seq vs n }
theorem Qky : entryFor table "min.loop" = some Builtin.«min.loop» := entryFor_of_tree (by kernel_rfl)
theorem Qdb : plainId "min.loop" = true := by decide +kernel
section
variable {prog : Program} {w : World} {A : Around} {E : Value → Shared → Prop} {s : Shared}
theorem min_first {I a B:Addr}{items:Array Value}{i:Nat}{v:Value}{R:Result → Shared → Prop}(hit:s.heap.IsListIter I a i)(hl:s.heap.IsList a items)(hv:items[i]? = some v)(hB:Qnz s.heap B #[])(hIB:B ≠ I)
  (h : ∀ h', h'.IsListIter I a (i + 1) → Qnz h' B #[v, v] → (∀ b o, b ≠ I → b ≠ B → s.heap.get? b = some o → h'.get? b = some o) → codeAny (model prog w) A (.builtin "min.loop" ⟨[.ref I, .none, .ref B], []⟩) R { s with heap := h' }) :
  codeAny (model prog w) A (.builtin "min.loop" ⟨[.ref I, .none, .ref B], []⟩) R s := by
 have hname : (toString "min" ++ toString ".loop" : String) = "min.loop" := by decide
 refine codeAny_builtin Qky ?_
 rw [Around.under_plainId Qdb _]
 refine eE (hB) fun n hB => ?_
 show wpAny _ _ (seqItems? (.ref B) >>= _) _ _ _
 refine wpAny_bind (wpAny_seqItems hB rfl ?_)
 show wpAny _ A.in1 (tryCatch (pyNext (.ref I)) _ >>= _) _ _ s
 refine wpAny_bind (wpAny_tryCatch (wpAny_pyNext_list_item hit hl hv fun h1 hit1 hs1 => ?_))
 have hB1 := (hs1.2 B hIB).trans hB
 show wpAny _ A.in1 (updateSeq B (fun ζ => #[v, v]) >>= _) _ _ _
 refine wpAny_bind (wpAny_updateSeq hB1 rfl ?_)
 rw [hname]
 refine wpAny_pure ⟨plainId_quiet Qdb _, h _ (hit1.at fun o e => (Heap.get?_update_other _ _ hIB).trans e) ⟨_, Heap.get?_update_self _ hB1 rfl⟩ fun b o h1' h2' e => (Heap.get?_update_other _ _ (Ne.symm h2')).trans ((hs1.2 b h1').trans e)⟩
theorem min_more {I a B:Addr}{items:Array Value}{i:Nat}{v u:Value}{c:Bool}{R:Result → Shared → Prop}(hit:s.heap.IsListIter I a i)(hl:s.heap.IsList a items)(hv:items[i]? = some v)(hB:Qnz s.heap B #[u, u])(hIB:B ≠ I)
  (hc : ∀ (E : Value → Shared → Prop) (Q : Value → Shared → Prop) h', (∀ b o, b ≠ I → s.heap.get? b = some o → h'.get? b = some o) → Q (.bool c) { s with heap := h' } → wpAny (model prog w) A.in1 (richCompare .Lt v u) Q E { s with heap := h' })
  (h : ∀ h', h'.IsListIter I a (i + 1) → Qnz h' B (if c then #[v, v] else #[u, u]) → (∀ b o, b ≠ I → b ≠ B → s.heap.get? b = some o → h'.get? b = some o) → codeAny (model prog w) A (.builtin "min.loop" ⟨[.ref I, .none, .ref B], []⟩) R { s with heap := h' }) :
  codeAny (model prog w) A (.builtin "min.loop" ⟨[.ref I, .none, .ref B], []⟩) R s := by
 have hname : (toString "min" ++ toString ".loop" : String) = "min.loop" := by decide
 refine codeAny_builtin Qky ?_
 rw [Around.under_plainId Qdb _]
 refine eE (hB) fun n hB => ?_
 show wpAny _ _ (seqItems? (.ref B) >>= _) _ _ _
 refine wpAny_bind (wpAny_seqItems hB rfl ?_)
 show wpAny _ A.in1 (tryCatch (pyNext (.ref I)) _ >>= _) _ _ s
 refine wpAny_bind (wpAny_tryCatch (wpAny_pyNext_list_item hit hl hv fun h1 hit1 hs1 => ?_))
 have hB1 := (hs1.2 B hIB).trans hB
 show wpAny _ A.in1 (tryCatch (holding [v, v] (richCompare .Lt v u >>= _)) _ >>= _) _ _ _
 refine wpAny_bind (wpAny_tryCatch (wpAny_holding (wpAny_bind (hc _ _ h1 (fun b o hb e => (hs1.2 b hb).trans e) ?_))))
 refine wpAny_bind (wpAny_holding (wpAny_truthy_bool ?_))
 refine wpAny_bind (wpAny_letGo (wpAny_pure ?_))
 cases c with
 | true =>
  rw [if_pos rfl] at h ⊢
  refine wpAny_bind (wpAny_updateSeq hB1 rfl (wpAny_bind (wpAny_letGo ?_)))
  rw [hname]
  refine wpAny_pure ⟨plainId_quiet Qdb _, h _ (hit1.at fun o e => (Heap.get?_update_other _ _ hIB).trans e) ⟨_, Heap.get?_update_self _ hB1 rfl⟩ fun b o h1' h2' e => (Heap.get?_update_other _ _ (Ne.symm h2')).trans ((hs1.2 b h1').trans e)⟩
 | false =>
  rw [if_neg Bool.false_ne_true] at h ⊢
  refine wpAny_bind (wpAny_letGo ?_)
  rw [hname]
  exact wpAny_pure ⟨plainId_quiet Qdb _, h _ hit1 ⟨_, hB1⟩ fun b o h1' h2' e => (hs1.2 b h1').trans e⟩
theorem min_last {I a B:Addr}{items:Array Value}{i:Nat}{u:Value}{R:Result → Shared → Prop}(hh:A.handled = none)(hit:s.heap.IsListIter I a i)(hl:s.heap.IsList a items)(hv:items[i]? = none)(hB:Qnz s.heap B #[u, u])(hIB:B ≠ I)
  (h : ∀ h', (∀ b o, b ≠ I → b ≠ B → s.heap.get? b = some o → h'.get? b = some o) → R (.ok (.ret u)) { s with heap := h' }) :
  codeAny (model prog w) A (.builtin "min.loop" ⟨[.ref I, .none, .ref B], []⟩) R s := by
 refine codeAny_builtin Qky ?_
 rw [Around.under_plainId Qdb _]
 refine eE (hB) fun n hB => ?_
 show wpAny _ _ (seqItems? (.ref B) >>= _) _ _ _
 refine wpAny_bind (wpAny_seqItems hB rfl ?_)
 show wpAny _ A.in1 (tryCatch (pyNext (.ref I)) _ >>= _) _ _ s
 refine wpAny_bind (wpAny_tryCatch (wpAny_pyNext_list_end hh hit hl hv fun h1 hs1 => ?_))
 have hB1 := hs1 B _ hIB hB
 show wpAny _ A.in1 (updateSeq B (fun ζ => #[]) >>= _) _ _ _
 refine wpAny_bind (wpAny_updateSeq hB1 rfl (wpAny_bind (wpAny_letGo (wpAny_pure ?_))))
 exact h _ fun b o h1' h2' e => (Heap.get?_update_other _ _ (Ne.symm h2')).trans (hs1 b o h1' e)
end
theorem Qkk : entryFor table "max.loop" = some Builtin.«max.loop» := entryFor_of_tree (by kernel_rfl)
theorem Qdc : plainId "max.loop" = true := by decide +kernel
section
variable {prog : Program} {w : World} {A : Around} {E : Value → Shared → Prop} {s : Shared}
theorem max_first {I a B:Addr}{items:Array Value}{i:Nat}{v:Value}{R:Result → Shared → Prop}(hit:s.heap.IsListIter I a i)(hl:s.heap.IsList a items)(hv:items[i]? = some v)(hB:Qnz s.heap B #[])(hIB:B ≠ I)
  (h : ∀ h', h'.IsListIter I a (i + 1) → Qnz h' B #[v, v] → (∀ b o, b ≠ I → b ≠ B → s.heap.get? b = some o → h'.get? b = some o) → codeAny (model prog w) A (.builtin "max.loop" ⟨[.ref I, .none, .ref B], []⟩) R { s with heap := h' }) :
  codeAny (model prog w) A (.builtin "max.loop" ⟨[.ref I, .none, .ref B], []⟩) R s := by
 have hname : (toString "max" ++ toString ".loop" : String) = "max.loop" := by decide
 refine codeAny_builtin Qkk ?_
 rw [Around.under_plainId Qdc _]
 refine eE (hB) fun n hB => ?_
 show wpAny _ _ (seqItems? (.ref B) >>= _) _ _ _
 refine wpAny_bind (wpAny_seqItems hB rfl ?_)
 show wpAny _ A.in1 (tryCatch (pyNext (.ref I)) _ >>= _) _ _ s
 refine wpAny_bind (wpAny_tryCatch (wpAny_pyNext_list_item hit hl hv fun h1 hit1 hs1 => ?_))
 have hB1 := (hs1.2 B hIB).trans hB
 show wpAny _ A.in1 (updateSeq B (fun ζ => #[v, v]) >>= _) _ _ _
 refine wpAny_bind (wpAny_updateSeq hB1 rfl ?_)
 rw [hname]
 refine wpAny_pure ⟨plainId_quiet Qdc _, h _ (hit1.at fun o e => (Heap.get?_update_other _ _ hIB).trans e) ⟨_, Heap.get?_update_self _ hB1 rfl⟩ fun b o h1' h2' e => (Heap.get?_update_other _ _ (Ne.symm h2')).trans ((hs1.2 b h1').trans e)⟩
theorem max_more {I a B:Addr}{items:Array Value}{i:Nat}{v u:Value}{c:Bool}{R:Result → Shared → Prop}(hit:s.heap.IsListIter I a i)(hl:s.heap.IsList a items)(hv:items[i]? = some v)(hB:Qnz s.heap B #[u, u])(hIB:B ≠ I)
  (hc : ∀ (E : Value → Shared → Prop) (Q : Value → Shared → Prop) h', (∀ b o, b ≠ I → s.heap.get? b = some o → h'.get? b = some o) → Q (.bool c) { s with heap := h' } → wpAny (model prog w) A.in1 (richCompare .Gt v u) Q E { s with heap := h' })
  (h : ∀ h', h'.IsListIter I a (i + 1) → Qnz h' B (if c then #[v, v] else #[u, u]) → (∀ b o, b ≠ I → b ≠ B → s.heap.get? b = some o → h'.get? b = some o) → codeAny (model prog w) A (.builtin "max.loop" ⟨[.ref I, .none, .ref B], []⟩) R { s with heap := h' }) :
  codeAny (model prog w) A (.builtin "max.loop" ⟨[.ref I, .none, .ref B], []⟩) R s := by
 have hname : (toString "max" ++ toString ".loop" : String) = "max.loop" := by decide
 refine codeAny_builtin Qkk ?_
 rw [Around.under_plainId Qdc _]
 refine eE (hB) fun n hB => ?_
 show wpAny _ _ (seqItems? (.ref B) >>= _) _ _ _
 refine wpAny_bind (wpAny_seqItems hB rfl ?_)
 show wpAny _ A.in1 (tryCatch (pyNext (.ref I)) _ >>= _) _ _ s
 refine wpAny_bind (wpAny_tryCatch (wpAny_pyNext_list_item hit hl hv fun h1 hit1 hs1 => ?_))
 have hB1 := (hs1.2 B hIB).trans hB
 show wpAny _ A.in1 (tryCatch (holding [v, v] (richCompare .Gt v u >>= _)) _ >>= _) _ _ _
 refine wpAny_bind (wpAny_tryCatch (wpAny_holding (wpAny_bind (hc _ _ h1 (fun b o hb e => (hs1.2 b hb).trans e) ?_))))
 refine wpAny_bind (wpAny_holding (wpAny_truthy_bool ?_))
 refine wpAny_bind (wpAny_letGo (wpAny_pure ?_))
 cases c with
 | true =>
  rw [if_pos rfl] at h ⊢
  refine wpAny_bind (wpAny_updateSeq hB1 rfl (wpAny_bind (wpAny_letGo ?_)))
  rw [hname]
  refine wpAny_pure ⟨plainId_quiet Qdc _, h _ (hit1.at fun o e => (Heap.get?_update_other _ _ hIB).trans e) ⟨_, Heap.get?_update_self _ hB1 rfl⟩ fun b o h1' h2' e => (Heap.get?_update_other _ _ (Ne.symm h2')).trans ((hs1.2 b h1').trans e)⟩
 | false =>
  rw [if_neg Bool.false_ne_true] at h ⊢
  refine wpAny_bind (wpAny_letGo ?_)
  rw [hname]
  exact wpAny_pure ⟨plainId_quiet Qdc _, h _ hit1 ⟨_, hB1⟩ fun b o h1' h2' e => (hs1.2 b h1').trans e⟩
theorem max_last {I a B:Addr}{items:Array Value}{i:Nat}{u:Value}{R:Result → Shared → Prop}(hh:A.handled = none)(hit:s.heap.IsListIter I a i)(hl:s.heap.IsList a items)(hv:items[i]? = none)(hB:Qnz s.heap B #[u, u])(hIB:B ≠ I)
  (h : ∀ h', (∀ b o, b ≠ I → b ≠ B → s.heap.get? b = some o → h'.get? b = some o) → R (.ok (.ret u)) { s with heap := h' }) :
  codeAny (model prog w) A (.builtin "max.loop" ⟨[.ref I, .none, .ref B], []⟩) R s := by
 refine codeAny_builtin Qkk ?_
 rw [Around.under_plainId Qdc _]
 refine eE (hB) fun n hB => ?_
 show wpAny _ _ (seqItems? (.ref B) >>= _) _ _ _
 refine wpAny_bind (wpAny_seqItems hB rfl ?_)
 show wpAny _ A.in1 (tryCatch (pyNext (.ref I)) _ >>= _) _ _ s
 refine wpAny_bind (wpAny_tryCatch (wpAny_pyNext_list_end hh hit hl hv fun h1 hs1 => ?_))
 have hB1 := hs1 B _ hIB hB
 show wpAny _ A.in1 (updateSeq B (fun ζ => #[]) >>= _) _ _ _
 refine wpAny_bind (wpAny_updateSeq hB1 rfl (wpAny_bind (wpAny_letGo (wpAny_pure ?_))))
 exact h _ fun b o h1' h2' e => (Heap.get?_update_other _ _ (Ne.symm h2')).trans (hs1 b o h1' e)
end
section
variable {prog : Program} {w : World} {T : Hp} {A : Around}
theorem fn_minLL {m:Nat}(ok:OkA A (m + 1)){xs ys:List PyData}(hk:Qfb ys xs) : Fn prog w T A (.builtin "min") [.d (.list [.list xs, .list ys])] (.d (.list (if ltL ys xs then ys else xs))) := .plain (fun ζ e => nomatch e) fun E s vs hp h => by
 refine Qac (h) fun v vs' ρ0 h1 ρ1 => ?_
 subst ρ0
 subst ρ1
 refine Qck (h1.list_inv) fun a items ρ2 hx hl hr => ?_
 subst ρ2
 refine Qac (hr.cons_inv) fun v0 w0 e0 r0 hr => ?_
 refine Qac (hr.cons_inv) fun v1 w1 e1 r1 hr => ?_
 have e2 := hr.nil_inv
 subst e2; subst e1
 have hi : items = #[v0, v1] := by rw [← Array.toList_inj, e0]
 subst hi
 have hlt : a < s.heap.objs.size := eEA (hl) fun o e ζ => Heap.lt_size e
 have hname : (toString "min" ++ toString ".loop" : String) = "min.loop" := by decide
 refine call_function_tree F.kind_min F.plain_min F.entry_min (F.args_min1 _) ?_
 show wpAny _ A.in1 (Builtin.Builtins.bindParams "min" ["key", "default"] 0 ⟨[], []⟩ >>= _) _ _ s
 refine wpAny_bind (wpAny_of_eq (show Builtin.Builtins.bindParams "min" ["key", "default"] 0 ⟨[], []⟩ = pure [none, none] from rfl) ?_)
 refine wpAny_bind (wpAny_pure ?_)
 refine wpAny_bind (wpAny_pyIter_list hl ?_)
 refine wpAny_bind (wpAny_newObj_type ?_)
 rw [hname]
 refine wpAny_pure ⟨plainId_quiet Qdb _, ?_⟩
 dsimp only
 generalize hI : s.heap.objs.size = I at *
 have hIn : ¬ Qaa s.heap I := Qax (Nat.le_of_eq hI)
 generalize hH1 : s.heap.push { cls := .type "list_iterator", data := .fields #[.ref a, .int 0 0] } = H1 at *
 have hB1 : H1.objs.size = I + 1 := by rw [← hH1, Heap.size_push, hI]
 generalize hB : H1.objs.size = B at *
 have hBI : B ≠ I := by lia
 have k1 : Kp s.heap H1 := hH1 ▸ Qav _ _
 have hBn : ¬ Qaa s.heap B := fun ⟨o, e⟩ => Qax (Nat.le_of_eq hB) ⟨o, k1 _ _ e⟩
 have hit0 : H1.IsListIter I a 0 := ⟨_, hH1 ▸ hI ▸ Heap.get?_push_size _ rfl, rfl, rfl⟩
 have kp : ∀ {b o}, s.heap.get? b = some o → b ≠ I ∧ b ≠ B := fun {b o} e => ⟨fun q => hIn (q ▸ ⟨o, e⟩), fun q => hBn (q ▸ ⟨o, e⟩)⟩
 refine min_first (s := { s with heap := H1.push _ }) (items := #[v0, v1]) (i := 0) (v := v0) (a := a) ⟨_, Heap.get?_push_of_some _ (hH1 ▸ hI ▸ Heap.get?_push_size _ rfl), rfl, rfl⟩ (hl.at fun o e => Heap.get?_push_of_some _ (k1 _ _ e)) rfl ⟨_, hB ▸ Heap.get?_push_size _ rfl⟩ hBI fun h2 it2 b2 k2 => ?_
 have q2 : Kp s.heap h2 := fun b o e => k2 b o (kp e).1 (kp e).2 (Heap.get?_push_of_some _ (k1 _ _ e))
 refine min_more (s := { s with heap := h2 }) (items := #[v0, v1]) (i := 1) (v := v1) (u := v0) (a := a) (c := ltL ys xs) it2 (hl.at fun o e => q2 _ _ e) rfl b2 hBI (fun E Q h' k hq => ?_) fun h3 it3 b3 k3 => ?_
 ·have q' : Kp s.heap h' := fun b o e => k b o (kp e).1 (q2 _ _ e)
  refine rc_ltList (X := T.X) (s := { s with heap := h' }) ?_ hk (Rd.kp r1 q'.kpx) (Rd.kp r0 q'.kpx) hq
  have := ok.cline
  show A.units + 1 + 2 < cLine
  lia
 ·have q3 : Kp s.heap h3 := fun b o e => k3 b o (kp e).1 (kp e).2 (q2 _ _ e)
  cases hc : ltL ys xs with
  | true =>
   rw [hc] at b3
   rw [if_pos rfl] at b3 ⊢
   refine min_last (s := { s with heap := h3 }) (items := #[v0, v1]) (i := 2) (u := v1) (a := a) ok.handled it3 (hl.at fun o e => q3 _ _ e) rfl b3 hBI fun h4 k4 => ?_
   have q4 : Kp s.heap h4 := fun b o e => k4 b o (kp e).1 (kp e).2 (q3 _ _ e)
   exact ⟨Rd.kp r1 q4.kpx, Kt.mk' s s.toks q4⟩
  | false =>
   rw [hc] at b3
   rw [if_neg Bool.false_ne_true] at b3 ⊢
   refine min_last (s := { s with heap := h3 }) (items := #[v0, v1]) (i := 2) (u := v0) (a := a) ok.handled it3 (hl.at fun o e => q3 _ _ e) rfl b3 hBI fun h4 k4 => ?_
   have q4 : Kp s.heap h4 := fun b o e => k4 b o (kp e).1 (kp e).2 (q3 _ _ e)
   exact ⟨Rd.kp r0 q4.kpx, Kt.mk' s s.toks q4⟩
theorem fn_maxLL {m:Nat}(ok:OkA A (m + 1)){xs ys:List PyData}(hk:Qfb ys xs) : Fn prog w T A (.builtin "max") [.d (.list [.list xs, .list ys])] (.d (.list (if gtL ys xs then ys else xs))) := .plain (fun ζ e => nomatch e) fun E s vs hp h => by
 refine Qac (h) fun v vs' ρ3 h1 ρ4 => ?_
 subst ρ3
 subst ρ4
 refine Qck (h1.list_inv) fun a items ρ5 hx hl hr => ?_
 subst ρ5
 refine Qac (hr.cons_inv) fun v0 w0 e0 r0 hr => ?_
 refine Qac (hr.cons_inv) fun v1 w1 e1 r1 hr => ?_
 have e2 := hr.nil_inv
 subst e2; subst e1
 have hi : items = #[v0, v1] := by rw [← Array.toList_inj, e0]
 subst hi
 have hlt : a < s.heap.objs.size := eEA (hl) fun o e ζ => Heap.lt_size e
 have hname : (toString "max" ++ toString ".loop" : String) = "max.loop" := by decide
 refine call_function_tree F.kind_max F.plain_max F.entry_max (F.args_max1 _) ?_
 show wpAny _ A.in1 (Builtin.Builtins.bindParams "max" ["key", "default"] 0 ⟨[], []⟩ >>= _) _ _ s
 refine wpAny_bind (wpAny_of_eq (show Builtin.Builtins.bindParams "max" ["key", "default"] 0 ⟨[], []⟩ = pure [none, none] from rfl) ?_)
 refine wpAny_bind (wpAny_pure ?_)
 refine wpAny_bind (wpAny_pyIter_list hl ?_)
 refine wpAny_bind (wpAny_newObj_type ?_)
 rw [hname]
 refine wpAny_pure ⟨plainId_quiet Qdc _, ?_⟩
 dsimp only
 generalize hI : s.heap.objs.size = I at *
 have hIn : ¬ Qaa s.heap I := Qax (Nat.le_of_eq hI)
 generalize hH1 : s.heap.push { cls := .type "list_iterator", data := .fields #[.ref a, .int 0 0] } = H1 at *
 have hB1 : H1.objs.size = I + 1 := by rw [← hH1, Heap.size_push, hI]
 generalize hB : H1.objs.size = B at *
 have hBI : B ≠ I := by lia
 have k1 : Kp s.heap H1 := hH1 ▸ Qav _ _
 have hBn : ¬ Qaa s.heap B := fun ⟨o, e⟩ => Qax (Nat.le_of_eq hB) ⟨o, k1 _ _ e⟩
 have hit0 : H1.IsListIter I a 0 := ⟨_, hH1 ▸ hI ▸ Heap.get?_push_size _ rfl, rfl, rfl⟩
 have kp : ∀ {b o}, s.heap.get? b = some o → b ≠ I ∧ b ≠ B := fun {b o} e => ⟨fun q => hIn (q ▸ ⟨o, e⟩), fun q => hBn (q ▸ ⟨o, e⟩)⟩
 refine max_first (s := { s with heap := H1.push _ }) (items := #[v0, v1]) (i := 0) (v := v0) (a := a) ⟨_, Heap.get?_push_of_some _ (hH1 ▸ hI ▸ Heap.get?_push_size _ rfl), rfl, rfl⟩ (hl.at fun o e => Heap.get?_push_of_some _ (k1 _ _ e)) rfl ⟨_, hB ▸ Heap.get?_push_size _ rfl⟩ hBI fun h2 it2 b2 k2 => ?_
 have q2 : Kp s.heap h2 := fun b o e => k2 b o (kp e).1 (kp e).2 (Heap.get?_push_of_some _ (k1 _ _ e))
 refine max_more (s := { s with heap := h2 }) (items := #[v0, v1]) (i := 1) (v := v1) (u := v0) (a := a) (c := gtL ys xs) it2 (hl.at fun o e => q2 _ _ e) rfl b2 hBI (fun E Q h' k hq => ?_) fun h3 it3 b3 k3 => ?_
 ·have q' : Kp s.heap h' := fun b o e => k b o (kp e).1 (q2 _ _ e)
  refine rc_gtList (X := T.X) (s := { s with heap := h' }) ?_ hk (Rd.kp r1 q'.kpx) (Rd.kp r0 q'.kpx) hq
  have := ok.cline
  show A.units + 1 + 2 < cLine
  lia
 ·have q3 : Kp s.heap h3 := fun b o e => k3 b o (kp e).1 (kp e).2 (q2 _ _ e)
  cases hc : gtL ys xs with
  | true =>
   rw [hc] at b3
   rw [if_pos rfl] at b3 ⊢
   refine max_last (s := { s with heap := h3 }) (items := #[v0, v1]) (i := 2) (u := v1) (a := a) ok.handled it3 (hl.at fun o e => q3 _ _ e) rfl b3 hBI fun h4 k4 => ?_
   have q4 : Kp s.heap h4 := fun b o e => k4 b o (kp e).1 (kp e).2 (q3 _ _ e)
   exact ⟨Rd.kp r1 q4.kpx, Kt.mk' s s.toks q4⟩
  | false =>
   rw [hc] at b3
   rw [if_neg Bool.false_ne_true] at b3 ⊢
   refine max_last (s := { s with heap := h3 }) (items := #[v0, v1]) (i := 2) (u := v0) (a := a) ok.handled it3 (hl.at fun o e => q3 _ _ e) rfl b3 hBI fun h4 k4 => ?_
   have q4 : Kp s.heap h4 := fun b o e => k4 b o (kp e).1 (kp e).2 (q3 _ _ e)
   exact ⟨Rd.kp r0 q4.kpx, Kt.mk' s s.toks q4⟩
end
section
variable {prog : Program} {w : World} {W : Addr → Prop} {T : Hp} {A : Around} {env : Env} {E : Value → Shared → Prop} {s₀ s : Shared} {G : Gam} {O : Own} {R : Flow → Shared → Prop} {rest : List Stmt}
theorem st_forEnum {xi xv np:Str}{pi pv pt pos npos cpos:Pos}{x1:Nat}{e:Expr}{body:List Stmt}{xs:List PyData}{n:Nat}(ok:OkA A n)(F:Fx W T s₀ env G O s)
  (hf : EvA prog w T A env G (.Name np npos) (.v (.type "enumerate"))) (he : EvA prog w T A env G e (.d (.list xs)))
  (J : Nat → Gam → Own → Prop) (JB : Gam → Own → Prop) (h0 : J 0 G O) (hJ : ∀ i G' O', J i G' O' → ∀ L ds, O' = some (L, ds) → ∃ ds', O = some (L, ds'))
  (hJB : ∀ G' O', JB G' O' → ∀ L ds, O' = some (L, ds) → ∃ ds', O = some (L, ds'))
  (hstep : ∀ T' W₁ s₁ i d G' O' s', T'.le T → (∀ s'', KtX W₁ s₁ s'' → KtX W s₀ s'') → xs[i]? = some d → J i G' O' → Fx W₁ T' s₁ env ((xv, .d d) :: (xi, .d (.int i)) :: G') O' s' →
   Go prog w A env body (Rf (FNx W₁ T' s₁ env (J (i + 1)) O') (FNx W₁ T' s₁ env JB O') R) s')
  (hend : ∀ G' O' s', J xs.length G' O' → Fx W T s₀ env G' O' s' → Go prog w A env rest R s')
  (hbrk : ∀ G' O' s', JB G' O' → Fx W T s₀ env G' O' s' → Go prog w A env rest R s')
  (hk : autoParam (env.scope.kind = .function) sK) (hxi : autoParam (Qww env xi) sO)
  (hxv : autoParam (Qww env xv) sO)
  (hse : autoParam (starEach [e] env = (false, eval e env) :: starEach [] env) sK)
  (hs : autoParam (∀ x, foldedSetIterable (.Call (.Name np npos) [e] [] cpos) env x = pure x) sK) :
  Go prog w A env (.For (.Tuple [.Name xi pi, .Name xv pv] x1 pt) (.Call (.Name np npos) [e] [] cpos) body [] pos :: rest) R s := by
 refine ⟨wpAny_execs_cons (wpAny_For (Call_Name rfl (wpAny_mono (hf.of _ s F.t F.vw) (fun f' sf kf => ?_) fun ζ ζ x => x)) hs)⟩
 obtain ⟨rfl, kf⟩ := kf
 have Ff := F.kept kf
 refine Qbx (EvL.cons (pos := cpos) he .nil' hse).noStar (Qcz (EvL.cons (pos := cpos) he .nil' hse) Ff.t Ff.vw fun vs sg kg hvs => ?_)
 have Fg := Ff.kept kg
 refine Qac (hvs) fun v vs' ρ0 hv ρ1 => ?_
 subst ρ0
 subst ρ1
 refine Qck (hv.list_inv) fun a items ρ2 hXa hl hr => ?_
 subst ρ2
 refine wpAny_pure (call_enumerate_list hl fun h₂ hE hI hsz k₂ => wpAny_pyIter_enum hE ?_)
 have hlt : a < sg.heap.objs.size := eEA (hl) fun o e ζ => Heap.lt_size e
 have hlen : items.size = xs.length := by have := hr.length; simpa using this
 have Wk := WalksT.enumerate (prog := prog) (w := w) (A := A) ok.handled (sg.heap.objs.size + 1) sg.heap.objs.size a (Nat.succ_ne_self _) (Nat.ne_of_lt (Nat.lt_succ_of_lt hlt)) (Nat.ne_of_lt hlt) items
 have hI0 : ¬ Qaa sg.heap sg.heap.objs.size := Qax (Nat.le_refl _)
 have hE0 : ¬ Qaa sg.heap (sg.heap.objs.size + 1) := Qax (Nat.le_succ _)
 generalize hIe : sg.heap.objs.size + 1 = Ie at *
 generalize hIi : sg.heap.objs.size = Ii at *
 let Y : Addr → Prop := fun b => b ∈ [Ie, Ii]
 have hYn : ∀ b, Y b → ¬ Qaa sg.heap b := fun b hb => by
  rcases List.mem_cons.mp hb with rfl | hb
  ·exact hE0
  ·rw [List.mem_singleton.mp hb]; exact hI0
 have stl : ∀ (i : Nat) (h : Heap), ((∃ old, IsEnum h Ie Ii ((i : Nat) : Int) old) ∧ h.IsListIter Ii a i ∧ h.IsList a items) → ∀ b, Y b → Qaa h b := fun i h st b hb => by
  refine eAA (st) fun ν3 ν4 ζ => ?_
  refine eE (ν3) fun old q1 => ?_
  refine eEA (ν4) fun o q2 ζ => ?_
  rcases List.mem_cons.mp hb with rfl | hb
  ·exact ⟨_, q1⟩
  ·rw [List.mem_singleton.mp hb]; exact ⟨o, q2⟩
 have st0 : (∃ old, IsEnum h₂ Ie Ii ((0 : Nat) : Int) old) ∧ h₂.IsListIter Ii a 0 ∧ h₂.IsList a items := ⟨⟨_, hE⟩, hI, hl.at fun o e => k₂ _ _ e⟩
 have hYX : ∀ b, Y b → ¬ T.X b := fun b hb hx => hYn b hb (T.live _ Fg.t b hx)
 have hY0 : ∀ b, Y b → ¬ Qaa s₀.heap b := fun b hb l => hYn b hb (Fg.kt.kp.live b l)
 have F₂ : Fx W (T.push Y) s₀ env G O { sg with heap := h₂ } := Fg.push (tk := sg.toks) k₂ hYn (stl 0 _ st0)
 have tle : (T.push Y).le T := Hp.push_le T Y
 obtain ⟨Inv, hI⟩ : ∃ I : Nat → Shared → Prop, ∀ k s', I k s' ↔ ∃ i G' O', k = xs.length + 1 - i ∧ i ≤ xs.length ∧ J i G' O' ∧ ((∃ old, IsEnum s'.heap Ie Ii ((i : Nat) : Int) old) ∧ s'.heap.IsListIter Ii a i ∧ s'.heap.IsList a items) ∧ Fx W (T.push Y) s₀ env G' O' s' ∧ KpX (T.push Y).X sg.heap s'.heap := ⟨_, fun ζ ζ => Iff.rfl⟩
 refine codeAny_forLoop_any Inv ?_ (xs.length + 1) ((hI _ _).2 ⟨0, G, O, rfl, Nat.zero_le _, h0, st0, F₂, Kp.kpx k₂⟩)
 intro k s' hIk
 refine Qwq ((hI _ _).1 hIk) fun i G' O' e3 hi hj hSt F' hkp => ?_
 subst e3
 have loc : ∀ O'' : Own, (∀ L ds, O'' = some (L, ds) → ∃ ds', O = some (L, ds')) → T.X env.locals ∧ (∀ n c, env.cells.lookup n = some c → T.X c) ∧ (∀ L ds, O'' = some (L, ds) → T.X L) := fun O'' hO => ⟨F.loX, fun n c hc => (F.cells n c hc).1, fun L ds e => eE (hO L ds e) fun ds' e' => (F.own L ds' e').1⟩
 by_cases hlt' : i < xs.length
 ·have hd : xs[i]? = some xs[i] := List.getElem?_eq_getElem hlt'
  refine Wk.item i _ _ _ (by rw [hlen]; exact hlt') hSt fun Tt vals h1 tk1 hPt hTge hTt hMid hk1 => ?_
  refine Qfw (hPt) fun ti x hx ρ5 => ?_
  subst ρ5
  dsimp only
  refine Wk.go _ _ _ i Tt { s' with heap := h1, toks := tk1 } _ _ hMid fun h2 hst2 hk2 => ?_
  have hTw : Tt ∉ [Ie, Ii] := Wk.apart i Tt _ hMid
  have hT2 : h2.IsTuple Tt #[.int i ti, x] := eEA (hTt) fun o e r => ⟨o, hk2 _ _ hTw e, r⟩
  have l2 : KpX Y s'.heap h2 := ⟨fun b o hb e => hk2 b o hb (hk1 b o hb e), fun b l => by
   by_cases hb : Y b
   ·exact stl _ _ hst2 b hb
   ·exact eE (l) fun o e => ⟨o, hk2 b o hb (hk1 b o hb e)⟩⟩
  have F1 : Fx W (T.push Y) s₀ env G' O' { s' with heap := h2, toks := tk1 } := F'.but l2 fun b hb => ⟨.inr hb, .inl (hY0 b hb), fun q => hYX b hb (q ▸ F.loX), fun n q => hYX b hb (F.cells n b q).1, fun ds q => by
   refine eE (hJ i G' O' hj b ds q) fun ds' e => ?_
   exact hYX b hb (F.own b ds' e).1⟩
  have kp1 : KpX (T.push Y).X sg.heap h2 := hkp.trans (l2.wider fun b hb => .inr hb)
  have rx : Rd (T.push Y).X h2 xs[i] x := by
   refine eEA (hr.get i xs[i] hd) fun v' e r => ?_
   have : items[i]? = some v' := by simpa using e
   rw [hx] at this; cases this
   exact Rd.map (fun b o hb e => have h : ¬ (T.push Y).X b := fun q => q.elim hb fun z => hYn b z ⟨o, e⟩; ⟨h, kp1.kp b o h e⟩) _ _ r
  refine wpAny_assign_Tuple ok.handled hT2 rfl rfl fun h3 he3 => ?_
  have k3 : Kp h2 h3 := fun b o q => he3 b o (fun z => Qax (Nat.le_of_eq z.symm) ⟨o, q⟩) q
  have F3 : Fx W (T.push Y) s₀ env G' O' { s' with heap := h3, toks := tk1 } := F1.kept (Kt.mk' _ tk1 k3)
  have F3b := F3.rebase
  refine Qgk (a := .d (.int i)) F3b hk hxi Dv.p.int fun s4 F4 k4 => ?_
  refine Qgk (a := .d xs[i]) F4 hk hxv ((rx.kp k3.kpx).kp k4) fun s5 F5 k5 => ?_
  refine assignInOrder_nil ?_
  refine wpAny_mono (hstep (T.push Y) _ _ i xs[i] G' O' s5 tle (fun s'' k => F3.unkt k) hd hj F5).of (fun f s6 q => ?_) fun ζ ζ x => x.elim
  have hfpM : ∀ b, Y b ∨ b = a → ¬ Fx.may W env O' b := fun b hb hm => by
   have hTX : T.X b := by
    rcases hm with hm | rfl | ⟨n, hc⟩ | ⟨ds, e⟩
    ·exact F.wX b hm
    ·exact F.loX
    ·exact (F.cells n b hc).1
    ·refine eE (hJ i G' O' hj b ds e) fun ds' e' => ?_
     exact (F.own b ds' e').1
   rcases hb with q | q
   ·exact hYX b q hTX
   ·exact hXa (q ▸ hTX)
  have stay : ∀ G'' O'', Fx (Fx.may W env O') (T.push Y) { s' with heap := h3, toks := tk1 } env G'' O'' s6 → ((∃ old, IsEnum s6.heap Ie Ii (((i + 1 : Nat)) : Int) old) ∧ s6.heap.IsListIter Ii a (i + 1) ∧ s6.heap.IsList a items) ∧ KpX (T.push Y).X sg.heap s6.heap := fun G'' O'' F6 => by
   have k6 := F6.kt.kp
   refine ⟨Wk.frame _ _ _ hst2 fun b hb o e => k6.kp b o (hfpM b ?_) (k3 _ _ e), (kp1.trans k3.kpx).trans (k6.wider F3.may_X)⟩
   rcases List.mem_cons.mp hb with rfl | hb
   ·exact .inl (List.mem_cons_self ..)
   ·rcases List.mem_cons.mp hb with rfl | hb
    ·exact .inl (List.mem_cons_of_mem _ (List.mem_cons_self ..))
    ·exact .inr (List.mem_singleton.mp hb)
  have after : ∀ G'' O'', J (i + 1) G'' O'' → (∀ L ds, O'' = some (L, ds) → ∃ ds', O' = some (L, ds')) → Fx (Fx.may W env O') (T.push Y) { s' with heap := h3, toks := tk1 } env G'' O'' s6 →
    ∃ m, m < xs.length + 1 - i ∧ Inv m s6 := fun G'' O'' hj' hO F6 =>
   ⟨xs.length + 1 - (i + 1), Qjj hlt', (hI _ _).2 ⟨i + 1, G'', O'', rfl, hlt', hj', (stay _ _ F6).1, F3.unbase F6 (fun b hb => .inl (F.wX b hb)) hO, (stay _ _ F6).2⟩⟩
  cases f with
  | next => exact Qac (q) fun G'' O'' hj' hO F6 => after G'' O'' hj' hO F6
  | cont => exact Qac (q) fun G'' O'' hj' hO F6 => after G'' O'' hj' hO F6
  | brk =>
   refine Qac (q) fun G'' O'' hj' hO F6 => ?_
   have F7 := F3.unbase F6 (fun b hb => .inl (F.wX b hb)) hO
   refine eAA (loc O'' (hJB G'' O'' hj')) fun q1 q2 q3 => ?_
   exact (hbrk G'' O'' s6 hj' (F7.back F.wX q1 q2 q3)).of
  | ret v => exact q
 ·have hin : i = xs.length := by lia
  subst hin
  refine Wk.done _ _ _ (hlen ▸ hSt) fun h1 tk1 hk1 => ?_
  have tp : T.p h1 := by
   refine T.mono sg.heap h1 ⟨fun b o hb e => ?_, fun b l => ?_⟩ Fg.t
   ·have hbY : ¬ Y b := fun q => hYn b q ⟨o, e⟩
    exact hk1 b o hbY (hkp.kp b o (fun q => q.elim hb hbY) e)
   ·have hbY : ¬ Y b := fun q => hYn b q l
    refine eE (hkp.live b l) fun o e => ?_
    exact ⟨o, hk1 b o hbY e⟩
  refine eAA (loc O' (hJ _ G' O' hj)) fun q1 q2 q3 => ?_
  have F9 : Fx W T s₀ env G' O' { s' with heap := h1, toks := tk1 } := F'.done F.wX q1 q2 q3 tp hk1 hY0 hYX
  rw [show execs [] env = pure .next from rfl]
  exact wpAny_pure (hend G' O' _ hj F9).of
end
theorem mro_map : mroOf (.type "map") = pure [.type "map", .type "object"] := by rw [mroOf_type]; kernel_rfl
theorem Qxj : typeLookup (.type "map") "__new__" = pure (some (.builtin "map.__new__")) := by rw [typeLookup_type, builtinLookup_eq_fast]; kernel_rfl
theorem QAy : Slot "map" "__init__" "object.__init__" :=
 .of (owner := "object") (n := "__init__") (by rw [typeLookup_type, builtinLookup_eq_fast]; kernel_rfl) (by decide +kernel) (by decide +kernel) (by decide +kernel)
  (by first | exact .inl (by decide +kernel) | exact .inr (by decide +kernel)) (by rw [isSubtype_type]; kernel_rfl)
theorem called_map : TypeCalled "map" "map.__new__" "object.__init__" :=
 ⟨by decide +kernel, by decide +kernel, ⟨_, _, mro_map⟩, madeBy_type mro_map Qxj (by decide +kernel), by decide +kernel, by rw [isSubtype_type]; kernel_rfl, QAy⟩
theorem Qwc (a b:Value) : checkTypeCall "map" ⟨[a, b], []⟩ = pure () := by kernel_rfl
theorem QBx (a b:Value) : checkBuiltinCall "map.__new__" ⟨[.type "map", a, b], []⟩ = pure () := by kernel_rfl
theorem QCc : entryFor table "map.__new__" = some Builtin.«map.__new__» := entryFor_of_tree (by kernel_rfl)
theorem sub_map : isSubtype (.type "map") (.type "map") = pure true := by rw [isSubtype_type]; kernel_rfl
theorem slot_map_next : Slot "map" "__next__" "map.__next__" :=
 .of (owner := "map") (n := "__next__") (by rw [typeLookup_type, builtinLookup_eq_fast]; kernel_rfl) (by decide +kernel) (by decide +kernel) (by decide +kernel)
  (by first | exact .inl (by decide +kernel) | exact .inr (by decide +kernel)) (by rw [isSubtype_type]; kernel_rfl)
theorem Qmb : entryFor table "map.__next__" = some Builtin.«map.__next__» := entryFor_of_tree (by kernel_rfl)
theorem Qoj : Slot "map" "__iter__" "map.__iter__" :=
 .of (owner := "map") (n := "__iter__") (by rw [typeLookup_type, builtinLookup_eq_fast]; kernel_rfl) (by decide +kernel) (by decide +kernel) (by decide +kernel)
  (by first | exact .inl (by decide +kernel) | exact .inr (by decide +kernel)) (by rw [isSubtype_type]; kernel_rfl)
theorem nolen_map : typeLookup (.type "map") "__len__" = pure none := by rw [typeLookup_type, builtinLookup_eq_fast]; kernel_rfl
theorem nohint_map : typeLookup (.type "map") "__length_hint__" = pure none := by rw [typeLookup_type, builtinLookup_eq_fast]; kernel_rfl
theorem QFv : Manifest.owners.lookup (String.ofList ['p', 'a', 'm'].reverse) = some Manifest.sig_map := by kernel_rfl
theorem Qlx (a:Value) : argsOk "map.__next__" ⟨[a], []⟩ := by
 unfold argsOk; rw [signature?_of (id := "map.__next__") (n := ['_', '_', 't', 'x', 'e', 'n', '_', '_']) (o := ['p', 'a', 'm']) (by kernel_rfl) QFv]; kernel_rfl
theorem Qwk (a:Value) : argsOk "map.__iter__" ⟨[a], []⟩ := by
 unfold argsOk; rw [signature?_of (id := "map.__iter__") (n := ['_', '_', 'r', 'e', 't', 'i', '_', '_']) (o := ['p', 'a', 'm']) (by kernel_rfl) QFv]; kernel_rfl
theorem QBb (f:Value)(l:Addr)(items:Array Value) :
  Meets (Builtin.«map.__new__» ⟨[.type "map", f, .ref l], []⟩) (fun ζ R s => s.heap.IsList l items ∧
   R (.ok (.ret (.ref (s.heap.objs.size + 2)))) { s with heap := ((s.heap.push { cls := .type "list_iterator", data := .fields #[.ref l, .int 0 0] }).push { cls := .type "tuple", data := .seq #[.ref s.heap.objs.size] }).push { cls := .type "map", data := .fields #[.ref (s.heap.objs.size + 1), f] } }) :=
 .of_wp fun prog w A R s h => by
  obtain ⟨hp, g, d, tk, os⟩ := s; obtain ⟨hl1, h⟩ := h
  have hsub := sub_map
  have hL1 : Heap.IsList (Shared.heap ⟨hp, g, d, tk, os⟩) l items := hl1
  wp_walk using wpAny_pyIter_list hL1
  refine ⟨_, rfl, ?_⟩
  have e : ((hp.push { cls := .type "list_iterator", data := .fields #[.ref l, .int 0 0] }).push { cls := .type "tuple", data := .seq #[.ref hp.objs.size] }).objs.size = hp.objs.size + 2 := by rw [Heap.size_push, Heap.size_push]
  have e2 : (hp.push { cls := .type "list_iterator", data := .fields #[.ref l, .int 0 0] }).objs.size = hp.objs.size + 1 := Heap.size_push ..
  simp only [List.push_toArray, List.nil_append]
  rw [e2, e]
  exact h
section
variable {prog : Program} {w : World} {A : Around} {E : Value → Shared → Prop} {s : Shared}
noncomputable abbrev IsMap (h:Heap)(M TI:Addr)(f:Value) : Prop := h.get? M = some { cls := .type "map", data := .fields #[.ref TI, f] }
noncomputable abbrev IsOne (h:Heap)(TI I:Addr) : Prop := h.get? TI = some { cls := .type "tuple", data := .seq #[.ref I] }
theorem QBc {M TI I l:Addr}{f:Value}{items:Array Value}{i:Nat}{v:Value}{Q:Fin → Shared → Prop}(hM:IsMap s.heap M TI f)(hTI:IsOne s.heap TI I)(hit:s.heap.IsListIter I l i)(hl:s.heap.IsList l items)(hv:items[i]? = some v)(hMI:M ≠ I)
  (h : ∀ h', h'.IsListIter I l (i + 1) → Heap.SameBut I s.heap h' → wpAny (model prog w) A (call f [v]) (fun r s' => Q (.done (.ret r)) s') E { s with heap := h' }) :
  wpAny (model prog w) A (Builtin.«map.__next__» ⟨[.ref M], []⟩) Q E s := by
 show wpAny _ _ (field (.ref M) 0 >>= _) _ _ _
 refine wpAny_bind (wpAny_field hM rfl (x := .ref TI) rfl ?_)
 refine wpAny_bind (wpAny_seqItems hTI rfl ?_)
 refine wpAny_bind ?_
 show wpAny _ _ (forIn (#[Value.ref I] : Array Value) (#[] : Array Value) _) _ _ _
 rw [← Array.forIn_toList]
 simp -iota only [List.forIn_cons, List.forIn_nil]
 refine wpAny_bind (wpAny_bind (wpAny_holding (wpAny_nextOf_list_item hit hl hv fun h1 hit1 hs1 => wpAny_pure ?_)))
 dsimp only
 refine wpAny_pure ?_
 have hM1 : IsMap h1 M TI f := (hs1.2 M hMI).trans hM
 refine wpAny_bind (wpAny_field hM1 rfl (x := f) rfl ?_)
 refine wpAny_bind (wpAny_holding (wpAny_mono (h h1 hit1 hs1) (fun r s' q => ?_) fun ζ ζ x => x))
 exact wpAny_bind (wpAny_letGo (wpAny_pure q))
theorem QGx {M TI I l:Addr}{f:Value}{items:Array Value}{i:Nat}{Q:Fin → Shared → Prop}(hh:A.handled = none)(hM:IsMap s.heap M TI f)(hTI:IsOne s.heap TI I)(hit:s.heap.IsListIter I l i)(hl:s.heap.IsList l items)(hv:items[i]? = none)
  (h : ∀ h' e, (∀ b o, b ≠ I → s.heap.get? b = some o → h'.get? b = some o) → (∃ o, h'.get? e = some o ∧ o.cls = .type "StopIteration") → E (.ref e) { s with heap := h' }) :
  wpAny (model prog w) A (Builtin.«map.__next__» ⟨[.ref M], []⟩) Q E s := by
 show wpAny _ _ (field (.ref M) 0 >>= _) _ _ _
 refine wpAny_bind (wpAny_field hM rfl (x := .ref TI) rfl ?_)
 refine wpAny_bind (wpAny_seqItems hTI rfl ?_)
 refine wpAny_bind ?_
 show wpAny _ _ (forIn (#[Value.ref I] : Array Value) (#[] : Array Value) _) _ _ _
 rw [← Array.forIn_toList]
 simp -iota only [List.forIn_cons, List.forIn_nil]
 exact wpAny_bind (wpAny_bind (wpAny_holding (wpAny_nextOf_list_end hh hit hl hv fun h2 e hs2 he => h h2 e hs2 he)))
end
end Mine
namespace Mine
open PySem PySem.Spec PySem.Calls PyProof.Rows PySem.W
noncomputable def KRun (n:Nat)(c:Nat → Nat → Bool){α:Type} : KasT α → (α → Prop) → Prop
 | .ret a, Q => Q a
 | .ask i j k, Q => i < n ∧ j < n ∧ KRun n c (k (c i j)) Q
section
variable {n : Nat} {c : Nat → Nat → Bool} {α β : Type}
theorem KRun.bind {f:α → KasT β}{Q:β → Prop} : ∀ (t:KasT α), KRun n c t (fun a => KRun n c (f a) Q) → KRun n c (t.bind f) Q
 | .ret _, h => h
 | .ask _ _ k, h => ⟨h.1, h.2.1, KRun.bind (k _) h.2.2⟩
theorem KRun.wp {cmp:Nat → Nat → (Bool → Shared → Prop) → Shared → Prop}{Q:α → Prop}{s:Shared}(hc:∀ i j (C:Bool → Shared → Prop), i < n → j < n → C (c i j) s → cmp i j C s) :
  ∀ (t : KasT α), KRun n c t Q → t.kasWp cmp (fun a s' => s' = s ∧ Q a) s
 | .ret a, h => ⟨rfl, h⟩
 | .ask i j k, h => hc i j _ h.1 h.2.1 (KRun.wp hc (k _) h.2.2)
end
section
variable {n : Nat} {r : Nat → Int}
noncomputable def Rk (r:Nat → Int)(p:Array Nat)(i:Nat) : Int := r (p.getD i 0)
structure Pm (n : Nat) (p : Array Nat) : Prop where
 perm : p.Perm (List.range n).toArray
theorem Pm.size {p:Array Nat}(h:Pm n p) : p.size = n := by rw [h.perm.size_eq]; simp
theorem Pm.get {p:Array Nat}(h:Pm n p){i:Nat}(hi:i < n) : p.getD i 0 = p[i]'(by rw [h.size]; exact hi) := by simp [Array.getD, h.size, hi]
theorem Pm.lt {p:Array Nat}(h:Pm n p){i:Nat}(hi:i < n) : p.getD i 0 < n := by
 rw [h.get hi]
 have hm : p[i]'(by rw [h.size]; exact hi) ∈ (List.range n).toArray.toList := (Array.perm_iff_toList_perm.mp h.perm).mem_iff.mp (by simp)
 simpa using hm
theorem Pm.inj {p:Array Nat}(h:Pm n p){i j:Nat}(hi:i < n)(hj:j < n)(e:p.getD i 0 = p.getD j 0) : i = j := by
 have nd : p.toList.Nodup := (Array.perm_iff_toList_perm.mp h.perm).nodup_iff.mpr (by simpa using List.nodup_range)
 rw [h.get hi, h.get hj] at e
 have hi' : i < p.toList.length := by rw [Array.length_toList, h.size]; exact hi
 have hj' : j < p.toList.length := by rw [Array.length_toList, h.size]; exact hj
 exact (List.getElem_inj (h₀ := hi') (h₁ := hj') nd).mp (by simpa using e)
theorem Pm.rev {p:Array Nat}(h:Pm n p)(i j:Nat) : Pm n (kas_rev p i j) := ⟨(mirror_perm _ _ _ _).trans h.perm⟩
theorem Pm.bub {p:Array Nat}(h:Pm n p)(i j:Nat) : Pm n (bubble p i j) := ⟨(bubble_perm _ _ _).trans h.perm⟩
theorem Qqq {p q:Array Nat}{i j:Nat}(h:p[i]? = q[j]?) : Rk r p i = Rk r q j := by
 unfold Rk
 rw [Array.getD_eq_getD_getElem?, Array.getD_eq_getD_getElem?, h]
theorem Rk_rev {p:Array Nat}{m:Nat}(hm:m ≤ p.size)(k:Nat) : Rk r (kas_rev p 0 m) k = if k < m then Rk r p (m - 1 - k) else Rk r p k := by
 have e := getElem?_mirror_all (xs := p) (i := 0) hm k
 by_cases h1 : k < m
 ·rw [if_pos ⟨Nat.zero_le _, h1⟩, Nat.zero_add] at e
  rw [if_pos h1]
  exact Qqq e
 ·rw [if_neg (fun q => h1 q.2)] at e
  rw [if_neg h1]
  exact Qqq e
theorem Rk_bub {p:Array Nat}{src d:Nat}(hs:src < p.size)(hd:d ≤ src)(k:Nat) :
  Rk r (bubble p src d) k = if k = src - d then Rk r p src else if src - d < k ∧ k ≤ src then Rk r p (k - 1) else Rk r p k := by
 have e := getElem?_bubble hs d hd k
 by_cases h1 : k = src - d
 ·rw [if_pos h1] at e ⊢; exact Qqq e
 ·rw [if_neg h1] at e ⊢
  by_cases h2 : src - d < k ∧ k ≤ src
  ·rw [if_pos h2] at e ⊢; exact Qqq e
  ·rw [if_neg h2] at e ⊢; exact Qqq e
noncomputable def Up (r:Nat → Int)(p:Array Nat)(m:Nat) : Prop := ∀ i j, i < j → j < m → Rk r p i < Rk r p j
noncomputable def Dn (r:Nat → Int)(p:Array Nat)(m:Nat) : Prop := ∀ i j, i < j → j < m → Rk r p j < Rk r p i
structure Ranks (n : Nat) (c : Nat → Nat → Bool) (r : Nat → Int) : Prop where
 cmp : ∀ i j, i < n → j < n → c i j = decide (r i < r j)
 inj : ∀ i j, i < n → j < n → r i = r j → i = j
variable {c : Nat → Nat → Bool}
theorem Ranks.ne {p:Array Nat}(R:Ranks n c r)(h:Pm n p){i j:Nat}(hi:i < n)(hj:j < n)(hij:i ≠ j) : Rk r p i ≠ Rk r p j := fun e => hij (h.inj hi hj (R.inj _ _ (h.lt hi) (h.lt hj) e))
theorem Ranks.at {p:Array Nat}(R:Ranks n c r)(h:Pm n p){i j:Nat}(hi:i < n)(hj:j < n) : c (p.getD i 0) (p.getD j 0) = decide (Rk r p i < Rk r p j) := R.cmp _ _ (h.lt hi) (h.lt hj)
theorem Up.succ {p:Array Nat}{m:Nat}(h:Up r p m)(h1:1 ≤ m)(hl:Rk r p (m - 1) < Rk r p m) : Up r p (m + 1) := fun i j hij hj => by
 by_cases hjm : j < m
 ·exact h i j hij hjm
 ·have : j = m := by lia
  subst this
  by_cases hi : i = j - 1
  ·subst hi; exact hl
  ·exact Int.lt_trans (h i (j - 1) (by lia) (by lia)) hl
theorem Dn.succ {p:Array Nat}{m:Nat}(h:Dn r p m)(h1:1 ≤ m)(hl:Rk r p m < Rk r p (m - 1)) : Dn r p (m + 1) := fun i j hij hj => by
 by_cases hjm : j < m
 ·exact h i j hij hjm
 ·have : j = m := by lia
  subst this
  by_cases hi : i = j - 1
  ·subst hi; exact hl
  ·exact Int.lt_trans hl (h i (j - 1) (by lia) (by lia))
theorem run_asc {p:Array Nat}(R:Ranks n c r)(h:Pm n p) : ∀ (f m:Nat)(Q:Nat → Prop), 1 ≤ m → m + f ≤ n → Up r p m → (∀ k, m ≤ k → k ≤ m + f → Up r p k → (k = m + f ∨ Rk r p k < Rk r p (k - 1)) → Q k) → KRun n c (kas_asc p f m) Q
 | 0, m, Q, h1, hn, hu, hq => hq m (Nat.le_refl _) (Nat.le_refl _) hu (.inl rfl)
 | f + 1, m, Q, h1, hn, hu, hq => by
  refine ⟨h.lt (by lia), h.lt (by lia), ?_⟩
  rw [R.at h (by lia) (by lia)]
  by_cases hl : Rk r p m < Rk r p (m - 1)
  ·rw [decide_eq_true hl]; dsimp only; rw [if_pos rfl]
   exact hq m (Nat.le_refl _) (by lia) hu (.inr hl)
  ·rw [decide_eq_false hl]; dsimp only; rw [if_neg (by decide)]
   have hne := R.ne h (i := m) (j := m - 1) (by lia) (by lia) (by lia)
   exact run_asc R h f (m + 1) Q (by lia) (by lia) (hu.succ h1 (by lia)) fun k h1' h2' h3' h4' => hq k (by lia) (by lia) h3' (h4'.imp_left (by lia))
theorem run_desc {p:Array Nat}(R:Ranks n c r)(h:Pm n p) : ∀ (f m:Nat)(Q:Array Nat × Nat × Nat → Prop), 1 ≤ m → m + f ≤ n → Dn r p m → (∀ k, m ≤ k → k ≤ m + f → Dn r p k → Q (p, k, 0)) → KRun n c (kas_desc f p m 0) Q
 | 0, m, Q, h1, hn, hu, hq => hq m (Nat.le_refl _) (Nat.le_refl _) hu
 | f + 1, m, Q, h1, hn, hu, hq => by
  refine ⟨h.lt (by lia), h.lt (by lia), ?_⟩
  rw [R.at h (by lia) (by lia)]
  by_cases hl : Rk r p m < Rk r p (m - 1)
  ·rw [decide_eq_true hl]; dsimp only; rw [if_pos rfl, if_neg (by decide)]
   exact run_desc R h f (m + 1) Q (by lia) (by lia) (hu.succ h1 hl) fun k h1' h2' h3' => hq k (by lia) (by lia) h3'
  ·rw [decide_eq_false hl]; dsimp only; rw [if_neg (by decide)]
   refine ⟨h.lt (by lia), h.lt (by lia), ?_⟩
   have hne := R.ne h (i := m) (j := m - 1) (by lia) (by lia) (by lia)
   rw [R.at h (by lia) (by lia), decide_eq_true (by lia : Rk r p (m - 1) < Rk r p m)]; dsimp only; rw [if_pos rfl]
   exact hq m (Nat.le_refl _) (by lia) hu
theorem run_tail3 {p:Array Nat}(R:Ranks n c r)(h:Pm n p){m:Nat}{Q:Nat × Array Nat → Prop}(h1:1 ≤ m)(hm:m ≤ n)(hd:Dn r p m)(hq:∀ k p', Pm n p' → 1 ≤ k → k ≤ n → Up r p' k → Q (k, p')) : KRun n c (kas_tail3 m n p) Q := by
 refine KRun.bind _ (run_asc R (h.rev 0 m) (n - m) m _ h1 (Nat.le_of_eq (Nat.add_sub_cancel' hm)) (fun i j hij hj => ?_) fun k h1' h2' h3' ζ => hq k _ (h.rev 0 m) (Nat.le_trans h1 h1') (Nat.le_trans h2' (Nat.le_of_eq (Nat.add_sub_cancel' hm))) h3')
 have hs : m ≤ p.size := by rw [h.size]; exact hm
 rw [Rk_rev hs, Rk_rev hs, if_pos (Nat.lt_trans hij hj), if_pos hj]
 exact hd _ _ (Nat.sub_lt_sub_left (Nat.lt_of_lt_of_le hij (Nat.le_pred_of_lt hj)) hij) (Nat.lt_of_le_of_lt (Nat.sub_le _ _) (Nat.sub_lt h1 Nat.one_pos))
theorem QEc {p:Array Nat}(R:Ranks n c r)(h:Pm n p){m:Nat}{Q:Nat × Array Nat → Prop}(hm:m + 1 ≤ n)(hd:Dn r p (m + 1))(hq:∀ k p', Pm n p' → 1 ≤ k → k ≤ n → Up r p' k → Q (k, p')) : KRun n c (kas_descPart m n p) Q := by
 refine KRun.bind _ (run_desc R h (n - (m + 1)) (m + 1) _ (Nat.succ_le_succ (Nat.zero_le _)) (Nat.le_of_eq (Nat.add_sub_cancel' hm)) hd fun k h1 h2 h3 => ?_)
 show KRun n c (if 0 > 0 then _ else _) Q
 rw [if_neg (by decide)]
 exact run_tail3 (m := k) R h (Nat.le_trans (Nat.succ_le_succ (Nat.zero_le _)) h1) (Nat.le_trans h2 (Nat.le_of_eq (Nat.add_sub_cancel' hm))) h3 hq
theorem run_count {p:Array Nat}(R:Ranks n c r)(h:Pm n p){Q:Nat × Array Nat → Prop}(h1:1 ≤ n)(hq:∀ k p', Pm n p' → 1 ≤ k → k ≤ n → Up r p' k → Q (k, p')) : KRun n c (kas_count n p) Q := by
 refine KRun.bind _ (run_asc R h (n - 1) 1 _ (Nat.le_refl _) (by lia) (fun i j hij hj => by lia) fun k h1' h2' h3' h4' => ?_)
 by_cases hk : k = n
 ·rw [if_pos (by simpa using hk)]
  exact hq k p h (by lia) (by lia) h3'
 ·rw [if_neg (by simpa using hk)]
  have hl := h4'.resolve_left (by lia)
  by_cases hg : k > 1
  ·rw [if_pos hg]
   refine ⟨h.lt (by lia), h.lt (by lia), ?_⟩
   rw [R.at h (by lia) (by lia), decide_eq_true (h3' 0 (k - 1) (by lia) (by lia))]; dsimp only; rw [if_pos rfl]
   exact hq k p h (by lia) (by lia) h3'
  ·rw [if_neg hg]
   have : k = 1 := by lia
   subst this
   refine QEc R h (by lia) (fun i j hij hj => ?_) hq
   have hi : i = 0 := by lia
   have hj : j = 1 := by lia
   subst hi; subst hj
   exact hl
theorem Qtc {p:Array Nat}(R:Ranks n c r)(h:Pm n p){k:Nat}(hk:k < n)(hu:Up r p k) : ∀ (f l t:Nat)(Q:Nat → Prop), l ≤ t → t ≤ k → t - l ≤ f → (∀ i, i < l → Rk r p i < Rk r p k) → (∀ i, t ≤ i → i < k → Rk r p k < Rk r p i) →
  (∀ l, l ≤ k → (∀ i, i < l → Rk r p i < Rk r p k) → (∀ i, l ≤ i → i < k → Rk r p k < Rk r p i) → Q l) → KRun n c (kas_place p k f l t) Q
 | 0, l, t, Q, hlt, htk, hf, hlo, hhi, hq => hq l (Nat.le_trans hlt htk) hlo fun i h1 h2 => hhi i (Nat.le_trans (Nat.le_of_sub_eq_zero (Nat.le_zero.mp hf)) h1) h2
 | f + 1, l, t, Q, hlt, htk, hf, hlo, hhi, hq => by
  unfold kas_place
  by_cases hge : l ≥ t
  ·rw [if_pos hge]; exact hq l (Nat.le_trans hlt htk) hlo fun i h1 h2 => hhi i (Nat.le_trans hge h1) h2
  ·rw [if_neg hge]
   have hl' : l < t := Nat.lt_of_not_le hge
   have hm1 : (l + t) / 2 < t := (Nat.div_lt_iff_lt_mul Nat.two_pos).mpr (by rw [Nat.mul_two]; exact Nat.add_lt_add_right hl' t)
   have hm0 : l ≤ (l + t) / 2 := (Nat.le_div_iff_mul_le Nat.two_pos).mpr (by rw [Nat.mul_two]; exact Nat.add_le_add_left hlt l)
   have hm := Nat.lt_of_lt_of_le hm1 htk
   refine ⟨h.lt hk, h.lt (Nat.lt_trans hm hk), ?_⟩
   rw [R.at h hk (Nat.lt_trans hm hk)]
   by_cases hl : Rk r p k < Rk r p ((l + t) / 2)
   ·rw [decide_eq_true hl]; dsimp only; rw [if_pos rfl]
    refine Qtc R h hk hu f l ((l + t) / 2) Q hm0 (Nat.le_of_lt hm) (Nat.le_of_lt_succ (Nat.lt_of_lt_of_le (Nat.sub_lt_sub_right hm0 hm1) hf)) hlo (fun i h1 h2 => ?_) hq
    by_cases hi : i = (l + t) / 2
    ·subst hi; exact hl
    ·exact Int.lt_trans hl (hu _ _ (Nat.lt_of_le_of_ne h1 (Ne.symm hi)) h2)
   ·rw [decide_eq_false hl]; dsimp only; rw [if_neg (by decide)]
    have hne := R.ne h (i := (l + t) / 2) (j := k) (Nat.lt_trans hm hk) hk (Nat.ne_of_lt hm)
    refine Qtc R h hk hu f ((l + t) / 2 + 1) t Q hm1 htk (Nat.le_trans (Nat.sub_le_sub_left (Nat.succ_le_succ hm0) t) (Nat.pred_le_pred hf)) (fun i h1 => ?_) hhi hq
    by_cases hi : i = (l + t) / 2
    ·subst hi; exact Int.lt_iff_le_and_ne.mpr ⟨Int.not_lt.mp hl, hne⟩
    ·exact Int.lt_of_lt_of_le (hu i ((l + t) / 2) (Nat.lt_of_le_of_ne (Nat.le_of_lt_succ h1) hi) hm) (Int.not_lt.mp hl)
theorem run_bin (R:Ranks n c r) : ∀ (f:Nat)(p:Array Nat)(k:Nat)(Q:Array Nat → Prop), Pm n p → 1 ≤ k → k + f = n → Up r p k → (∀ p', Pm n p' → Up r p' n → Q p') → KRun n c (kas_bin f p k) Q
  | 0, p, k, Q, h, h1, hf, hu, hq => hq p h (by have : k = n := by lia
                                                subst this; exact hu)
  | f + 1, p, k, Q, h, h1, hf, hu, hq => by
    have hk : k < n := hf ▸ Nat.lt_add_of_pos_right (Nat.succ_pos f)
    refine KRun.bind _ (Qtc R h hk hu k 0 k _ (Nat.zero_le _) (Nat.le_refl _) (Nat.sub_le _ _) (fun i hi => absurd hi (Nat.not_lt_zero _)) (fun i h1 h2 => absurd h2 (Nat.not_lt.mpr h1)) fun l hlk hlo hhi => ?_)
    refine run_bin R f _ (k + 1) Q (h.bub _ _) (Nat.succ_le_succ (Nat.zero_le _)) ((Nat.succ_add k f).trans hf) (fun i j hij hj => ?_) hq
    have hs : k < p.size := by rw [h.size]; exact hk
    rw [Rk_bub hs (Nat.sub_le _ _), Rk_bub hs (Nat.sub_le _ _), Nat.sub_sub_self hlk]
    repeat' split
    all_goals first
      | (exfalso; lia)
      | exact hlo _ (by lia)
      | exact hhi _ (by lia) (by lia)
      | exact hu _ _ (by lia) (by lia)
theorem run_sort (R:Ranks n c r)(h2:2 ≤ n) : KRun n c (kas_sort n) (fun p => Pm n p ∧ Up r p n) := by
 refine KRun.bind _ (run_count R ⟨Array.Perm.refl _⟩ (by lia) fun k p hp h1 hk hu => ?_)
 dsimp only
 by_cases hlt : k < n
 ·rw [if_pos hlt]
  have : max k 1 = k := by lia
  rw [this]
  exact run_bin R _ p k _ hp h1 (by lia) hu fun p' h' hu' => ⟨h', hu'⟩
 ·rw [if_neg hlt]
  have : k = n := by lia
  subst this
  exact ⟨hp, hu⟩
end
end Mine
namespace Mine
open PySem PySem.Spec PySem.Calls PyProof.Rows PySem.W
noncomputable def ltK : PyData → PyData → Bool
 | .str x, .str y => decide (x.cps.toList < y.cps.toList)
 | .list xs, .list ys => ltL xs ys
 | _, _ => false
noncomputable def keyOk : PyData → PyData → Prop
 | .str _, .str _ => True
 | .list xs, .list ys => Qfb xs ys
 | _, _ => False
noncomputable def keyTy : PyData → String
 | .str _ => "str"
 | .list _ => "list"
 | _ => ""
section
variable {prog : Program} {w : World} {A : Around} {E : Value → Shared → Prop} {s : Shared}
theorem key_lt {X:Addr → Prop}{a b:PyData}{x y:Value}{C:Bool → Shared → Prop}(hk:keyOk a b)(hu:A.units + 2 < cLine)(hx:Rd X s.heap a x)(hy:Rd X s.heap b y)(h:C (ltK a b) s) : wpAny (model prog w) A (keyLt' oneType' x y) C E s := by
 cases a with
 | str u =>
  cases b with
  | str v =>
   refine eE (hx.str_inv) fun t ρ0 => ?_
   subst ρ0
   refine eE (hy.str_inv) fun t' ρ1 => ?_
   subst ρ1
   exact kas_lt_str h
  | _ => exact hk.elim
 | list us =>
  cases b with
  | list vs =>
   refine Qck (hx.list_inv) fun a is ρ2 hxa ν3 hr => ?_
   subst ρ2
   obtain ⟨⟨cls, dd, data, sl⟩, ho, hc, n, hd⟩ := ν3
   refine Qck (hy.list_inv) fun b js ρ4 hxb ν5 hr2 => ?_
   subst ρ4
   obtain ⟨⟨cls2, dd2, data2, sl2⟩, ho2, hc2, n2, hd2⟩ := ν5
   simp only at hc hd hc2 hd2
   subst hc hd hc2 hd2
   rw [keyLt'_oneType, oneLt'_eq]
   rw [if_pos rfl]
   refine wpAny_bind (wpAny_cRoomFor (by lia) ?_)
   refine wpAny_bind (wpAny_callSpecialIfBound?_slot ⟨_, ho, rfl⟩ PySem.F.slot_list_lt (call_meets PySem.F.slot_list_lt ⟨_, ho, rfl⟩ PySem.F.entry_list_lt (PySem.F.args_list_lt_2 _ _) (list_lt (X := X) a b is js n n2 dd dd2 sl sl2 us vs hk) ⟨ho, ho2, hr, hr2, ?_, ?_⟩))
   ·lia
   ·exact wpAny_truthy_bool h
  | _ => exact hk.elim
 | _ => exact hk.elim
theorem key_look {M:Model}{X:Addr → Prop}{h:Heap}{a:PyData}{v:Value}{ty:String}(hty:ty = "str" ∨ ty = "list")(ha:keyTy a = ty)(hv:Rd X h a v) : Looks M h (typeOf v) (.type ty) := by
 subst ha
 cases a with
 | str u => obtain ⟨t, rfl⟩ := hv.str_inv; exact Looks.of_pure rfl
 | list us =>
  refine Qck (hv.list_inv) fun a is ρ6 hxa ν7 hr => ?_
  subst ρ6
  refine Qpj (ν7) fun o ho hc ζ => ?_
  show Looks M h (typeOf (.ref a)) (.type "list")
  rw [← hc]
  exact (Looks.ld ho).andThen .now
 | _ => exact hty.elim (fun h => absurd (show "" = "str" from h) (by decide)) fun h => absurd (show "" = "list" from h) (by decide)
theorem Qqv {X:Addr → Prop}{h:Heap} : ∀ {ds:List PyData}{vs:List Value}, RdAll X h ds vs → ∀ i, i < ds.length → Rd X h (ds.getD i .none) (vs.getD i .none) := fun {ds vs} r i hi => by
 refine eEA (r.get i ds[i] (List.getElem?_eq_getElem hi)) fun v e q => ?_
 have e1 : ds.getD i .none = ds[i] := by simp [List.getD, hi]
 have e2 : vs.getD i .none = v := by simp [List.getD, e]
 rw [e1, e2]; exact q
theorem Qyx {X:Addr → Prop}{h:Heap}{ds:List PyData}{vs:List Value}(r:RdAll X h ds vs) : ∀ (l:List Nat), (∀ i ∈ l, i < ds.length) → RdAll X h (l.map fun i => ds.getD i .none) (l.map fun i => vs.getD i .none)
 | [], _ => .nil
 | i :: l, hl => .cons (Qqv r i (hl i (.head _))) (Qyx r l fun j hj => hl j (.tail _ hj))
theorem QEq {h:Heap}{a:Addr}{xs:Array Value}{n:Nat}(ho:h.get? a = some (seqObj "list" xs n))(out:Array Value) : ∃ c, (h.update a (Obj.mapSeq fun ζ => out)).get? a = some (seqObj "list" out c) := ⟨_, get?_update_seq ho fun ζ => out⟩
structure SortOk (xs ks ys : List PyData) : Prop where
 len : ks.length = xs.length
 two : 2 ≤ xs.length
 few : xs.length < 64
 ok : ∀ a ∈ ks, ∀ b ∈ ks, keyOk a b
 ty : ∃ t, (t = "str" ∨ t = "list") ∧ ∀ a ∈ ks, keyTy a = t
 ranks : ∃ r, Ranks xs.length (fun i j => ltK (ks.getD i .none) (ks.getD j .none)) r ∧ ∀ p, Pm xs.length p → Up r p xs.length → (p.toList.map fun i => xs.getD i .none) = ys
theorem sort_end {T:Hp}{m:Nat}(ok:OkA A m){xs ks ys:List PyData}(S:SortOk xs ks ys){s₀:Shared}{vs keys:Array Value}{a kS:Addr}{e e1:Nat}{P:PySem.Fin → Shared → Prop}
  (kp : Kp s₀.heap s.heap) (ha : s.heap.get? a = some (seqObj "list" #[] e1)) (hkS : s.heap.get? kS = some (seqObj "list" keys e)) (han : ¬ Qaa s₀.heap a) (hkn : ¬ Qaa s₀.heap kS) (hka : kS ≠ a)
  (hx : RdAll T.X s.heap xs vs.toList) (hk : RdAll T.X s.heap ks keys.toList)
  (h : ∀ h' out c, Kp s₀.heap h' → h'.get? a = some (seqObj "list" out c) → RdAll T.X s.heap ys out.toList → (∀ b o, b ≠ a → b ≠ kS → s.heap.get? b = some o → h'.get? b = some o) → P (.done (.ret .none)) { s with heap := h' }) :
  wpAny (model prog w) A (ksk_end a false vs e1 (.ref kS) keys) P E s := by
 refine eEA (S.ty) fun t ht hty => ?_
 refine eEA (S.ranks) fun r R hys => ?_
 have hlv : vs.toList.length = xs.length := hx.length
 have hlk : keys.toList.length = xs.length := hk.length.trans S.len
 have hvs : vs.size = xs.length := by simpa using hlv
 have hks : keys.size = xs.length := by simpa using hlk
 unfold ksk_end
 simp only [Bool.false_eq_true, if_false]
 have h2 := S.two
 rw [if_neg (by lia), if_neg (by lia)]
 have e0 : keys = keys.toList.toArray := by simp
 have ev : vs = vs.toList.toArray := by simp
 rw [e0]
 refine wpAny_bind (kas_kind (T := .type t) (by rw [hlk]; exact h2) (fun v hv => ?_) ?_ ?_ ?_)
 ·refine eE (List.getElem?_of_mem hv) fun i hi => ?_
  have hi' : i < ks.length := by
   have := (List.getElem?_eq_some_iff.mp hi).1
   have := S.len
   lia
  refine eEA (hk.get i _ (List.getElem?_eq_getElem hi')) fun v' e' q => ?_
  rw [hi] at e'; cases e'
  exact key_look ht (hty _ (List.getElem_mem hi')) q
 ·rcases ht with rfl | rfl <;> decide
 ·rcases ht with rfl | rfl <;> decide
 refine wpAny_bind ?_
 rw [ev]
 refine wpAny_mono (kat_run (κ := oneType') (ks := keys.toList) (vs := vs.toList) (Q := fun st' s' => s' = s ∧ failedOf st' = none ∧ ∃ p, Pm xs.length p ∧ Up r p xs.length ∧ (arrOf st').map (·.2) = List.toArray (p.toList.map fun i => vs.toList.getD i Value.none)) (G := fun p s' => s' = s ∧ Pm xs.length p ∧ Up r p xs.length) (by rw [hlk, hlv]) (by rw [hlv]; exact h2) (by rw [hlv]; exact S.few) (fun p st' s' a1 a2 a3 a4 => ⟨a4.1, a3, p, a4.2.1, a4.2.2, kat_snds (by rw [hlk, hlv]) a2⟩) ?_) ?_ fun ζ ζ x => x
 ·rw [hlv]
  refine KRun.wp (n := xs.length) (c := fun i j => ltK (ks.getD i .none) (ks.getD j .none)) (fun i j C hi hj hc => ?_) _ (run_sort R h2)
  unfold kas_ask
  have hi' : i < ks.length := by rw [S.len]; exact hi
  have hj' : j < ks.length := by rw [S.len]; exact hj
  have gi : ks.getD i .none ∈ ks := by
   have : ks.getD i .none = ks[i] := by simp [List.getD, hi']
   rw [this]; exact List.getElem_mem _
  have gj : ks.getD j .none ∈ ks := by
   have : ks.getD j .none = ks[j] := by simp [List.getD, hj']
   rw [this]; exact List.getElem_mem _
  exact key_lt (S.ok _ gi _ gj) (ok.cl (Nat.le_of_ble_eq_true rfl)) (Qqv hk i hi') (Qqv hk j hj') hc
 ·intro κ0 s' κ1
  obtain ⟨⟨⟩, st'⟩ := κ0
  obtain ⟨rfl, hf, p, hp, hu, har⟩ := κ1
  dsimp only
  unfold ksk_tail
  have hos : ((arrOf st').map (·.2)).size = xs.length := by rw [har]; simp [hp.size]
  have s1 := Heap.SameBut.update s'.heap kS (Obj.mapSeq fun ζ => (#[] : Array Value))
  have na1 : (s'.heap.update kS (Obj.mapSeq fun ζ => (#[] : Array Value))).get? a = some (seqObj "list" #[] e1) := (s1.2 a hka.symm).trans ha
  have s2 := Heap.SameBut.update (s'.heap.update kS (Obj.mapSeq fun ζ => (#[] : Array Value))) a (Obj.mapSeq fun ζ => (arrOf st').map (·.2))
  have hfew := S.few
  generalize hO : (arrOf st').map (·.2) = out at *
  refine eE (QEq na1 out) fun c2 hc2 => ?_
  refine wpAny_bind (listUpdate_at hkS rfl ?_ (by rw [hks, sizeLine_eq]; lia) (Nat.zero_le _))
  refine wpAny_bind (wpAny_letGo ?_)
  refine wpAny_bind (seqEpoch_at na1 rfl ?_)
  refine wpAny_bind (listUpdate_at na1 rfl ?_ (Nat.zero_le _) (by simp only [Bool.false_eq_true, if_false]; rw [hos, sizeLine_eq]; lia))
  rw [hf]
  simp only [bne_self_eq_false, Bool.false_eq_true, if_false]
  have keep : ∀ b o, b ≠ a → b ≠ kS → s'.heap.get? b = some o → ((s'.heap.update kS (Obj.mapSeq fun ζ => (#[] : Array Value))).update a (Obj.mapSeq fun ζ => out)).get? b = some o := fun b o hb hb' q => (s2.2 b hb).trans ((s1.2 b hb').trans q)
  refine wpAny_pure (h _ out c2 (fun b o q => keep b o (fun z => han (z ▸ ⟨o, q⟩)) (fun z => hkn (z ▸ ⟨o, q⟩)) (kp b o q)) hc2 ?_ keep)
  rw [har, List.toList_toArray, ← hys p hp hu]
  exact Qyx hx _ fun i hi => by
   obtain ⟨j, hj, e⟩ := List.getElem_of_mem hi
   have := hp.lt (i := j) (by rw [← hp.size]; simpa using hj)
   rw [hp.get (by rw [← hp.size]; simpa using hj)] at this
   rw [← e]; simpa using this
end
end Mine
namespace Mine
open PySem PySem.Spec PySem.Calls PyProof.Rows PySem.W
section
variable {prog : Program} {w : World} {A : Around} {E : Value → Shared → Prop} {s : Shared}
theorem upd_push {h:Heap}{a:Addr}{xs:Array Value}{n:Nat}(v:Value)(ho:h.get? a = some (seqObj "list" xs n)) : ∃ c, (h.update a (Obj.mapSeq (·.push v))).get? a = some (seqObj "list" (xs.push v) c) := ⟨_, get?_update_seq ho (·.push v)⟩
theorem sort_rest {T:Hp}{m:Nat}(ok:OkA A m){xs ks ys:List PyData}(S:SortOk xs ks ys){f:Value}(hf:∀ (T':Hp)(i:Nat)(x k:PyData), T'.le T → xs[i]? = some x → ks[i]? = some k → Fn prog w T' A f [.d x] (.d k)){s₀:Shared}{vs:Array Value}{a kS:Addr}{e1:Nat}{P:PySem.Fin → Shared → Prop}
  (ht : T.p s₀.heap) (kp : Kp s₀.heap s.heap) (ha : s.heap.get? a = some (seqObj "list" #[] e1)) (hkS : s.heap.get? kS = some (seqObj "list" #[] 0)) (han : ¬ Qaa s₀.heap a) (hkn : ¬ Qaa s₀.heap kS) (hka : kS ≠ a)
  (hx : RdAll T.X s₀.heap xs vs.toList)
  (h : ∀ h' tk out c, Kp s₀.heap h' → h'.get? a = some (seqObj "list" out c) → RdAll T.X h' ys out.toList → P (.done (.ret .none)) { s with heap := h', toks := tk }) :
  wpAny (model prog w) A (ksk_rest a f false vs e1 (.ref kS)) P E s := by
 let Y : Addr → Prop := fun b => b = a ∨ b = kS
 have hYn : ∀ b, Y b → ¬ Qaa s₀.heap b := fun b hb => hb.elim (fun q => q ▸ han) fun q => q ▸ hkn
 have hle := Hp.push_le T Y
 have hlv : vs.toList.length = xs.length := hx.length
 have hfew := S.few
 have hlen := S.len
 have hpp : ∀ h' : Heap, Kp s₀.heap h' → (∀ b, Y b → Qaa h' b) → (T.push Y).p h' := fun h' k l => Hp.push_p ht hYn k.kpx l
 unfold ksk_rest
 refine wpAny_bind (wpAny_rule ?_)
 rw [← Array.forIn_toList]
 refine wpAny_bind (ksk_fold (fun i s' => ∃ h' tk kA e, s' = { s with heap := h', toks := tk } ∧ Kp s₀.heap h' ∧ h'.get? a = some (seqObj "list" #[] e1) ∧ h'.get? kS = some (seqObj "list" kA e) ∧ RdAll (T.push Y).X h' (ks.take i) kA.toList) vs.toList 0 s
  ⟨s.heap, s.toks, #[], 0, rfl, kp, ha, hkS, by simpa using RdAll.nil⟩ ?step ?done)
 case step =>
  intro j x s' hx' κ0
  obtain ⟨h', tk, kA, e, rfl, kp', ha', hk', hr'⟩ := κ0
  simp only [Nat.zero_add] at hr' ⊢
  have hj : j < xs.length := by have := (List.getElem?_eq_some_iff.mp hx').1; lia
  have hjk : j < ks.length := by lia
  refine eEA (hx.get j _ (List.getElem?_eq_getElem hj)) fun v ev rv => ?_
  rw [hx'] at ev; cases ev
  have hz : kA.size = j := by
   have := hr'.length
   rw [List.length_take] at this
   simp at this; lia
  have hp' := hpp h' kp' fun b hb => hb.elim (fun q => q ▸ ⟨_, ha'⟩) fun q => q ▸ ⟨_, hk'⟩
  refine wpAny_bind (wpAny_attempt (wpAny_mono ((hf (T.push Y) j _ _ hle (List.getElem?_eq_getElem hj) (List.getElem?_eq_getElem hjk)).of (fun ζ ζ => False) { s with heap := h', toks := tk } [x] hp' ⟨x, [], rfl, Rd.to rv kp'.kpx (fun b hb => hb.imp_right (hYn b)), rfl⟩) (fun k s'' q => ?_) fun ζ ζ hF => hF.elim))
  refine eA (q) fun rk k2 => ?_
  refine Qfw (k2.of) fun h2 tk2 ρ0 kp2 => ?_
  subst ρ0
  dsimp only
  have ha2 := kp2 _ _ ha'
  have hk2 := kp2 _ _ hk'
  refine eE (upd_push k hk2) fun c2 hc2 => ?_
  have s1 := Heap.SameBut.update h2 kS (Obj.mapSeq (·.push k))
  have x1 : KpX (T.push Y).X h2 (h2.update kS (Obj.mapSeq (·.push k))) := KpX.sameBut (.inr (.inr rfl)) ⟨_, hc2⟩ s1
  refine wpAny_bind (listUpdate_at hk2 rfl ?_ (by rw [sizeLine_eq]; lia) (Nat.le_trans (Nat.le_of_eq (Array.size_push ..)) (by rw [sizeLine_eq]; lia)))
  refine wpAny_pure ⟨rfl, _, _, kA.push k, c2, rfl, fun b o q => (s1.2 b fun z => hkn (z ▸ ⟨o, q⟩)).trans (kp2 _ _ (kp' b o q)), (s1.2 a hka.symm).trans ha2, hc2, ?_⟩
  have e : ks.take (j + 1) = ks.take j ++ [ks[j]] := by rw [List.take_succ_eq_append_getElem hjk]
  rw [e]
  have r1 := (hr'.kp (Kp.kpx (h := h') kp2)).kp x1
  have r2 : Rd (T.push Y).X _ _ k := Rd.kp rk x1
  simpa using r1.snoc r2
 case done =>
  intro s' κ1
  obtain ⟨h', tk, kA, e, rfl, kp', ha', hk', hr'⟩ := κ1
  have et : ks.take (0 + vs.toList.length) = ks := List.take_of_length_le (by lia)
  rw [et] at hr'
  refine wpAny_bind (listItems_at hk' rfl ?_)
  refine sort_end (T := T.push Y) (s₀ := s₀) ok S kp' ha' hk' han hkn hka (hx.to kp'.kpx fun b hb => hb.imp_right (hYn b)) hr' fun h3 out c kp3 ha3 hr3 keep => ?_
  refine h h3 tk out c kp3 ha3 ?_
  exact RdAll.map (fun b o hb q => ⟨fun z => hb (.inl z), keep b o (fun z => hb (.inr (.inl z))) (fun z => hb (.inr (.inr z))) q⟩) _ _ hr3
theorem Qsj {T:Hp}{m:Nat}(ok:OkA A (m + 2)){xs ks ys:List PyData}(S:SortOk xs ks ys){q:Addr}(hf:∀ (T':Hp)(A':Around)(i:Nat)(x k:PyData), T'.le T → OkA A' m → xs[i]? = some x → ks[i]? = some k → Fn prog w T' A' (.ref q) [.d x] (.d k)){v:Value}
  (ht : T.p s.heap) (hv : (Dv.d (.list xs)).p T.X s.heap v) : wpAny (model prog w) A (call (.builtin "sorted") [v] [(Str.ofString "key", .ref q)]) (fun r s' => (Dv.pl ys).p T.X s'.heap r ∧ Kt s s') E s := by
 refine Qck (hv.list_inv) fun l vs ρ1 hx hl hr => ?_
 subst ρ1
 have hlv : vs.toList.length = xs.length := hr.length
 have hvs : vs.size = xs.length := by simpa using hlv
 have hfew := S.few
 have hl' : s.heap.IsList l vs.toList.toArray := by simpa using hl
 refine call_function_entry_kw kind_sorted plain_sorted entry_sorted (ksk_s1 _ _) ?_
 unfold Builtin.«sorted»
 refine wpAny_bind (m := checkCount "sorted" 1 1 _) (wpAny_pure ?_)
 refine wpAny_bind (collect_list hl' ?_ (by rw [hlv, sizeLine_eq]; lia))
 refine wpAny_bind (wpAny_newList ?_ (by rw [hlv, sizeLine_eq]; lia))
 have hsz : ((s.heap.push (seqObj "list" #[] 0)).update s.heap.objs.size (Obj.mapSeq (· ++ vs.toList.toArray))).objs.size = s.heap.objs.size + 1 := by
  rw [Heap.size_update, size_push']
 have k1 : Kp s.heap ((s.heap.push (seqObj "list" #[] 0)).update s.heap.objs.size (Obj.mapSeq (· ++ vs.toList.toArray))) := fun b o e => by
  have hlt : b < s.heap.objs.size := Heap.lt_size e
  rw [Heap.get?_update_ne _ _ _ _ (Nat.ne_of_lt hlt), Heap.get?_push_ne _ _ _ (Nat.ne_of_lt hlt)]
  exact e
 generalize hH : (s.heap.push (seqObj "list" #[] 0)).update s.heap.objs.size (Obj.mapSeq (· ++ vs.toList.toArray)) = H at *
 have hD : (H.push (seqObj "list" vs.toList.toArray 0)).get? (s.heap.objs.size + 1) = some (seqObj "list" vs.toList.toArray 0) := by
  rw [← hsz]; exact Heap.get?_push_size _ rfl
 have hDn : ¬ Qaa s.heap (s.heap.objs.size + 1) := Qax (Nat.le_succ _)
 show wpAny _ _ _ _ _ { s with heap := H.push (seqObj "list" vs.toList.toArray 0) }
 rw [hsz]
 generalize hDa : s.heap.objs.size + 1 = D at *
 have k2 : Kp s.heap (H.push (seqObj "list" vs.toList.toArray 0)) := fun b o e => Heap.get?_push_of_some _ (k1 b o e)
 generalize hH2 : H.push (seqObj "list" vs.toList.toArray 0) = H2 at *
 refine wpAny_bind (wpAny_holding (wpAny_call_entry_kw slot_list_sort ⟨_, hD, rfl⟩ entry_list_sort ?_ (ksk_l1 _ _)))
 rw [ksk_t1]
 unfold ksk_tree
 refine eE (QEq hD #[]) fun e1 ho1 => ?_
 have s1 := Heap.SameBut.update H2 D (Obj.mapSeq fun ζ => (#[] : Array Value))
 have hDlt : D < H2.objs.size := Heap.lt_size hD
 refine wpAny_bind (listItems_at hD rfl ?_)
 refine wpAny_bind (listUpdate_at hD rfl ?_ (by rw [List.size_toArray, hlv, sizeLine_eq]; lia) (Nat.zero_le _))
 refine wpAny_bind (seqEpoch_at ho1 rfl ?_)
 refine wpAny_bind (wpAny_newTuple ?_ (by show vs.toList.length ≤ _; rw [hlv, sizeLine_eq]; lia))
 refine wpAny_bind (wpAny_newList ?_ (Nat.zero_le _))
 refine wpAny_holding ?_
 have hs3 : ((H2.update D (Obj.mapSeq fun ζ => (#[] : Array Value))).push (seqObj "tuple" vs.toList.toArray 0)).objs.size = H2.objs.size + 1 := by rw [size_push', Heap.size_update]
 have k3 : Kp s.heap (((H2.update D (Obj.mapSeq fun ζ => (#[] : Array Value))).push (seqObj "tuple" vs.toList.toArray 0)).push (seqObj "list" #[] 0)) := fun b o e =>
  Heap.get?_push_of_some _ (Heap.get?_push_of_some _ ((s1.2 b fun z => hDn (z ▸ ⟨o, e⟩)).trans (k2 b o e)))
 refine sort_rest (T := T) (s₀ := s) (s := { s with heap := ((H2.update D (Obj.mapSeq fun ζ => (#[] : Array Value))).push (seqObj "tuple" vs.toList.toArray 0)).push (seqObj "list" #[] 0) }) (kS := ((H2.update D (Obj.mapSeq fun ζ => (#[] : Array Value))).push (seqObj "tuple" vs.toList.toArray 0)).objs.size)
  (m := m) ok.in1.in1 S (fun T' i x k hT' hx' hk' => hf T' _ i x k hT' ok.in1.in1 hx' hk') ht k3 (Heap.get?_push_of_some _ (Heap.get?_push_of_some _ ho1)) (Heap.get?_push_size _ rfl) hDn ?_ ?_ ?_ fun h' tk out c kp' ha' hr' => ⟨_, rfl, wpAny_pure ⟨_, rfl, ?_⟩⟩
 ·rw [hs3]; exact fun l => Qax (h := H2) (b := H2.objs.size + 1) (Nat.le_succ _) (eE (l) fun o e => ⟨o, k2 _ _ e⟩)
 ·exact Nat.ne_of_gt (by rw [hs3]; lia)
 ·simpa using hr
 ·exact ⟨⟨D, out, _, rfl, fun z => hDn (T.live _ ht D z), ha', rfl, rfl, ⟨c, rfl⟩, hr'⟩, Kt.mk' s tk kp'⟩
end
end Mine
namespace Mine
open PySem PySem.Spec PySem.Calls PyProof.Rows
structure Bare (prog : Program) (w : World) (A : Around) (I : Addr) (T : Value) (s : Shared) : Prop where
 ty : ∀ (E : Value → Shared → Prop) (Q : Value → Shared → Prop), Q T s → wpAny (model prog w) A (typeOf (.ref I)) Q E s
 len : ∀ (E : Value → Shared → Prop) (Q : Option Value → Shared → Prop), Q none s → wpAny (model prog w) A (specialOf (.ref I) "__len__") Q E s
 hint : ∀ (E : Value → Shared → Prop) (Q : Option Value → Shared → Prop), Q none s → wpAny (model prog w) A (specialOf (.ref I) "__length_hint__") Q E s
section
variable {prog : Program} {w : World} {A : Around} {R : Result → Shared → Prop} {E : Value → Shared → Prop} {s : Shared} {I : Addr} {fp wr : List Addr} {G : Array GenState → Array GenState → Prop} {n : Nat} {P : Nat → Value → Prop} {St : Nat → Shared → Prop}
theorem extend_walk {T:Value}(W:WalksS prog w A.in1 I fp wr G n P St)(hB:∀ s, St 0 s → Bare prog w A.in1 I T s)(hn:n ≤ sizeLine){S:Addr}{c:Nat}(hSf:S ∉ fp)(hSI:S ≠ I)(res:Value)(hst:St 0 s)
  (hS : s.heap.get? S = some { cls := .type "list", dict := none, data := .seq #[] c, slots := #[] }) (hT1 : (T == Value.type "list") = false) (hT2 : (T == Value.type "tuple") = false)
  (hR : ∀ s' acc c', Moved (S :: wr) G s s' → s'.heap.get? S = some { cls := .type "list", dict := none, data := .seq acc c', slots := #[] } → ItemsOf P acc n → R (.ok (.ret res)) s') :
  wpAny (model prog w) A.in1 (Builtin.List.listExtendWith (.ref S) (.ref I) res) (fun fin s' => match fin with | .done f => R (.ok f) s' | .again c' => c'.quiet = true ∧ codeAny (model prog w) A c' R s') (fun e s' => R (.error e) s') s := by
 have hSw : S ∉ wr := fun h => hSf (W.sub _ h)
 unfold Builtin.List.listExtendWith
 refine wpAny_bind ((hB s hst).ty _ _ ?_)
 have h1 : Builtin.List.listSameRef (.ref S) (.ref I) = false := by simp [Builtin.List.listSameRef, hSI]
 simp only [h1, hT1, hT2, Bool.or_false, Bool.false_eq_true, if_false]
 refine wpAny_bind (W.self 0 _ _ _ hst ?_)
 refine wpAny_bind (wpAny_holding ?_)
 unfold Builtin.List.listLengthHint
 refine wpAny_bind ((hB s hst).len _ _ ?_)
 refine wpAny_bind ((hB s hst).hint _ _ ?_)
 refine wpAny_pure ?_
 show wpAny _ A.in1 (rule "list.extend.makes-room" >>= fun ζ => Builtin.List.listTouch (.ref S) >>= fun ζ => again (.builtin "list.extend.loop" ⟨[.ref S, .ref I, res], []⟩)) _ _ _
 refine wpAny_bind (wpAny_rule (wpAny_bind ?_))
 show wpAny _ A.in1 (updateSeq S (·.push .none) >>= fun ζ => updateSeq S (·.pop)) _ _ _
 refine wpAny_bind (wpAny_updateSeq hS rfl ?_)
 have hS2 := Heap.get?_update_self (Obj.mapSeq (·.push Value.none)) hS rfl
 refine wpAny_updateSeq hS2 rfl ?_
 have hS3 := Heap.get?_update_self (Obj.mapSeq (·.pop)) hS2 rfl
 have oth : ∀ b o, b ≠ S → s.heap.get? b = some o → ((s.heap.update S (Obj.mapSeq (·.push Value.none))).update S (Obj.mapSeq (·.pop))).get? b = some o := fun b o hb e =>
  (Heap.get?_update_other _ _ (Ne.symm hb)).trans ((Heap.get?_update_other _ _ (Ne.symm hb)).trans e)
 refine wpAny_pure ⟨plainId_quiet F.plain_extend_loop _, codeAny_extend_loopS W hn S hSf res n 0 _ _ _ rfl (Nat.zero_le _)
  (W.frame 0 s _ s.toks hst (Nat.le_refl _) fun b hb o e => oth b o (fun h => hSf (h ▸ hb)) e) hS3 (ItemsOf.nil P) fun s' acc c' hm hS' hacc => hR s' acc c' (Moved.trans W.gtrans ((Moved.refl W.grefl).then_heap (Nat.le_refl _) fun b o hb e => oth b o (fun h => hb (h ▸ List.mem_cons_self)) e) hm) hS' hacc⟩
theorem QIa {T:Value}{Q:List Value → Shared → Prop}(W:WalksS prog w A.in1 I fp wr G n P St)(hB:∀ s, St 0 s → Bare prog w A.in1 I T s)(hst:St 0 s)(hfp:∀ b ∈ fp, b < s.heap.objs.size)(hI:I ∈ fp)(hT1:(T == Value.type "list") = false)(hT2:(T == Value.type "tuple") = false)
  (hQ : ∀ s' acc, Moved wr G s s' → ItemsOf P acc n → Q acc.toList s') (hn : n ≤ sizeLine) : wpAny (model prog w) A (collect (.ref I)) Q E s := by
 have hSf : s.heap.objs.size ∉ fp := fun hm => Nat.lt_irrefl _ (hfp _ hm)
 unfold collect
 refine wpAny_bind (wpAny_runValue (codeAny_builtin F.entry_proto_collect ?_))
 rw [Around.under_plainId F.plain_proto_collect _]
 show wpAny _ A.in1 (newList [] >>= fun l => again (.builtin "list.__iadd__" ⟨[l, .ref I], []⟩)) _ _ s
 refine wpAny_bind (wpAny_newObj_type ?_)
 refine wpAny_pure ⟨plainId_quiet F.plain_list_iadd _, codeAny_builtin F.entry_list_iadd ?_⟩
 rw [Around.under_plainId F.plain_list_iadd _]
 have hst1 := W.frame 0 s (s.heap.push { cls := .type "list", data := .seq ([] : List Value).toArray }) s.toks hst (Nat.le_refl _) fun b ζ o e => Heap.get?_push_of_some _ e
 show wpAny _ A.in1 (Builtin.List.listExtendWith (.ref s.heap.objs.size) (.ref I) (.ref s.heap.objs.size)) _ _ _
 refine extend_walk (R := fun r s' => match r with
  | .ok (.ret v) => wpAny (model prog w) A (match v with
   | .ref a => (load a >>= fun o => match o.data with
    | .seq xs _ => pure xs.toList
    | _ => unsupported "internal:collect")
   | _ => unsupported "internal:collect") Q E s'
  | .ok _ => False
  | .error e => E e s') W hB hn hSf (fun e => hSf (e ▸ hI)) _ hst1 (Heap.get?_push_size _ rfl) hT1 hT2 fun s' acc c' hm hS' hacc => ?_
 show wpAny _ A (load s.heap.objs.size >>= _) _ _ s'
 refine wpAny_bind (wpAny_load hS' ?_)
 exact wpAny_pure (hQ s' acc (Moved.drop_new (o := { cls := .type "list", data := .seq ([] : List Value).toArray }) (tk := s.toks) hm (Nat.le_refl _)) hacc)
theorem Qoq {T:Value}{Q₁:Value → Shared → Prop}(W:WalksS prog w A.in1.in1 I fp wr G n P St)(hB:∀ s, St 0 s → Bare prog w A.in1.in1 I T s)(hTI:∀ (E:Value → Shared → Prop)(Q:Value → Shared → Prop), Q T s → wpAny (model prog w) A.in1 (typeOf (.ref I)) Q E s)(hst:St 0 s)
  (hfp : ∀ b ∈ fp, b < s.heap.objs.size) (hI : I ∈ fp) (hT1 : (T == Value.type "list") = false) (hT2 : (T == Value.type "tuple") = false)
  (h : ∀ s' acc, Moved wr G s s' → ItemsOf P acc n → Q₁ (.ref s'.heap.objs.size) { s' with heap := s'.heap.push { cls := .type "tuple", data := .seq acc } }) (hsz : n ≤ sizeLine) :
  codeAny (model prog w) A (.call (.builtin "tuple.__new__") ⟨[.type "tuple", .ref I], []⟩) (wants Q₁ E) s := by
 refine codeAny_of_tree ?_
 show wpAny _ A.in1 (do checkBuiltinCall "tuple.__new__" ⟨[.type "tuple", .ref I], []⟩; again (.builtin "tuple.__new__" ⟨[.type "tuple", .ref I], []⟩)) _ _ s
 refine wpAny_bind (wpAny_of_eq (F.newCall_tuple_1 _) (wpAny_pure ⟨plainId_quiet F.plain_tuple_new _, codeAny_builtin F.entry_tuple_new ?_⟩))
 rw [Around.under_plainId F.plain_tuple_new _]
 have hsub := sub_tuple_self
 have hinit := init_tuple_lookup
 have hmh := madeHere_tuple
 wp_walk using hTI _ _, QIa (hn := hsz) W hB hst hfp hI hT1 hT2
 intro s' acc hm hacc
 show wpAny _ _ (Builtin.Tuple.tupleExact acc.toList.toArray >>= fun v => PySem.ret v) _ _ _
 unfold Builtin.Tuple.tupleExact
 refine wpAny_bind (wpAny_newObj_type ?_ (by show acc.toList.toArray.size ≤ sizeLine; simp only [Array.toArray_toList]; rw [hacc.1]; exact hsz))
 refine wpAny_pure ?_
 have e : acc.toList.toArray = acc := by simp
 rw [e]
 exact h s' acc hm hacc
end
theorem Qxv : entryFor table "map.__iter__" = some Builtin.«dict_keyiterator.__iter__» :=
 entryFor_alias (id' := "dict_keyiterator.__iter__") (by kernel_rfl) (by first | rfl | decide +kernel | (unfold String.splitOn; simp +decide [String.splitOnAux])) (by decide +kernel) (by kernel_rfl)
section
variable {prog : Program} {w : World} {A : Around} {E : Value → Shared → Prop} {s : Shared} {T : Hp} {env : Env} {G : Gam}
theorem addr_ne (n k:Nat) : n + (k + 1) ≠ n := by lia
theorem Qsx {e:Addr}{o:Obj}{Q:Bool → Shared → Prop}(ho:s.heap.get? e = some o)(hc:o.cls = .type "StopIteration")(h:Q true s) : wpAny (model prog w) A (isInstance (.ref e) (.type "StopIteration")) Q E s := by
 refine wpAny_isInstance (T := "StopIteration") (b := true) ⟨o, ho, hc⟩ ?_ h
 rw [isSubtype_type]; kernel_rfl
theorem walk_map {m:Nat}(ok:OkA A (m + 3)){xs:List PyData}{ys:List Str}{f:Value}(hf:∀ (A':Around)(i:Nat)(x:PyData)(y:Str), OkA A' m → xs[i]? = some x → ys[i]? = some y → Fn prog w T A' f [.d x] (.d (.str y)))(hlen:ys.length = xs.length)
  {h₀ : Heap} {l : Addr} {vs : Array Value} (hp : T.p h₀) (hl : h₀.IsList l vs) (hr : RdAll T.X h₀ xs vs.toList) :
  WalksS prog w A (h₀.objs.size + 2) (List.range (h₀.objs.size + 3)) [h₀.objs.size] (fun a b => b = a) xs.length (fun i v => ∃ y t, ys[i]? = some y ∧ v = .str y t)
   (fun i s => Kp h₀ s.heap ∧ IsMap s.heap (h₀.objs.size + 2) (h₀.objs.size + 1) f ∧ IsOne s.heap (h₀.objs.size + 1) h₀.objs.size ∧ s.heap.IsListIter h₀.objs.size l i) where
 sub := fun b hb => by rw [List.mem_singleton.mp hb]; exact List.mem_range.mpr (by lia)
 grefl := fun ζ => rfl
 gtrans := fun ζ ζ ζ h1 h2 => h2.trans h1
 frame := fun i s h' ζ st ζ hk => by
  refine Qwb (st) fun s1 s2 s3 s4 => ?_
  have in1 : ∀ b, b < h₀.objs.size + 3 → ∀ o, s.heap.get? b = some o → h'.get? b = some o := fun b hb => hk b (List.mem_range.mpr hb)
  exact ⟨fun b o e => in1 b (Nat.lt_of_lt_of_le (Heap.lt_size e) (Nat.le_add_right _ _)) o (s1 b o e), in1 _ (by lia) _ s2, in1 _ (by lia) _ s3, s4.at fun o e => in1 _ (by lia) o e⟩
 item := fun i s Q E hi st hQ => by
  refine Qwb (st) fun s1 s2 s3 s4 => ?_
  have hiy : i < ys.length := by lia
  refine eEA (hr.get i _ (List.getElem?_eq_getElem hi)) fun v ev rv => ?_
  have ev' : vs[i]? = some v := by simpa using ev
  unfold pyNext
  refine wpAny_with_toks (Nat.le_refl s.toks) ?_
  refine wpAny_bind (wpAny_attempt (wpAny_callSpecial?_slot (name := Str.ofString "__next__") ⟨_, s2, rfl⟩ slot_map_next
   (wpAny_call_entry slot_map_next ⟨_, s2, rfl⟩ Qmb ?_ (Qlx _))))
  refine QBc s2 s3 s4 (hl.at fun o e => s1 _ _ e) ev' (addr_ne _ 1) fun h1 it1 hs1 => ?_
  have ne : ∀ {b o}, h₀.get? b = some o → b ≠ h₀.objs.size := fun e => Nat.ne_of_lt (Heap.lt_size e)
  have k1 : Kp h₀ h1 := fun b o e => (hs1.2 b (ne e)).trans (s1 b o e)
  refine wpAny_mono ((hf _ i _ _ (ok.in1.le (by lia)) (List.getElem?_eq_getElem hi) (List.getElem?_eq_getElem hiy)).of _ { s with heap := h1 } [v] (T.mono _ _ k1.kpx hp) ⟨v, [], rfl, Rd.kp rv k1.kpx, rfl⟩) (fun r s' q => ?_) fun ζ ζ x => x
  refine eA (q) fun rr kt => ?_
  refine eE (rr.str_inv) fun t ρ0 => ?_
  subst ρ0
  refine Qfw (kt.of) fun h2 tk ρ1 k2 => ?_
  subst ρ1
  refine ⟨_, rfl, wpAny_pure fun htk => hQ _ _ ⟨_, t, List.getElem?_eq_getElem hiy, rfl⟩ ⟨fun b o e => k2 _ _ (k1 b o e), k2 _ _ ((hs1.2 _ (addr_ne _ 1)).trans s2), k2 _ _ ((hs1.2 _ (addr_ne _ 0)).trans s3), it1.at fun o e => k2 _ _ e⟩ ⟨fun b o hb e => k2 _ _ ((hs1.2 b (fun z => hb (by rw [z]; exact .head _))).trans e), rfl, rfl, rfl, htk⟩⟩
 done := fun s Q E st hQ => by
  refine Qwb (st) fun s1 s2 s3 s4 => ?_
  have hlv := hr.length
  unfold pyNext
  refine wpAny_with_toks (Nat.le_refl s.toks) ?_
  refine wpAny_bind (wpAny_attempt (wpAny_callSpecial?_slot (name := Str.ofString "__next__") ⟨_, s2, rfl⟩ slot_map_next
   (wpAny_call_entry slot_map_next ⟨_, s2, rfl⟩ Qmb ?_ (Qlx _))))
  refine QGx ok.in1.handled s2 s3 s4 (hl.at fun o e => s1 _ _ e) (by simp at hlv; simp [hlv]) fun h2 e hs2 he => ?_
  refine eEA (he) fun o ho hc => ?_
  refine wpAny_bind (Qsx (s := { s with heap := h2 }) ho hc ?_)
  exact wpAny_pure fun htk => hQ _ ⟨fun b o hb e => hs2 b o (fun z => hb (by rw [z]; exact .head _)) e, rfl, rfl, rfl, htk⟩
 self := fun i s Q E st hQ => by
  refine Qwb (st) fun s1 s2 s3 s4 => ?_
  refine wpAny_pyIter_slot ⟨_, s2, rfl⟩ Qoj (wpAny_call_entry Qoj ⟨_, s2, rfl⟩ Qxv ?_ (Qwk _))
  show wpAny _ _ (PySem.ret _) _ _ s
  exact wpAny_pure ⟨_, rfl, "map", _, ⟨_, s2, rfl⟩, slot_map_next.lookup, hQ⟩
theorem bare_map {M TI:Addr}{f:Value}(h:IsMap s.heap M TI f) : Bare prog w A M (.type "map") s where
 ty := fun E Q q => wpAny_typeOf (T := "map") ⟨_, h, rfl⟩ q
 len := fun E Q q => wpAny_specialOf ⟨_, h, rfl⟩ nolen_map q
 hint := fun E Q q => wpAny_specialOf ⟨_, h, rfl⟩ nohint_map q
theorem call_map {l:Addr}{vs:Array Value}{f:Value}{Q:Value → Shared → Prop}(hl:s.heap.IsList l vs)
  (h : ∀ h', h'.objs.size = s.heap.objs.size + 3 → Kp s.heap h' → IsMap h' (s.heap.objs.size + 2) (s.heap.objs.size + 1) f → IsOne h' (s.heap.objs.size + 1) s.heap.objs.size → h'.IsListIter s.heap.objs.size l 0 → Q (.ref (s.heap.objs.size + 2)) { s with heap := h' }) :
  wpAny (model prog w) A (call (.type "map") [f, .ref l]) Q E s := by
 refine callType_new called_map (by decide) (Qwc _ _) (QBx _ _) (fun obj => F.args_object_init_3 obj _ _) QCc (QBb f l vs) ⟨hl, ?_⟩
 have z1 : (s.heap.push { cls := .type "list_iterator", data := .fields #[.ref l, .int 0 0] }).objs.size = s.heap.objs.size + 1 := Heap.size_push ..
 generalize hH1 : s.heap.push { cls := .type "list_iterator", data := .fields #[.ref l, .int 0 0] } = H1 at *
 have z2 : (H1.push { cls := .type "tuple", data := .seq #[.ref s.heap.objs.size] }).objs.size = s.heap.objs.size + 2 := by rw [Heap.size_push, z1]
 generalize hH2 : H1.push { cls := .type "tuple", data := .seq #[.ref s.heap.objs.size] } = H2 at *
 have g3 : (H2.push { cls := .type "map", data := .fields #[.ref (s.heap.objs.size + 1), f] }).get? (s.heap.objs.size + 2) = some { cls := .type "map", data := .fields #[.ref (s.heap.objs.size + 1), f] } := by rw [← z2]; exact Heap.get?_push_size _ rfl
 have g2 : (H2.push { cls := .type "map", data := .fields #[.ref (s.heap.objs.size + 1), f] }).get? (s.heap.objs.size + 1) = some { cls := .type "tuple", data := .seq #[.ref s.heap.objs.size] } := by
  rw [← z1, ← hH2]; exact Heap.get?_push_of_some _ (Heap.get?_push_size _ rfl)
 have g1 : (H2.push { cls := .type "map", data := .fields #[.ref (s.heap.objs.size + 1), f] }).get? s.heap.objs.size = some { cls := .type "list_iterator", data := .fields #[.ref l, .int 0 0] } := by
  rw [← hH2, ← hH1]; exact Heap.get?_push_of_some _ (Heap.get?_push_of_some _ (Heap.get?_push_size _ rfl))
 refine ⟨⟨_, g3, rfl⟩, h _ (by rw [Heap.size_push, z2]) (fun b o e => ?_) g3 g2 ⟨_, g1, rfl, rfl⟩⟩
 rw [← hH2, ← hH1]
 exact Heap.get?_push_of_some _ (Heap.get?_push_of_some _ (Heap.get?_push_of_some _ e))
theorem Qxq {X:Addr → Prop}{h:Heap}{ys:List Str}{acc:Array Value}(hs:acc.size = ys.length)(ha:∀ (j:Nat)(v:Value), acc[j]? = some v → ∃ (y:Str)(t:Tok), ys[j]? = some y ∧ v = Value.str y t) : RdAll X h (ys.map PyData.str) acc.toList := by
 obtain ⟨l⟩ := acc
 simp only [List.size_toArray] at hs
 have ha' : ∀ (j : Nat) (v : Value), l[j]? = some v → ∃ (y : Str) (t : Tok), ys[j]? = some y ∧ v = Value.str y t := fun j v e => ha j v (by simpa using e)
 show RdAll X h _ l
 clear ha
 induction ys generalizing l with
 | nil => have : l = [] := List.length_eq_zero_iff.mp hs; subst this; exact .nil
 | cons y ys ih =>
  cases l with
  | nil => cases hs
  | cons v l =>
   obtain ⟨y', t, e, rfl⟩ := ha' 0 v rfl
   simp at e
   subst e
   exact .cons Rd.str (ih l (by simpa using hs) fun j v e => by simpa using ha' (j + 1) v (by simpa using e))
theorem Qwy {I:Addr}{fp wr:List Addr}{Gg:Array GenState → Array GenState → Prop}{n:Nat}{P:Nat → Value → Prop}{St:Nat → Shared → Prop}{T:Value}{Q:Value → Shared → Prop}(W:WalksS prog w A.in1.in1.in1 I fp wr Gg n P St)
  (hB : ∀ s, St 0 s → Bare prog w A.in1.in1.in1 I T s) (hTI : ∀ (E : Value → Shared → Prop) (Q : Value → Shared → Prop), Q T s → wpAny (model prog w) A.in1.in1 (typeOf (.ref I)) Q E s) (hst : St 0 s) (hfp : ∀ b ∈ fp, b < s.heap.objs.size) (hI : I ∈ fp)
  (hT1 : (T == Value.type "list") = false) (hT2 : (T == Value.type "tuple") = false)
  (hQ : ∀ s' acc, Moved wr Gg s s' → ItemsOf P acc n → Q (.ref s'.heap.objs.size) { s' with heap := s'.heap.push { cls := .type "tuple", data := .seq acc } }) (hsz : n ≤ sizeLine) :
  wpAny (model prog w) A (call (.type "tuple") [.ref I]) Q E s := by
 refine callType_codes (Q₁ := fun obj s₁ => s₁.TypeIs obj "tuple" ∧ Q obj s₁) F.called_tuple (F.typeCall_tuple_1 _) F.entry_object_init
  (Qoq (hsz := hsz) W hB hTI hst hfp hI hT1 hT2 fun s' acc hm hacc => ⟨⟨_, Heap.get?_push_size _ rfl, rfl⟩, hQ s' acc hm hacc⟩) fun obj s₁ h₁ => ?_
 exact ⟨h₁.1, F.args_object_init_2 obj _, object_init_meets F.called_tuple.init.lookup F.called_tuple.made (by decide) prog w A.in1 _ s₁ ⟨h₁.1, rfl, h₁.2⟩⟩
theorem EvA.tupleMap {e fe:Expr}{p1 p2 p3 p4:Pos}{m:Nat}(ok:OkA A (m + 6)){xs:List PyData}{ys:List Str}{f:Value}(h1:EvA prog w T A env G (.Name "tuple" p1) (.v (.type "tuple")))(h2:EvA prog w T A env G (.Name "map" p2) (.v (.type "map")))
  (h3 : EvA prog w T A env G fe (.v f)) (h4 : EvA prog w T A env G e (.d (.list xs))) (hlen : ys.length = xs.length) (hsz : xs.length ≤ sizeLine)
  (hf : ∀ (A' : Around) (i : Nat) (x : PyData) (y : Str), OkA A' m → xs[i]? = some x → ys[i]? = some y → Fn prog w T A' f [.d x] (.d (.str y)))
  (hs1 : autoParam (starEach [.Call (.Name "map" p2) [fe, e] [] p4] env = (false, eval (.Call (.Name "map" p2) [fe, e] [] p4) env) :: starEach [] env) sK)
  (hs2 : autoParam (starEach [fe, e] env = (false, eval fe env) :: starEach [e] env) sK) (hs3 : autoParam (starEach [e] env = (false, eval e env) :: starEach [] env) sK) :
  EvA prog w T A env G (.Call (.Name "tuple" p1) [.Call (.Name "map" p2) [fe, e] [] p4] [] p3) (.d (.tuple (ys.map PyData.str))) := ⟨fun E s hp hv => by
 have keeper : ∀ (t : String) {E : Value → Shared → Prop} {Q : Keeper → Shared → Prop} {s : Shared}, (∀ k, Q k s) → wpAny (model prog w) A (keeperOf (.type t)) Q E s := fun t {E Q s} hq => by
  unfold keeperOf; exact wpAny_pure (hq _)
 refine Call_Name rfl (wpAny_mono (h1.of E s hp hv) (fun f' s₁ k => ?_) fun ζ ζ x => x)
 obtain ⟨rfl, k⟩ := k
 rw [hs1]
 refine Qbx rfl (evalArgs_plain (spliced_cons (Call_Name rfl (wpAny_mono (h2.of E s₁ (T.kt hp k) (hv.kp k.kp)) (fun f' s₂ k2 => ?_) fun ζ ζ x => x))))
 obtain ⟨rfl, k2⟩ := k2
 have kk := k.trans k2
 have La := EvL.cons (pos := p4) h3 (EvL.cons (pos := p4) h4 .nil' hs3) hs2
 refine Qbx La.noStar (Qcz La (T.kt hp kk) (hv.kp kk.kp) fun vs s₃ k3 hvs => keeper "map" fun ζ => ?_)
 refine Qhb (hvs) fun v vs' ρ2 hv1 u us' ρ3 hv2 ρ4 => ?_
 subst ρ2
 subst ρ3
 subst ρ4
 have : v = f := hv1
 subst this
 refine Qck (hv2.list_inv) fun l is ρ5 hX hl hr => ?_
 subst ρ5
 have hp3 := T.kt hp (kk.trans k3)
 refine call_map hl fun h' hsz' kp' hM hO hI => spliced_nil (keeper "tuple" fun ζ => ?_)
 have W := walk_map (prog := prog) (w := w) (A := A.in1.in1.in1) (T := T) (m := m) ((ok.in1.in1.in1 : OkA A.in1.in1.in1 (m + 3))) hf hlen hp3 hl hr
 refine Qwy (T := .type "map") W (fun s st => bare_map st.2.1) (fun E Q q => wpAny_typeOf (T := "map") ⟨_, hM, rfl⟩ q) ⟨kp', hM, hO, hI⟩ (fun b hb => by rw [hsz']; exact List.mem_range.mp hb) (List.mem_range.mpr (by lia)) (by decide) (by decide) (fun s' acc hm hacc => ?_) hsz
 refine eA (hacc) fun ha1 ha2 => ?_
 obtain ⟨hm1, hm2, hm3, hm4, _⟩ := hm
 have e' : s' = { s₃ with heap := s'.heap, toks := s'.toks } := by
  obtain ⟨a, b, c, d, e⟩ := s'
  simp only at hm2 hm3 hm4
  rw [hm2, hm3, hm4]
 have kq : Kp s₃.heap s'.heap := fun b o e => hm1 b o (fun z => by
  rw [List.mem_singleton.mp z] at e
  exact Qax (Nat.le_refl _) ⟨o, e⟩) (kp' b o e)
 have kf : Kt s₃ { s' with heap := s'.heap.push { cls := .type "tuple", data := .seq acc } } := by
  refine ⟨s'.heap.push { cls := .type "tuple", data := .seq acc }, s'.toks, ?_, fun b o e => Heap.get?_push_of_some _ (kq b o e)⟩
  obtain ⟨a, b, c, d, e⟩ := s'
  simp only at hm2 hm3 hm4
  rw [hm2, hm3, hm4]
 refine ⟨Dv.p.tuple (fun hx => ?_) ⟨_, Heap.get?_push_size _ rfl, rfl, _, rfl⟩ (Qxq (by rw [ha1, hlen]) ha2), (kk.trans k3).trans kf⟩
 exact Qax (Nat.le_refl _) (T.live _ (T.mono _ _ kq.kpx hp3) _ hx)⟩
end
noncomputable def Fx.mine (env:Env)(O:Own) : Addr → Prop := fun b => b = env.locals ∨ (∃ n, env.cells.lookup n = some b) ∨ ∃ ds, O = some (b, ds)
section
variable {W : Addr → Prop} {T T' : Hp} {s₀ s s' : Shared} {env : Env} {G G' : Gam} {O O' : Own}
theorem KtX.wider {W W':Addr → Prop}{s s':Shared}(k:KtX W s s')(h:∀ b, W b → W' b) : KtX W' s s' := Qfw (k.of) fun h' tk e q => ⟨h', tk, e, q.wider h⟩
theorem Fx.rebase0 (F:Fx W T s₀ env G O s) : Fx (Fx.mine env O) T s env G O s where
 t := F.t
 kt := .refl _ _
 wX := fun b hb => F.may_X b (.inr hb)
 lo := .inl (.inl rfl)
 loX := F.loX
 cells := fun n c hc => ⟨(F.cells n c hc).1, .inl (.inr (.inl ⟨n, hc⟩)), (F.cells n c hc).2.2⟩
 apart := F.apart
 ns := F.ns
 cell := F.cell
 all := F.all
 own := fun L ds e => ⟨(F.own L ds e).1, .inl (.inr (.inr ⟨ds, e⟩)), (F.own L ds e).2.2⟩
theorem Fx.unbase0 (F:Fx W T s₀ env G O s)(F':Fx (Fx.mine env O) T' s env G' O' s')(hW:∀ b, W b → T'.X b)(hO:∀ L ds, O' = some (L, ds) → ∃ ds', O = some (L, ds')) : Fx W T' s₀ env G' O' s' where
 t := F'.t
 kt := F.unkt (F'.kt.wider fun b hb => .inr hb)
 wX := hW
 lo := F.lo
 loX := F'.loX
 cells := fun n c hc => ⟨(F'.cells n c hc).1, (F.cells n c hc).2⟩
 apart := F.apart
 ns := F'.ns
 cell := F'.cell
 all := F'.all
 own := fun L ds e => eE (hO L ds e) fun ds' e' => ⟨(F'.own L ds e).1, (F.own L ds' e').2.1, (F'.own L ds e).2.2⟩
end
section
variable {prog : Program} {w : World} {T : Hp} {A : Around} {env : Env} {G : Gam}
end
section
variable {prog : Program} {w : World} {W : Addr → Prop} {T : Hp} {A : Around} {env : Env} {E : Value → Shared → Prop} {s₀ s : Shared} {G : Gam} {O : Own} {R : Flow → Shared → Prop} {rest : List Stmt}
theorem Qew {v:Str}{pv ps:Pos}{elt iter:Expr}{x:Str}{px:Pos}{ifs:List Expr}{scope:Scope}{pos:Pos}{xs:List PyData}{Gf:Gam}{n:Nat}(cl:List (Str × Addr))(p:PyData → Bool)(f:PyData → PyData)(ok:OkA A n)(F:Fx W T s₀ env G O s)
  (hit : EvIt prog w T A env G iter xs) (hsz : xs.length ≤ sizeLine) (hG : Takes env scope cl G Gf)
  (ht : ∀ T' C d, T'.le T → d ∈ xs → TeL prog w T' A (compEnvC scope cl C env) ((x, .d d) :: Gf) ifs (p d))
  (he : ∀ T' C d, T'.le T → d ∈ xs → p d = true → EvA prog w T' A (compEnvC scope cl C env) ((x, .d d) :: Gf) elt (.d (f d)))
  (h : ∀ s', Fx W T s₀ env ((v, .d (.list ((xs.filter p).map f))) :: G) O s' → Go prog w A env rest R s')
  (hclos : autoParam (closureFor scope env = pure cl) sK) (hcell : autoParam (∀ y ∈ scope.names, y.2 ≠ .cell) sD) (hkind : autoParam (scope.kind = .function) sK)
  (hnames : autoParam (∀ y ∈ scope.names, y.2 = .local → scope.names.lookup y.1 = some .local) sD) (hx : autoParam (scope.names.lookup x = some .local) sK)
  (hs : autoParam (∀ x, foldedSetIterable iter env x = pure x) sK) (hlot : autoParam (∀ it v, letOwnedTupleGo (.Name x px) it v = pure ()) sR)
  (hk : autoParam (env.scope.kind = .function) sK)
  (hv : autoParam (env.kindOf v = some .local ∨ (env.kindOf v = some .cell ∧ (env.cells.lookup v).isSome = true)) sO)
  (hsw : autoParam (swapsWith (.ListComp elt [⟨.Name x px, iter, ifs, 0⟩] scope pos) (some (.Name v pv)) ps.line env = pure true) sK) :
  Go prog w A env (.Assign [.Name v pv] (.ListComp elt [⟨.Name x px, iter, ifs, 0⟩] scope pos) ps :: rest) R s := by
 refine ⟨wpAny_execs_cons ?_⟩
 rw [exec_Assign_Name_used _ _ _ _ hsw]
 refine wpAny_bind (wpAny_standAt (wpAny_bind ?_))
 rw [arm_evalThenUse_ListComp]
 refine wpAny_bind (wpAny_mono (QIy (use := some (assign (.Name v pv) env)) (E := fun ζ ζ => False) (Q := fun ζ s' => Go prog w A env rest R s') cl p f ok hit hsz hG ht he hclos hcell hkind hnames hx hs hlot F.t F.vw fun D C h' tk m' ys hD hC hDC hn hl hr hk' => ?_) (fun ζ s' g => wpAny_pure (wpAny_pure g.of)) fun ζ ζ x => x)
 let Y : Addr → Prop := fun b => b = C
 have hYn : ∀ b, Y b → ¬ Qaa s.heap b := fun b hb => hb ▸ hC
 have F1 : Fx W (T.push Y) s₀ env G O { s with heap := h', toks := tk } := F.push hk' hYn fun b hb => hb ▸ Ns.live hn
 have hCX : ¬ T.X C := fun q => hC (T.live _ F.t C q)
 have hCm : ¬ Fx.mine env O C := fun q => hCX (F.may_X C (.inr q))
 have hv1 : (Dv.d (.list ((xs.filter p).map f))).p (T.push Y).X h' (.ref D) := Dv.p.list (fun q => q.elim (fun q => hD (T.live _ F.t D q)) fun q => hDC q) hl.isList (hr.less fun b hb => hb.imp_right fun q => .inr q)
 refine wpAny_assign_Name (F1.rebase0.store (.d (.list ((xs.filter p).map f))) hk hv hv1 fun s2 F2' => ?_)
 have F2 := F1.unbase0 F2' F1.wX fun L ds e => ⟨ds, e⟩
 have hn2 : s2.heap.Ns C m' := hn.at' fun o e => F2'.kt.kp.kp C o hCm e
 refine ⟨m', hn2, fun h2 hs2 => ?_⟩
 have kall : ∀ b o, ¬ Fx.mine env O b → s.heap.get? b = some o → h2.get? b = some o := fun b o hb e => (hs2.2 b fun q => hC (q ▸ ⟨o, e⟩)).trans (F2'.kt.kp.kp b o hb (hk' b o e))
 have tp : T.p h2 := T.mono s.heap h2 ⟨fun b o hb e => kall b o (fun q => hb (F.may_X b (.inr q))) e, fun b l => by
  refine eE (F2'.kt.kp.live b (eE (l) fun o e => ⟨o, hk' b o e⟩)) fun o e => ?_
  exact ⟨o, (hs2.2 b fun q => hC (q ▸ l)).trans e⟩⟩ F.t
 exact h _ (F2.done (tk := s2.toks) F.wX F.loX (fun n c hc => (F.cells n c hc).1) (fun L ds e => (F.own L ds e).1) tp (fun b o hb e => (hs2.2 b hb).trans e) (fun b hb l => hYn b hb (F.kt.kp.live b l)) (fun b hb => hb ▸ hCX))
end
noncomputable def tab1 (led:Bool) : SetTable := { mask := 7, place := #[1], dummies := #[], finger := 0, led, moves := 0, plain := true }
noncomputable abbrev obj0 (led:Bool) : Obj := { cls := .type "set", dict := none, data := .set #[] 0 (.fresh 0 0 led) }
noncomputable abbrev obj1 (led:Bool) : Obj := { cls := .type "set", dict := none, data := .set #[(1, .bool true)] 1 (tab1 led) }
theorem lay_true (led:Bool) : layNew (SetTable.fresh 0 0 led) #[] 1 (.bool true) = (#[(1, .bool true)], tab1 led, false, false) := by cases led <;> rfl
section
variable {prog : Program} {w : World} {A : Around} {E : Value → Shared → Prop} {s : Shared}
theorem QGa {Q:Int → Shared → Prop}(h:Q 1 { s with toks := s.toks + 1 }) : wpAny (model prog w) A (pyHash (.bool true)) Q E s := by
 have hT : s.TypeIs (.bool true) "bool" := rfl
 show wpAny _ _ (pyHashByItsType (.bool true)) Q E s
 unfold pyHashByItsType
 refine wpAny_bind (wpAny_cRoomFor_byValue rfl ?_)
 refine wpAny_bind (wpAny_specialOf hT F.slot_bool_hash.lookup ?_)
 show wpAny _ _ (if (some (Value.builtin "int.__hash__") == some Value.none) = true then _ else _) Q E s
 rw [if_neg (by rw [beq_builtin_none]; exact Bool.false_ne_true)]
 refine wpAny_bind (wpAny_specialOf hT F.slot_bool_hash.lookup ?_)
 show wpAny _ _ (callSpecialIfBoundUnlessNone? (.bool true) "__hash__" _ >>= _) Q E s
 refine wpAny_bind (wpAny_callSpecialIfBoundUnlessNone?_slot hT F.slot_bool_hash (wpAny_call_entry F.slot_bool_hash hT F.entry_int_hash ?_ (F.args_int_hash_1 _)))
 show wpAny _ _ (do PySem.ret (← mkInt 1)) _ _ s
 refine wpAny_ret_mkInt ?_
 show wpAny _ _ (if (decide (-(2 : Int) ^ 63 ≤ 1) && decide ((1 : Int) < 2 ^ 63)) = true then _ else _) Q E _
 rw [if_pos (by decide)]
 exact wpAny_pure h
theorem eqb_true {Q:Bool → Shared → Prop}(h:Q true s) : wpAny (model prog w) A (eqBool (.bool true) (.bool true)) Q E s := by
 unfold eqBool
 refine wpAny_holding ?_
 rw [if_pos (show (Value.bool true == Value.bool true) = true from by first | rfl | decide +kernel)]
 exact wpAny_bind (wpAny_rule (wpAny_pure h))
theorem put_true {h:Heap}{a:Addr}{led:Bool}(ho:h.get? a = some (obj0 led)) : (h.update a (Obj.putSet #[(1, .bool true)] (tab1 led))).get? a = some (obj1 led) := by
 have := Heap.get?_update_self (Obj.putSet #[(1, .bool true)] (tab1 led)) ho rfl
 exact this
theorem set_first {a:Addr}{led:Bool}{Q:Value → Shared → Prop}(ho:s.heap.get? a = some (obj0 led))(h:∀ h', h'.get? a = some (obj1 led) → Heap.SameBut a s.heap h' → Q .none { s with heap := h', toks := s.toks + 1 }) :
  wpAny (model prog w) A (call (.builtin "set.add") [.ref a, .bool true]) Q E s := by
 refine wpAny_call_entry F.slot_set_add ⟨_, ho, rfl⟩ F.entry_set_add ?_ (F.args_set_add_2 _ _)
 unfold Builtin.«set.add» Builtin.Frozenset.oneOther
 simp only [List.isEmpty_nil, bind_assoc]
 unfold Builtin.Frozenset.addrOf setAdd
 refine wpAny_bind (wpAny_pure ?_)
 refine wpAny_bind (wpAny_pure ?_)
 refine wpAny_bind ?_
 refine wpAny_holding ?_
 refine wpAny_bind (QGa ?_)
 unfold setAddHashed setAddHashedIn
 refine wpAny_holding ?_
 refine wpAny_bind (wpAny_setState_of (s := { s with toks := s.toks + 1 }) ho rfl rfl ?_)
 dsimp only
 rw [if_pos (show byScan (Value.bool true) #[] = true from by first | rfl | decide +kernel)]
 refine wpAny_bind ?_
 unfold setAddByScan
 refine wpAny_bind (wpAny_rule ?_)
 refine wpAny_bind (wpAny_pure (a := ScanMet.absent) ?_)
 rw [lay_true]
 refine wpAny_bind (wpAny_of_eq (a := ()) rfl ?_)
 refine wpAny_bind (wpAny_of_eq (a := true) rfl ?_)
 refine wpAny_bind (wpAny_storeSet_of (s := { s with toks := s.toks + 1 }) ho rfl ?_ (Nat.le_of_ble_eq_true rfl))
 refine wpAny_bind (wpAny_pure ?_)
 refine wpAny_pure ?_
 refine wpAny_pure ?_
 refine wpAny_pure ⟨_, rfl, h _ (put_true ho) (Heap.SameBut.update s.heap a _)⟩
theorem set_again {a:Addr}{led:Bool}{Q:Value → Shared → Prop}(ho:s.heap.get? a = some (obj1 led))(h:Q .none { s with toks := s.toks + 1 }) :
  wpAny (model prog w) A (call (.builtin "set.add") [.ref a, .bool true]) Q E s := by
 refine wpAny_call_entry F.slot_set_add ⟨_, ho, rfl⟩ F.entry_set_add ?_ (F.args_set_add_2 _ _)
 unfold Builtin.«set.add» Builtin.Frozenset.oneOther
 simp only [List.isEmpty_nil, bind_assoc]
 unfold Builtin.Frozenset.addrOf setAdd
 refine wpAny_bind (wpAny_pure ?_)
 refine wpAny_bind (wpAny_pure ?_)
 refine wpAny_bind ?_
 refine wpAny_holding ?_
 refine wpAny_bind (QGa ?_)
 unfold setAddHashed setAddHashedIn
 refine wpAny_holding ?_
 refine wpAny_bind (wpAny_setState_of (s := { s with toks := s.toks + 1 }) ho rfl rfl ?_)
 dsimp only
 rw [if_pos (show byScan (Value.bool true) #[(1, .bool true)] = true from by first | rfl | decide +kernel)]
 refine wpAny_bind ?_
 unfold setAddByScan
 refine wpAny_bind (wpAny_rule ?_)
 refine wpAny_bind ?_
 show wpAny _ _ (setScanFrom a (.bool true) 1 true [(1, .bool true)] 0) _ _ _
 unfold setScanFrom
 rw [if_pos (by decide)]
 refine wpAny_bind (wpAny_setEpoch_of (s := { s with toks := s.toks + 1 }) ho rfl rfl ?_)
 refine wpAny_bind (eqb_true ?_)
 rw [if_pos (by decide)]
 refine wpAny_pure ?_
 refine wpAny_pure ?_
 refine wpAny_pure ?_
 exact wpAny_pure ⟨_, rfl, h⟩
noncomputable abbrev itObj (S:Addr)(n i:Nat) : Obj := { cls := .type "set_iterator", data := .fields #[rawInt n, rawInt i, .ref S, rawInt 1, rawInt 1] }
theorem Qxk : entryFor table "set.__iter__" = some Builtin.«frozenset.__iter__» :=
 entryFor_alias (id' := "frozenset.__iter__") (by kernel_rfl) (by first | rfl | decide +kernel | (unfold String.splitOn; simp +decide [String.splitOnAux])) (by decide +kernel) (by kernel_rfl)
theorem slot_setit_next : Slot "set_iterator" "__next__" "set_iterator.__next__" :=
 .of (owner := "set_iterator") (n := "__next__") (by rw [typeLookup_type, builtinLookup_eq_fast]; kernel_rfl) (by decide +kernel) (by decide +kernel) (by decide +kernel)
  (by first | exact .inl (by decide +kernel) | exact .inr (by decide +kernel)) (by rw [isSubtype_type]; kernel_rfl)
theorem Qka : entryFor table "set_iterator.__next__" = some Builtin.«set_iterator.__next__» := entryFor_of_tree (by kernel_rfl)
theorem owner_setit : Manifest.owners.lookup (String.ofList ['r', 'o', 't', 'a', 'r', 'e', 't', 'i', '_', 't', 'e', 's'].reverse) = some Manifest.sig_set_iterator := by kernel_rfl
theorem Qjq (a:Value) : argsOk "set_iterator.__next__" ⟨[a], []⟩ := by
 unfold argsOk; rw [signature?_of (id := "set_iterator.__next__") (n := ['_', '_', 't', 'x', 'e', 'n', '_', '_']) (o := ['r', 'o', 't', 'a', 'r', 'e', 't', 'i', '_', 't', 'e', 's']) (by kernel_rfl) owner_setit]; kernel_rfl
theorem iter_set {a:Addr}{led:Bool}{Q:Value → Shared → Prop}(ho:s.heap.get? a = some (obj1 led))(h:Q (.ref s.heap.objs.size) { s with heap := s.heap.push (itObj a 0 0) }) : wpAny (model prog w) A (pyIter (.ref a)) Q E s := by
 refine wpAny_pyIter_slot ⟨_, ho, rfl⟩ F.slot_set_iter (wpAny_call_entry F.slot_set_iter ⟨_, ho, rfl⟩ Qxk ?_ (F.args_set_iter_1 _))
 unfold Builtin.«frozenset.__iter__» Builtin.Frozenset.sizeOf setEntries setDrawn
 refine wpAny_bind (wpAny_pure ?_)
 refine wpAny_bind (wpAny_bind (wpAny_bind (wpAny_setState_of ho rfl rfl (wpAny_pure (wpAny_pure ?_)))))
 refine wpAny_bind (wpAny_bind (wpAny_setState_of ho rfl rfl ?_))
 unfold setsByText
 refine wpAny_bind (wpAny_bind (wpAny_askSetting (wpAny_pure ?_)))
 refine wpAny_pure ?_
 rw [if_neg (fun q => by rw [Bool.and_eq_true] at q; exact absurd q.2 Bool.false_ne_true)]
 refine wpAny_bind (wpAny_pure ?_)
 refine wpAny_bind (wpAny_setEpoch_of ho rfl rfl ?_)
 unfold newFields
 refine wpAny_bind (wpAny_newObj_type ?_ (Nat.le_of_ble_eq_true rfl))
 exact wpAny_pure ⟨_, rfl, "set_iterator", _, ⟨_, Heap.get?_push_size _ rfl, rfl⟩, slot_setit_next.lookup, h⟩
noncomputable def byT (w:World)(prog:Program) : Bool := (⟨prog, w.params⟩ : Setting).params.followText "set-order"
theorem pick_go {f:Nat → Nat}{n k:Nat}{l:List (Int × Value)}{out:Array (Int × Value)} : pickOrder.go f (n + 1) k l out = (match l[f k % l.length]? with | some y => pickOrder.go f n (k + 1) (l.eraseIdx (f k % l.length)) (out.push y) | none => out) := by kernel_rfl!
theorem pick1 (f:Nat → Nat)(x:Int × Value) : pickOrder f #[x] = #[x] := by
 show pickOrder.go f (0 + 1) 0 [x] #[] = #[x]
 rw [pick_go]
 show (match [x][f 0 % 1]? with | some y => pickOrder.go f 0 1 ([x].eraseIdx (f 0 % 1)) (#[].push y) | none => #[]) = #[x]
 rw [Nat.mod_one]
 rfl
theorem walk_set {a:Addr}{Q:Array (Int × Value) → Shared → Prop}(ho:s.heap.get? a = some (obj1 (!byT w prog)))(hb:byT w prog = true)(h:Q #[(1, .bool true)] s) : wpAny (model prog w) A (setWalk a) Q E s := by
 unfold setWalk setsByText
 refine wpAny_bind (wpAny_setState_of ho rfl rfl ?_)
 refine wpAny_bind (wpAny_bind (wpAny_askSetting (wpAny_pure ?_)))
 show wpAny _ _ (if byT w prog = true then _ else _) _ _ _
 rw [hb, if_pos rfl]
 refine wpAny_bind (wpAny_askSetting (wpAny_pure ?_))
 show Q (pickOrder _ #[(1, .bool true)]) s
 rw [pick1]
 exact h
theorem setNext0 {a:Addr}{Q:Option (Value × Nat) → Shared → Prop}(ho:s.heap.get? a = some (obj1 (!byT w prog)))(h:∀ n, (byT w prog = false → n = 2) → Q (some (.bool true, n)) s) : wpAny (model prog w) A (setNext a 0 0 1) Q E s := by
 unfold setNext
 refine wpAny_bind (wpAny_setState_of ho rfl rfl ?_)
 unfold setsByText
 refine wpAny_bind (wpAny_bind (wpAny_askSetting (wpAny_pure ?_)))
 show wpAny _ _ (if byT w prog = true then _ else _) _ _ _
 cases hb : byT w prog with
 | true =>
  rw [if_pos rfl]
  show wpAny _ _ (if ((1 : Nat) != 1) = true then _ else _) _ _ _
  rw [if_neg (by decide)]
  refine wpAny_bind (walk_set ho hb (wpAny_pure (h 0 fun e => by rw [hb] at e; cases e)))
 | false =>
  rw [if_neg (by decide)]
  rw [if_neg (fun q => by exact absurd q Bool.false_ne_true)]
  rw [hb] at h
  refine wpAny_bind (wpAny_of_eq (a := ()) rfl ?_)
  exact wpAny_pure (h 2 fun ζ => rfl)
theorem setNext1 {a:Addr}{n:Nat}{Q:Option (Value × Nat) → Shared → Prop}(ho:s.heap.get? a = some (obj1 (!byT w prog)))(hn:byT w prog = false → n = 2)(h:Q none s) : wpAny (model prog w) A (setNext a n 1 1) Q E s := by
 unfold setNext
 refine wpAny_bind (wpAny_setState_of ho rfl rfl ?_)
 unfold setsByText
 refine wpAny_bind (wpAny_bind (wpAny_askSetting (wpAny_pure ?_)))
 show wpAny _ _ (if byT w prog = true then _ else _) _ _ _
 cases hb : byT w prog with
 | true =>
  rw [if_pos rfl]
  show wpAny _ _ (if ((1 : Nat) != 1) = true then _ else _) _ _ _
  rw [if_neg (by decide)]
  refine wpAny_bind (walk_set ho hb (wpAny_pure h))
 | false =>
  rw [hn hb]
  rw [if_neg (by decide)]
  rw [if_neg (fun q => by exact absurd q Bool.false_ne_true)]
  refine wpAny_bind (wpAny_of_eq (a := ()) rfl ?_)
  exact wpAny_pure h
theorem next_set {a I:Addr}{Q:Option Value → Shared → Prop}(ho:s.heap.get? a = some (obj1 (!byT w prog)))(hI:s.heap.get? I = some (itObj a 0 0))(hne:a ≠ I)
  (h : ∀ n h', h'.get? I = some (itObj a n 1) → (byT w prog = false → n = 2) → Heap.SameBut I s.heap h' → Q (some (.bool true)) { s with heap := h' }) : wpAny (model prog w) A (pyNext (.ref I)) Q E s := by
 unfold pyNext
 refine wpAny_bind (wpAny_attempt (wpAny_callSpecial?_slot (name := Str.ofString "__next__") ⟨_, hI, rfl⟩ slot_setit_next (wpAny_call_entry slot_setit_next ⟨_, hI, rfl⟩ Qka ?_ (Qjq _))))
 unfold Builtin.«set_iterator.__next__»
 refine wpAny_bind (wpAny_pure ?_)
 show wpAny _ _ (fieldsOf (.ref I) >>= _) _ _ _
 refine wpAny_bind (wpAny_fieldsOf hI rfl ?_)
 show wpAny _ _ (setEntries a >>= _) _ _ _
 unfold setEntries
 refine wpAny_bind (wpAny_bind (wpAny_setState_of ho rfl rfl (wpAny_pure ?_)))
 dsimp only
 rw [if_neg (by decide)]
 show wpAny _ _ (setNext a 0 0 1 >>= _) _ _ _
 refine wpAny_bind (setNext0 ho fun n hn => ?_)
 dsimp only
 refine wpAny_bind (wpAny_setField_rec hI (by simp) fun h1 hI1 hs1 => ?_)
 refine wpAny_bind (wpAny_setField_rec (s := { s with heap := h1 }) hI1 (by simp) fun h2 hI2 hs2 => ?_)
 refine wpAny_pure ⟨_, rfl, wpAny_pure (h n h2 ?_ hn ⟨hs2.1.trans hs1.1, fun b hb => (hs2.2 b hb).trans (hs1.2 b hb)⟩)⟩
 rw [hI2]
 simp [rawInt]
theorem end_set {a I:Addr}{n:Nat}{Q:Option Value → Shared → Prop}(hh:A.handled = none)(ho:s.heap.get? a = some (obj1 (!byT w prog)))(hI:s.heap.get? I = some (itObj a n 1))(hn:byT w prog = false → n = 2)
  (h : ∀ h', Heap.ExtBut I s.heap h' → Q none { s with heap := h' }) : wpAny (model prog w) A (pyNext (.ref I)) Q E s := by
 unfold pyNext
 refine wpAny_bind (wpAny_attempt (wpAny_callSpecial?_slot (name := Str.ofString "__next__") ⟨_, hI, rfl⟩ slot_setit_next (wpAny_call_entry slot_setit_next ⟨_, hI, rfl⟩ Qka ?_ (Qjq _))))
 unfold Builtin.«set_iterator.__next__»
 refine wpAny_bind (wpAny_pure ?_)
 show wpAny _ _ (fieldsOf (.ref I) >>= _) _ _ _
 refine wpAny_bind (wpAny_fieldsOf hI rfl ?_)
 show wpAny _ _ (setEntries a >>= _) _ _ _
 unfold setEntries
 refine wpAny_bind (wpAny_bind (wpAny_setState_of ho rfl rfl (wpAny_pure ?_)))
 dsimp only
 rw [if_neg (by decide)]
 show wpAny _ _ (setNext a n 1 1 >>= _) _ _ _
 refine wpAny_bind (setNext1 ho hn ?_)
 dsimp only
 refine wpAny_bind (wpAny_setField_rec hI (by simp) fun h1 hI1 hs1 => ?_)
 refine wpAny_bind ?_
 refine wpAny_bind (m := newTuple []) (wpAny_newObj_type ?_ (by size_fits))
 refine wpAny_bind (m := firstArgMember _ _) (wpAny_of_eq (a := Value.none) rfl ?_)
 refine wpAny_newObj_type ?_ (by size_fits)
 refine wpAny_bind (m := handled) (wpAny_handled ?_)
 rw [show A.in1.handled = none from hh]
 refine wpAny_bind (wpAny_pure (wpAny_throw ?_))
 refine wpAny_bind (wpAny_isInstance (T := "StopIteration") (b := true) ⟨_, Heap.get?_push_size _ rfl, rfl⟩ isSubtype_stop ?_)
 exact wpAny_pure (h _ ((hs1.extBut.push _).push _))
theorem unpack_set {a:Addr}{Q:List Value → Shared → Prop}(hh:A.handled = none)(ho:s.heap.get? a = some (obj1 (!byT w prog)))(h:∀ h', Kp s.heap h' → Q [.bool true] { s with heap := h' }) : wpAny (model prog w) A (unpackItems (.ref a) 1 none) Q E s := by
 have hne : a ≠ s.heap.objs.size := Nat.ne_of_lt (Heap.lt_size ho)
 unfold unpackItems
 refine wpAny_bind ?_
 refine wpAny_bind (m := specialOf (.ref a) "__iter__") (wpAny_specialOf ⟨_, ho, rfl⟩ F.slot_set_iter.lookup ?_)
 refine wpAny_pure ?_
 rw [if_neg Bool.false_ne_true]
 refine wpAny_bind (wpAny_holding (iter_set ho ?_))
 refine wpAny_bind (wpAny_holding ?_)
 refine wpAny_bind (m := pyNext (.ref s.heap.objs.size)) (next_set (I := s.heap.objs.size) (Heap.get?_push_of_some _ ho) (Heap.get?_push_size _ rfl) hne fun n h1 hI1 hn hs1 => ?_)
 have ho1 : h1.get? a = some (obj1 (!byT w prog)) := (hs1.2 a hne).trans (Heap.get?_push_of_some _ ho)
 refine wpAny_bind (wpAny_holding ?_)
 refine wpAny_pure (wpAny_pure ?_)
 show wpAny _ _ (if ([Value.bool true].length < 1) then _ else _) _ _ _
 rw [if_neg (by decide)]
 refine wpAny_bind (wpAny_holding (end_set (s := { s with heap := h1 }) hh ho1 hI1 hn fun h2 he2 => ?_))
 refine wpAny_pure (h h2 fun b o e => ?_)
 have hb : b ≠ s.heap.objs.size := Nat.ne_of_lt (Heap.lt_size e)
 exact he2 b o hb ((hs1.2 b hb).trans (Heap.get?_push_of_some _ e))
end
section
variable {prog : Program} {w : World} {A : Around} {E : Value → Shared → Prop} {R : Result → Shared → Prop} {s : Shared}
theorem QIk (elt target iter:Expr)(scope:Scope)(pos:Pos)(it acc:Value)(env:Env) :
  compTurn (.SetComp elt [⟨target, iter, [], 0⟩] scope pos) 0 it acc env = (standAt iter.pos >>= fun ζ => pyNext it >>= fun r => match r with
   | none => pure (.done .next)
   | some v => letOwnedTupleGo target it v >>= fun ζ => assign target env v >>= fun ζ =>
    (eval elt env >>= fun x => standAt elt.pos >>= fun ζ => call (.builtin "set.add") [acc, x] >>= fun ζ => pure ()) >>= fun ζ =>
     again (.compLoop (.SetComp elt [⟨target, iter, [], 0⟩] scope pos) 0 it acc env)) := by rfl
theorem loop_set {elt target iter:Expr}{scope:Scope}{pos:Pos}{it acc:Value}{env:Env}(I:Nat → Shared → Prop)
  (turn : ∀ n s, I n s → wpAny (model prog w) A (pyNext it) (fun r s₁ => match r with
   | none => R (.ok .next) s₁
   | some v => wpAny (model prog w) A (assign target env v) (fun ζ s₂ =>
     wpAny (model prog w) A (eval elt env) (fun x s₃ =>
      wpAny (model prog w) A (call (.builtin "set.add") [acc, x]) (fun ζ s₄ => ∃ m, m < n ∧ I m s₄) (notedBy (model prog w) A env fun e s' => R (.error e) s') s₃) (notedBy (model prog w) A env fun e s' => R (.error e) s') s₂)
      (notedBy (model prog w) A env fun e s' => R (.error e) s') s₁) (notedBy (model prog w) A env fun e s' => R (.error e) s') s)
  (n : Nat) (h : I n s) (ht : ∀ v, letOwnedTupleGo target it v = pure ()) : codeAny (model prog w) A (.compLoop (.SetComp elt [⟨target, iter, [], 0⟩] scope pos) 0 it acc env) R s := by
 refine codeAny_loop rfl I (fun n s hI => ?_) n h
 show wpAny _ A ((compTurn (.SetComp elt [⟨target, iter, [], 0⟩] scope pos) 0 it acc env).onRaise (fun x => do noteFrame x env; theTreesLotGoes x)) _ _ s
 refine wpAny_noted ?_
 rw [QIk]
 refine wpAny_bind (wpAny_standAt (wpAny_bind (wpAny_mono (turn n s hI) (fun r s₁ h₁ => ?_) fun ζ ζ h' => h')))
 cases r with
 | none => exact wpAny_pure h₁
 | some v =>
  refine wpAny_bind (wpAny_of_eq (ht v) ?_)
  refine wpAny_bind (wpAny_mono h₁ (fun ζ s₂ h₂ => ?_) fun ζ ζ h' => h')
  refine wpAny_bind (wpAny_bind (wpAny_mono h₂ (fun x s₃ h₃ => ?_) fun ζ ζ h' => h'))
  exact wpAny_bind (wpAny_standAt (wpAny_bind (wpAny_mono h₃ (fun ζ s₄ h₄ => wpAny_pure (wpAny_pure ⟨rfl, h₄⟩)) fun ζ ζ h' => h')))
theorem start_set {elt target iter:Expr}{ifs:List Expr}{rest:List Comprehension}{scope:Scope}{pos:Pos}{it acc:Value}{env:Env}
  (h0 : codeAny (model prog w) A (.compLoop (.SetComp elt (⟨target, iter, ifs, 0⟩ :: rest) scope pos) 0 it acc env) R s)
  (h : wpAny (model prog w) A (pyIter it) (fun it' s' => codeAny (model prog w) A (.compLoop (.SetComp elt (⟨target, iter, ifs, 0⟩ :: rest) scope pos) 0 it' acc env) R s')
   (notedBy (model prog w) A env fun x s' => R (.error x) s') s) :
  codeAny (model prog w) A (.compStart (.SetComp elt (⟨target, iter, ifs, 0⟩ :: rest) scope pos) 0 it acc env) R s := by
 refine codeAny_of_tree ?_
 show wpAny _ _ ((compStart (.SetComp elt (⟨target, iter, ifs, 0⟩ :: rest) scope pos) 0 it acc env).onRaise (fun x => do noteFrame x env; standAt theWindowsPlace)) _ _ s
 refine wpAny_notedAt ?_
 unfold compStart
 show wpAny _ _ (ask >>= _) _ _ s
 refine wpAny_bind (wpAny_askSetting (wpAny_ite ?_))
 split
 ·exact wpAny_bind (wpAny_pure (wpAny_pure (And.intro rfl h0)))
 ·refine wpAny_bind (wpAny_rule ?_)
  show wpAny _ _ (standAt iter.pos >>= _) _ _ s
  exact wpAny_bind (wpAny_standAt (wpAny_bind (wpAny_mono h (fun it' s' h' => wpAny_pure (And.intro rfl h')) fun ζ ζ x => x)))
end
section
variable {prog : Program} {w : World} {T : Hp} {A : Around} {env : Env} {G : Gam}
noncomputable def Qtb (led:Bool)(i:Nat) : Obj := if i = 0 then obj0 led else obj1 led
theorem set_core {E:Value → Shared → Prop}{s:Shared}{elt iter:Expr}{x:Str}{px:Pos}{scope:Scope}{pos:Pos}{xs:List PyData}{Gf:Gam}{n:Nat}(cl:List (Str × Addr))(ok:OkA A n)
  (hit : EvIt prog w T A env G iter xs) (hsz : xs.length ≤ sizeLine) (hG : Takes env scope cl G Gf)
  (hne : 0 < xs.length) (he : ∀ T' C d, T'.le T → d ∈ xs → EvA prog w T' A (compEnvC scope cl C env) ((x, .d d) :: Gf) elt (.d (.bool true)))
  (hclos : autoParam (closureFor scope env = pure cl) sK) (hcell : autoParam (∀ y ∈ scope.names, y.2 ≠ .cell) sD) (hkind : autoParam (scope.kind = .function) sK)
  (hnames : autoParam (∀ y ∈ scope.names, y.2 = .local → scope.names.lookup y.1 = some .local) sD) (hx : autoParam (scope.names.lookup x = some .local) sK)
  (hs : autoParam (∀ x, foldedSetIterable iter env x = pure x) sK) (hlot : autoParam (∀ it v, letOwnedTupleGo (.Name x px) it v = pure ()) sR)
  (hp : T.p s.heap) (hv : Vw T.X env G s.heap) :
  wpAny (model prog w) A (eval (.SetComp elt [⟨.Name x px, iter, [], 0⟩] scope pos) env) (fun v s' => Kt s s' ∧ ∃ D, v = .ref D ∧ ¬ Qaa s.heap D ∧ s'.heap.get? D = some (obj1 (!byT w prog))) E s := by
 rw [arm_eval_SetComp]
 refine wpAny_comprehension_free (use := none) rfl hs hclos hkind hnames (wpAny_mono (hit.of E s hp hv) (fun xv s₁ h₁ => wpAny_mono h₁ (fun it s₂ h₂ => ?_) fun ζ ζ e => e) fun ζ ζ e => e)
 refine Qpy (h₂) fun ks I fp wr P St h₁ K => ?_
 obtain ⟨rfl, W, hst, hlv, hfr, hfx, k₁, k₂, hrd⟩ := K
 unfold newSet setsByText
 refine wpAny_bind (wpAny_bind (wpAny_bind (wpAny_askSetting (wpAny_pure (wpAny_pure ?_)))))
 show wpAny _ _ (newObj (.type "set") (.set #[] 0 (.fresh 0 0 (!byT w prog)))) _ _ _
 generalize hled : (!byT w prog) = led
 refine wpAny_newObj_type (wpAny_newFunctionEnv hcell (by intro y hy; simp at hy) (fun H₁ hns₁ hsb₁ => ?_) hkind)
 dsimp only at hns₁ hsb₁ ⊢
 generalize hH2 : s₂.heap.push (obj0 led) = H2 at hns₁ hsb₁ ⊢
 generalize hD : s₂.heap.objs.size = D at *
 generalize hC : H2.objs.size = C at *
 have hCD : C = D + 1 := by rw [← hC, ← hH2, Heap.size_push, hD]
 have hDC : D ≠ C := by lia
 have hDn : ¬ Qaa s₂.heap D := Qax (Nat.le_of_eq hD)
 have hCn : ¬ Qaa s₂.heap C := Qax (by lia)
 have hDf : D ∉ fp := fun hm => hDn (hlv _ _ hst D hm)
 have hCf : C ∉ fp := fun hm => hCn (hlv _ _ hst C hm)
 have hCw : C ∉ wr := fun h => hCf (W.sub _ h)
 have hDw : D ∉ wr := fun h => hDf (W.sub _ h)
 have old : Kp s₂.heap H₁ := fun b o e => hsb₁.extBut b o (fun q => hCn (q ▸ ⟨o, e⟩)) (Heap.get?_push_of_some _ (hH2 ▸ Heap.get?_push_of_some _ e))
 have hacc : H₁.get? D = some (Qtb led 0) := hsb₁.extBut _ _ hDC (Heap.get?_push_of_some _ (hH2 ▸ hD ▸ Heap.get?_push_size _ rfl))
 have hst₁ : St 0 H₁ := W.frame _ _ _ hst fun b ζ o e => old b o e
 let Y : Addr → Prop := fun b => b ∈ wr ∨ b = D ∨ b = C
 have hYn : ∀ b, Y b → ¬ Qaa h₁ b := fun b hb => by
  rcases hb with hb | rfl | rfl
  ·exact hfr b hb
  ·exact fun ⟨o, e⟩ => hDn ⟨o, k₂ _ _ e⟩
  ·exact fun ⟨o, e⟩ => hCn ⟨o, k₂ _ _ e⟩
 have hTle := Hp.push_le T Y
 have hp₁ : T.p h₁ := T.mono _ _ k₁.kpx hp
 let cenv : Env := compEnvC scope cl C env
 have hcl : cenv.locals = C := rfl
 have vw : ∀ H m' i v d, Kp h₁ H → H.Ns C m' → m' x = some v → P i v → xs[i]? = some d → Vw (T.push Y).X cenv ((x, .d d) :: Gf) H := by
  intro H m' i v d kH hn hmx hPv hd y a e
  by_cases hy : y = x
  ·subst hy
   rw [Qak] at e; cases e
   exact ⟨v, .inl ⟨lookup_relabel_local hx, m', hn, hmx⟩, (hrd i v d hPv hd).to kH.kpx fun b hb => hb.imp_right (hYn b)⟩
  ·rw [Qaz hy] at e
   refine Qwb (hG.of y a e) fun q1 q2 q3 q4 => ?_
   refine eEA (hv y a q1) fun u hu ha => ?_
   rcases hu with ⟨hl, _⟩ | ⟨_, c, hc, hi⟩
   ·rw [q2] at hl; cases hl
   ·exact ⟨u, .inr ⟨q3, c, q4.trans hc, hi.keeps (k₁.trans kH)⟩, ha.to (k₁.trans kH).kpx fun b hb => hb.imp_right fun z l => hYn b z (eE (l) fun o e => ⟨o, k₁ b o e⟩)⟩
 have tle : (T.push Y).le T := hTle
 have loop : ∀ (RR : Result → Shared → Prop) tk₀, (∀ h' tk m', h'.Ns C m' → h'.get? D = some (Qtb led xs.length) → Kp h₁ h' → RR (.ok .next) { s₂ with heap := h', toks := tk }) →
   codeAny (model prog w) A (.compLoop (.SetComp elt [⟨.Name x px, iter, [], 0⟩] scope pos) 0 (.ref I) (.ref D) cenv) RR { s₂ with heap := H₁, toks := tk₀ } := by
  intro RR tk₀ hRR
  refine loop_set
   (fun k s' => ∃ i H tk m', s' = { s₂ with heap := H, toks := tk } ∧ i ≤ xs.length ∧ k = xs.length + 1 - i ∧ St i H ∧ H.get? D = some (Qtb led i) ∧ H.Ns C m' ∧
    (T.push Y).p H ∧ Kp h₁ H) ?_ (xs.length + 1)
   ⟨0, H₁, tk₀, _, rfl, Nat.zero_le _, rfl, hst₁, hacc, hns₁, Hp.push_p hp₁ hYn (k₂.trans old).kpx ?_, k₂.trans old⟩ (fun v => hlot _ v)
  ·intro k s' κ0
   refine QHb κ0 fun i H tk m' e1 hi e2 hSt hacc' hn' hpT hkp => ?_
   subst e1
   subst e2
   have step : ∀ {H H' : Heap}, KpX (T.push Y).X H H' → (T.push Y).p H → (T.push Y).p H' := fun k q => (T.push Y).mono _ _ k q
   by_cases hlt : i < xs.length
   ·have hd : xs[i]? = some xs[i] := List.getElem?_eq_getElem hlt
    have hdm : xs[i] ∈ xs := List.getElem_mem hlt
    refine W.item i _ _ _ hlt hSt fun v h1 tk1 hPv hst1 hk1 => ?_
    have l1 : KpX (T.push Y).X H h1 := ⟨fun b o hb e => hk1 b o (fun hw => hb (.inr (.inl hw))) e, fun b l => by
     by_cases hb : b ∈ wr
     ·exact hlv _ _ hst1 b (W.sub b hb)
     ·exact eE (l) fun o e => ⟨o, hk1 b o hb e⟩⟩
    have kp1 : Kp h₁ h1 := fun b o e => hk1 b o (fun hw => hfr b hw ⟨o, e⟩) (hkp b o e)
    refine wpAny_assign_Name (wpAny_storeName_local (lookup_relabel_local hx) (hn'.at' fun o e => hk1 _ o hCw e) (fun h2 hn2 hs2 => ?_) (stq hkind))
    have hn2' : h2.Ns C (fun y => if y = x then some v else m' y) := hn2
    have hs2' : Heap.SameBut C h1 h2 := hs2
    have l2 : KpX (T.push Y).X h1 h2 := KpX.sameBut (.inr (.inr (.inr rfl))) (Ns.live hn2') hs2'
    have kp2 : Kp h₁ h2 := fun b o e => (hs2'.2 b (fun q => hCn (q ▸ let e' := k₂ _ _ e; ⟨o, e'⟩))).trans (kp1 b o e)
    have hst2 : St (i + 1) h2 := W.frame _ _ _ hst1 fun b hb o e => (hs2'.2 b (fun h => hCf (h ▸ hb))).trans e
    have hacc2 : h2.get? D = some (Qtb led i) := (hs2'.2 _ hDC).trans (hk1 _ _ hDw hacc')
    have pT2 := step (l1.trans l2) hpT
    have vw2 := vw h2 _ i v xs[i] kp2 hn2' (by simp) hPv hd
    refine wpAny_mono ((he (T.push Y) C xs[i] tle hdm).of _ { s₂ with heap := h2, toks := _ } pT2 vw2) (fun y s4 q4 => ?_) fun ζ ζ e => e
    refine eA (q4) fun ry k4 => ?_
    have := ry.bool_inv
    subst this
    refine Qfw (k4.of) fun h4 tk4 ρ0 hk4 => ?_
    subst ρ0
    have hacc4 : h4.get? D = some (Qtb led i) := hk4 _ _ hacc2
    have fin4 : ∀ h5 tk5, h5.get? D = some (obj1 led) → Heap.SameBut D h4 h5 → ∃ m, m < xs.length + 1 - i ∧ ∃ i H tk m', ({ s₂ with heap := h5, toks := tk5 } : Shared) = { s₂ with heap := H, toks := tk } ∧ i ≤ xs.length ∧ m = xs.length + 1 - i ∧ St i H ∧ H.get? D = some (Qtb led i) ∧ H.Ns C m' ∧ (T.push Y).p H ∧ Kp h₁ H := fun h5 tk5 hl5 hs5 => by
     have l5 : KpX (T.push Y).X h4 h5 := KpX.sameBut (.inr (.inr (.inl rfl))) ⟨_, hl5⟩ hs5
     have kp5 : Kp h₁ h5 := fun b o e => (hs5.2 b (fun q => hDn (q ▸ let e' := k₂ _ _ e; ⟨o, e'⟩))).trans (hk4 _ _ (kp2 b o e))
     refine ⟨xs.length + 1 - (i + 1), Qjj hlt, i + 1, h5, tk5, _, rfl, hlt, rfl, ?_, by rw [Qtb, if_neg (by lia)]; exact hl5, (hn2'.keeps hk4).sameBut hs5 (Ne.symm hDC), step l5 (step (Kp.kpx hk4) pT2), kp5⟩
     exact W.frame _ _ h5 (W.frame _ _ h4 hst2 fun b ζ o e => hk4 b o e) fun b hb o e => (hs5.2 b (fun h => hDf (h ▸ hb))).trans e
    by_cases hi0 : i = 0
    ·rw [Qtb, if_pos hi0] at hacc4
     exact set_first (s := { s₂ with heap := h4, toks := tk4 }) hacc4 fun h5 hl5 hs5 => fin4 h5 _ hl5 hs5
    ·rw [Qtb, if_neg hi0] at hacc4
     exact set_again (s := { s₂ with heap := h4, toks := tk4 }) hacc4 (fin4 h4 _ hacc4 ⟨rfl, fun ζ ζ => rfl⟩)
   ·have hin : i = xs.length := by lia
    subst hin
    refine W.done _ _ _ hSt fun h1 tk1 hk1 => ?_
    have kp1 : Kp h₁ h1 := fun b o e => hk1 b o (fun hw => hfr b hw ⟨o, e⟩) (hkp b o e)
    exact hRR h1 tk1 m' (hn'.at' fun o e => hk1 _ o hCw e) (hk1 _ _ hDw hacc') kp1
  ·intro b hb
   rcases hb with hb | rfl | rfl
   ·exact hlv _ _ hst₁ b (W.sub b hb)
   ·exact ⟨_, hacc⟩
   ·exact Ns.live hns₁
 have fin : ∀ h' tk m', h'.Ns C m' → h'.get? D = some (Qtb led xs.length) → Kp h₁ h' →
   compPost (model prog w) A E none (fun v s' => Kt s s' ∧ ∃ D, v = .ref D ∧ ¬ Qaa s.heap D ∧ s'.heap.get? D = some (obj1 led)) (.ref D) C (.ok .next) { s₂ with heap := h', toks := tk } := by
  intro h' tk m' hn hl hk
  refine ⟨m', hn, fun h'' hs'' => ?_⟩
  have q1 : ¬ Qaa s.heap D := fun l => hDn (ks.kp.kpx (X := T.X) |>.live _ l)
  have q2 : ¬ Qaa s.heap C := fun l => hCn (ks.kp.kpx (X := T.X) |>.live _ l)
  rw [Qtb, if_neg (by lia)] at hl
  refine ⟨?_, D, rfl, q1, (hs''.2 D hDC).trans hl⟩
  refine Qfw (ks.of) fun h9 t9 e9 k9 => ?_
  subst e9
  exact ⟨h'', tk, rfl, fun b o e => (hs''.2 b (fun q => q2 (q ▸ ⟨o, e⟩))).trans (hk b o (k₁ b o e))⟩
 exact start_set (loop _ _ fin) (W.self 0 _ _ _ hst₁ (loop _ _ fin))
end
section
variable {prog : Program} {w : World} {W : Addr → Prop} {T : Hp} {A : Around} {env : Env} {s₀ s : Shared} {G : Gam} {O : Own} {R : Flow → Shared → Prop} {rest : List Stmt}
theorem st_setTrue {v:Str}{pv ps tpos:Pos}{k:Nat}{elt iter:Expr}{x:Str}{px:Pos}{scope:Scope}{pos:Pos}{xs:List PyData}{Gf:Gam}{n:Nat}(cl:List (Str × Addr))(ok:OkA A n)(F:Fx W T s₀ env G O s)
  (hit : EvIt prog w T A env G iter xs) (hsz : xs.length ≤ sizeLine) (hG : Takes env scope cl G Gf)
  (hne : 0 < xs.length) (he : ∀ T' C d, T'.le T → d ∈ xs → EvA prog w T' A (compEnvC scope cl C env) ((x, .d d) :: Gf) elt (.d (.bool true)))
  (h : ∀ s', Fx W T s₀ env ((v, .d (.bool true)) :: G) O s' → Go prog w A env rest R s')
  (hclos : autoParam (closureFor scope env = pure cl) sK) (hcell : autoParam (∀ y ∈ scope.names, y.2 ≠ .cell) sD) (hkind : autoParam (scope.kind = .function) sK)
  (hnames : autoParam (∀ y ∈ scope.names, y.2 = .local → scope.names.lookup y.1 = some .local) sD) (hx : autoParam (scope.names.lookup x = some .local) sK)
  (hs : autoParam (∀ x, foldedSetIterable iter env x = pure x) sK) (hlot : autoParam (∀ it v, letOwnedTupleGo (.Name x px) it v = pure ()) sR)
  (hk : autoParam (env.scope.kind = .function) sK)
  (hv : autoParam (env.kindOf v = some .local ∨ (env.kindOf v = some .cell ∧ (env.cells.lookup v).isSome = true)) sO)
  (hsw : autoParam (swapsWithSole [.Tuple [.Name v pv] k tpos] (.SetComp elt [⟨.Name x px, iter, [], 0⟩] scope pos) ps.line env = pure false) sK)
  (hss : autoParam (swappedStores [.Tuple [.Name v pv] k tpos] (.SetComp elt [⟨.Name x px, iter, [], 0⟩] scope pos) env = pure none) sK) :
  Go prog w A env (.Assign [.Tuple [.Name v pv] k tpos] (.SetComp elt [⟨.Name x px, iter, [], 0⟩] scope pos) ps :: rest) R s := by
 refine ⟨wpAny_execs_cons (PyProof.Rows.Assign_Tuple (wpAny_mono (set_core cl ok hit hsz hG hne he hclos hcell hkind hnames hx hs hlot F.t F.vw) (fun u s' q => ?_) fun ζ ζ x => x) hsw hss)⟩
 obtain ⟨kt, D, rfl, hD, ho⟩ := q
 have F1 := F.kept kt
 rw [arm_assign_Tuple]
 refine wpAny_bind (wpAny_standAt ?_)
 unfold unpack
 refine wpAny_bind (wpAny_holding ?_)
 show wpAny _ _ (unpackItems (.ref D) 1 none) _ _ _
 refine unpack_set ok.handled ho fun h' kp => ?_
 have F2 : Fx W T s₀ env G O { s' with heap := h' } := F1.kept (Kt.mk' s' s'.toks kp)
 show wpAny _ _ (assignInOrder [assign (.Name v pv) env] [.bool true]) _ _ _
 exact Qgk (a := .d (.bool true)) F2 hk hv Dv.p.bool fun s2 F3 k2 => assignInOrder_nil (h s2 F3).of
end
section
variable {prog : Program} {w : World} {T : Hp} {A : Around} {env : Env} {G : Gam}
theorem QFw {xs:List PyData}{i:Int}{d:PyData}(h0:0 ≤ i)(hi:i < 2 ^ 63)(hd:xs[i.toNat]? = some d) : Op2 prog w T A getItem (.d (.tuple xs)) (.d (.int i)) (.d d) := ⟨fun E s v1 v2 ζ p1 p2 => by
 refine Qck (p1.tuple_inv) fun a vs ρ0 hx hl hr => ?_
 subst ρ0
 refine eE (p2.int_inv) fun t ρ1 => ?_
 subst ρ1
 refine eEA (hr.get i.toNat d hd) fun v hv r => ?_
 have hv' : vs[i.toNat]? = some v := by simpa using hv
 have hlt : i.toNat < vs.size := (Array.getElem?_eq_some_iff.mp hv').1
 refine PyProof.Rows.getItem_tuple (j := i.toNat) (x := v) hl (by lia) hi ?_ hv' ⟨r, .refl s⟩
 unfold seqIndex?
 rw [if_neg (by lia : ¬ i < 0)]
 have h2 : (decide (0 ≤ i) && decide (i < (vs.size : Int))) = true := by rw [Bool.and_eq_true, decide_eq_true_eq, decide_eq_true_eq]; lia
 show (if (decide (0 ≤ i) && decide (i < (vs.size : Int))) = true then some i.toNat else none) = _
 rw [if_pos h2]⟩
theorem TeA.tuple {e:Expr}{xs:List PyData}(h:EvA prog w T A env G e (.d (.tuple xs)))(hs:xs.length ≤ sizeLine)(he:autoParam (isTrue e env (eval e env) = (do let v ← eval e env; standAt e.pos; holding [v] (truthy v))) sK) : TeA prog w T A env G e (decide (0 < xs.length)) := ⟨fun E s hp hv =>
 wpAny_isTrue_value (wpAny_mono (h.of E s hp hv) (fun v s' k => by
  obtain ⟨hv, k⟩ := k
  obtain ⟨a, vs, rfl, hx, hl, hr⟩ := hv.tuple_inv
  have e : vs.size = xs.length := by have := hr.length; simpa using this
  have : xs.length ≤ 2 ^ 24 := hs
  refine truthy_tuple hl (by lia) ⟨?_, k.trans (.tok s' _)⟩
  unfold Array.isEmpty
  rw [e]
  cases xs.length <;> rfl) fun ζ ζ x => x) he⟩
end
noncomputable def Qcc (x:Str) : List Str := (Txt.split x "/").filter fun c => Qbc (.str c) && !(c == ".")
noncomputable def QIw : List Str → List Str → List Str
 | x :: xs, y :: ys => if x == y then x :: QIw xs ys else []
 | _, _ => []
theorem comL_cons {x y:Str}{xs ys:List Str} : QIw (x :: xs) (y :: ys) = if x == y then x :: QIw xs ys else [] := rfl
noncomputable def Qmy (x y:Str) : List Str := if ltL ((Qcc y).map .str) ((Qcc x).map .str) then Qcc y else Qcc x
noncomputable def Qwa (x y:Str) : List Str := if gtL ((Qcc y).map .str) ((Qcc x).map .str) then Qcc y else Qcc x
noncomputable def commonD (x y:Str) : Str := "/" ++ Txt.join "/" (QIw (Qmy x y) (Qwa x y))
theorem Qzc : ∀ (a b:List Str)(i:Nat)(x y:Str), a.take i = b.take i → a[i]? = some x → b[i]? = some y → (x == y) = false → QIw a b = a.take i
 | [], _, i, x, y, _, h, _, _ => nomatch h
 | a :: as, [], i, x, y, _, _, h, _ => nomatch h
 | a :: as, b :: bs, 0, x, y, _, h1, h2, h => by
  cases h1; cases h2
  rw [comL_cons, h]; rfl
 | a :: as, b :: bs, i + 1, x, y, ht, h1, h2, h => by
  refine eA (List.cons.inj ht) fun e ht' => ?_
  subst e
  rw [comL_cons, if_pos (beq_self_eq_true a), Qzc as bs i x y ht' h1 h2 h]; rfl
theorem Qpb : ∀ (a b:List Str), a.take a.length = b.take a.length → QIw a b = a
 | [], _, _ => rfl
 | a :: as, [], h => nomatch h
 | a :: as, b :: bs, h => by
  refine eA (List.cons.inj h) fun ρ2 h' => ?_
  subst ρ2
  rw [comL_cons, if_pos (beq_self_eq_true a), Qpb as bs h']
open Builtin Builtin.Str in
structure CommonOk (x y : Str) : Prop where
 sz : ∀ u, u = x ∨ u = y → u.length ≤ sizeLine ∧ (partsBetween u (occurrences u "/" 0 u.length (u.length + 1)) (Str.ofString "/").length).length ≤ sizeLine ∧ Txt.startswith u "/" = true ∧ (Txt.split u "/").length ≤ 1000 ∧ ∀ c ∈ Txt.split u "/", c.length ≤ sizeLine ∧ (PyData.str c).canLay0 = true
 ix : ∀ i, i < (Qmy x y).length → (Qmy x y).take i = (Qwa x y).take i → i < (Qwa x y).length
 join : JoinOk "/" (QIw (Qmy x y) (Qwa x y)) = true
 all : (Str.ofString "/").length + (Txt.join "/" (QIw (Qmy x y) (Qwa x y))).length ≤ sizeLine
theorem Qja : ∀ (xs ys:List Str), (∀ c ∈ xs, (PyData.str c).canLay0 = true) → (∀ c ∈ ys, (PyData.str c).canLay0 = true) → Qfb (xs.map .str) (ys.map .str)
 | [], _, _, _ => trivial
 | _ :: _, [], _, _ => trivial
 | x :: xs, y :: ys, h1, h2 => ⟨⟨rfl, h1 x (.head _), h2 y (.head _)⟩, Qja xs ys (fun c hc => h1 c (.tail _ hc)) fun c hc => h2 c (.tail _ hc)⟩
theorem Quw (x:Str) : (Qcc x).length ≤ (Txt.split x "/").length := List.length_filter_le _ _
noncomputable def Qkv : PyData → PyData
 | .str x => .list ((Txt.split x "/").map .str)
 | _ => .none
noncomputable def keepF : PyData → Bool
 | .str c => Qbc (.str c) && !(c == ".")
 | _ => false
noncomputable def QFk : PyData → PyData
 | .list cs => .list (cs.filter keepF)
 | _ => .none
theorem keepF_map (l:List Str) : (l.map PyData.str).filter keepF = (l.filter fun c => Qbc (.str c) && !(c == ".")).map .str := by
 rw [List.filter_map]; rfl
section
variable {prog : Program} {w : World}
theorem QDv (x y:Str)(C:CommonOk x y) : Ct prog w 10 (.ref 192) [.d (.list [.str x, .str y])] (.d (.str (commonD x y))) :=
 Qiv (i := 29) (x := "paths") fun T T' A L pm s₀ s₁ hT hT' hTp ok F => by
  refine Qcx (.d (.tuple [.str x, .str y])) F (EvA.tupleMap (m := 3) (ys := [x, y]) (ok.le (by decide)) (bltn _ hTp) (bltn _ hTp) (glob (.ref 138) hTp) (EvA.name (.d (.list [.str x, .str y]))) rfl (Nat.le_of_ble_eq_true rfl) (fun A' i d u ok' h1 h2 => ?_)).f fun s₂ F => ?_
  ·have : d = .str u := by
    match i, h1, h2 with
    | 0, h1, h2 => simp at h1 h2; rw [← h1, ← h2]
    | 1, h1, h2 => simp at h1 h2; rw [← h1, ← h2]
    | i + 2, h1, h2 => simp at h1
   subst this
   exact (Qhc u).of T' A' hTp (ok'.le (by decide))
  refine x_at F ?_
  refine x_ifF (TeA.not (TeA.tuple (EvA.name (.d (.tuple [.str x, .str y]))) (Nat.le_of_ble_eq_true rfl))).f (x_nil ?_)
  refine x_ifF (TeA.val (EvA.call (bltn (.builtin "isinstance") hTp) (EvL.cons (EvA.sub itT_tuple (EvA.name (.d (.tuple [.str x, .str y]))) EvA.int (QFw (d := .str x) (by decide) (by decide) rfl)) (EvL.cons (bltn (.type "bytes") hTp) .nil')) Qga) trivial).f ?_
  refine Qbq (.d (.str "/")) EvA.str.f ?_
  refine Qbq (.d (.str ".")) EvA.str.f (x_nil (x_try ?_))
  intro s₅ F
  have hmem : ∀ d ∈ [PyData.str x, PyData.str y], ∃ u, (u = x ∨ u = y) ∧ d = .str u := fun d hd => by
   rcases List.mem_cons.mp hd with rfl | hd
   ·exact ⟨x, .inl rfl, rfl⟩
   ·rw [List.mem_singleton.mp hd]; exact ⟨y, .inr rfl, rfl⟩
  refine Qew (xs := [.str x, .str y]) (Gf := [("sep", .d (.str "/"))]) [("sep", L + 1)] (fun ζ => true) Qkv ok F (EvIt.tuple ok (EvA.name (.d (.tuple [.str x, .str y])))) (Nat.le_of_ble_eq_true rfl) (Takes.cons _ .nil) (fun T'' C' d hT'' hd => TeL.nil) (fun T'' C' d hT'' hd ζ => ?_) fun s₆ F => st_try ?_
  ·refine eEA (hmem d hd) fun u hu ρ3 => ?_
   subst ρ3
   refine eAA (C.sz u hu) fun h1 h2 ζ => ?_
   exact EvA.meth QCq (EvA.name (.d (.str u))) Qgj (EvL.cons (EvA.name (.d (.str "/"))) .nil') (Qtz (by decide +kernel) h1 h2)
  refine st_setTrue (xs := [.str x, .str y]) (Gf := [("sep", .d (.str "/"))]) [("sep", L + 1)] ok F (EvIt.tuple ok (EvA.name (.d (.tuple [.str x, .str y])))) (Nat.le_of_ble_eq_true rfl) (Takes.cons _ .nil) (by simp) (fun T'' C' d hT'' hd => ?_) fun s₇ F => Qaw ?_
  ·refine eEA (hmem d hd) fun u hu ρ4 => ?_
   subst ρ4
   refine Qwb (C.sz u hu) fun ζ ζ h3 ζ => ?_
   exact EvA.cast (EvA.meth Qrw (EvA.name (.d (.str u))) Qgj (EvL.cons (EvA.name (.d (.str "/"))) .nil') Qok) (by rw [h3])
  have hcs : ∀ d ∈ [Qkv (.str x), Qkv (.str y)], ∃ u, (u = x ∨ u = y) ∧ d = .list ((Txt.split u "/").map .str) := fun d hd => by
   rcases List.mem_cons.mp hd with rfl | hd
   ·exact ⟨x, .inl rfl, rfl⟩
   ·rw [List.mem_singleton.mp hd]; exact ⟨y, .inr rfl, rfl⟩
  refine Qew (xs := [Qkv (.str x), Qkv (.str y)]) (Gf := [("curdir", .d (.str "."))]) [("curdir", L + 2)] (fun ζ => true) QFk ok F (EvIt.list ok (EvA.name (.d (.list [Qkv (.str x), Qkv (.str y)])))) (Nat.le_of_ble_eq_true rfl) (Takes.cons _ .nil) (fun T'' C' d hT'' hd => TeL.nil) (fun T'' C' d hT'' hd ζ => ?_) fun s₈ F => ?_
  ·refine eEA (hcs d hd) fun u hu ρ5 => ?_
   subst ρ5
   refine eAAAA (C.sz u hu) fun ζ ζ ζ h4 h5 => ?_
   refine EvA.cast (EvA.listComp (xs := (Txt.split u "/").map .str) (Gf := [("curdir", .d (.str "."))]) [("curdir", L + 2)] keepF id ok (EvIt.list ok (EvA.name (.d (.list ((Txt.split u "/").map .str))))) (by rw [List.length_map]; show _ ≤ 2 ^ 24; lia) (Takes.cons _ .nil) (fun T3 C3 d hT3 hd => ?_) (fun T3 C3 d hT3 hd ζ => EvA.name (.d d))) (by rw [List.map_id]; rfl)
   refine eEA (List.mem_map.mp hd) fun c hc ρ6 => ?_
   subst ρ6
   refine TeL.one (TeA.cast (b := Qbc (.str c) && ((!(c == ".")) && true)) (TeA.and (TeA.val (EvA.name (.d (.str c))) (h5 c hc).1) fun ζ => TeA.and (TeA.cmp (EvA.name (.d (.str c))) (EvA.name (.d (.str "."))) Qiz) fun ζ => TeA.and0) ?_)
   rw [Bool.and_true]; rfl
  have hparts : ∀ u, QFk (Qkv (.str u)) = .list ((Qcc u).map .str) := fun u => by
   show PyData.list (((Txt.split u "/").map PyData.str).filter keepF) = _
   rw [keepF_map]; rfl
  have hlist : (List.map QFk (List.filter (fun ζ => true) [Qkv (.str x), Qkv (.str y)])) = [.list ((Qcc x).map .str), .list ((Qcc y).map .str)] := by
   show [QFk (Qkv (.str x)), QFk (Qkv (.str y))] = _
   rw [hparts, hparts]
  rw [hlist] at F
  have hpr : ∀ u v, (u = x ∨ u = y) → (v = x ∨ v = y) → Qfb ((Qcc u).map .str) ((Qcc v).map .str) := fun u v hu hv => Qja _ _ (fun c hc => ((C.sz u hu).2.2.2.2 c ((List.mem_filter.mp hc).1)).2) fun c hc => ((C.sz v hv).2.2.2.2 c ((List.mem_filter.mp hc).1)).2
  refine x_at F ?_
  refine Qbq (.d (.list ((Qmy x y).map .str))) (EvA.cast (EvA.call (bltn (.builtin "min") hTp) (EvL.cons (EvA.name (.d (.list [.list ((Qcc x).map .str), .list ((Qcc y).map .str)]))) .nil') (fn_minLL (m := 0) (ok.le (by decide)) (hpr y x (.inr rfl) (.inl rfl)))) (by unfold Qmy; split <;> rfl)).f ?_
  refine Qbq (.d (.list ((Qwa x y).map .str))) (EvA.cast (EvA.call (bltn (.builtin "max") hTp) (EvL.cons (EvA.name (.d (.list [.list ((Qcc x).map .str), .list ((Qcc y).map .str)]))) .nil') (fn_maxLL (m := 0) (ok.le (by decide)) (hpr y x (.inr rfl) (.inl rfl)))) (by unfold Qwa; split <;> rfl)).f ?_
  refine Qbq (.d (.list ((Qmy x y).map .str))) (EvA.name (.d (.list ((Qmy x y).map .str)))).f ?_
  intro s₁₁ F
  have hmin : (Qmy x y).length ≤ 1000 := by
   have h1 := Quw x
   have h2 := Quw y
   have h3 := (C.sz x (.inl rfl)).2.2.2.1
   have h4 := (C.sz y (.inr rfl)).2.2.2.1
   unfold Qmy; split <;> lia
  let GG : List Str → Gam := fun cm => [("common", .d (.list (cm.map .str))), ("s2", .d (.list ((Qwa x y).map .str))), ("s1", .d (.list ((Qmy x y).map .str))), ("isabs", .d (.bool true)), ("sep", .d (.str "/"))]
  have F := F.pick (G' := GG (Qmy x y)) (.cons (.cons (.cons (.cons (.cons .nil)))))
  refine st_forEnum ok F (bltn _ hTp) (EvA.name (.d (.list ((Qmy x y).map .str)))) (fun i G' O' => G' = GG (Qmy x y) ∧ O' = none ∧ (Qmy x y).take i = (Qwa x y).take i) (fun G' O' => G' = GG (QIw (Qmy x y) (Qwa x y)) ∧ O' = none) ⟨rfl, rfl, rfl⟩ (fun i G' O' h L' ds e => by rw [h.2.1] at e; cases e) (fun G' O' h L' ds e => by rw [h.2] at e; cases e) ?_ ?_ ?_
  ·intro T₃ W₁ sb i d G' O' sc hT₃ hW hd κ0 F
   refine eAA (κ0) fun ρ0 ρ1 htk => ?_
   subst ρ0
   subst ρ1
   have hTp3 := hT₃.trans hTp
   obtain ⟨c, hc, rfl⟩ : ∃ c, (Qmy x y)[i]? = some c ∧ d = .str c := by
    rw [List.getElem?_map] at hd
    cases hq : (Qmy x y)[i]? with
    | none => rw [hq] at hd; cases hd
    | some c => rw [hq] at hd; cases hd; exact ⟨c, rfl, rfl⟩
   have hi : i < (Qmy x y).length := (List.getElem?_eq_some_iff.mp hc).1
   have hi2 := C.ix i hi htk
   have hc2 : (Qwa x y)[i]? = some (Qwa x y)[i] := List.getElem?_eq_getElem hi2
   generalize (Qwa x y)[i] = c2 at hc2
   refine Qiy (!(c == c2)) F (TeA.cmp (EvA.name (.d (.str c))) (EvA.sub Qfv (EvA.name (.d (.list ((Qwa x y).map .str)))) (EvA.name (.d (.int i))) (Qdq (d := .str c2) (by lia) (by lia) (by rw [Int.toNat_natCast, List.getElem?_map, hc2]; rfl))) Qiz).f (fun hb sd F => ?_) (fun hb sd F => ?_)
   ·rw [Bool.not_eq_true'] at hb
    have hl2 : ((Qmy x y).map PyData.str).length ≤ sizeLine := by rw [List.length_map]; show _ ≤ 2 ^ 24; lia
    refine Qcx (.d (.list ((QIw (Qmy x y) (Qwa x y)).map .str))) F (EvA.cast (EvA.plain (EvA.sliceList (EvA.name (.d (.list ((Qmy x y).map .str)))) .none (.some (EvA.name (.d (.int i)))) hl2)) (by rw [Qek, Qzc _ _ i c c2 htk hc hc2 hb, List.map_take])).f fun se F => ?_
    exact Qsb ⟨_, _, ⟨rfl, rfl⟩, (fun ζ ζ e => nomatch e), F.pick (.cons (.cons (.cons (.cons (.cons .nil)))))⟩
   ·rw [Bool.not_eq_false', beq_iff_eq] at hb
    subst hb
    refine Qaw (Qaw ⟨_, _, ⟨rfl, rfl, ?_⟩, (fun ζ ζ e => nomatch e), F.pick (.cons (.cons (.cons (.cons (.cons .nil)))))⟩)
    rw [List.take_add_one, List.take_add_one, htk, hc, hc2]
  ·intro G' O' s' κ1 F
   refine eAA (κ1) fun ρ2 ρ3 h => ?_
   subst ρ2
   subst ρ3
   rw [List.length_map] at h
   rw [← Qpb _ _ h] at F
   ·have e : Qmy x y = QIw (Qmy x y) (Qwa x y) := (Qpb _ _ h).symm
    refine Qcx (.d (.str "/")) F (EvA.ifExp true (TeA.val (EvA.name (.d (.bool true))) trivial) (fun ζ => EvA.name (.d (.str "/"))) (fun e => nomatch e)).f fun sa F => ?_
    exact ret hT' F (EvA.binop (EvA.name (.d (.str "/"))) (EvA.join (EvA.name (.d (.str "/"))) (EvA.name (.d (.list ((QIw (Qmy x y) (Qwa x y)).map .str)))) C.join) (Qfc C.all)).f
  ·intro G' O' s' κ2 F
   refine eA (κ2) fun ρ4 ρ5 => ?_
   subst ρ4
   subst ρ5
   ·skip
    refine Qcx (.d (.str "/")) F (EvA.ifExp true (TeA.val (EvA.name (.d (.bool true))) trivial) (fun ζ => EvA.name (.d (.str "/"))) (fun e => nomatch e)).f fun sa F => ?_
    exact ret hT' F (EvA.binop (EvA.name (.d (.str "/"))) (EvA.join (EvA.name (.d (.str "/"))) (EvA.name (.d (.list ((QIw (Qmy x y) (Qwa x y)).map .str)))) C.join) (Qfc C.all)).f
end
section
variable {prog : Program} {w : World} {A : Around} {R : GenEnd} {Y : Protocol} {n : Nat} {s₀ : Shared} {c : Code} {fs : List Frame} {s : Shared} {env : Env}
 {K : Flow → Sem PySem.Fin} {H : Value → Sem PySem.Fin} {gd : Bool → Bool} {lv : List Value → List Value} {rest : List Stmt}
theorem QAw {st:Stmt}(h:Go prog w (A.over c fs) env [st] (fun f s' => Seg (model prog w) A R Y n s₀ c (match f with | .next => (execs rest env).wrap K H gd lv | f => K f) fs s') s) :
  Seg (model prog w) A R Y n s₀ c ((execs (st :: rest) env).wrap K H gd lv) fs s := by
 have e : (execs (st :: rest) env).wrap K H gd lv = (execs [st] env).wrap (fun f => match f with | .next => (execs rest env).wrap K H gd lv | f => K f) H gd lv := by
  rw [execs_cons_wrap, execs_cons_wrap]
  exact Sem.wrap_congr _ _ _ (fun f => by cases f <;> rfl) (fun ζ => rfl)
 rw [e]
 exact seg_wrap (wpAny_mono h.of (fun f s' q => q) fun ζ ζ x => x.elim)
theorem seg_ifS {test:Expr}{body orelse:List Stmt}{pos:Pos}(b:Bool){P:Shared → Prop}(ht:wpAny (model prog w) (A.over c fs) (isTrue test env (eval test env)) (fun r s' => r = b ∧ P s') (fun ζ ζ => False) s)
  (h : ∀ s', P s' → Seg (model prog w) A R Y n s₀ c ((execs (if b = true then body else orelse) env).wrap (fun f => match f with | .next => (execs rest env).wrap K H gd lv | f => K f) H gd lv) fs s') :
  Seg (model prog w) A R Y n s₀ c ((execs (.If test body orelse pos :: rest) env).wrap K H gd lv) fs s := by
 refine seg_execs_cons ?_
 rw [exec_If]
 refine seg_bind_wrap (wpAny_standAt ?_)
 refine seg_bind_wrap (wpAny_mono ht (fun r s' q => ?_) fun ζ ζ x => x.elim)
 obtain ⟨rfl, q⟩ := q
 have := h s' q
 cases r with
 | true => exact this
 | false => exact this
theorem seg_forS {target iter:Expr}{body orelse:List Stmt}{pos:Pos}{P:Value → Shared → Prop}(hit:wpAny (model prog w) (A.over c fs) (eval iter env) (fun xv s₁ => wpAny (model prog w) (A.over c fs) (pyIter xv) P (fun ζ ζ => False) s₁) (fun ζ ζ => False) s)
  (hs : ∀ x, foldedSetIterable iter env x = pure x)
  (h : ∀ it s', P it s' → ∀ p, Seg (model prog w) A R Y n s₀ (.forLoop target it body orelse env) ((model prog w).den (.forLoop target it body orelse env))
   (.ret (fun r => ((match r with | .ok f => (.pure f : Sem Flow) | .error e => .raise e).onRaise fun (x : Value) => do
    if (← field x 1) == Value.none then unsupported "frame.own-activation:exception-without-traceback"
    setFlight x env.frame).wrap (fun (f : Flow) => match f with | .next => (execs rest env).wrap K H gd lv | f => K f) H gd lv) none (gd false) (lv []) c p [] :: fs) s') :
  Seg (model prog w) A R Y n s₀ c ((execs (.For target iter body orelse pos :: rest) env).wrap K H gd lv) fs s := by
 refine seg_execs_cons ?_
 rw [exec_For]
 refine seg_bind_wrap (wpAny_standAt ?_)
 refine seg_bind_wrap (wpAny_mono hit (fun xv s₁ h₁ => ?_) fun ζ ζ x => x.elim)
 refine seg_bind_wrap (wpAny_of_eq (hs xv) ?_)
 refine seg_bind_wrap (wpAny_standAt ?_)
 refine seg_bind_wrap (wpAny_holding (wpAny_mono h₁ (fun it s₂ h₂ => ?_) fun ζ ζ x => x.elim))
 exact seg_call (h it s₂ h₂)
end
section
variable {prog : Program} {w : World} {A : Around} {R : GenEnd} {Y : Protocol} {n : Nat} {s₀ : Shared} {fs : List Frame} {s : Shared} {env : Env}
theorem seg_forTurn {target:Expr}{it:Value}{body orelse:List Stmt}{P:Value → Shared → Prop}
  (h : wpAny (model prog w) (A.over (.forLoop target it body orelse env) fs) (pyNext it) (fun r s' => ∃ v, r = some v ∧ P v s') (fun ζ ζ => False) s)
  (ha : ∀ v s', P v s' → wpAny (model prog w) (A.over (.forLoop target it body orelse env) fs) (assign target env v) (fun ζ s'' => Seg (model prog w) A R Y n s₀ (.forLoop target it body orelse env) ((execs body env).wrap (fun f => match f with
      | .next | .cont => .pure (.again (.forLoop target it body orelse env))
      | .brk => .pure (.done .next)
      | .ret v => .pure (.done (.ret v))) (fun e => (do noteFrame e env; theTreesLotGoes e : Sem Unit).wrap (fun ζ => .raise e) .raise id id) id id) fs s'') (fun ζ ζ => False) s')
  (ht : ∀ v, letOwnedTupleGo target it v = pure ()) :
  Seg (model prog w) A R Y n s₀ (.forLoop target it body orelse env) ((model prog w).den (.forLoop target it body orelse env)) fs s := by
 show Seg _ A R Y n s₀ _ ((forTurn target it body orelse env).onRaise (fun x => do noteFrame x env; theTreesLotGoes x)) fs s
 unfold forTurn
 rw [Sem.onRaise_eq_wrap]
 refine seg_bind_wrap (wpAny_standAt ?_)
 refine seg_bind_wrap (wpAny_onRaise (wpAny_mono h (fun r s₁ h₁ => ?_) fun ζ ζ x => x.elim))
 refine eEA (h₁) fun v ρ0 hv => ?_
 subst ρ0
 refine seg_bind_wrap (wpAny_of_eq (ht v) ?_)
 refine seg_bind_wrap (wpAny_mono (ha v s₁ hv) (fun ζ s₂ h₂ => ?_) fun ζ ζ x => x.elim)
 rw [Sem.bind_eq_wrap', Sem.wrap_wrap]
 rw [Sem.wrap_congr (execs body env) _ _ (K' := fun f => match f with
      | .next | .cont => .pure (.again (.forLoop target it body orelse env))
      | .brk => .pure (.done .next)
      | .ret v => .pure (.done (.ret v))) (H' := (fun e => (do noteFrame e env; theTreesLotGoes e : Sem Unit).wrap (fun ζ => .raise e) .raise id id))
    (fun f => by cases f <;> rfl)
    (fun e => by first | exact Sem.bind_eq_wrap _ _ | (show (do noteFrame e env; theTreesLotGoes e : Sem Unit).bind (fun ζ => .raise e) = _; rw [Sem.bind_eq_wrap]))]
 exact h₂
end
noncomputable def CmAt (h:Heap) : Prop := ∃ t, Tn (("CHAR_MAX", .int 127 t) :: glTab) blTab h
theorem CmAt.kp {h h':Heap}(k:Kp h h')(x:CmAt h) : CmAt h' := eE (x) fun t q => ⟨t, q.kp (fun o e => k _ o e) (fun o e => k _ o e)⟩
theorem fx_of {T:Hp}{env:Env}{G:Gam}{s:Shared}(ht:T.p s.heap)(hX:T.X env.locals)(hc:env.cells = [])(hns:∃ m, s.heap.Ns env.locals m ∧ ∀ x a, G.lookup x = some a → ∃ v, m x = some v ∧ a.p T.X s.heap v)(hall:∀ x a, G.lookup x = some a → env.kindOf x = some .local) :
  Fx (fun b => b = env.locals) T s env G none s where
 t := ht
 kt := .refl _ _
 wX := fun b hb => hb ▸ hX
 lo := .inl rfl
 loX := hX
 cells := fun n c h => by rw [hc] at h; cases h
 apart := by rw [hc]; exact List.Pairwise.nil
 ns := eEA (hns) fun m hn h => ⟨m, hn, fun x a e ζ => h x a e⟩
 cell := fun n c h => by rw [hc] at h; cases h
 all := fun x a e => .inl (hall x a e)
 own := fun L ds e => nomatch e
noncomputable def genFor : List Stmt := match Qda 7 with
 | [_, .For _ _ b _ _] => b
 | _ => []
noncomputable def genTgt : Expr := match Qda 7 with
 | [_, .For t _ _ _ _] => t
 | _ => default
noncomputable abbrev Qdk (C:Addr)(pm:Value) : Env := Qna 7 65 C pm
noncomputable def lastD : Option Int → PyData
 | none => .none
 | some l => .int l
noncomputable def Qwv (val:Nat → Int)(en:Nat) : Option Int → List Int → Nat → Prop
 | _, [], _ => False
 | last, x :: xs, n => if x = 127 then n = en else if x = 0 then (∃ l, last = some l ∧ ∀ k, k < n → val k = l ∧ k + 1 ≠ en) ∧ n ≠ 0 else ∃ m, n = m + 1 ∧ (val m = x ∧ m + 1 ≠ en) ∧ (0 < m → Qwv val en (some x) xs m)
theorem Qjz {val:Nat → Int}{en:Nat}{last:Option Int}{x:Int}{xs:List Int}{n:Nat} : Qwv val en last (x :: xs) n = (if x = 127 then n = en else if x = 0 then (∃ l, last = some l ∧ ∀ k, k < n → val k = l ∧ k + 1 ≠ en) ∧ n ≠ 0 else ∃ m, n = m + 1 ∧ (val m = x ∧ m + 1 ≠ en) ∧ (0 < m → Qwv val en (some x) xs m)) := rfl
section
variable (h₀ : Heap) (X : Addr → Prop) (C : Addr)
structure GS (s s' : Shared) : Prop where
 of : ∃ h tk, s' = { s with heap := h, toks := tk } ∧ ∀ b o, Qaa h₀ b → b ≠ C → s.heap.get? b = some o → h.get? b = some o
theorem GS.refl (s:Shared) : GS h₀ C s s := ⟨s.heap, s.toks, rfl, fun ζ ζ ζ ζ e => e⟩
variable {h₀ X C}
theorem GS.trans {a b c:Shared}(x:GS h₀ C a b)(y:GS h₀ C b c) : GS h₀ C a c := by
 refine Qfw (x.of) fun h t ρ0 k => ?_
 subst ρ0
 refine Qfw (y.of) fun h' t' ρ1 k' => ?_
 subst ρ1
 exact ⟨h', t', rfl, fun b o l n e => k' b o l n (k b o l n e)⟩
theorem GS.step {a b:Shared}{h':Heap}{tk:Nat}(x:GS h₀ C a b)(k:∀ d o, Qaa h₀ d → d ≠ C → b.heap.get? d = some o → h'.get? d = some o) : GS h₀ C a { b with heap := h', toks := tk } := x.trans ⟨h', tk, rfl, k⟩
noncomputable abbrev GB (h₀:Heap)(X:Addr → Prop)(h:Heap) : Prop := KpX X h₀ h
noncomputable def Qzz (h₀:Heap)(X:Addr → Prop)(C:Addr)(val:Nat → Int)(en:Nat) : Protocol := fun k s₀ v s kap =>
 (∃ t, v = .int (val k) t) ∧ k + 1 ≠ en ∧ GS h₀ C s₀ s ∧ GB h₀ X s.heap ∧ ∃ Z : Addr → Prop, (∀ b, Z b → b = C ∨ ¬ Qaa h₀ b) ∧ (0 < k → ∀ s'' : Shared, GB h₀ X s''.heap → (∀ b o, Z b → s.heap.get? b = some o → s''.heap.get? b = some o) → kap (.send .none) s'')
noncomputable def gend (h₀:Heap)(X:Addr → Prop)(C:Addr)(en:Nat) : GenEnd := fun n s₀ r s => r = .ok (.ret .none) ∧ n = en ∧ GS h₀ C s₀ s ∧ GB h₀ X s.heap
end
section
variable {prog : Program} {w : World} {A : Around} {T : Hp} {h₀ : Heap} {C : Addr} {pm : Value}
structure GAt (T : Hp) (h₀ : Heap) (C : Addr) (I l : Addr) (is : Array Value) (i : Nat) (last : PyData) (h : Heap) : Prop where
 gb : GB h₀ T.X h
 it : h.IsListIter I l i
 ns : ∃ m v, h.Ns C m ∧ m "last_interval" = some v ∧ Rd (fun ζ => False) h last v
theorem GAt.keep {I l:Addr}{is:Array Value}{i:Nat}{last:PyData}{h h':Heap}(x:GAt T h₀ C I l is i last h)(hs:scal last = true)(gb:GB h₀ T.X h')(k:∀ b o, (b = C ∨ b = I) → h.get? b = some o → h'.get? b = some o) : GAt T h₀ C I l is i last h' :=
 ⟨gb, x.it.at fun o e => k _ _ (.inr rfl) e, Qac (x.ns) fun m v hn e r => ⟨m, v, hn.at' (fun o e => k _ _ (.inl rfl) e), e, by
  cases last <;> first | exact r | cases hs⟩⟩
end
section
variable {prog : Program} {w : World} {A : Around} {T : Hp} {h₀ : Heap} {C : Addr} {pm : Value}
theorem gat_fx {I l:Addr}{is:Array Value}{i:Nat}{last:PyData}{s:Shared}(ht:T.p h₀)(hC:T.X C)(hs:scal last = true)(x:GAt T h₀ C I l is i last s.heap) :
  Fx (fun b => b = C) T s (Qdk C pm) [("last_interval", .d last)] none s := by
 refine Qac (x.ns) fun m v hn e r => ?_
 refine fx_of (env := Qdk C pm) (T.mono _ _ x.gb ht) hC (by kernel_rfl!) ⟨m, hn, fun y a q => ?_⟩ fun y a q => ?_
 ·by_cases hy : y = "last_interval"
  ·subst hy
   rw [Qak] at q; cases q
   exact ⟨v, e, scal_to hs r⟩
  ·rw [Qaz hy] at q; simp at q
 ·by_cases hy : y = "last_interval"
  ·subst hy; kernel_rfl!
  ·rw [Qaz hy] at q; simp at q
theorem gen_while {val:Nat → Int}{en:Nat}{tk:Nat}{tp p1 p2 p3:Pos}{I l:Addr}{is:Array Value}{i:Nat}{last:Int}{fs:List Frame}(ht:T.p h₀)(hC:T.X C)(hI:¬ Qaa h₀ I)
  (hfs : splitAtGen fs = none) (hfg : fs.any Frame.guarded = false) : ∀ (n : Nat) (s₀ s : Shared), n ≠ 0 → (∀ k, k < n → val k = last ∧ k + 1 ≠ en) → GAt T h₀ C I l is i (.int last) s.heap → GS h₀ C s₀ s →
  Seg (model prog w) A (gend h₀ T.X C en) (Qzz h₀ T.X C val en) n s₀ (.whileLoop (.Constant (.bool true) tk tp) [.Expr (.Yield (some (.Name "last_interval" p1)) p2) p3] [] (Qdk C pm))
   ((model prog w).den (.whileLoop (.Constant (.bool true) tk tp) [.Expr (.Yield (some (.Name "last_interval" p1)) p2) p3] [] (Qdk C pm))) fs s := by
 intro n
 induction n with
 | zero => intro s₀ s h0; exact absurd rfl h0
 | succ m ih =>
  intro s₀ s _ hv hg hgs
  refine seg_whileLoop ?_
  have F := gat_fx (pm := pm) ht hC rfl hg
  refine wpAny_mono ((TeA.val (EvA.boolC (prog := prog) (w := w) (T := T) (A := A.over _ fs) (env := Qdk C pm) (G := [("last_interval", .d (.int last))]) (b := true) (k := tk) (pos := tp)) trivial (by rfl)).of _ s F.t F.vw) (fun r s1 q => ?_) fun ζ ζ x => x
  refine eA (q) fun ρ0 k1 => ?_
  subst ρ0
  rw [if_pos (show Qbc (PyData.bool true) = true from rfl)]
  have F1 := F.kept k1
  refine seg_execs_cons (seg_Expr_Yield hfs rfl hfg ?_ (by kernel_rfl!) (by kernel_rfl!))
  refine wpAny_mono ((EvA.name (.d (.int last))).of _ s1 F1.t F1.vw) (fun v s2 q => ?_) fun ζ ζ x => x
  refine eA (q) fun hd k2 => ?_
  refine eE (hd.int_inv) fun t ρ1 => ?_
  subst ρ1
  intro kap hk
  have kk := k1.trans k2
  have hg2 : GAt T h₀ C I l is i (.int last) s2.heap := hg.keep rfl (hg.gb.trans kk.kp.kpx) fun b o ζ e => kk.kp b o e
  have hgs2 : GS h₀ C s₀ s2 := by
   refine Qfw (kk.of) fun h' tk' ρ2 hk' => ?_
   subst ρ2
   exact hgs.step fun d o ζ ζ e => hk' d o e
  refine ⟨⟨t, by rw [(hv m (Nat.lt_succ_self m)).1]⟩, (hv m (Nat.lt_succ_self m)).2, hgs2, hg2.gb, fun b => b = C ∨ b = I, fun b hb => hb.imp_right (fun (q : b = I) => q ▸ hI), fun hpos s'' gb keep => hk .none s'' ?_⟩
  show Seg _ _ _ _ m s'' _ (.pure (.again _)) fs s''
  exact seg_again rfl (ih s'' s'' (Nat.ne_of_gt hpos) (fun k h => hv k (Nat.lt_succ_of_lt h)) (hg2.keep rfl gb keep) (.refl _ _ _))
end
section
variable {prog : Program} {w : World} {A : Around} {T : Hp} {h₀ : Heap} {C : Addr} {pm : Value}
theorem intD_get {l:Addr}{is:Array Value}{ruler:List Int}(hr:RdAll (fun ζ => False) h₀ (ruler.map PyData.int) is.toList){i:Nat}{x:Int}(e:ruler[i]? = some x) : ∃ t, is[i]? = some (.int x t) := by
 obtain ⟨v, e', r⟩ := hr.get i (.int x) (by rw [List.getElem?_map, e]; rfl)
 refine eE (r.int_inv) fun t ρ0 => ?_
 subst ρ0
 exact ⟨t, by simpa using e'⟩
noncomputable def Tcm : Hp where
 p h := Tpp h ∧ CmAt h
 X := fun ζ => False
 mono h h' k t := ⟨t.1.kp fun b o e => k.kp b o (fun q => q) e, t.2.kp fun b o e => k.kp b o (fun q => q) e⟩
 live h _ b hb := hb.elim
theorem Tcm.le : Tcm.le Tp := ⟨fun ζ h => h.1, fun ζ h => h⟩
theorem EvA.charMax {T:Hp}{A:Around}{env:Env}{G:Gam}{pos:Pos}(hT:T.le Tcm)(hx:autoParam (env.kindOf "CHAR_MAX" = some .globalImplicit) sK)(hk:autoParam (env.scope.kind = .function) sK)(hg:autoParam (env.globals = mainGlobals) sK) : EvA prog w T A env G (.Name "CHAR_MAX" pos) (.d (.int 127)) := ⟨fun E s hp ζ => by
 refine eE ((hT.p _ hp).2) fun t q => ?_
 refine Qpj (q.g) fun mg hn h1 ζ => ?_
 exact Name_function_global hk hx (loadGlobal_global (hg ▸ hn) (h1 "CHAR_MAX" (.int 127 t) (by rfl)) ⟨Dv.p.int, .refl s⟩) (by kernel_rfl!)⟩
theorem Qpz (hTC:T.X C){I l:Addr}{is:Array Value}{i:Nat}{last d:PyData}{s1 s2:Shared}{G:Gam}{Tg:Hp}(hsc:scal d = true)(x:GAt T h₀ C I l is i last s1.heap)(hCI:C ≠ I)(F:Fx (fun b => b = C) Tg s1 (Qdk C pm) G none s2)(e:List.lookup (Str.ofString "last_interval") G = some (Dv.d d)) :
  GAt T h₀ C I l is i d s2.heap := by
 refine eEA (F.ns) fun m hn h => ?_
 refine eEA (h _ _ e (by kernel_rfl!)) fun v hv hp => ?_
 exact ⟨x.gb.trans (F.kt.kp.wider fun b (hb : b = C) => hb ▸ hTC), x.it.at fun o e => F.kt.kp.kp I o (fun q => hCI q.symm) e, m, v, hn, hv, scal_to hsc hp⟩
theorem Qlc {s0 s1 s2:Shared}{G:Gam}{Tg:Hp}(x:GS h₀ C s0 s1)(F:Fx (fun b => b = C) Tg s1 (Qdk C pm) G none s2) : GS h₀ C s0 s2 := by
 refine Qfw (F.kt.of) fun h' tk ρ1 k => ?_
 subst ρ1
 exact x.step fun d o ζ hd e => k.kp d o hd e
theorem split_ret {fs:List Frame}{k:Result → Sem PySem.Fin}{c:Code}{p:Pos}(h:splitAtGen fs = none) : splitAtGen (.ret k none false [] c p [] :: fs) = none := by
 unfold splitAtGen
 rw [h]; rfl
theorem guard_ret {fs:List Frame}{k:Result → Sem PySem.Fin}{c:Code}{p:Pos}(h:fs.any Frame.guarded = false) : (Frame.ret k none false [] c p [] :: fs).any Frame.guarded = false := by
 rw [List.any_cons, h]; rfl
theorem gen_turns {val:Nat → Int}{en:Nat}{I l:Addr}{is:Array Value}{ruler:List Int}{fs:List Frame}{m:Nat}(ht:T.p h₀)(hT:T.le Tcm)(hC:T.X C)(hI:¬ Qaa h₀ I)(hX:¬ T.X l)(hl:h₀.IsList l is)
  (hr : RdAll (fun ζ => False) h₀ (ruler.map PyData.int) is.toList) (hfs : splitAtGen fs = none) (hfg : fs.any Frame.guarded = false) (ok : OkA (A.over (.forLoop genTgt (.ref I) genFor [] (Qdk C pm)) fs) m)
  (hend : ∀ n s₀ s, n = en → GS h₀ C s₀ s → GB h₀ T.X s.heap → Seg (model prog w) A (gend h₀ T.X C en) (Qzz h₀ T.X C val en) n s₀ (.forLoop genTgt (.ref I) genFor [] (Qdk C pm)) (.pure (.done (.ret .none))) fs s) :
  ∀ (xs : List Int) (i n : Nat) (last : Option Int) (s₀ s : Shared), ruler.drop i = xs → Qwv val en last xs n → GAt T h₀ C I l is i (lastD last) s.heap → GS h₀ C s₀ s →
  Seg (model prog w) A (gend h₀ T.X C en) (Qzz h₀ T.X C val en) n s₀ (.forLoop genTgt (.ref I) genFor [] (Qdk C pm)) ((model prog w).den (.forLoop genTgt (.ref I) genFor [] (Qdk C pm))) fs s := by
 intro xs
 induction xs with
 | nil => intro i n last s₀ s _ h; exact h.elim
 | cons x xs ih =>
  intro i n last s₀ s hdrop hsp hg hgs
  have hsc : ∀ last : Option Int, scal (lastD last) = true := fun last => by cases last <;> rfl
  have hxi : ruler[i]? = some x := by
   have := List.getElem?_drop (xs := ruler) (i := i) (j := 0)
   rw [hdrop] at this
   simpa using this.symm
  have hdrop' : ruler.drop (i + 1) = xs := by
   have := List.drop_drop (i := 1) (j := i) (l := ruler)
   rw [hdrop] at this
   simpa using this.symm
  refine eE (intD_get (l := l) hr hxi) fun t ei => ?_
  have hlC : l ≠ C := fun q => hX (q ▸ hC)
  have hll : Qaa h₀ l := eEA (hl) fun o e ζ => ⟨o, e⟩
  have hls : s.heap.IsList l is := hl.at fun o e => hg.gb.kp l o hX e
  have hCI : C ≠ I := fun q => by
   refine Qfw (hg.ns) fun m' v' hn ζ => ?_
   refine Qgz (hn) fun o1 ζ ζ e1 d1 ζ => ?_
   refine Qpj (hg.it) fun o2 e2 c2 d2 => ?_
   rw [q, e2] at e1; cases e1; rw [d2] at d1; cases d1
  refine seg_forTurn (P := fun v s' => v = .int x t ∧ ∃ h', s' = { s with heap := h' } ∧ h'.IsListIter I l (i + 1) ∧ Heap.SameBut I s.heap h') ?_ ?_ (fun v => rfl)
  ·exact wpAny_pyNext_list_item hg.it hls ei fun h' it' hs' => ⟨_, rfl, rfl, h', rfl, it', hs'⟩
  intro v s1 κ0
  obtain ⟨rfl, h1, rfl, it1, hs1⟩ := κ0
  have hg1 : GAt T h₀ C I l is (i + 1) (lastD last) h1 := by
   refine Qac (hg.ns) fun m' v' hn e' r' => ?_
   refine ⟨⟨fun d o hd e => (hs1.2 d fun q => hI (q ▸ ⟨o, e⟩)).trans (hg.gb.kp d o hd e), fun d lv => eE (hg.gb.live d lv) fun o e => ⟨o, (hs1.2 d fun q => hI (q ▸ lv)).trans e⟩⟩, it1, m', v', hn.at' (fun o e => (hs1.2 C hCI).trans e), e', by cases last <;> exact r'⟩
  have hsl := hsc last
  have F := gat_fx (pm := pm) ht hC hsl hg1 (s := { s with heap := h1 })
  have hTg := hT
  refine wpAny_assign_Name (F.store (.d (.int x)) (by kernel_rfl!) (.inl (by kernel_rfl!)) Dv.p.int fun s2 F2 => ?_)
  have hgs1 : GS h₀ C s₀ { s with heap := h1 } := hgs.step (tk := s.toks) fun d o lv ζ e => (hs1.2 d fun q => hI (q ▸ lv)).trans e
  refine seg_ifS (x == 127) (P := fun s' => Kt s2 s') ((TeA.cast (TeA.cmp (EvA.name (.d (.int x))) (EvA.charMax hTg) (op_eq ok rfl rfl (by simp [PyData.depth]))) (Qry x 127)).of _ s2 F2.t F2.vw) fun s3 k3 => ?_
  have F3 := F2.kept k3
  by_cases h127 : x = 127
  ·rw [if_pos (by simpa using h127)]
   rw [Qjz, if_pos h127] at hsp
   exact QAw ⟨wpAny_execs_cons (wpAny_Return_none (hend n s₀ s3 hsp (Qlc hgs1 F3) (Qpz hC (d := lastD last) hsl hg1 hCI F3 (by rfl)).gb))⟩
  rw [if_neg (by simpa using h127)]
  refine seg_execs_nil ?_
  refine seg_ifS (x == 0) (P := fun s' => Kt s3 s') ((TeA.cast (TeA.cmp (EvA.name (.d (.int x))) EvA.int (op_eq ok rfl rfl (by simp [PyData.depth]))) (Qry x 0)).of _ s3 F3.t F3.vw) fun s4 k4 => ?_
  have F4 := F3.kept k4
  rw [Qjz, if_neg h127] at hsp
  by_cases h0 : x = 0
  ·rw [if_pos (by simpa using h0)]
   rw [if_pos h0] at hsp
   refine eA (hsp) fun ν2 hn0 => ?_
   refine eEA (ν2) fun ll ρ0 hval => ?_
   subst ρ0
   refine seg_ifS false (P := fun s' => Kt s4 s') ((TeA.isNone fun E s5 hp hv => wpAny_mono ((EvA.name (.d (.int ll))).of E s5 hp hv) (fun v s' q => ?_) fun ζ ζ x => x).of _ s4 F4.t F4.vw) fun s5 k5 => ?_
   ·refine eA (q) fun q1 q2 => ?_
    refine eE (q1.int_inv) fun t' ρ3 => ?_
    subst ρ3
    exact ⟨by simp, q2⟩
   have F5 := F4.kept k5
   rw [if_neg (by decide)]
   refine seg_execs_nil (seg_execs_cons (seg_While fun p => ?_))
   exact gen_while ht hC hI (split_ret hfs) (guard_ret hfg) n s₀ s5 hn0 hval (Qpz hC (d := .int ll) rfl hg1 hCI F5 (by rfl)) (Qlc hgs1 F5)
  ·rw [if_neg (by simpa using h0)]
   rw [if_neg h0] at hsp
   refine Qpj (hsp) fun m' ρ4 ν5 hnext => ?_
   subst ρ4
   refine eA (ν5) fun hval hne => ?_
   refine seg_execs_nil (seg_execs_cons (seg_Expr_Yield hfs rfl hfg ?_ (by kernel_rfl!) (by kernel_rfl!)))
   refine wpAny_mono ((EvA.name (.d (.int x))).of _ s4 F4.t F4.vw) (fun v s5 q => ?_) fun ζ ζ x => x
   refine eA (q) fun hd k5 => ?_
   refine eE (hd.int_inv) fun t' ρ6 => ?_
   subst ρ6
   have F5 := F4.kept k5
   intro kap hk
   have hg5 := Qpz hC (d := lastD last) hsl hg1 hCI F5 (by rfl)
   refine eEA (F5.ns) fun m5 hn5 h5 => ?_
   refine eEA (h5 (Str.ofString "interval") (.d (.int x)) (by rfl) (by kernel_rfl!)) fun v5 hv5 hp5 => ?_
   refine eE (hp5.int_inv) fun t5 ρ7 => ?_
   subst ρ7
   refine ⟨⟨t', by rw [hval]⟩, hne, Qlc hgs1 F5, hg5.gb, fun b => b = C ∨ b = I, fun b hb => hb.imp_right (fun (q : b = I) => q ▸ hI), fun hpos s'' gb keep => hk .none s'' ?_⟩
   have hg6 := hg5.keep hsl gb keep
   have hn6 : s''.heap.Ns C m5 := hn5.at' fun o e => keep C o (.inl rfl) e
   have F6 : Fx (fun b => b = C) T s'' (Qdk C pm) [("interval", .d (.int x))] none s'' := by
    refine fx_of (env := Qdk C pm) (T.mono _ _ gb ht) hC (by kernel_rfl!) ⟨m5, hn6, fun y a q => ?_⟩ fun y a q => ?_
    ·by_cases hy : y = "interval"
     ·subst hy
      rw [Qak] at q; cases q
      exact ⟨_, hv5, Dv.p.int⟩
     ·rw [Qaz hy] at q; simp at q
    ·by_cases hy : y = "interval"
     ·subst hy; kernel_rfl!
     ·rw [Qaz hy] at q; simp at q
   refine QAw (Qcx (.d (.int x)) F6 (EvA.name (.d (.int x))).f fun s7 F7 => Qaw ?_)
   show Seg _ _ _ _ m' s'' _ (.pure (.again _)) fs s7
   exact seg_again rfl (ih (i + 1) m' (some x) s'' s7 hdrop' (hnext hpos) (Qpz hC (d := .int x) rfl hg6 hCI F7 (by rfl)) (Qlc (GS.refl h₀ C s'') F7))
end
section
variable {prog : Program} {w : World} {A : Around} {T : Hp} {h₀ : Heap} {C : Addr} {pm : Value}
theorem gen_start {val:Nat → Int}{en:Nat}{l:Addr}{is:Array Value}{ruler:List Int}{n m:Nat}{s:Shared}(ht:T.p h₀)(hT:T.le Tcm)(hC:T.X C)(hX:¬ T.X l)(hl:h₀.IsList l is)
  (hr : RdAll (fun ζ => False) h₀ (ruler.map PyData.int) is.toList) (ok : OkA A (m + 1)) (hsp : Qwv val en none ruler n) (gb : GB h₀ T.X s.heap) (hns : ∃ mm, s.heap.Ns C mm ∧ mm "grouping" = some (.ref l)) :
  Seg (model prog w) A (gend h₀ T.X C en) (Qzz h₀ T.X C val en) n s (.func (Qda 7) (Qdk C pm)) ((model prog w).den (.func (Qda 7) (Qdk C pm))) [] s := by
 refine eEA (hns) fun mm hn hg => ?_
 have hlC : l ≠ C := fun q => hX (q ▸ hC)
 have F : Fx (fun b => b = C) T s (Qdk C pm) [("grouping", .v (.ref l))] none s := by
  refine fx_of (env := Qdk C pm) (T.mono _ _ gb ht) hC (by kernel_rfl!) ⟨mm, hn, fun y a q => ?_⟩ fun y a q => ?_
  ·by_cases hy : y = "grouping"
   ·subst hy
    rw [Qak] at q; cases q
    exact ⟨_, hg, rfl⟩
   ·rw [Qaz hy] at q; simp at q
  ·by_cases hy : y = "grouping"
   ·subst hy; kernel_rfl!
   ·rw [Qaz hy] at q; simp at q
 refine seg_func ?_
 refine QAw (Qcx (.d .none) F EvA.noneC.f fun s1 F1 => Qaw ?_)
 have g1 : GS h₀ C s s1 := Qlc (.refl _ _ _) F1
 have gb1 : GB h₀ T.X s1.heap := gb.trans (F1.kt.kp.wider fun b (hb : b = C) => hb ▸ hC)
 have hl1 : ∀ {h : Heap}, GB h₀ T.X h → h.IsList l is := fun b => hl.at fun o e => b.kp l o hX e
 refine seg_forS (P := fun it s2 => ∃ I, it = .ref I ∧ ¬ Qaa h₀ I ∧ GAt T h₀ C I l is 0 (lastD none) s2.heap ∧ GS h₀ C s s2) ?_ (fun x => by kernel_rfl!) ?_
 ·refine wpAny_mono ((EvA.name (.v (.ref l))).of _ s1 F1.t F1.vw) (fun v s2 q => ?_) fun ζ ζ x => x
  refine eA (q) fun ρ0 k2 => ?_
  subst ρ0
  have F2 := F1.kept k2
  have g2 : GS h₀ C s s2 := Qlc (.refl _ _ _) F2
  have gb2 : GB h₀ T.X s2.heap := gb.trans (F2.kt.kp.wider fun b (hb : b = C) => hb ▸ hC)
  refine eEA (F2.ns) fun m2 hn2 h2 => ?_
  refine eEA (h2 (Str.ofString "last_interval") (.d .none) (by rfl) (by kernel_rfl!)) fun v2 hv2 hp2 => ?_
  refine wpAny_pyIter_list (hl1 gb2) ⟨s2.heap.objs.size, rfl, fun lv => Qax (Nat.le_refl _) (gb2.live _ lv), ⟨gb2.trans (Qav _ _).kpx, ⟨_, Heap.get?_push_size _ rfl, rfl, rfl⟩, m2, v2, hn2.keeps (Qav _ _), hv2, hp2.none_inv⟩, g2.step (tk := s2.toks) fun d o ζ ζ e => Qav _ _ _ _ e⟩
 ·intro it s2 κ0 p
  obtain ⟨I, rfl, hI, hg, hgs⟩ := κ0
  refine gen_turns ht hT hC hI hX hl hr rfl rfl (m := m) ⟨?_, ?_, ?_⟩ (fun n' s0' s' hen hgs' gb' => ?_) ruler 0 n none s s2 (by rfl) hsp hg hgs
  ·show A.handled = none; exact ok.handled
  ·show A.depth + 1 + m ≤ 900; have := ok.2; lia
  ·show A.units + 3 + 20 * m ≤ 9500; have := ok.3; lia
  ·exact seg_leaf (.ok (.ret .none)) (seg_end (.ok (.ret .none)) ⟨rfl, hen, hgs', gb'⟩)
end
section
variable {prog : Program} {w : World} {A : Around} {E : Value → Shared → Prop} {s : Shared}
theorem next_gen {a:Addr}{g n:Nat}{gs:GenState}{P:Nat → Shared → Shared → Prop}{Y:Protocol}{Q:Option Value → Shared → Prop}(hh:A.handled = none)(hl:s.heap.NoLimit)(hroom:A.depth < recursionLimit)
  (hg : s.heap.IsGen a g) (hgs : s.gens[g]? = some gs)
  (hgo : gs.Goes (model prog w) A.in1 (fun n s₀ r s₁ => r = .ok (.ret .none) ∧ P n s₀ s₁) Y n (.send .none) (s.setGen g .running))
  (hY : ∀ v s₁ gs', gs'.bare = true → Y (n - 1) (s.setGen g .running) v s₁ (fun r' s'' => match n with
    | 0 => False
    | m + 1 => gs'.Goes (model prog w) A.in1 (fun n s₀ r s₁ => r = .ok (.ret .none) ∧ P n s₀ s₁) Y m r' s'') → Q (some v) (s₁.setGen g gs'))
  (hP : ∀ s₁, P n (s.setGen g .running) s₁ → ∀ h', (∀ b o, s₁.heap.get? b = some o → h'.get? b = some o) → Q none { s₁.setGen g .finished with heap := h' }) :
  wpAny (model prog w) A (pyNext (.ref a)) Q E s := by
 unfold pyNext
 refine wpAny_bind (wpAny_attempt (wpAny_callSpecial?_slot (name := Str.ofString "__next__") hg.typeIs slot_gen_next (wpAny_call_entry slot_gen_next hg.typeIs entry_gen_next ?_ (args_gen_next _))))
 show wpAny _ _ (Builtin.Generator.genWake (.ref a) (.send .none)) _ _ s
 unfold Builtin.Generator.genWake
 refine wpAny_bind (wpAny_holding (wpAny_genNumber hg (wpAny_bind (wpAny_genState hgs ?_))))
 cases gs with
 | running => exact hgo.elim
 | finished => exact hgo.elim
 | _ =>
  refine wpAny_bind (wpAny_roomToWake hl hroom ?_)
  show wpAny _ _ (.resume g (.send .none) [] _) _ _ s
  refine wpAny_resumeQ hgs hgo (fun x s₁ hx => ?_) (fun v s₁ gs' hb hv => ?_)
  ·refine eA (hx) fun ρ0 hp => ?_
   subst ρ0
   show wpAny _ _ (newExc (.type "StopIteration") [] >>= _) _ _ _
   refine wpAny_bind (wpAny_bind (m := newTuple []) (wpAny_newObj_type ?_ (by size_fits)))
   refine wpAny_bind (m := firstArgMember _ _) (wpAny_of_eq (a := Value.none) rfl ?_)
   refine wpAny_newObj_type ?_ (by size_fits)
   refine wpAny_bind (wpAny_bind (m := handled) (wpAny_handled ?_))
   rw [show A.in1.handled = none from hh]
   refine wpAny_throw ?_
   refine wpAny_bind (wpAny_isInstance (T := "StopIteration") (b := true) ⟨_, Heap.get?_push_size _ rfl, rfl⟩ isSubtype_stop ?_)
   exact wpAny_pure (hP s₁ hp _ fun b o hb => Heap.get?_push_of_some _ (Heap.get?_push_of_some _ hb))
  ·exact wpAny_pure ⟨v, rfl, wpAny_pure (hY v s₁ gs' hb hv)⟩
end
structure KtG (s s' : Shared) : Prop where
 of : ∃ h tk gs, s' = { s with heap := h, toks := tk, gens := gs } ∧ Kp s.heap h ∧ (AllBare s.gens → AllBare gs)
noncomputable def cutG (val:Nat → Int)(en:Nat)(many:Int) : Nat → List Int → List Int
 | 0, acc => acc
 | n + 1, acc => if n + 1 = en then acc else if decide (many ≤ Qqz (acc ++ [val n])) then acc ++ [val n] else cutG val en many n (acc ++ [val n])
theorem QIz {val:Nat → Int}{en:Nat}{many:Int}{n:Nat}{acc:List Int} : cutG val en many (n + 1) acc = if n + 1 = en then acc else if decide (many ≤ Qqz (acc ++ [val n])) then acc ++ [val n] else cutG val en many n (acc ++ [val n]) := rfl
noncomputable def QIq (val:Nat → Int)(en:Nat)(many:Int) : Nat → List Int → Bool
 | 0, _ => false
 | n + 1, acc => if n + 1 = en then true else if decide (many ≤ Qqz (acc ++ [val n])) then true else QIq val en many n (acc ++ [val n])
theorem cutOk_succ {val:Nat → Int}{en:Nat}{many:Int}{n:Nat}{acc:List Int} : QIq val en many (n + 1) acc = if n + 1 = en then true else if decide (many ≤ Qqz (acc ++ [val n])) then true else QIq val en many n (acc ++ [val n]) := rfl
section
variable {prog : Program} {w : World} {W : Addr → Prop} {T : Hp} {A : Around} {E : Value → Shared → Prop} {s : Shared}
theorem QHy {a:Addr}{fd:FuncData}{body:List Stmt}{vals:List Value}{names:List Str}{as:List Dv}{Q:Value → Shared → Prop}{n:Nat}(hf:FnAt s.heap a fd)(hA:OkA A (n + 1))(hlim:s.heap.NoLimit)(ht:T.p s.heap)(hW:∀ b, W b → T.X b)(ha:DvAll T.X s.heap as vals)
  (hbody : fd.body = .stmts body) (hbind : bindArgs fd ⟨vals, []⟩ = pure (names.zip vals)) (hnd : names.Nodup) (hclo : fd.closure = []) (hlen : names.length = as.length)
  (hkind : ∀ x ∈ names, fd.scope.names.lookup x = some .local ∨ fd.scope.names.lookup x = some .cell)
  (hco : fd.scope.isCoroutine = false) (hgen : fd.scope.isGenerator = false) (hk : fd.scope.kind = .function)
  (h : ∀ s₁, Fx W (T.push (Qba (callEnvC fd s.heap.objs.size a))) s (callEnvC fd s.heap.objs.size a) (names.zip as) none s₁ → OkA (A.deeper (callEnvC fd s.heap.objs.size a)) n →
   Go prog w (A.deeper (callEnvC fd s.heap.objs.size a)) (callEnvC fd s.heap.objs.size a) body (fun f s' => Q (match f with | .ret v => v | _ => .none) s') s₁) :
  wpAny (model prog w) A (call (.ref a) vals) Q E s := by
 refine Qpj (hf) fun o ho hdata hcd => ?_
 have hcells : ∀ x, fd.scope.names.lookup x = some .cell → ((cellsFrom (s.heap.objs.size + 1) fd.scope.names []).lookup x).isSome = true := fun x hx => PySem.W.cellsFrom_some _ _ _ (.inl hx)
 refine wpAny_call (codeAny_call_cells hA.dline ho hdata hlim hcd hbody hbind hclo (fun x hx => ?_) (fun s₁ I => ?_) hco hgen hk)
 ·have hm : x.1 ∈ names := (List.of_mem_zip (a := x.1) (b := x.2) hx).1
  rcases hkind _ hm with q | q
  ·exact .inl q
  ·exact .inr ⟨q, hcells _ q⟩
 ·have hlo : s.heap.objs.size ≤ (callEnvC fd s.heap.objs.size a).locals := I.toInCall.fresh
  have habove : ∀ n c, (callEnvC fd s.heap.objs.size a).cells.lookup n = some c → (callEnvC fd s.heap.objs.size a).locals < c := fun n c hc => I.above n c (mem_of_lookup hc)
  have hYn : ∀ b, Qba (callEnvC fd s.heap.objs.size a) b → ¬ Qaa s.heap b := fun b hb => by
   rcases hb with rfl | ⟨n, hc⟩
   ·exact Qax hlo
   ·exact Qax (Nat.le_of_lt (Nat.lt_of_le_of_lt hlo (habove n b hc)))
  have kp : Kp s.heap s₁.heap := I.toInCall.keep
  have F : Fx W (T.push (Qba (callEnvC fd s.heap.objs.size a))) s (callEnvC fd s.heap.objs.size a) (names.zip as) none s₁ := by
   refine ⟨Hp.push_p ht hYn kp.kpx fun b hb => ?_, ?_, fun b hb => .inl (hW b hb), .inr (Qax hlo), .inr (.inl rfl), fun n c hc => ⟨.inr (.inr ⟨n, hc⟩), .inr (hYn c (.inr ⟨n, hc⟩)), Nat.ne_of_gt (habove n c hc)⟩, I.apart, ⟨_, I.toInCall.ns, fun x b e hl => ?_⟩, fun x c hc => ⟨_, I.cell x c hc, fun b e hl => ?_⟩, fun x b e => ?_, fun L ds e => nomatch e⟩
   ·rcases hb with rfl | ⟨n, hc⟩
    ·exact Ns.live I.toInCall.ns
    ·exact Cell.live (I.cell n b hc)
   ·refine Qfw (I.done) fun h' tk e k => ?_
    subst e
    exact ⟨h', tk, rfl, Kp.kpx k⟩
   ·obtain ⟨v, hv, hp⟩ := (Qex (kindOf := (callEnvC fd s.heap.objs.size a).kindOf) names vals as _ (fun ζ => none) hnd ha x b e).1 hl
    exact ⟨v, hv, hp.to kp.kpx fun b hb => hb.imp_right (hYn b)⟩
   ·obtain ⟨v, hv, hp⟩ := (Qex (kindOf := (callEnvC fd s.heap.objs.size a).kindOf) names vals as (fun ζ => none) _ hnd ha x b e).2 (by rw [hl]; decide)
    exact ⟨v, hv, hp.to kp.kpx fun b hb => hb.imp_right (hYn b)⟩
   ·have hm : x ∈ names := (List.of_mem_zip (a := x) (b := b) (mem_of_lookup e)).1
    rcases hkind _ hm with q | q
    ·exact .inl q
    ·exact .inr ⟨q, hcells _ q⟩
  exact wpAny_mono (h s₁ F hA.deeper).of (fun f s' x => x) fun ζ ζ x => x.elim
noncomputable def Hp.narrow (T:Hp)(X:Addr → Prop)(hX:∀ b, X b → T.X b) : Hp where
 p := T.p
 X := X
 mono h h' k p := T.mono h h' (k.wider hX) p
 live h p b hb := T.live h p b (hX b hb)
theorem Hp.narrow_le {T:Hp}{X:Addr → Prop}{hX:∀ b, X b → T.X b}{T₀:Hp}(h:T.le T₀)(h0:∀ b, T₀.X b → X b) : (T.narrow X hX).le T₀ := ⟨h.p, h0⟩
end
section
variable {prog : Program} {w : World} {A : Around} {E : Value → Shared → Prop} {s : Shared}
theorem call_gen {pm:Value}{l:Addr}{m:Nat}{Q:Value → Shared → Prop}(hf:FnAt s.heap 65 (Qdz 7 (.ref (65 - 1)) pm .none))(ok:OkA A m)(hlim:s.heap.NoLimit)
  (h : ∀ h6 tk6 mm ob, h6.Ns s.heap.objs.size mm → mm (Str.ofString "grouping") = some (.ref l) → Kp s.heap h6 → (h6.push ob).IsGen h6.objs.size s.gens.size →
   Q (.ref h6.objs.size) { s with heap := h6.push ob, toks := tk6, gens := s.gens.push (.fresh (.func (Qda 7) (Qdk s.heap.objs.size pm))) }) :
  wpAny (model prog w) A (call (.ref 65) [.ref l]) Q E s := by
 refine Qpj (hf) fun og hog hdg hcg => ?_
 have hbind : bindArgs (Qdz 7 (.ref (65 - 1)) pm .none) ⟨[.ref l], []⟩ = pure [(Str.ofString "grouping", Value.ref l)] := by kernel_rfl!
 have hk : (Qdz 7 (.ref (65 - 1)) pm .none).scope.kind = .function := by kernel_rfl!
 have hloc : (Qdz 7 (.ref (65 - 1)) pm .none).scope.names.lookup (Str.ofString "grouping") = some .local := by kernel_rfl!
 have hco : (Qdz 7 (.ref (65 - 1)) pm .none).scope.isCoroutine = false := by kernel_rfl!
 have hgen : (Qdz 7 (.ref (65 - 1)) pm .none).scope.isGenerator = true := by kernel_rfl!
 have hbody : (Qdz 7 (.ref (65 - 1)) pm .none).body = .stmts (Qda 7) := by kernel_rfl!
 have hclo : (Qdz 7 (.ref (65 - 1)) pm .none).closure = [] := by kernel_rfl!
 generalize hfd : Qdz 7 (.ref (65 - 1)) pm .none = fd at *
 refine wpAny_call (codeAny_call_generator (body := Qda 7) ok.dline hog hdg hco hgen hbody hcg ?_)
 rw [hbind, hclo]
 refine wpAny_pure (wpAny_newFunctionEnv_cells hk (fun x hx => ?_) fun env he s6 I6 => ⟨hlim.keeps I6.toInCall.keep, ?_⟩)
 ·rw [List.mem_singleton.mp hx]; exact .inl hloc
 have he' : env = callEnvC fd s.heap.objs.size 65 := he
 refine Qfw (I6.done) fun h6 tk6 ρ0 kp6 => ?_
 subst ρ0
 have hn6 := I6.toInCall.ns
 subst he'
 have e2 : callEnvC fd s.heap.objs.size 65 = Qdk s.heap.objs.size pm := by rw [← hfd]; rfl
 have hm : bindL (callEnvC fd s.heap.objs.size 65).kindOf [(Str.ofString "grouping", Value.ref l)] (fun ζ => none) (Str.ofString "grouping") = some (.ref l) := by
  show bindL (fun y => fd.scope.names.lookup y) [(Str.ofString "grouping", Value.ref l)] (fun ζ => none) (Str.ofString "grouping") = some (.ref l)
  rw [Qmx, if_pos hloc]
  exact (if_pos rfl : (if Str.ofString "grouping" = Str.ofString "grouping" then some (Value.ref l) else none) = some (Value.ref l))
 rw [e2]
 exact h h6 _ _ _ hn6 hm kp6 ⟨_, _, _, Heap.get?_push_size _ rfl, rfl, rfl, rfl⟩
end
theorem Qlb {X Y:Addr → Prop}{h h':Heap} : ∀ {xs:List Int}{vs:List Value}, RdAll X h (xs.map PyData.int) vs → RdAll Y h' (xs.map PyData.int) vs
 | [], vs, r => by rw [RdAll.nil_inv (X := X) (h := h) r]; exact RdAll.nil
 | x :: xs, vs, r => by
  refine Qac (RdAll.cons_inv (d := .int x) (ds := xs.map PyData.int) r) fun v vs' ρ0 r1 r2 => ?_
  subst ρ0
  refine eE (r1.int_inv) fun t ρ1 => ?_
  subst ρ1
  exact RdAll.cons Rd.int (Qlb r2)
theorem fx_ofO {T:Hp}{env:Env}{G:Gam}{s:Shared}{L:Addr}{ds:List PyData}{vs:Array Value}(ht:T.p s.heap)(hX:T.X env.locals)(hc:env.cells = [])(hns:∃ m, s.heap.Ns env.locals m ∧ ∀ x a, G.lookup x = some a → ∃ v, m x = some v ∧ a.p T.X s.heap v)(hall:∀ x a, G.lookup x = some a → env.kindOf x = some .local)
  (hL : T.X L) (hl : s.heap.PlainList L vs) (hr : RdAll T.X s.heap ds vs.toList) : Fx (fun b => b = env.locals ∨ b = L) T s env G (some (L, ds)) s where
 t := ht
 kt := .refl _ _
 wX := fun b hb => hb.elim (fun q => q ▸ hX) fun q => q ▸ hL
 lo := .inl (.inl rfl)
 loX := hX
 cells := fun n c h => by rw [hc] at h; cases h
 apart := by rw [hc]; exact List.Pairwise.nil
 ns := eEA (hns) fun m hn h => ⟨m, hn, fun x a e ζ => h x a e⟩
 cell := fun n c h => by rw [hc] at h; cases h
 all := fun x a e => .inl (hall x a e)
 own := fun L' ds' e => by cases e; exact ⟨hL, .inl (.inr rfl), vs, hl, hr⟩
theorem Qlw {prog:Program}{w:World}{T:Hp}{A:Around}{x y:Int} : Op2 prog w T A (compareOp .GtE) (.d (.int x)) (.d (.int y)) (.d (.bool (decide (y ≤ x)))) := ⟨fun E s v1 v2 ζ p1 p2 => by
 refine eE (p1.int_inv) fun t ρ2 => ?_
 subst ρ2
 obtain ⟨u, rfl⟩ := p2.int_inv
 exact PyProof.Rows.ge_int ⟨Dv.p.bool, .refl s⟩⟩
theorem AllBare.setG {gens:Array GenState}{x:GenState}(b:AllBare gens)(hx:x.bare = true)(i:Nat) : AllBare (gens.setIfInBounds i x) := fun y hy => by
 rcases Array.mem_or_eq_of_mem_setIfInBounds hy with h | h
 ·exact b y h
 ·rw [h]; exact hx
section
variable {prog : Program} {w : World}
noncomputable abbrev Qnq (L:Addr)(pm:Value) : Env := Qna 60 929 L pm
noncomputable def Ready (prog:Program)(w:World)(A:Around)(h₀:Heap)(X:Addr → Prop)(C:Addr)(val:Nat → Int)(en n:Nat)(gs:GenState)(h:Heap) : Prop :=
 ∃ Z : Addr → Prop, (∀ b, Z b → b = C ∨ ¬ Qaa h₀ b) ∧ ∀ s'' : Shared, GB h₀ X s''.heap → (∀ b o, Z b → h.get? b = some o → s''.heap.get? b = some o) → gs.Goes (model prog w) A (gend h₀ X C en) (Qzz h₀ X C val en) n (.send .none) s''
structure CutAt (prog : Program) (w : World) (A : Around) (T : Hp) (s₁ : Shared) (h₀ : Heap) (Lc L C Ga : Addr) (g : Nat) (many : Int) (val : Nat → Int) (en N n : Nat) (acc : List Int) (s : Shared) : Prop where
 same : ∃ h tk gs, s = { s₁ with heap := h, toks := tk, gens := gs } ∧ (AllBare s₁.gens → AllBare gs)
 gb : GB h₀ (fun b => b = Lc ∨ b = L ∨ b = C) s.heap
 gen : s.heap.IsGen Ga g
 st : ∃ gs, s.gens[g]? = some gs ∧ Ready prog w A h₀ (fun b => b = Lc ∨ b = L ∨ b = C) C val en n gs s.heap
 ns : ∃ m t, s.heap.Ns Lc m ∧ m "sizes" = some (.ref L) ∧ m "many" = some (.int many t)
 own : ∃ vs, s.heap.PlainList L vs ∧ RdAll (fun ζ => False) s.heap (acc.map PyData.int) vs.toList
 len : acc.length + n = N
 res : cutG val en many n acc = cutG val en many N [] ∧ QIq val en many n acc = true
set_option maxHeartbeats 4000000 in
theorem fn_lawCut {T:Hp}{A:Around}{m:Nat}(hT:T.le Tcm)(ok:OkA A (m + 8)){ruler:List Int}{many:Int}{val:Nat → Int}{en N:Nat}(hsp:Qwv val en none ruler N)(hok:QIq val en many N [] = true)(hN:N ≤ 1000)
  {E : Value → Shared → Prop} {s : Shared} (hp : T.p s.heap) {v u : Value} (hv : (Dv.d (.list (ruler.map PyData.int))).p T.X s.heap v) (hu : (Dv.d (.int many)).p T.X s.heap u)
  {Q : Value → Shared → Prop} (hQ : ∀ r s', (Dv.d (.list ((cutG val en many N []).map PyData.int))).p T.X s'.heap r → KtG s s' → Q r s') : wpAny (model prog w) A (call (.ref 929) [v, u]) Q E s := by
 refine Qck (hv.list_inv) fun l is ρ3 hXl hl hr => ?_
 subst ρ3
 refine eE (((hT.trans Tcm.le).p _ hp).defs 929 60 (by decide)) fun pm hf => ?_
 refine QHy (W := noW) (T := T) (body := Qda 60) (names := ["ruler", "many"]) (as := [.v (.ref l), .d (.int many)]) (n := m + 7) hf ok ((hT.trans Tcm.le).p _ hp).lim hp (fun ζ q => q.elim) ⟨_, _, rfl, rfl, _, _, rfl, hu, rfl⟩ (by kernel_rfl!) (by kernel_rfl!) (by decide +kernel) (by kernel_rfl!) rfl (fun x hx => ?_) (by kernel_rfl!) (by kernel_rfl!) (by kernel_rfl!) (fun s₁ F ok' => ?_)
 ·rcases List.mem_cons.mp hx with rfl | hx
  ·exact .inl (by kernel_rfl!)
  ·rw [List.mem_singleton.mp hx]; exact .inl (by kernel_rfl!)
 generalize hLc : s.heap.objs.size = Lc at *
 have hLcn : ¬ Qaa s.heap Lc := Qax (Nat.le_of_eq hLc)
 have hle1 := Hp.push_le T (Qba (callEnvC (Qdz 60 (.ref (929 - 1)) pm .none) Lc 929))
 refine QEy F fun T2 L s2 hle2 hLT hX2 F2 => ?_
 have hT2 : T2.le T := hle2.trans hle1
 have hT2c : T2.le Tcm := hT2.trans hT
 have hT2p := hT2c.trans Tcm.le
 have hLn : ¬ Qaa s.heap L := ((F2.own L [] rfl).2.1).resolve_left fun q => q
 have hXL : T2.X L := (F2.own L [] rfl).1
 have hXLc : T2.X Lc := F2.loX
 have hll : Qaa s.heap l := let ⟨o, e, _⟩ := hl; ⟨o, e⟩
 have hlLc : l ≠ Lc := fun q => hLcn (q ▸ hll)
 have hlL : l ≠ L := fun q => hLn (q ▸ hll)
 have fin : ∀ {R : Flow → Shared → Prop} {W' : Addr → Prop} {Tb : Hp} {s0 s9 : Shared} {G : Gam} {h₀ : Heap} {C : Addr} {acc : List Int} {rest : List Stmt} {pos p : Pos}, (∀ b, Qaa s.heap b → Qaa h₀ b ∧ b ≠ C ∧ b ≠ Lc ∧ b ≠ L) → Kp s.heap h₀ → (∃ h tk gs, s9 = { s with heap := h, toks := tk, gens := gs } ∧ (AllBare s.gens → AllBare gs)) → GB h₀ (fun b => b = Lc ∨ b = L ∨ b = C) s9.heap → acc = cutG val en many N [] → (∀ v s', Q v s' → R (.ret v) s') →
   Fx W' Tb s0 (Qnq Lc pm) G (some (L, acc.map PyData.int)) s9 → List.lookup (Str.ofString "sizes") G = some (Dv.v (.ref L)) →
   Go prog w (A.deeper (Qnq Lc pm)) (Qnq Lc pm) (.Return (some (.Name "sizes" p)) pos :: rest) R s9 := by
  intro R W' Tb s0 s9 G h₀ C acc rest pos p hlv hk0 hsame gb hacc hR F9 hG
  refine ⟨wpAny_execs_cons (wpAny_Return_some (EvF.run ((EvA.name (T := Tb) (.v (.ref L)) hG).f) F9 fun r sz hv ks Fz => ?_))⟩
  have : r = .ref L := hv
  subst this
  refine QDx (Fz.own L _ rfl) fun ζ ζ vs hpl hrd => ?_
  subst hacc
  refine hR _ _ (hQ _ _ (Dv.p.list (fun q => hLn (T.live _ hp L q)) hpl.isList (Qlb hrd)) ?_)
  refine Qxw (hsame) fun h9 tk9 gs9 ρ4 hb => ?_
  subst ρ4
  refine Qfw (ks.of) fun hz tkz ρ5 kz => ?_
  subst ρ5
  exact ⟨hz, tkz, gs9, rfl, fun b o e => kz b o (gb.kp b o (fun q => by
   refine Qwb (hlv b ⟨o, e⟩) fun ζ n1 n2 n3 => ?_
   exact q.elim n2 fun q => q.elim n3 n1) (hk0 b o e)), hb⟩
 refine ⟨wpAny_execs_cons (wpAny_For (Call_Name rfl (wpAny_mono ((glob (.ref 65) hT2p).of _ s2 F2.t F2.vw) (fun f' s3 k3 => ?_) fun ζ ζ x => x)) (fun x => by kernel_rfl!))⟩
 obtain ⟨rfl, k3⟩ := k3
 have F3 := F2.kept k3
 refine Qbx (by kernel_rfl!) (Qcz (EvL.cons (EvA.name (.v (.ref l))) .nil') F3.t F3.vw fun vs s4 k4 hvs => ?_)
 have F4 := F3.kept k4
 refine Qac (hvs) fun v' vs' ρ6 hv' ρ7 => ?_
 subst ρ6
 subst ρ7
 have : v' = .ref l := hv'
 subst this
 refine eE ((hT2p.p _ F4.t).defs 65 7 (by decide)) fun pmg hfg => ?_
 refine wpAny_mono (Qev hfg) (fun ζ s5 e => ?_) fun ζ ζ x => x
 subst e
 have hC : ¬ Qaa s5.heap s5.heap.objs.size := Qax (Nat.le_refl _)
 have hpX : T2.p s5.heap := F4.t
 refine eEA (F4.ns) fun m4 hn4 hm4 => ?_
 refine eEA (hm4 (Str.ofString "sizes") (.v (.ref L)) (by kernel_rfl!) (by kernel_rfl!)) fun v1 hv1 hp1 => ?_
 have : v1 = .ref L := hp1
 subst this
 refine eEA (hm4 (Str.ofString "many") (.d (.int many)) (by kernel_rfl!) (by kernel_rfl!)) fun v2 hv2 hp2 => ?_
 refine eE (hp2.int_inv) fun tm ρ8 => ?_
 subst ρ8
 refine QDx (F4.own L _ rfl) fun ζ ζ vL hpL hrL => ?_
 have kp4 : Kp s.heap s5.heap := F4.kt.kt.kp
 have hl4 : s5.heap.IsList l is := hl.at fun o e => kp4 _ o e
 have hLc4 : Qaa s5.heap Lc := Ns.live hn4
 have hL4 : Qaa s5.heap L := eE (hpL) fun n e => ⟨_, e⟩
 have hlv : ∀ b, Qaa s.heap b → Qaa s5.heap b ∧ b ≠ s5.heap.objs.size ∧ b ≠ Lc ∧ b ≠ L := fun b lb => ⟨eE (lb) fun o e => ⟨o, kp4 b o e⟩, fun q => hC (q ▸ eE (lb) fun o e => ⟨o, kp4 b o e⟩), fun q => hLcn (q ▸ lb), fun q => hLn (q ▸ lb)⟩
 refine Qfw (F4.kt.kt.of) fun h4 tk4 e4 ζ => ?_
 refine call_gen hfg ok' ((hT2p.p _ F4.t).lim) fun h6 tk6 mm ob hn6 hm6 kp6 hgen => ?_
 refine wpAny_pyIter_gen hgen ?_
 have kpo : Kp h6 (h6.push ob) := Qav _ _
 generalize hH : h6.push ob = h7 at *
 generalize hGa : h6.objs.size = Ga at *
 generalize hCe : s5.heap.objs.size = C at *
 have hLcC : Lc ≠ C := fun q => hC (q ▸ hLc4)
 have hLC : L ≠ C := fun q => hC (q ▸ hL4)
 have k7 : Kp s5.heap h7 := kp6.trans kpo
 have hn7 : h7.Ns C mm := hn6.keeps kpo
 let Xn : Addr → Prop := fun b => b = Lc ∨ b = L ∨ b = C
 have hXn : ∀ b, Xn b → (T2.push fun b => b = C).X b := fun b hb => hb.elim (fun q => .inl (q ▸ hXLc)) fun q => q.elim (fun q => .inl (q ▸ hXL)) .inr
 let Tn' := (T2.push fun b => b = C).narrow Xn hXn
 have hTn : Tn'.le Tcm := Hp.narrow_le ((Hp.push_le T2 _).trans hT2c) fun b q => q.elim
 have hTnp : Tn'.p h7 := Hp.push_p hpX (fun y hy => hy ▸ hC) k7.kpx fun y hy => hy ▸ Ns.live hn7
 have hlv7 : ∀ b, Qaa s.heap b → Qaa h7 b ∧ b ≠ C ∧ b ≠ Lc ∧ b ≠ L := fun b lb => eA (hlv b lb) fun q1 q2 => ⟨eE (q1) fun o e => ⟨o, k7 b o e⟩, q2⟩
 have kp7 : Kp s.heap h7 := kp4.trans k7
 have hLc7 : Qaa h7 Lc := eE (hLc4) fun o e => ⟨o, k7 _ _ e⟩
 have hL7 : Qaa h7 L := eE (hL4) fun o e => ⟨o, k7 _ _ e⟩
 have hGa7 : Qaa h7 Ga := let ⟨o, _, _, e, _⟩ := hgen; ⟨o, e⟩
 have hGaC : Ga ≠ C := fun q => by
  refine Qgz (hn7) fun o1 ζ ζ e1 d1 ζ => ?_
  refine Qnb (hgen) fun o2 ζ ζ e2 c2 d2 ζ => ?_
  rw [q, e1] at e2; cases e2; rw [d1] at d2; cases d2
 have hes : ∀ h tk gs, (AllBare s5.gens → AllBare gs) → ∃ h' tk' gs', ({ s5 with heap := h, toks := tk, gens := gs } : Shared) = { s with heap := h', toks := tk', gens := gs' } ∧ (AllBare s.gens → AllBare gs') := fun h tk gs hb => by
  refine Qfw (F4.kt.kt.of) fun h4 tk4 e4 ζ => ?_
  subst e4
  exact ⟨h, tk, gs, rfl, hb⟩
 obtain ⟨Inv, hI⟩ : ∃ I : Nat → Shared → Prop, ∀ n s', I n s' ↔ ∃ acc, CutAt prog w (A.deeper (Qnq Lc pm)).in1 Tn' s5 h7 Lc L C Ga s5.gens.size many val en N n acc s' := ⟨_, fun ζ ζ => Iff.rfl⟩
 refine codeAny_forLoop Inv ?_ N ((hI _ _).2 ⟨[], ?_⟩)
 ·intro n s' κ0
  refine eE ((hI _ _).1 κ0) fun acc hat => ?_
  obtain ⟨hsame, gb, hgen', ⟨gs, hgs, Z, hZ, hgo⟩, ⟨m', tm', hn', hs', hm'⟩, ⟨vs, hpl, hrd⟩, hlen, hres, hok'⟩ := hat
  cases n with
  | zero => cases hok'
  | succ n =>
  have hp' : Tn'.p s'.heap := Tn'.mono _ _ gb hTnp
  refine next_gen (P := fun n s₀ s₁ => n = en ∧ GS h7 C s₀ s₁ ∧ GB h7 Xn s₁.heap) (Y := Qzz h7 Xn C val en) (n := n + 1) ok'.handled (((hTn.trans Tcm.le).p _ hp').lim) ok'.dline hgen' hgs (hgo (s'.setGen s5.gens.size .running) gb fun b o ζ e => e) ?_ ?_
  ·intro v9 s9 gs' hbare κ1
   obtain ⟨⟨t9, rfl⟩, hne, hgs9, gb9, Z9, hZ9, hnext⟩ := κ1
   refine Qfw (hgs9.of) fun h9 tk9 ρ9 k9 => ?_
   subst ρ9
   dsimp only
   have hn9 : h9.Ns Lc m' := hn'.at' fun o e => k9 Lc o hLc7 hLcC e
   have hpl9 : h9.PlainList L vs := hpl.at fun o e => k9 L o hL7 hLC e
   have hgen9 : h9.IsGen Ga s5.gens.size := by
    refine Qxw (hgen') fun o nm qn e r => ?_
    exact ⟨o, nm, qn, k9 Ga o hGa7 hGaC e, r⟩
   have gb9' : GB h7 Xn h9 := gb9
   have hbareS : ∃ h tk gs, ({ (s'.setGen s5.gens.size .running) with heap := h9, toks := tk9 } : Shared).setGen s5.gens.size gs' = { s5 with heap := h, toks := tk, gens := gs } ∧ (AllBare s5.gens → AllBare gs) := by
    refine Qxw (hsame) fun h1 t1 g1 ρ10 hb1 => ?_
    subst ρ10
    exact ⟨h9, tk9, _, rfl, fun b => AllBare.setG (AllBare.setG (hb1 b) rfl _) hbare _⟩
   have hg10 : (({ (s'.setGen s5.gens.size .running) with heap := h9, toks := tk9 } : Shared).setGen s5.gens.size gs').gens[s5.gens.size]? = some gs' := by
    have hlt : s5.gens.size < s'.gens.size := (Array.getElem?_eq_some_iff.mp hgs).1
    show ((s'.gens.setIfInBounds s5.gens.size .running).setIfInBounds s5.gens.size gs')[s5.gens.size]? = _
    simp [hlt]
   generalize hs10 : ({ (s'.setGen s5.gens.size .running) with heap := h9, toks := tk9 } : Shared).setGen s5.gens.size gs' = s10 at *
   have hh10 : s10.heap = h9 := by rw [← hs10]; rfl
   have F10 : Fx (fun b => b = Lc ∨ b = L) Tn' s10 (Qnq Lc pm) [("sizes", .v (.ref L)), ("many", .d (.int many))] (some (L, acc.map PyData.int)) s10 := by
    refine fx_ofO (env := Qnq Lc pm) (hh10 ▸ Tn'.mono _ _ gb9' hTnp) (.inl rfl) (by kernel_rfl!) ⟨m', hh10 ▸ hn9, fun y a q => ?_⟩ (fun y a q => ?_) (.inr (.inl rfl)) (hh10 ▸ hpl9) (Qlb hrd)
    ·by_cases hy : y = "sizes"
     ·subst hy
      rw [Qak] at q; cases q
      exact ⟨_, hs', rfl⟩
     ·rw [Qaz hy] at q
      by_cases hy2 : y = "many"
      ·subst hy2
       rw [Qak] at q; cases q
       exact ⟨_, hm', Dv.p.int⟩
      ·rw [Qaz hy2] at q; simp at q
    ·by_cases hy : y = "sizes"
     ·subst hy; kernel_rfl!
     ·rw [Qaz hy] at q
      by_cases hy2 : y = "many"
      ·subst hy2; kernel_rfl!
      ·rw [Qaz hy2] at q; simp at q
   refine wpAny_assign_Name (F10.store (.d (.int (val n))) (by kernel_rfl!) (.inl (by kernel_rfl!)) Dv.p.int fun s11 F11 => ?_)
   have hne : n + 1 ≠ en := hne
   have hmapS : acc.map PyData.int ++ [.int (val n)] = (acc ++ [val n]).map PyData.int := by simp
   have hacclen : acc.length ≤ 1000 := by lia
   rw [QIz, if_neg hne] at hres
   rw [cutOk_succ, if_neg hne] at hok'
   have hsame13 : ∀ {s13 G13 O13}, Fx (fun b => b = Lc ∨ b = L) Tn' s10 (Qnq Lc pm) G13 O13 s13 → ∃ h tk gs, s13 = { s5 with heap := h, toks := tk, gens := gs } ∧ (AllBare s5.gens → AllBare gs) := fun F13 => by
    refine Qfw (F13.kt.of) fun h13 tk13 ρ11 ζ => ?_
    subst ρ11
    refine Qxw (hbareS) fun h tk gs e hb => ?_
    subst e
    exact ⟨h13, tk13, gs, rfl, hb⟩
   have hgb13 : ∀ {s13 G13 O13}, Fx (fun b => b = Lc ∨ b = L) Tn' s10 (Qnq Lc pm) G13 O13 s13 → GB h7 Xn s13.heap := fun F13 => by
    have := F13.kt.kp
    rw [hh10] at this
    exact gb9'.trans (this.wider fun b hb => hb.elim .inl fun q => .inr (.inl q))
   have hGan1 : Ga ≠ Lc := fun q => by
    refine Qgz (hn9) fun o1 ζ ζ e1 d1 ζ => ?_
    refine Qnb (hgen9) fun o2 ζ ζ e2 c2 d2 ζ => ?_
    rw [q, e1] at e2; cases e2; rw [d1] at d2; cases d2
   have hGan2 : Ga ≠ L := fun q => by
    refine eE (hpl9) fun n1 e1 => ?_
    refine Qnb (hgen9) fun o2 ζ ζ e2 c2 d2 ζ => ?_
    rw [q, e1] at e2; cases e2; exact absurd c2 (by simp)
   have hTsee : (Tn'.see L ((acc ++ [val n]).map PyData.int)).le Tp := Hp.le_of (hTn.trans Tcm.le) fun h q => q.1
   refine wpAny_mono (Go.of (R := Rf (fun s12 => ∃ m, m < n + 1 ∧ Inv m s12) (fun ζ => False) fun f s12 => match f with | .ret v => Q v s12 | _ => False) ?_) (fun f s12 q => by
     cases f <;> first | exact q | exact (show False from q).elim) fun ζ ζ x => x.elim
   refine Qox (.int (val n)) F11 (EvA.name (.d (.int (val n)))).f (by rw [List.length_map]; show acc.length ≤ 2 ^ 24; lia) fun s12 F12 => ?_
   rw [hmapS] at F12
   refine Qiy (decide (many ≤ Qqz (acc ++ [val n]))) F12 (TeA.see (TeA.cmp (EvA.call (bltn (.builtin "sum") hTsee) (EvL.cons (EvA.own (EvA.name (.v (.ref L)))) .nil') (QHz (m := 0) (ok'.le (by lia)))) (EvA.name (.d (.int many))) Qlw)) (fun hb s13 F13 => ?_) (fun hb s13 F13 => ?_)
   ·rw [if_pos hb] at hres
    refine fin hlv7 kp7 ?_ (hgb13 F13) hres (fun v s' q => q) F13 (by kernel_rfl!)
    refine Qxw (hsame13 F13) fun h tk gs e hb => ?_
    rw [e]
    exact hes h tk gs hb
   ·rw [if_neg (by rw [hb]; decide)] at hres hok'
    have hpos : 0 < n := by
     cases n with
     | zero => cases hok'
     | succ n => exact Nat.succ_pos _
    have hg13 : s13.gens[s5.gens.size]? = some gs' := by
     refine Qfw (F13.kt.of) fun h13 tk13 ρ12 ζ => ?_
     subst ρ12
     exact hg10
    have k13 := F13.kt.kp
    rw [hh10] at k13
    refine eEA (F13.ns) fun m13 hn13 hm13 => ?_
    refine eEA (hm13 (Str.ofString "sizes") (.v (.ref L)) (by kernel_rfl!) (by kernel_rfl!)) fun v1' q1 q2 => ?_
    have : v1' = .ref L := q2
    subst this
    refine eEA (hm13 (Str.ofString "many") (.d (.int many)) (by kernel_rfl!) (by kernel_rfl!)) fun v2' q3 q4 => ?_
    refine eE (q4.int_inv) fun t2' ρ13 => ?_
    subst ρ13
    refine QDx (F13.own L _ rfl) fun ζ ζ v13 hp13 hr13 => ?_
    refine Qaw (Qaw ⟨n, Nat.lt_succ_self n, (hI _ _).2 ⟨acc ++ [val n], hsame13 F13, hgb13 F13, ?_, ⟨gs', hg13, Z9, hZ9, fun s'' gb'' keep => ?_⟩, ⟨m13, t2', hn13, q1, q3⟩, ⟨v13, hp13, Qlb hr13⟩, by simp; lia, hres, hok'⟩⟩)
    ·refine Qxw (hgen9) fun o nm qn e r => ?_
     exact ⟨o, nm, qn, k13.kp Ga o (fun q => q.elim hGan1 hGan2) e, r⟩
    ·exact hnext hpos s'' gb'' fun b o hz e => keep b o hz (k13.kp b o (fun q => by
      rcases hZ9 b hz with rfl | hd
      ·exact q.elim (fun q => hLcC q.symm) fun q => hLC q.symm
      ·exact q.elim (fun q => hd (q ▸ hLc7)) fun q => hd (q ▸ hL7)) e)
  ·intro s9 κ2 h9 k9
   refine eAA (κ2) fun hen hgs9 gb9 => ?_
   refine Qfw (hgs9.of) fun hA tkA ρ14 kA => ?_
   subst ρ14
   dsimp only at k9 gb9 ⊢
   have gb9' : GB h7 Xn h9 := gb9.trans (Kp.kpx (h := hA) k9)
   rw [QIz, if_pos hen] at hres
   have F10 : Fx (fun b => b = Lc ∨ b = L) Tn' { ({ (s'.setGen s5.gens.size .running) with heap := hA, toks := tkA } : Shared).setGen s5.gens.size .finished with heap := h9 } (Qnq Lc pm) [("sizes", .v (.ref L))] (some (L, acc.map PyData.int)) { ({ (s'.setGen s5.gens.size .running) with heap := hA, toks := tkA } : Shared).setGen s5.gens.size .finished with heap := h9 } := by
    refine fx_ofO (env := Qnq Lc pm) (Tn'.mono _ _ gb9' hTnp) (.inl rfl) (by kernel_rfl!) ⟨m', hn'.at' fun o e => k9 _ _ (kA Lc o hLc7 hLcC e), fun y a q => ?_⟩ (fun y a q => ?_) (.inr (.inl rfl)) (hpl.at fun o e => k9 _ _ (kA L o hL7 hLC e)) (Qlb hrd)
    ·by_cases hy : y = "sizes"
     ·subst hy
      rw [Qak] at q; cases q
      exact ⟨_, hs', rfl⟩
     ·rw [Qaz hy] at q; simp at q
    ·by_cases hy : y = "sizes"
     ·subst hy; kernel_rfl!
     ·rw [Qaz hy] at q; simp at q
   rw [show execs [] (callEnvC (Qdz 60 (.ref (929 - 1)) pm .none) Lc 929) = pure .next from rfl]
   refine wpAny_pure (fin hlv7 kp7 ?_ gb9' hres (fun v s' q => q) F10 (by kernel_rfl!)).of
   refine Qxw (hsame) fun h1 t1 g1 ρ15 hb1 => ?_
   subst ρ15
   exact hes _ _ _ fun b => AllBare.setG (AllBare.setG (hb1 b) rfl _) rfl _
 ·refine ⟨⟨_, _, _, rfl, fun b => b.push rfl⟩, .refl _, hgen, ⟨.fresh (.func (Qda 7) (Qdk C pmg)), by simp, fun b => b = C, fun b hb => .inl hb, fun s'' gb keep => ⟨rfl, ?_⟩⟩, ⟨m4, tm, hn4.keeps k7, hv1, hv2⟩, ⟨vL, hpL.at fun o e => k7 _ _ e, by have := hrL.nil_inv; rw [this]; exact .nil⟩, by simp, rfl, hok⟩
  exact gen_start (T := Tn') (m := m + 4) hTnp hTn (.inr (.inr rfl)) (fun q => q.elim hlLc fun q => q.elim hlL fun q => hC (q ▸ eEA (hl4) fun o e ζ => ⟨o, e⟩)) (hl4.at fun o e => k7 _ _ e) (Qlb hr) (OkA.le ok'.in1 (by lia)) hsp gb ⟨mm, hn7.at' fun o e => keep C o rfl e, hm6⟩
end
structure Ins where
 x : Addr
 C : Addr
 D : Addr
 ns : List Str
 G : Gam
noncomputable def Sv (a:Dv)(v:Value) : Prop := ∀ X h, a.p X h v
structure InsAt (h : Heap) (i : Ins) : Prop where
 obj : h.get? i.x = some (PySem.W.instObj i.C i.D)
 dict : ∃ m, h.Ns1 i.D m ∧ Within m i.ns ∧ ∀ n a, i.G.lookup n = some a → ∃ v, m n = some v ∧ Sv a v
theorem InsAt.at {h h':Heap}{i:Ins}(I:InsAt h i)(k1:∀ o, h.get? i.x = some o → h'.get? i.x = some o)(k2:∀ o, h.get? i.D = some o → h'.get? i.D = some o) : InsAt h' i :=
 ⟨k1 _ I.obj, eEA (I.dict) fun m a b => ⟨m, a.at k2, b⟩⟩
theorem InsAt.kp {h h':Heap}{i:Ins}(I:InsAt h i)(k:Kp h h') : InsAt h' i := I.at (fun o e => k _ o e) fun o e => k _ o e
theorem InsAt.dlive {h:Heap}{i:Ins}(I:InsAt h i) : Qaa h i.D := eEA (I.dict) fun m a b => Ns.live a.ns
noncomputable def okDv : Dv → Bool
 | .d d => scal d
 | .v (.ref _) => true
 | _ => false
theorem scal_any {X Y:Addr → Prop}{h h':Heap}{v:Value} : ∀ {d:PyData}, scal d = true → Rd X h d v → Rd Y h' d v
 | .none, _, r => r
 | .bool _, _, r => r
 | .int _, _, r => r
 | .str _, _, r => r
theorem okDv.sv {a:Dv}{X:Addr → Prop}{h:Heap}{v:Value}(ha:okDv a = true)(hp:a.p X h v) : Sv a v := fun Y h' => by
 cases a with
 | d d => exact scal_any ha hp
 | v u => exact hp
 | _ => cases ha
theorem okDv.handed {a:Dv}{v:Value}(ha:okDv a = true)(hs:Sv a v) : PySem.W.handedIn v = true := by
 have hp := hs (fun ζ => False) (default : Heap)
 cases a with
 | d d =>
  cases d with
  | none => have := Rd.none_inv (X := fun ζ => False) (h := (default : Heap)) hp; subst this; rfl
  | bool b => have := Rd.bool_inv (X := fun ζ => False) (h := (default : Heap)) hp; subst this; rfl
  | int i => obtain ⟨t, rfl⟩ := Rd.int_inv (X := fun ζ => False) (h := (default : Heap)) hp; rfl
  | str x => obtain ⟨t, rfl⟩ := Rd.str_inv (X := fun ζ => False) (h := (default : Heap)) hp; rfl
  | _ => cases ha
 | v u =>
  have : v = u := hp
  subst this
  cases v <;> first | rfl | cases ha
 | _ => cases ha
theorem lookIn_ns1 {h:Heap}{D:Addr}{m:Str → Option Value}(hn:h.Ns1 D m) : ∃ o, h.get? D = some o ∧ ∀ name, PySem.W.lookIn name o = some (m name) := by
 obtain ⟨o, es, ep, ho, hd, hk, hu, hm⟩ := hn
 refine ⟨o, ho, fun name => ?_⟩
 rw [← hm name]
 unfold PySem.W.lookIn nsFind findBy
 rw [hd]
 dsimp only
 rw [← Array.find?_toList]
 cases e : List.find? (fun x => x.key.isStr name) es.toList with
 | some en => rfl
 | none =>
  dsimp only
  rw [if_neg]
  ·rfl
  ·intro q
   refine eEA (List.any_eq_true.mp q) fun en hen hr => ?_
   refine eEE (hk en (Array.mem_toList_iff.mp hen)) fun n t ek => ?_
   unfold DictEntry.refKey at hr
   rw [ek] at hr
   cases hr
structure ClsK (K : PySem.W.Frag) (C : Addr) (nones : List Str) (fns : List (Str × Addr)) : Prop where
 ga : PySem.W.findIn K (.ref C) "__getattribute__" = some (some (.builtin "object.__getattribute__"))
 gk : PySem.W.findIn K (.ref C) "__getattr__" = some none
 sa : PySem.W.findIn K (.ref C) "__setattr__" = some (some (.builtin "object.__setattr__"))
 over : PySem.W.plainOver K C = true
 hd : PySem.W.hasDictIn K C = true
 non : ∀ n ∈ nones, PySem.W.findIn K (.ref C) n = some none
 fn : ∀ p ∈ fns, PySem.W.findIn K (.ref C) p.1 = some (some (.ref p.2)) ∧ PySem.W.typeIn K (.ref p.2) = some (.type "function")
section
variable {prog : Program} {w : World} {A : Around} {E : Value → Shared → Prop} {s : Shared} {K : PySem.W.Frag} {i : Ins} {nones : List Str} {fns : List (Str × Addr)} {name : Str}
theorem InsAt.wi {h:Heap}(I:InsAt h i) : ∃ od, PySem.W.InstAt h i.x (PySem.W.instObj i.C i.D) i.C (some od) ∧ ∃ m, h.Ns1 i.D m ∧ Within m i.ns ∧ (∀ n a, i.G.lookup n = some a → ∃ v, m n = some v ∧ Sv a v) ∧ ∀ n, PySem.W.lookIn n od = some (m n) := by
 refine Qpj (I.dict) fun m hn hw hg => ?_
 refine eEA (lookIn_ns1 hn) fun o ho hl => ?_
 exact ⟨o, ⟨I.obj, rfl, rfl, ho⟩, m, hn, hw, hg, hl⟩
theorem get_ins {a:Dv}{expr:Bool}{Q:Value → Shared → Prop}(X:K.In s.heap)(c:ClsK K i.C nones fns)(I:InsAt s.heap i)(hn:name ∈ nones)(hg:i.G.lookup name = some a)(ha:okDv a = true)
  (h : ∀ v, Sv a v → Q v { s with toks := s.toks + 1 }) : wpAny (model prog w) A (getAttr (.ref i.x) name expr) Q E s := by
 refine eEAEAAA (I.wi) fun od I' m hn' hw hG hl => ?_
 refine eEA (hG name a hg) fun v hv hs => ?_
 exact PySem.W.get_value X I' c.ga (PySem.W.findObj_own c.hd (c.non _ hn) rfl ((hl name).trans (by rw [hv]))) (okDv.handed ha hs) (h v hs)
theorem method_ins {f:Addr}{pl:Sem Bool}{Q:Value × List Value → Shared → Prop}(X:K.In s.heap)(c:ClsK K i.C nones fns)(I:InsAt s.heap i)(hf:(name, f) ∈ fns)(hns:name ∉ i.ns)
  (h : Q (.ref f, [.ref i.x]) s) : wpAny (model prog w) A (getMethod (.ref i.x) name pl) Q E s := by
 refine eEAEAAA (I.wi) fun od I' m hn' hw hG hl => ?_
 have hm : m name = none := Classical.byContradiction fun q => hns (hw name q)
 exact PySem.W.method_fn X I' c.ga c.gk (c.fn _ hf).1 (c.fn _ hf).2 (by show (PySem.W.lookIn name od).map _ = _; rw [hl, hm]; rfl) h
theorem set_ins {a:Dv}{v:Value}{Q:Unit → Shared → Prop}(X:K.In s.heap)(c:ClsK K i.C nones fns)(I:InsAt s.heap i)(hn:name ∈ nones)(hns:name ∈ i.ns)(hsz:i.ns.length ≤ 100)(hxD:i.x ≠ i.D)(ha:Sv a v)
  (h : ∀ h' tk', InsAt h' { i with G := (name, a) :: i.G } → Heap.SameBut i.D s.heap h' → Q () { s with heap := h', toks := tk' }) :
  wpAny (model prog w) A (setAttr (.ref i.x) name v) Q E s := by
 refine eEAEAAA (I.wi) fun od I' m hn' hw hG hl => ?_
 refine eEA (PySem.W.any_some c.hd) fun cd hcd hdict => ?_
 refine PySem.W.set_plain X I' c.sa (PySem.W.osa_open (r := none) X I' c.over (by unfold PySem.W.takerIn; rw [c.non _ hn]; rfl) fun b => ?_)
 refine wpAny_bind (m := ownStreamTells (.ref i.x) (.ref i.C)) (wpAny_pure ?_)
 refine wpAny_bind (m := Builtin.ObjectAttr.ownDictForStores (.ref i.x)) (wpAny_bind (wpAny_loadPart I.obj ?_))
 dsimp only
 refine wpAny_bind (PySem.W.looks_clsIn X hcd _ _ _ _ (fun ζ ζ e => e) ?_)
 rw [hdict]
 refine wpAny_pure (a := some i.D) ?_
 show wpAny _ _ (Builtin.ObjectAttr.storeInDict i.D (.str name s.toks) name v) _ _ _
 unfold Builtin.ObjectAttr.storeInDict Builtin.ObjectAttr.newKeyGuard
 refine wpAny_bind (wpAny_pure (wpAny_bind (wpAny_nsSet1 hn' fun h' hn1 hs => ?_)))
 refine Qgz (hn1.count (Within.cons name v hw)) fun oD esD epD hoD hdD hcD => ?_
 refine wpAny_bind (wpAny_lookBehind hoD (by rw [hdD]; exact pastItsLine_dict (Nat.le_trans hcD (by rw [List.length_cons, sizeLine_eq]; lia))) ?_)
 refine wpAny_pure (h h' _ ⟨(hs.2 i.x hxD).trans I.obj, _, hn1, fun y hy => ?_, fun n b e => ?_⟩ hs)
 ·by_cases q : y = name
  ·subst q; exact hns
  ·exact hw y (by simpa [q] using hy)
 ·dsimp only at e
  by_cases q : n = name
  ·subst q
   rw [Qak] at e; cases e
   exact ⟨v, by simp, ha⟩
  ·rw [Qaz q] at e
   refine eEA (hG n b e) fun u hu hs' => ?_
   exact ⟨u, by simp [q, hu], hs'⟩
end
noncomputable def Qab : List Str := ["instream", "infile", "posix", "eof", "commenters", "wordchars", "whitespace", "whitespace_split", "quotes", "escape", "escapedquotes", "state", "pushback", "lineno", "debug", "token", "filestack", "source", "_punctuation_chars"]
noncomputable def fnsLex : List (Str × Addr) := [("get_token", 841), ("read_token", 848), ("__iter__", 870), ("__next__", 877), ("__init__", 804)]
noncomputable def Qoc : List Str := ["_StringIO__newline", "_StringIO__buf", "_StringIO__pos"]
noncomputable def fnsSio : List (Str × Addr) := [("read", 691), ("_StringIO__check", 529), ("_StringIO__translated", 522), ("__init__", 515)]
structure ShK (K : PySem.W.Frag) : Prop where
 lex : ClsK K 880 Qab fnsLex
 sio : ClsK K 745 Qoc fnsSio
 prop : PySem.W.findIn K (.ref 880) "punctuation_chars" = some (some (.ref 812))
 pget : PySem.W.specialIn K (.ref 812) "__get__" = some (some (.builtin "property.__get__"))
 ptak : PySem.W.takesIn K (.ref 812) = some true
 prec : ∃ rest, PySem.W.recIn K 812 "property" = some (.ref 811 :: rest)
 make : PySem.W.makesIn K 880 = true
 keepL : PySem.W.keepIn K (.ref 880) = true
 lenN : PySem.W.findIn K (.ref 880) "__len__" = some none
 hintN : PySem.W.findIn K (.ref 880) "__length_hint__" = some none
 cdS : ∃ cd od sl, K.lookup 745 = some ⟨.type "type", od, .cls cd, sl⟩ ∧ cd.mro.isEmpty = false ∧ cd.abstract = false ∧ cd.hasDel = false
 madeS : ∀ S, PySem.W.peek K S (Bind.madeBy (.ref 745)) = some none
 baseS : ∀ S, PySem.W.peek K S (Bind.staticBase (.ref 745)) = some (.type "object")
 madeO : ∀ S, PySem.W.peek K S (Bind.madeBy (.type "object")) = some (some "object.__new__")
 selfS : PySem.W.mroIn K 745 (.ref 745) = some true
 callS : PySem.W.specialIn K (.ref 745) "__call__" = some (some (.builtin "type.__call__"))
 typS : PySem.W.instIn K (.ref 745) (.type "type") = some true
 readsS : PySem.W.readsIn K 745 (.type "type") = true
 newS : PySem.W.findCls K (.ref 745) (.type "type") "__new__" = some (.get (.builtin "staticmethod.__get__") (.ref 242) .none (.ref 745))
 statS : ∃ rest, PySem.W.recIn K 242 "staticmethod" = some (.ref 238 :: rest)
 bytS : ∃ o, K.lookup 498 = some o
 objNew : PySem.W.findCls K (.type "object") (.type "type") "__new__" = some (.val (.builtin "object.__new__"))
noncomputable def Qdj (C:Addr) : List Str := if C = 880 then Qab else Qoc
noncomputable def fnsOf (C:Addr) : List (Str × Addr) := if C = 880 then fnsLex else fnsSio
theorem ShK.cls {K:PySem.W.Frag}(k:ShK K) : ∀ C, C = 880 ∨ C = 745 → ClsK K C (Qdj C) (fnsOf C)
 | _, .inl rfl => k.lex
 | _, .inr rfl => k.sio
noncomputable def methAt (i j:Nat) : Stmt := match stmtAt i with
 | .ClassDef _ _ _ body _ _ _ _ _ _ _ => (body[j]?).getD (.Pass default)
 | _ => .Pass default
noncomputable def fdM (i j:Nat)(q:Str)(c pm dfl:Value) : FuncData := match methAt i j with
 | .FunctionDef name args body _ _ _ scope _ _ _ => { name, qualname := q, params := args, body := .stmts body, scope, globals := mainGlobals, closure := [], defaults := dfl, kwdefaults := .none, doc := .none, pyModule := pm, code := c, builtins := builtinsNs }
 | _ => default
noncomputable def Qmk (i j:Nat) : List Stmt := match methAt i j with
 | .FunctionDef name args body _ _ _ scope _ _ _ => body
 | _ => []
noncomputable def MethAt (h:Heap)(a i j:Nat)(q:Str)(dfl:Value) : Prop := ∃ pm, FnAt h a (fdM i j q (.ref (a - 1)) pm dfl)
noncomputable def QBa : List (Nat × Nat × Nat × Str × Value) := [(811, 51, 1, "shlex.punctuation_chars", .none), (841, 51, 5, "shlex.get_token", .none), (848, 51, 6, "shlex.read_token", .none), (870, 51, 9, "shlex.__iter__", .none), (877, 51, 10, "shlex.__next__", .none), (804, 51, 0, "shlex.__init__", .ref 797),
 (238, 35, 1, "IOBase.__new__", .none), (515, 39, 1, "StringIO.__init__", .ref 508), (522, 39, 2, "StringIO.__translated", .none), (529, 39, 3, "StringIO.__check", .none), (691, 39, 25, "StringIO.read", .ref 684)]
noncomputable def dflTab : List (Nat × List PyData) := [(684, [.int (-1)]), (797, [.none, .none, .bool false, .bool false]), (508, [.str (Str.ofString ""), .str (Str.ofString "\n")]), (885, [.bool false, .bool true])]
structure Tzp (h : Heap) : Prop where
 p : Tpp h
 stopTn : Tn [("BytesIO", .ref 498)] [("StopIteration", .type "StopIteration")] h
 dfl : ∀ a ds, (a, ds) ∈ dflTab → ∃ vs, h.IsTuple a vs ∧ RdAll (fun ζ => False) h ds vs.toList
 rx : RxAt h
 cm : CmAt h
 k : ∃ K : PySem.W.Frag, K.In h ∧ ShK K
 meth : ∀ a i j q d, (a, i, j, q, d) ∈ QBa → MethAt h a i j q d
 split : ∃ pm, FnAt h 892 (Qdz 52 (.ref 891) pm (.ref 885))
theorem Tzp.kp {h h':Heap}(k:Kp h h')(t:Tzp h) : Tzp h' :=
 ⟨t.p.kp k, t.stopTn.kp (fun o e => k _ o e) (fun o e => k _ o e), fun a ds hm => eEA (t.dfl a ds hm) fun vs q r => ⟨vs, q.at fun o e => k _ o e, r.kp (Kp.kpx k)⟩, t.rx.kp k, t.cm.kp k, eEA (t.k) fun K a b => ⟨K, a.keeps k, b⟩, fun a i j q d hm => eE (t.meth a i j q d hm) fun pm f => ⟨pm, f.kp k⟩, eE (t.split) fun pm f => ⟨pm, f.kp k⟩⟩
noncomputable def Tz : Hp where
 p := Tzp
 X := fun ζ => False
 mono h h' k t := t.kp fun b o e => k.kp b o (fun q => q) e
 live h _ b hb := hb.elim
theorem Tz.le : Hp.le Tz Tp := ⟨fun ζ h => h.p, fun ζ h => h⟩
theorem Tz.leR : Hp.le Tz Tr := ⟨fun ζ h => ⟨h.p, h.rx⟩, fun ζ h => h⟩
theorem Tz.leC : Hp.le Tz Tcm := ⟨fun ζ h => ⟨h.p, h.cm⟩, fun ζ h => h⟩
section
variable {prog : Program} {w : World} {T : Hp} {A : Around} {env : Env} {G : Gam}
theorem attr_go {i:Ins}{a:Dv}{o:Expr}{name:Str}{pos:Pos}{E:Value → Shared → Prop}{Q:Value → Shared → Prop}{s:Shared}(ho:wpAny (model prog w) A (eval o env) (fun ov s₁ => wpAny (model prog w) A (getAttr ov name true) Q E s₁) E s)
  (hbase : attributeBase o name env (eval o env) = eval o env) (hlet : ∀ ov r, letTemporaryGo o ov r = pure ()) : wpAny (model prog w) A (eval (.Attribute o name pos) env) Q E s := by
 rw [arm_eval_Attribute, hbase]
 refine wpAny_bind (wpAny_mono ho (fun ov s₁ h => ?_) fun ζ ζ x => x)
 refine wpAny_bind (wpAny_standAt (wpAny_bind (wpAny_holding (wpAny_mono h (fun r s₂ h₂ => ?_) fun ζ ζ x => x))))
 rw [hlet]
 exact wpAny_bind (wpAny_pure (wpAny_pure h₂))
theorem EvA.attr {o:Expr}{name:Str}{pos:Pos}(i:Ins)(a:Dv)(hT:T.le Tz)(hi:∀ h, T.p h → InsAt h i)(ho:EvA prog w T A env G o (.v (.ref i.x)))(hg:autoParam (i.G.lookup name = some a) sK)
  (hC : autoParam (i.C = 880 ∨ i.C = 745) sO) (hn : autoParam (name ∈ Qdj i.C) sD) (hok : autoParam (okDv a = true) sR)
  (hbase : autoParam (attributeBase o name env (eval o env) = eval o env) sK) (hlet : autoParam (∀ ov r, letTemporaryGo o ov r = pure ()) sR) : EvA prog w T A env G (.Attribute o name pos) a := ⟨fun E s hp hv => by
 refine attr_go (i := i) (a := a) (wpAny_mono (ho.of E s hp hv) (fun ov s₁ k => ?_) fun ζ ζ x => x) hbase hlet
 obtain ⟨rfl, k⟩ := k
 have hp₁ := T.kt hp k
 refine eEA ((hT.p _ hp₁).k) fun K hK sk => ?_
 exact get_ins hK (sk.cls _ hC) (hi _ hp₁) hn hg hok fun v hs => ⟨hs _ _, k.trans (.tok _ _)⟩⟩
end
noncomputable def Hp.ins (T:Hp)(I:List Ins) : Hp where
 p h := T.p h ∧ ∀ i ∈ I, InsAt h i
 X b := T.X b ∧ ∀ i ∈ I, b ≠ i.D ∧ b ≠ i.x
 mono h h' k x := ⟨T.mono h h' (k.wider fun b hb => hb.1) x.1, fun i hi => (x.2 i hi).at (fun o e => k.kp _ o (fun q => (q.2 i hi).2 rfl) e) fun o e => k.kp _ o (fun q => (q.2 i hi).1 rfl) e⟩
 live h x b hb := T.live h x.1 b hb.1
theorem Hp.ins_le {T T₀:Hp}{I:List Ins}(hT:T.le T₀)(h0:∀ b, T₀.X b → False) : (T.ins I).le T₀ := ⟨fun h q => hT.p h q.1, fun b q => (h0 b q).elim⟩
theorem Hp.ins_z {T:Hp}{I:List Ins}(hT:T.le Tz) : (T.ins I).le Tz := Hp.ins_le hT fun ζ q => q
structure EvI (prog : Program) (w : World) (T : Hp) (A : Around) (env : Env) (G : Gam) (I : List Ins) (e : Expr) (a : Dv) : Prop where
 of : ∀ E s, T.p s.heap → Vw T.X env G s.heap → (∀ i ∈ I, InsAt s.heap i) → wpAny (model prog w) A (eval e env) (fun v s' => a.p T.X s'.heap v ∧ Kt s s') E s
structure TeI (prog : Program) (w : World) (T : Hp) (A : Around) (env : Env) (G : Gam) (I : List Ins) (e : Expr) (b : Bool) : Prop where
 of : ∀ E s, T.p s.heap → Vw T.X env G s.heap → (∀ i ∈ I, InsAt s.heap i) → wpAny (model prog w) A (isTrue e env (eval e env)) (fun r s' => r = b ∧ Kt s s') E s
section
variable {prog : Program} {w : World} {T : Hp} {A : Around} {env : Env} {G : Gam} {I : List Ins}
theorem EvA.i {e:Expr}{a:Dv}(h:EvA prog w (T.ins I) A env G e a)(ha:autoParam (okDv a = true) sR) : EvI prog w T A env G I e a :=
 ⟨fun E s hp hv hi => wpAny_mono (h.of E s ⟨hp, hi⟩ (hv.less fun b hb => hb.1)) (fun v s' k => ⟨okDv.sv ha k.1 _ _, k.2⟩) fun ζ ζ x => x⟩
theorem TeA.i {e:Expr}{b:Bool}(h:TeA prog w (T.ins I) A env G e b) : TeI prog w T A env G I e b :=
 ⟨fun E s hp hv hi => h.of E s ⟨hp, hi⟩ (hv.less fun b hb => hb.1)⟩
end
structure FI (W : Addr → Prop) (T : Hp) (s₀ : Shared) (env : Env) (G : Gam) (I : List Ins) (s : Shared) : Prop where
 f : Fx W T s₀ env G none s
 i : ∀ i ∈ I, InsAt s.heap i
 w : ∀ i ∈ I, T.X i.D ∧ (¬ Qaa s₀.heap i.D ∨ W i.D) ∧ i.D ≠ env.locals ∧ ∀ n, env.cells.lookup n ≠ some i.D
 x : ∀ i ∈ I, ¬ T.X i.x
 ap : I.Pairwise fun i j => i.D ≠ j.D
theorem Fx.mine_X {W:Addr → Prop}{T:Hp}{s₀ s:Shared}{env:Env}{G:Gam}{O:Own}(F:Fx W T s₀ env G O s){b:Addr}(h:Fx.mine env O b) : T.X b := F.may_X b (.inr h)
section
variable {W : Addr → Prop} {T : Hp} {s₀ s s' : Shared} {env : Env} {G : Gam} {I : List Ins} {i : Ins}
theorem FI.kept (F:FI W T s₀ env G I s)(k:Kt s s') : FI W T s₀ env G I s' := ⟨F.f.kept k, fun i hi => (F.i i hi).kp k.kp, F.w, F.x, F.ap⟩
theorem FI.call {I':List Ins}{Z:Addr → Prop}(F:FI W T s₀ env G I s)(k:KtX Z s s')(hZ:∀ b, Z b → ∃ i ∈ I, b = i.D)(hI:∀ i ∈ I', InsAt s'.heap i)(hs:I'.map (fun i => (i.x, i.D)) = I.map fun i => (i.x, i.D)) : FI W T s₀ env G I' s' := by
 have hm : ∀ i ∈ I', ∃ j ∈ I, i.x = j.x ∧ i.D = j.D := fun i hi => by
  have : (i.x, i.D) ∈ I.map fun i => (i.x, i.D) := hs ▸ List.mem_map.mpr ⟨i, hi, rfl⟩
  refine eEA (List.mem_map.mp this) fun j hj e => ?_
  exact ⟨j, hj, (congrArg Prod.fst e).symm, (congrArg Prod.snd e).symm⟩
 refine Qfw (k.of) fun h' tk ρ0 k' => ?_
 subst ρ0
 refine ⟨F.f.but k' fun b hb => ?_, hI, fun i hi => ?_, fun i hi => ?_, ?_⟩
 ·refine eEA (hZ b hb) fun i hi ρ1 => ?_
  subst ρ1
  refine Qwb (F.w i hi) fun a1 a2 a3 a4 => ?_
  exact ⟨a1, a2, a3, a4, fun ds e => nomatch e⟩
 ·refine Qpj (hm i hi) fun j hj e1 e2 => ?_
  rw [e2]; exact F.w j hj
 ·refine Qpj (hm i hi) fun j hj e1 e2 => ?_
  rw [e1]; exact F.x j hj
 ·have e : I'.map (·.D) = I.map (·.D) := by
   have := congrArg (List.map Prod.snd) hs
   simpa [List.map_map, Function.comp_def] using this
  have h1 : (I.map (·.D)).Pairwise fun a b => a ≠ b := List.pairwise_map.mpr F.ap
  rw [← e] at h1
  exact List.pairwise_map.mp h1
end
section
variable {prog : Program} {w : World} {W : Addr → Prop} {T : Hp} {A : Around} {env : Env} {E : Value → Shared → Prop} {s₀ s : Shared} {G : Gam} {I : List Ins} {R : Flow → Shared → Prop} {rest : List Stmt}
theorem FI.store {x:Str}{v:Value}{Q:Unit → Shared → Prop}(a:Dv)(F:FI W T s₀ env G I s)(hk:env.scope.kind = .function)(hx:env.kindOf x = some .local ∨ (env.kindOf x = some .cell ∧ (env.cells.lookup x).isSome = true))(hv:a.p T.X s.heap v)
  (h : ∀ s', FI W T s₀ env ((x, a) :: G) I s' → Q () s') : wpAny (model prog w) A (storeName env x v) Q E s := by
 refine F.f.rebase0.store a hk hx hv fun s' F' => ?_
 have hm : ∀ b, Fx.mine env none b → T.X b := fun b hb => F.f.mine_X hb
 refine h s' ⟨F.f.unbase0 F' F.f.wX (fun L ds e => nomatch e), fun i hi => (F.i i hi).at (fun o e => F'.kt.kp.kp _ o (fun q => F.x i hi (hm _ q)) e) fun o e => F'.kt.kp.kp _ o (fun q => ?_) e, F.w, F.x, F.ap⟩
 refine Qwb (F.w i hi) fun ζ ζ a3 a4 => ?_
 rcases q with q | ⟨n, q⟩ | ⟨ds, q⟩
 ·exact a3 q
 ·exact a4 n q
 ·cases q
theorem i_assign {x:Str}{e:Expr}{pos pos':Pos}(a:Dv)(F:FI W T s₀ env G I s)(he:EvI prog w T A env G I e a)
  (h : ∀ s', FI W T s₀ env ((x, a) :: G) I s' → Go prog w A env rest R s') (hk : autoParam (env.scope.kind = .function) sK)
  (hx : autoParam (env.kindOf x = some .local ∨ (env.kindOf x = some .cell ∧ (env.cells.lookup x).isSome = true)) sO)
  (hs : autoParam (swapsWith e (some (.Name x pos')) pos.line env = pure false) sK) : Go prog w A env (.Assign [.Name x pos'] e pos :: rest) R s :=
 ⟨wpAny_execs_cons (wpAny_Assign_Name (wpAny_mono (he.of _ s F.f.t F.f.vw F.i) (fun v s' k => (F.kept k.2).store a hk hx k.1 fun s'' F' => (h s'' F').of) fun ζ ζ x => x) hs)⟩
theorem Qvw {x:Str}{e:Expr}{pos pos':Pos}(a:Dv){I':List Ins}(he:∀ E, wpAny (model prog w) A (eval e env) (fun v s' => a.p T.X s'.heap v ∧ FI W T s₀ env G I' s') E s)
  (h : ∀ s', FI W T s₀ env ((x, a) :: G) I' s' → Go prog w A env rest R s') (hk : autoParam (env.scope.kind = .function) sK)
  (hx : autoParam (env.kindOf x = some .local ∨ (env.kindOf x = some .cell ∧ (env.cells.lookup x).isSome = true)) sO)
  (hs : autoParam (swapsWith e (some (.Name x pos')) pos.line env = pure false) sK) : Go prog w A env (.Assign [.Name x pos'] e pos :: rest) R s :=
 ⟨wpAny_execs_cons (wpAny_Assign_Name (wpAny_mono (he _) (fun v s' k => k.2.store a hk hx k.1 fun s'' F' => (h s'' F').of) fun ζ ζ x => x) hs)⟩
theorem i_if {test:Expr}{body orelse:List Stmt}{pos:Pos}(b:Bool)(F:FI W T s₀ env G I s)(ht:TeI prog w T A env G I test b)
  (h1 : b = true → ∀ s', FI W T s₀ env G I s' → Go prog w A env body (Rn prog w A env rest R) s')
  (h2 : b = false → ∀ s', FI W T s₀ env G I s' → Go prog w A env orelse (Rn prog w A env rest R) s') : Go prog w A env (.If test body orelse pos :: rest) R s := by
 refine ⟨wpAny_execs_cons (wpAny_If (wpAny_mono (ht.of _ s F.f.t F.f.vw F.i) (fun r s' k => ?_) fun ζ ζ x => x))⟩
 obtain ⟨rfl, k⟩ := k
 cases r with
 | true =>
  refine wpAny_mono (h1 rfl s' (F.kept k)).of (fun f s'' q => ?_) fun ζ ζ x => x.elim
  cases f <;> first | exact q.of | exact q
 | false =>
  refine wpAny_mono (h2 rfl s' (F.kept k)).of (fun f s'' q => ?_) fun ζ ζ x => x.elim
  cases f <;> first | exact q.of | exact q
theorem i_ifT {test:Expr}{body orelse:List Stmt}{pos:Pos}(F:FI W T s₀ env G I s)(ht:TeI prog w T A env G I test true)
  (h1 : ∀ s', FI W T s₀ env G I s' → Go prog w A env body (Rn prog w A env rest R) s') : Go prog w A env (.If test body orelse pos :: rest) R s :=
 i_if true F ht (fun ζ => h1) fun q => by cases q
theorem Qsa {test:Expr}{body orelse:List Stmt}{pos:Pos}(F:FI W T s₀ env G I s)(ht:TeI prog w T A env G I test false)
  (h2 : ∀ s', FI W T s₀ env G I s' → Go prog w A env orelse (Rn prog w A env rest R) s') : Go prog w A env (.If test body orelse pos :: rest) R s :=
 i_if false F ht (fun q => by cases q) fun ζ => h2
theorem Qhy {e:Expr}{pos:Pos}(a:Dv)(F:FI W T s₀ env G I s)(he:EvI prog w T A env G I e a)(h:∀ v s', a.p T.X s'.heap v → FI W T s₀ env G I s' → R (.ret v) s') :
  Go prog w A env (.Return (some e) pos :: rest) R s :=
 ⟨wpAny_execs_cons (wpAny_Return_some (wpAny_mono (he.of _ s F.f.t F.f.vw F.i) (fun v s' k => h v s' k.1 (F.kept k.2)) fun ζ ζ x => x))⟩
noncomputable def INx (W:Addr → Prop)(T:Hp)(s₀:Shared)(env:Env)(J:Nat → Gam → List Ins → Prop)(k:Nat)(s:Shared) : Prop := ∃ m G'' I'', m < k ∧ J m G'' I'' ∧ FI W T s₀ env G'' I'' s
theorem QCv {test:Expr}{body:List Stmt}{pos:Pos}(J:Nat → Gam → List Ins → Prop)(n:Nat)(F:FI W T s₀ env G I s)(h0:J n G I)
  (hstep : ∀ k G' I' s', J k G' I' → FI W T s₀ env G' I' s' → ∃ b, TeI prog w T A env G' I' test b ∧
   (b = true → ∀ s'', FI W T s₀ env G' I' s'' → Go prog w A env body (Rf (INx W T s₀ env J k) (Go prog w A env rest R) R) s'') ∧
   (b = false → ∀ s'', FI W T s₀ env G' I' s'' → Go prog w A env rest R s'')) : Go prog w A env (.While test body [] pos :: rest) R s := by
 refine ⟨wpAny_execs_cons (wpAny_While ?_)⟩
 refine codeAny_whileLoop (fun k s' => ∃ G' I', J k G' I' ∧ FI W T s₀ env G' I' s') ?_ n ⟨G, I, h0, F⟩
 intro k s' κ0
 refine Qfw (κ0) fun G' I' hj F' => ?_
 refine Qpj (hstep k G' I' s' hj F') fun b ht h1 h2 => ?_
 refine wpAny_mono (ht.of _ s' F'.f.t F'.f.vw F'.i) (fun r s2 q => ?_) fun ζ ζ x => x
 refine eA (q) fun ρ2 k2 => ?_
 subst ρ2
 have F2 := F'.kept k2
 cases r with
 | true =>
  rw [if_pos rfl]
  refine wpAny_mono (h1 rfl s2 F2).of (fun f s3 q => ?_) fun ζ ζ x => x.elim
  cases f with
  | next => obtain ⟨m, G'', I'', hm, hj', F3⟩ := q; exact ⟨m, hm, G'', I'', hj', F3⟩
  | cont => obtain ⟨m, G'', I'', hm, hj', F3⟩ := q; exact ⟨m, hm, G'', I'', hj', F3⟩
  | brk => exact q.of
  | ret v => exact q
 | false =>
  rw [if_neg (by decide)]
  rw [show execs [] env = pure .next from rfl]
  exact wpAny_pure (h2 rfl s2 F2).of
theorem FI.set {i:Ins}{post:List Ins}{a:Dv}{v:Value}{name:Str}{Q:Unit → Shared → Prop}(hT:T.le Tz)(F:FI W T s₀ env G (i :: post) s)(hC:i.C = 880 ∨ i.C = 745)(hns:i.ns = Qdj i.C)(hn:name ∈ Qdj i.C)(ha:Sv a v)
  (h : ∀ s', FI W T s₀ env G ({ i with G := (name, a) :: i.G } :: post) s' → Q () s') : wpAny (model prog w) A (setAttr (.ref i.x) name v) Q E s := by
 refine eEA ((hT.p _ F.f.t).k) fun K hK sk => ?_
 have hI := F.i i (.head _)
 have hxD : i.x ≠ i.D := fun q => F.x i (.head _) (q ▸ (F.w i (.head _)).1)
 refine set_ins hK (sk.cls _ hC) hI hn (hns ▸ hn) (by rw [hns]; rcases hC with q | q <;> rw [q] <;> decide) hxD ha fun h' tk' hI' hs => h _ ?_
 have kx : KpX (fun b => b = i.D) s.heap h' := ⟨fun b o hb e => (hs.2 b hb).trans e, fun b l => by
  by_cases q : b = i.D
  ·exact q ▸ hI'.dlive
  ·obtain ⟨o, e⟩ := l; exact ⟨o, (hs.2 b q).trans e⟩⟩
 refine F.call (Z := fun b => b = i.D) ⟨h', tk', rfl, kx⟩ (fun b hb => ⟨i, .head _, hb⟩) (fun j hj => ?_) rfl
 rcases List.mem_cons.mp hj with rfl | hj
 ·exact hI'
 ·have hd : j.D ≠ i.D := Ne.symm ((List.pairwise_cons.mp F.ap).1 j hj)
  have hx : j.x ≠ i.D := fun q => F.x j (.tail _ hj) (q ▸ (F.w i (.head _)).1)
  exact (F.i j (.tail _ hj)).at (fun o e => (hs.2 _ hx).trans e) fun o e => (hs.2 _ hd).trans e
theorem i_set {i:Ins}{post:List Ins}{o e:Expr}{name:Str}{pos pos':Pos}(a:Dv)(hT:T.le Tz)(F:FI W T s₀ env G (i :: post) s)(he:EvI prog w T A env G (i :: post) e a)(ho:EvI prog w T A env G (i :: post) o (.v (.ref i.x)))
  (h : ∀ s', FI W T s₀ env G ({ i with G := (name, a) :: i.G } :: post) s' → Go prog w A env rest R s') (ha : autoParam (okDv a = true) sR)
  (hC : autoParam (i.C = 880 ∨ i.C = 745) sO) (hns : autoParam (i.ns = Qdj i.C) sR) (hn : autoParam (name ∈ Qdj i.C) sD)
  (hs : autoParam (swapsWith e (some (.Attribute o name pos')) pos.line env = pure false) sK) : Go prog w A env (.Assign [.Attribute o name pos'] e pos :: rest) R s := by
 refine ⟨wpAny_execs_cons (plainObj_wpAny_Assign_Attribute (wpAny_mono (he.of _ s F.f.t F.f.vw F.i) (fun v s' k => ?_) fun ζ ζ x => x) hs)⟩
 have F1 := F.kept k.2
 refine wpAny_mono (ho.of _ s' F1.f.t F1.f.vw F1.i) (fun ov s2 k2 => ?_) fun ζ ζ x => x
 obtain ⟨rfl, k2⟩ := k2
 exact (F1.kept k2).set hT hC hns hn (okDv.sv ha k.1) fun s3 F3 => (h s3 F3).of
theorem i_augset {i:Ins}{post:List Ins}{o e:Expr}{name:Str}{pos pos':Pos}{op:Operator}(a b c:Dv)(hT:T.le Tz)(F:FI W T s₀ env G (i :: post) s)(ho:EvI prog w T A env G (i :: post) o (.v (.ref i.x)))(hg:i.G.lookup name = some a)(hea:okDv a = true)(he:EvI prog w T A env G (i :: post) e b)
  (hop : Op2 prog w T A (inplaceOp op) a b c)
  (h : ∀ s', FI W T s₀ env G ({ i with G := (name, c) :: i.G } :: post) s' → Go prog w A env rest R s') (ha : autoParam (okDv c = true) sR)
  (hC : autoParam (i.C = 880 ∨ i.C = 745) sO) (hns : autoParam (i.ns = Qdj i.C) sR) (hn : autoParam (name ∈ Qdj i.C) sD) : Go prog w A env (.AugAssign (.Attribute o name pos') op e pos :: rest) R s := by
 refine ⟨wpAny_execs_cons (wpAny_AugAssign_AttributeAny (wpAny_mono (ho.of _ s F.f.t F.f.vw F.i) (fun ov s1 k1 => ?_) fun ζ ζ x => x))⟩
 obtain ⟨rfl, k1⟩ := k1
 have F1 := F.kept k1
 refine eEA ((hT.p _ F1.f.t).k) fun K hK sk => ?_
 refine get_ins hK (sk.cls _ hC) (F1.i i (.head _)) hn hg hea fun v hs => ?_
 have F2 := F1.kept (.tok _ (s1.toks + 1))
 refine wpAny_mono (he.of _ _ F2.f.t F2.f.vw F2.i) (fun u s3 k3 => ?_) fun ζ ζ x => x
 have F3 := F2.kept k3.2
 refine wpAny_mono (hop.of _ s3 v u F3.f.t (hs _ _) k3.1) (fun r s4 k4 => ?_) fun ζ ζ x => x
 exact (F3.kept k4.2).set hT hC hns hn (okDv.sv ha k4.1) fun s5 F5 => (h s5 F5).of
end
theorem Fx.widen {W W':Addr → Prop}{T:Hp}{s₀ s:Shared}{env:Env}{G:Gam}{O:Own}(F:Fx W T s₀ env G O s)(h:∀ b, W b → W' b)(hX:∀ b, W' b → T.X b) : Fx W' T s₀ env G O s where
 t := F.t
 kt := F.kt.wider h
 wX := hX
 lo := F.lo.imp_left (h _)
 loX := F.loX
 cells := fun n c hc => ⟨(F.cells n c hc).1, (F.cells n c hc).2.1.imp_left (h _), (F.cells n c hc).2.2⟩
 apart := F.apart
 ns := F.ns
 cell := F.cell
 all := F.all
 own := fun L ds e => ⟨(F.own L ds e).1, (F.own L ds e).2.1.imp_left (h _), (F.own L ds e).2.2⟩
noncomputable abbrev Ds (I:List Ins) : Addr → Prop := fun b => ∃ i ∈ I, b = i.D
structure Own3 (T : Hp) (I : List Ins) (h : Heap) : Prop where
 i : ∀ i ∈ I, InsAt h i
 w : ∀ i ∈ I, T.X i.D
 x : ∀ i ∈ I, ¬ T.X i.x
 ap : I.Pairwise fun i j => i.D ≠ j.D
section
variable {prog : Program} {w : World} {T : Hp} {A : Around} {s : Shared} {I : List Ins}
theorem Qha {a:Addr}{fd:FuncData}{body:List Stmt}{args:Args}{names:List Str}{as:List Dv}{n:Nat}{R:Result → Shared → Prop}(hf:FnAt s.heap a fd)(hA:OkA A (n + 1))(hlim:s.heap.NoLimit)(ht:T.p s.heap)(hI:Own3 T I s.heap)
  (hbody : fd.body = .stmts body)
  (hbind : ∀ (E : Value → Shared → Prop) (Q : List (Str × Value) → Shared → Prop), (∀ vals s', Kt s s' → DvAll T.X s'.heap as vals → Q (names.zip vals) s') → wpAny (model prog w) A.in1 (bindArgs fd args) Q E s)
  (hnd : names.Nodup) (hclo : fd.closure = []) (hlen : names.length = as.length)
  (hkind : ∀ x ∈ names, fd.scope.names.lookup x = some .local ∨ fd.scope.names.lookup x = some .cell)
  (hco : fd.scope.isCoroutine = false) (hgen : fd.scope.isGenerator = false) (hk : fd.scope.kind = .function)
  (h : ∀ sb s₁, Kt s sb → FI (Ds I) (T.push (Qba (callEnvC fd sb.heap.objs.size a))) sb (callEnvC fd sb.heap.objs.size a) (names.zip as) I s₁ → OkA (A.deeper (callEnvC fd sb.heap.objs.size a)) n →
   wpAny (model prog w) (A.deeper (callEnvC fd sb.heap.objs.size a)) (execs body (callEnvC fd sb.heap.objs.size a)) (fun f s' => R (.ok (.ret (match f with | .ret v => v | _ => .none))) s')
    (fun e s' => wpAny (model prog w) (A.deeper (callEnvC fd sb.heap.objs.size a)) (leaving (callEnvC fd sb.heap.objs.size a) e) (fun ζ s'' => R (.error e) s'') (fun e' s'' => R (.error e') s'') s') s₁) :
  codeAny (model prog w) A (.call (.ref a) args) R s := by
 refine Qpj (hf) fun o ho hdata hcd => ?_
 refine codeAny_call_function hA.dline ho hdata hco hgen hbody hcd (hbind _ _ fun vals sb kb ha => ?_)
 rw [hclo]
 have hcells : ∀ x, fd.scope.names.lookup x = some .cell → ((cellsFrom (sb.heap.objs.size + 1) fd.scope.names []).lookup x).isSome = true := fun x hx => PySem.W.cellsFrom_some _ _ _ (.inl hx)
 refine wpAny_newFunctionEnv_cells hk (fun x hx => ?_) fun env he s₁ J => ?_
 ·have hm : x.1 ∈ names := (List.of_mem_zip (a := x.1) (b := x.2) hx).1
  rcases hkind _ hm with q | q
  ·exact .inl q
  ·exact .inr ⟨q, hcells _ q⟩
 ·have he' : env = callEnvC fd sb.heap.objs.size a := he
  subst he'
  have hlo : sb.heap.objs.size ≤ (callEnvC fd sb.heap.objs.size a).locals := J.toInCall.fresh
  have habove : ∀ n c, (callEnvC fd sb.heap.objs.size a).cells.lookup n = some c → (callEnvC fd sb.heap.objs.size a).locals < c := fun n c hc => J.above n c (mem_of_lookup hc)
  have hYn : ∀ b, Qba (callEnvC fd sb.heap.objs.size a) b → ¬ Qaa sb.heap b := fun b hb => by
   rcases hb with rfl | ⟨n, hc⟩
   ·exact Qax hlo
   ·exact Qax (Nat.le_of_lt (Nat.lt_of_le_of_lt hlo (habove n b hc)))
  have kp : Kp sb.heap s₁.heap := J.toInCall.keep
  have F : Fx noW (T.push (Qba (callEnvC fd sb.heap.objs.size a))) sb (callEnvC fd sb.heap.objs.size a) (names.zip as) none s₁ := by
   refine ⟨Hp.push_p (T.kt ht kb) hYn kp.kpx fun b hb => ?_, ?_, fun b hb => hb.elim, .inr (Qax hlo), .inr (.inl rfl), fun n c hc => ⟨.inr (.inr ⟨n, hc⟩), .inr (hYn c (.inr ⟨n, hc⟩)), Nat.ne_of_gt (habove n c hc)⟩, J.apart, ⟨_, J.toInCall.ns, fun x b e hl => ?_⟩, fun x c hc => ⟨_, J.cell x c hc, fun b e hl => ?_⟩, fun x b e => ?_, fun L ds e => nomatch e⟩
   ·rcases hb with rfl | ⟨n, hc⟩
    ·exact Ns.live J.toInCall.ns
    ·exact Cell.live (J.cell n b hc)
   ·refine Qfw (J.done) fun h' tk e k => ?_
    subst e
    exact ⟨h', tk, rfl, Kp.kpx k⟩
   ·obtain ⟨v, hv, hp⟩ := (Qex (kindOf := (callEnvC fd sb.heap.objs.size a).kindOf) names vals as _ (fun ζ => none) hnd ha x b e).1 hl
    exact ⟨v, hv, hp.to kp.kpx fun b hb => hb.imp_right (hYn b)⟩
   ·obtain ⟨v, hv, hp⟩ := (Qex (kindOf := (callEnvC fd sb.heap.objs.size a).kindOf) names vals as (fun ζ => none) _ hnd ha x b e).2 (by rw [hl]; decide)
    exact ⟨v, hv, hp.to kp.kpx fun b hb => hb.imp_right (hYn b)⟩
   ·have hm : x ∈ names := (List.of_mem_zip (a := x) (b := b) (mem_of_lookup e)).1
    rcases hkind _ hm with q | q
    ·exact .inl q
    ·exact .inr ⟨q, hcells _ q⟩
  have hIb : ∀ i ∈ I, InsAt sb.heap i := fun i hi => (hI.i i hi).kp kb.kp
  have FF : FI (Ds I) (T.push (Qba (callEnvC fd sb.heap.objs.size a))) sb (callEnvC fd sb.heap.objs.size a) (names.zip as) I s₁ :=
   ⟨F.widen (fun b q => q.elim) fun b ⟨i, hi, q⟩ => .inl (q ▸ hI.w i hi), fun i hi => (hIb i hi).kp kp, fun i hi => ⟨.inl (hI.w i hi), .inr ⟨i, hi, rfl⟩, fun q => hYn _ (.inl q) (hIb i hi).dlive, fun n q => hYn _ (.inr ⟨n, q⟩) (hIb i hi).dlive⟩,
    fun i hi q => q.elim (hI.x i hi) fun q => hYn _ q ⟨_, (hIb i hi).obj⟩, hI.ap⟩
  exact ⟨hlim.keeps (kb.kp.trans kp), codeAny_func (h sb s₁ kb FF hA.deeper)⟩
structure MtT (T₀ : Hp) (prog : Program) (w : World) (n : Nat) (f : Addr) (as : List Dv) (r : Dv) (I I' : List Ins) : Prop where
 keep : ∀ h, Tzp h → ∃ fd, FnAt h f fd
 of : ∀ T A s vs R, T.le T₀ → OkA A n → T.p s.heap → Own3 T I s.heap → DvAll T.X s.heap as vs → (∀ v s', r.p T.X s'.heap v → KtX (Ds I) s s' → (∀ i ∈ I', InsAt s'.heap i) → R (.ok (.ret v)) s') → codeAny (model prog w) A (.call (.ref f) ⟨vs, []⟩) R s
noncomputable abbrev MtI := MtT Tz
theorem QBv {T₀:Hp}(hT₀:T₀.le Tz){a i j n:Nat}{q:Str}{dfl:Value}{names:List Str}{as:List Dv}{r:Dv}{I I':List Ins}(hm:(a, i, j, q, dfl) ∈ QBa)
  (h : ∀ T T' A L pm s₀ s₁ (R : Flow → Shared → Prop), T.le T₀ → T'.le T → OkA A n → FI (Ds I) T' s₀ (callEnvC (fdM i j q (.ref (a - 1)) pm dfl) L a) (names.zip as) I s₁ →
   (∀ v s', r.p T'.X s'.heap v → KtX (Ds I) s₀ s' → (∀ i ∈ I', InsAt s'.heap i) → R (.ret v) s') → Go prog w A (callEnvC (fdM i j q (.ref (a - 1)) pm dfl) L a) (Qmk i j) (fun f s' => R (.ret (match f with | .ret v => v | _ => .none)) s') s₁)
  (hbody : ∀ c pm, (fdM i j q c pm dfl).body = .stmts (Qmk i j)) (hbind : ∀ c pm vals (A : Around) (E : Value → Shared → Prop) (Q : List (Str × Value) → Shared → Prop) (s : Shared), Tzp s.heap → vals.length = names.length → Q (names.zip vals) s → wpAny (model prog w) A (bindArgs (fdM i j q c pm dfl) ⟨vals, []⟩) Q E s) (hnd : names.Nodup)
  (hclo : ∀ c pm, (fdM i j q c pm dfl).closure = []) (hlen : names.length = as.length)
  (hkind : ∀ c pm, ∀ x ∈ names, (fdM i j q c pm dfl).scope.names.lookup x = some .local ∨ (fdM i j q c pm dfl).scope.names.lookup x = some .cell)
  (hco : ∀ c pm, (fdM i j q c pm dfl).scope.isCoroutine = false) (hgen : ∀ c pm, (fdM i j q c pm dfl).scope.isGenerator = false) (hk : ∀ c pm, (fdM i j q c pm dfl).scope.kind = .function) :
  MtT T₀ prog w (n + 1) a as r I I' := ⟨fun h tz => eE (tz.meth a i j q dfl hm) fun pm f => ⟨_, f⟩, fun T A s vs R hT ok hp hI hv hR => by
 have tz := (hT.trans hT₀).p _ hp
 obtain ⟨pm, hf⟩ := tz.meth a i j q dfl hm
 have hvl : vs.length = names.length := by rw [hlen]; exact DvAll.length hv
 refine Qha (T := T) (I := I) (body := Qmk i j) (names := names) (as := as) hf ok tz.p.lim hp hI (hbody _ _) (fun E Q hq => ?_) hnd (hclo _ _) hlen (hkind _ _) (hco _ _) (hgen _ _) (hk _ _) (fun sb s₁ kb F ok' => ?_)
 ·exact hbind _ _ vs _ _ _ _ tz hvl (hq vs s (.refl s) hv)
 ·exact wpAny_mono (h T _ _ _ pm sb s₁ (fun f s' => R (.ok f) s') hT (Hp.push_le _ _) ok' F fun v s' q k hi => hR v s' (q.less fun b hb => .inl hb) ((kb.x (W := Ds I)).trans k) hi).of (fun f s' q => q) fun ζ ζ x => x.elim⟩
theorem Qyw {a i j n:Nat}{q:Str}{dfl:Value}{names:List Str}{as:List Dv}{r:Dv}{I I':List Ins}(hm:(a, i, j, q, dfl) ∈ QBa)
  (h : ∀ T T' A L pm s₀ s₁ (R : Flow → Shared → Prop), T.le Tz → T'.le T → OkA A n → FI (Ds I) T' s₀ (callEnvC (fdM i j q (.ref (a - 1)) pm dfl) L a) (names.zip as) I s₁ →
   (∀ v s', r.p T'.X s'.heap v → KtX (Ds I) s₀ s' → (∀ i ∈ I', InsAt s'.heap i) → R (.ret v) s') → Go prog w A (callEnvC (fdM i j q (.ref (a - 1)) pm dfl) L a) (Qmk i j) (fun f s' => R (.ret (match f with | .ret v => v | _ => .none)) s') s₁)
  (hbody : ∀ c pm, (fdM i j q c pm dfl).body = .stmts (Qmk i j)) (hbind : ∀ c pm vals (A : Around) (E : Value → Shared → Prop) (Q : List (Str × Value) → Shared → Prop) (s : Shared), Tzp s.heap → vals.length = names.length → Q (names.zip vals) s → wpAny (model prog w) A (bindArgs (fdM i j q c pm dfl) ⟨vals, []⟩) Q E s) (hnd : names.Nodup)
  (hclo : ∀ c pm, (fdM i j q c pm dfl).closure = []) (hlen : names.length = as.length)
  (hkind : ∀ c pm, ∀ x ∈ names, (fdM i j q c pm dfl).scope.names.lookup x = some .local ∨ (fdM i j q c pm dfl).scope.names.lookup x = some .cell)
  (hco : ∀ c pm, (fdM i j q c pm dfl).scope.isCoroutine = false) (hgen : ∀ c pm, (fdM i j q c pm dfl).scope.isGenerator = false) (hk : ∀ c pm, (fdM i j q c pm dfl).scope.kind = .function) :
  MtI prog w (n + 1) a as r I I' := QBv (.refl Tz) hm h hbody hbind hnd hclo hlen hkind hco hgen hk
end
theorem DvAll.sv {X Y:Addr → Prop}{h h':Heap} : ∀ {as:List Dv}{vs:List Value}, as.all okDv = true → DvAll X h as vs → DvAll Y h' as vs
 | [], _, _, e => e
 | a :: as, _, ha, ⟨v, vs', e, h1, h2⟩ => by
  rw [List.all_cons, Bool.and_eq_true] at ha
  exact ⟨v, vs', e, okDv.sv ha.1 h1 _ _, DvAll.sv ha.2 h2⟩
section
variable {prog : Program} {w : World} {W : Addr → Prop} {T : Hp} {A : Around} {env : Env} {E : Value → Shared → Prop} {s₀ s : Shared} {G : Gam} {I I' J J' : List Ins}
theorem Qrj {i:Ins}{o:Expr}{name:Str}{apos pos:Pos}{args:List Expr}{f:Addr}{as:List Dv}{r:Dv}{n m:Nat}{T₀:Hp}(hT:T.le Tz)(hT₁:T.le T₀)(ok:OkA A m)(F:FI W T s₀ env G J s)(ct:MtT T₀ prog w n f (.v (.ref i.x) :: as) r I I')
  (ho : EvA prog w (T.ins J) A env G o (.v (.ref i.x))) (hi : i ∈ J) (ha : EvL prog w (T.ins J) A env G (backTo pos (starEach args env)) as)
  (hsub : ∀ i ∈ I, i ∈ J) (hap : I.Pairwise fun i j => i.D ≠ j.D) (hJ : ∀ j ∈ J', j ∈ I' ∨ (j ∈ J ∧ ∀ i ∈ I, j.D ≠ i.D)) (hs : J'.map (fun i => (i.x, i.D)) = J.map fun i => (i.x, i.D))
  (hf : autoParam ((name, f) ∈ fnsOf i.C) sD) (hns : autoParam (name ∉ i.ns) sD) (hn : n ≤ m := by lia) (has : autoParam (as.all okDv = true) sR) (hC : autoParam (i.C = 880 ∨ i.C = 745) sO)
  (hbase : autoParam (attributeBase o name env (eval o env) = eval o env) sK) (hline : autoParam ((apos.endLine == pos.line) = true) sK) (hfew : autoParam (args.length < 29) sD) :
  wpAny (model prog w) A (eval (.Call (.Attribute o name apos) args [] pos) env) (fun v s' => r.p T.X s'.heap v ∧ FI W T s₀ env G J' s') E s := by
 have toI : ∀ {s : Shared}, FI W T s₀ env G J s → (T.ins J).p s.heap ∧ Vw (T.ins J).X env G s.heap := fun F => ⟨⟨F.f.t, F.i⟩, F.f.vw.less fun b hb => hb.1⟩
 rw [arm_eval_Call, hbase]
 refine wpAny_bind (wpAny_mono (ho.of E s (toI F).1 (toI F).2) (fun ov s₁ k => ?_) fun ζ ζ e => e)
 obtain ⟨rfl, k⟩ := k
 have F1 := F.kept k
 refine wpAny_bind (wpAny_standAt ?_)
 have hform : methodCallForm (args.length + ([] : List Keyword).length) (backTo pos (starEach args env)) (backToKw pos (keywordEach [] env)) = true := by
  show ((backTo pos (starEach args env)).all (fun x => !x.1) && true && decide (args.length + 0 + 0 < 30)) = true
  rw [ha.plain]; simp; lia
 have hpos : methodCallPos true o env apos pos = pure pos := by unfold methodCallPos; simp [hline]
 unfold methodCall
 rw [hform]
 refine eEA ((hT.p _ F1.f.t).k) fun K hK sk => ?_
 refine wpAny_bind (wpAny_holding (method_ins hK (sk.cls _ hC) (F1.i i hi) hf hns ?_))
 refine wpAny_bind (wpAny_of_eq hpos ?_)
 refine Qbx ha.noStar (Qcz ha (toI F1).1 (toI F1).2 fun vs s₂ k2 hvs => ?_)
 have F2 := F1.kept k2
 refine eE (ct.keep _ (hT.p _ F2.f.t)) fun fd hfn => ?_
 refine wpAny_mono (Qev hfn) (fun ζ s3 e => ?_) fun ζ ζ x => x
 subst e
 refine wpAny_call (ct.of T A _ _ _ hT₁ (ok.le hn) F2.f.t ⟨fun i hi => F2.i i (hsub i hi), fun i hi => (F2.w i (hsub i hi)).1, fun i hi => F2.x i (hsub i hi), hap⟩ ⟨.ref i.x, vs, rfl, rfl, hvs.sv has⟩ fun v s' hv kx hI' => ⟨hv, ?_⟩)
 refine F2.call (Z := Ds I) kx (fun b ⟨i, hi, e⟩ => ⟨i, hsub i hi, e⟩) (fun j hj => ?_) hs
 rcases hJ j hj with q | ⟨q, hd⟩
 ·exact hI' j q
 ·exact (F2.i j q).at (fun o e => kx.kp.kp _ o (fun ⟨i, hi, z⟩ => F2.x j q (z ▸ (F2.w i (hsub i hi)).1)) e) fun o e => kx.kp.kp _ o (fun ⟨i, hi, z⟩ => hd i hi z) e
end
theorem Pick.look {G G':Gam}(h:Pick G G'){n:Str}{a:Dv}(e:G'.lookup n = some a) : G.lookup n = some a := h.of (n, a) (mem_of_lookup e)
theorem InsAt.pick {h:Heap}{x C D:Addr}{ns:List Str}{G G':Gam}(I:InsAt h ⟨x, C, D, ns, G⟩)(p:Pick G G') : InsAt h ⟨x, C, D, ns, G'⟩ := ⟨I.obj, Qpj (I.dict) fun m a b c => ⟨m, a, b, fun n a e => c n a (p.look e)⟩⟩
section
variable {W : Addr → Prop} {T : Hp} {s₀ s : Shared} {env : Env} {G : Gam}
theorem FI.pick1 {x C D:Addr}{ns:List Str}{G1 G2:Gam}{I:List Ins}(F:FI W T s₀ env G (⟨x, C, D, ns, G1⟩ :: I) s)(p:Pick G1 G2) : FI W T s₀ env G (⟨x, C, D, ns, G2⟩ :: I) s := by
 refine F.call (Z := noW) (.refl _ _) (fun b q => q.elim) (fun i hi => ?_) rfl
 rcases List.mem_cons.mp hi with rfl | hi
 ·exact (F.i _ (.head _)).pick p
 ·exact F.i i (.tail _ hi)
theorem FI.pick {G':Gam}{I:List Ins}(F:FI W T s₀ env G I s)(p:Pick G G') : FI W T s₀ env G' I s := ⟨F.f.pick p, F.i, F.w, F.x, F.ap⟩
end
section
variable {prog : Program} {w : World} {W : Addr → Prop} {T : Hp} {A : Around} {env : Env} {s₀ s : Shared} {G : Gam} {I : List Ins} {R : Flow → Shared → Prop} {rest : List Stmt}
theorem i_exprX {e:Expr}{pos:Pos}{a:Dv}{I':List Ins}(he:∀ E, wpAny (model prog w) A (eval e env) (fun v s' => a.p T.X s'.heap v ∧ FI W T s₀ env G I' s') E s)
  (h : ∀ s', FI W T s₀ env G I' s' → Go prog w A env rest R s') (hi : autoParam (interactive env = false) sK) (hsw : autoParam (swapsWith e none pos.line env = pure false) sK) : Go prog w A env (.Expr e pos :: rest) R s :=
 ⟨wpAny_execs_cons (wpAny_Expr_any (hi := hi) (hs := hsw) (wpAny_mono (he _) (fun v s' q => (h s' q.2).of) fun ζ ζ x => x))⟩
theorem Qoa {a b:Value}(hp:plainIs a b = true) : Op2 prog w T A (compareOp .IsNot) (.v a) (.v b) (.d (.bool (!(a == b)))) := ⟨fun E s v1 v2 ζ p1 p2 => by
 have : v1 = a := p1
 subst this
 have : v2 = b := p2
 subst this
 exact wpAny_isNot_plain hp ⟨Dv.p.bool, .refl s⟩⟩
noncomputable def someD : PyData → Bool
 | .none => false
 | d => scal d
theorem someD.ne {X:Addr → Prop}{h:Heap}{v:Value} : ∀ {d:PyData}, someD d = true → Rd X h d v → (v == .none) = false
 | .none, e, _ => by cases e
 | .bool b, _, r => by rw [r.bool_inv]; rfl
 | .int i, _, r => by obtain ⟨t, rfl⟩ := r.int_inv; rfl
 | .str x, _, r => by obtain ⟨t, rfl⟩ := r.str_inv; rfl
theorem Qea {d:PyData}(hd:someD d = true) : Op2 prog w T A (compareOp .Is) (.d d) (.d .none) (.d (.bool false)) := ⟨fun E s v1 v2 ζ p1 p2 => by
 have : v2 = .none := Rd.none_inv (X := T.X) (h := s.heap) p2
 subst this
 refine is_none ?_
 rw [someD.ne hd p1]
 exact ⟨Dv.p.bool, .refl s⟩⟩
theorem op_isNoneT : Op2 prog w T A (compareOp .Is) (.d .none) (.d .none) (.d (.bool true)) := ⟨fun E s v1 v2 ζ p1 p2 => by
 have : v2 = .none := Rd.none_inv (X := T.X) (h := s.heap) p2
 subst this
 have : v1 = .none := Rd.none_inv (X := T.X) (h := s.heap) p1
 subst this
 exact is_none ⟨Dv.p.bool, .refl s⟩⟩
theorem Qob : Op2 prog w T A (compareOp .IsNot) (.d .none) (.d .none) (.d (.bool false)) := ⟨fun E s v1 v2 ζ p1 p2 => by
 have : v2 = .none := Rd.none_inv (X := T.X) (h := s.heap) p2
 subst this
 have : v1 = .none := Rd.none_inv (X := T.X) (h := s.heap) p1
 subst this
 exact isNot_none ⟨Dv.p.bool, .refl s⟩⟩
theorem Qhj {d:PyData}(hd:someD d = true) : Op2 prog w T A (compareOp .IsNot) (.d d) (.d .none) (.d (.bool true)) := ⟨fun E s v1 v2 ζ p1 p2 => by
 have : v2 = .none := Rd.none_inv (X := T.X) (h := s.heap) p2
 subst this
 refine isNot_none ?_
 rw [someD.ne hd p1]
 exact ⟨Dv.p.bool, .refl s⟩⟩
theorem Qzy {x:Int} : Fn prog w T A (.type "type") [.d (.int x)] (.v (.type "int")) := .plain (fun ζ e => nomatch e) fun E s vs hp h => by
 refine Qac (h) fun v vs' ρ0 h1 ρ1 => ?_
 subst ρ0
 subst ρ1
 refine eE (h1.int_inv) fun t ρ2 => ?_
 subst ρ2
 exact call_type_of (typeIs_int _ _ _) (by decide +kernel) ⟨rfl, .refl s⟩
theorem fn_intInt {x:Int} : Fn prog w T A (.type "int") [.d (.int x)] (.d (.int x)) := .plain (fun ζ e => nomatch e) fun E s vs hp h => by
 refine Qac (h) fun v vs' ρ3 h1 ρ4 => ?_
 subst ρ3
 subst ρ4
 refine eE (h1.int_inv) fun t ρ5 => ?_
 subst ρ5
 exact call_int_int ⟨Dv.p.int, .refl s⟩
end
section
variable {prog : Program} {w : World}
theorem ct_index (what:Str) : Ct prog w 1 (.ref 211) [.d (.int 1), .d (.str what)] (.d (.int 1)) :=
 ct_def2 (i := 33) (x := "n") (y := "what") fun T T' A L pm s₀ s₁ hT hT' hTp ok F => by
  refine x_at F ?_
  refine x_ifF (TeA.and (TeA.cmp (EvA.call (bltn (.type "type") hTp) (EvL.cons (EvA.name (.d (.int 1))) .nil') Qzy) (bltn (.type "int") hTp) (Qoa rfl)) (c := false) fun e => (by cases e)).f (x_nil ?_)
  refine Qbq (.d (.int 1)) (EvA.call (bltn (.type "int") hTp) (EvL.cons (EvA.name (.d (.int 1))) .nil') fn_intInt).f ?_
  refine x_ifF (TeA.or (TeA.cmp (b := false) (EvA.name (.d (.int 1))) (EvA.int (x := 1099511627776)) op_gtInt) fun ζ => TeA.or (TeA.cmp (b := false) (EvA.name (.d (.int 1))) (EvA.neg (EvA.int (x := 1099511627776))) Qow) fun ζ => TeA.or0).f (x_nil ?_)
  intro s₂ F
  exact ret hT' F (EvA.name (.d (.int 1))).f
end
noncomputable def chAt (buf:Str)(p:Nat) : Str := match buf.cps[p]? with | some c => ⟨#[c]⟩ | none => ⟨#[]⟩
noncomputable def posN (buf:Str)(p:Nat) : Nat := if p < buf.length then p + 1 else p
theorem chAt_slice {buf:Str}{p:Nat}(h:p < buf.length) : Txt.slice buf (some (p:Int)) (some ((p:Int) + 1)) = chAt buf p := by
 have e : Builtin.Str.strSliceIndices (some (p : Int)) (some ((p : Int) + 1)) 1 buf.length = [p] := by
  have := StrLaws.strSliceIndices_plain (a := p) (b := p + 1) (len := buf.length) (by lia) h
  simpa using this
 have hs : p < buf.cps.size := h
 have hg : buf.cps[p]? = some buf.cps[p] := Array.getElem?_eq_getElem hs
 unfold Txt.slice chAt
 rw [e, hg]
 split
 ·rename_i q
  have hl : buf.cps.size = 1 := by
   have : (1 : Nat) = buf.length := by simpa using q
   exact this.symm
  obtain ⟨a⟩ := buf
  obtain ⟨l⟩ := a
  dsimp only at hl hs hg ⊢
  match l, hl with
  | [c], _ =>
   obtain rfl : p = 0 := by simpa using hs
   rfl
 ·simp [hg]
noncomputable abbrev Gi (prog:Program)(w:World)(A:Around)(W:Addr → Prop)(T:Hp)(s₀:Shared)(env:Env)(R:Flow → Shared → Prop)(G:Gam)(I:List Ins)(st:List Stmt) : Prop := ∀ s, FI W T s₀ env G I s → Go prog w A env st R s
section
variable {prog : Program} {w : World} {W : Addr → Prop} {T : Hp} {A : Around} {env : Env} {s₀ s : Shared} {G : Gam} {I : List Ins} {R : Flow → Shared → Prop} {rest : List Stmt}
theorem Qtx (F:FI W T s₀ env G I s){st:List Stmt}(h:Gi prog w A W T s₀ env R G I st) : Go prog w A env st R s := h s F
theorem Qhq (h:∀ s, FI W T s₀ env G I s → R .next s) : Gi prog w A W T s₀ env R G I [] := fun s F => Qaw (h s F)
theorem g_if {test:Expr}{body orelse:List Stmt}{pos:Pos}(b:Bool)(ht:TeI prog w T A env G I test b)
  (h1 : b = true → Gi prog w A W T s₀ env (Rn prog w A env rest R) G I body) (h2 : b = false → Gi prog w A W T s₀ env (Rn prog w A env rest R) G I orelse) : Gi prog w A W T s₀ env R G I (.If test body orelse pos :: rest) := fun s F => i_if b F ht h1 h2
theorem Qkz {test:Expr}{body orelse:List Stmt}{pos:Pos}(ht:TeI prog w T A env G I test true)
  (h1 : Gi prog w A W T s₀ env (Rn prog w A env rest R) G I body) : Gi prog w A W T s₀ env R G I (.If test body orelse pos :: rest) := fun s F => i_ifT F ht h1
theorem Qcw {test:Expr}{body orelse:List Stmt}{pos:Pos}(ht:TeI prog w T A env G I test false)
  (h2 : Gi prog w A W T s₀ env (Rn prog w A env rest R) G I orelse) : Gi prog w A W T s₀ env R G I (.If test body orelse pos :: rest) := fun s F => Qsa F ht h2
theorem Qec {x:Str}{e:Expr}{pos pos':Pos}(a:Dv)(he:EvI prog w T A env G I e a)
  (h : Gi prog w A W T s₀ env R ((x, a) :: G) I rest) (hk : autoParam (env.scope.kind = .function) sK)
  (hx : autoParam (env.kindOf x = some .local ∨ (env.kindOf x = some .cell ∧ (env.cells.lookup x).isSome = true)) sO)
  (hs : autoParam (swapsWith e (some (.Name x pos')) pos.line env = pure false) sK) : Gi prog w A W T s₀ env R G I (.Assign [.Name x pos'] e pos :: rest) := fun s F => i_assign a F he h hk hx hs
theorem Qqc {i:Ins}{post:List Ins}{o e:Expr}{name:Str}{pos pos':Pos}(a:Dv)(hT:T.le Tz)(he:EvI prog w T A env G (i :: post) e a)(ho:EvI prog w T A env G (i :: post) o (.v (.ref i.x)))
  (h : Gi prog w A W T s₀ env R G ({ i with G := (name, a) :: i.G } :: post) rest) (ha : autoParam (okDv a = true) sR)
  (hC : autoParam (i.C = 880 ∨ i.C = 745) sO) (hns : autoParam (i.ns = Qdj i.C) sR) (hn : autoParam (name ∈ Qdj i.C) sD)
  (hs : autoParam (swapsWith e (some (.Attribute o name pos')) pos.line env = pure false) sK) : Gi prog w A W T s₀ env R G (i :: post) (.Assign [.Attribute o name pos'] e pos :: rest) := fun s F => i_set a hT F he ho h ha hC hns hn hs
theorem g_augset {i:Ins}{post:List Ins}{o e:Expr}{name:Str}{pos pos':Pos}{op:Operator}(a b c:Dv)(hT:T.le Tz)(ho:EvI prog w T A env G (i :: post) o (.v (.ref i.x)))(hg:i.G.lookup name = some a)(hea:okDv a = true)(he:EvI prog w T A env G (i :: post) e b)
  (hop : Op2 prog w T A (inplaceOp op) a b c) (h : Gi prog w A W T s₀ env R G ({ i with G := (name, c) :: i.G } :: post) rest) (ha : autoParam (okDv c = true) sR)
  (hC : autoParam (i.C = 880 ∨ i.C = 745) sO) (hns : autoParam (i.ns = Qdj i.C) sR) (hn : autoParam (name ∈ Qdj i.C) sD) :
  Gi prog w A W T s₀ env R G (i :: post) (.AugAssign (.Attribute o name pos') op e pos :: rest) := fun s F => i_augset a b c hT F ho hg hea he hop h ha hC hns hn
theorem Qgc {x C D:Addr}{ns:List Str}{G1 G2:Gam}{st:List Stmt}(p:Pick G1 G2)(h:Gi prog w A W T s₀ env R G (⟨x, C, D, ns, G2⟩ :: I) st) : Gi prog w A W T s₀ env R G (⟨x, C, D, ns, G1⟩ :: I) st := fun s F => h s (F.pick1 p)
theorem g_pick {G':Gam}{st:List Stmt}(p:Pick G G')(h:Gi prog w A W T s₀ env R G' I st) : Gi prog w A W T s₀ env R G I st := fun s F => h s (F.pick p)
end
noncomputable def sioG (buf:Str)(p:Nat) : Gam := [("_StringIO__buf", .d (.str buf)), ("_StringIO__pos", .d (.int p))]
noncomputable abbrev QEb (x D:Addr)(buf:Str)(p:Nat) : Ins := ⟨x, 745, D, Qoc, sioG buf p⟩
theorem Qqb {T T':Hp}{I:List Ins}{i:Ins}(hT:T'.le (T.ins I))(hi:i ∈ I) : ∀ h, T'.p h → InsAt h i := fun h q => (hT.p h q).2 i hi
section
variable {prog : Program} {w : World}
theorem mt_check {x D:Addr}{buf:Str}{p:Nat} : MtI prog w 1 529 [.v (.ref x)] (.d .none) [QEb x D buf p] [QEb x D buf p] := by
 refine Qyw (i := 39) (j := 3) (q := "StringIO.__check") (dfl := .none) (names := ["self"]) (by decide +kernel) (fun T T' A L pm s₀ s₁ R hT hT' ok F hR => ?_) (fun c pm => by kernel_rfl!) (fun c pm vals A' E Q s tz hl hq => ?_) (by decide +kernel) (fun c pm => by kernel_rfl!) rfl (fun c pm y hy => ?_) (fun c pm => by kernel_rfl!) (fun c pm => by kernel_rfl!) (fun c pm => by kernel_rfl!)
 ·refine Qsa F (TeA.i (TeA.cmp (EvA.attr (QEb x D buf p) (.d (.str buf)) (Hp.ins_z (hT'.trans hT)) (Qqb (.refl _) (.head _)) (EvA.name (.v (.ref x)))) EvA.noneC (Qea rfl))) fun s₂ F => Qaw (Qaw ?_)
  exact hR _ _ Dv.p.none F.f.kt F.i
 ·refine eE (len1 hl) fun v ρ0 => ?_
  subst ρ0
  refine wpAny_of_eq ?_ hq
  kernel_rfl!
 ·rw [List.mem_singleton.mp hy]; exact .inl (by kernel_rfl!)
noncomputable def loadsAt {α:Type}(m:Sem α)(a:Addr) : Bool := match m with | .load b none _ => a == b | _ => false
noncomputable def afterLoad {α:Type}(m:Sem α)(o:Obj) : Sem α := match m with | .load _ none k => k o | m => m
theorem Qjx {α:Type}{M:Model}{A:Around}{E:Value → Shared → Prop}{s:Shared}{Q:α → Shared → Prop}{m:Sem α}{a:Addr}{o:Obj}(e:loadsAt m a = true)(ho:s.heap.get? a = some o)(h:wpAny M A (afterLoad m o) Q E s) : wpAny M A m Q E s := by
 cases m with
 | load b p k => cases p with
  | none =>
   cases beq_iff_eq.mp (show (a == b) = true from e)
   exact wpAny_bind (m := load a) (f := k) (wpAny_load ho h)
  | some _ => cases e
 | _ => cases e
theorem bind_read {M:Model}{A:Around}{s:Shared}{E:Value → Shared → Prop}{Q:List (Str × Value) → Shared → Prop}(c pm v u d:Value)(o:Obj)(n:Nat)(ho:s.heap.get? 684 = some o)(hd:o.data = .seq #[d] n)(h:Q [(Str.ofString "self", v), (Str.ofString "size", u)] s) :
  wpAny M A (bindArgs (fdM 39 25 "StringIO.read" c pm (.ref 684)) ⟨[v, u], []⟩) Q E s := by
 obtain ⟨oc, od, dt, sl⟩ := o
 have hd : dt = _ := hd
 subst hd
 exact Qjx (a := 684) (by kernel_rfl!) ho (wpAny_of_eq (a := [(Str.ofString "self", v), (Str.ofString "size", u)]) (by kernel_rfl!) h)
theorem mt_read {x D:Addr}{buf:Str}{p:Nat}(hp:p ≤ buf.length)(hb:buf.length ≤ sizeLine) : MtI prog w 3 691 [.v (.ref x), .d (.int 1)] (.d (.str (chAt buf p))) [QEb x D buf p] [QEb x D buf (posN buf p)] := by
 have hbl : buf.length ≤ 2 ^ 24 := hb
 refine Qyw (i := 39) (j := 25) (q := "StringIO.read") (dfl := .ref 684) (names := ["self", "size"]) (by decide +kernel) (fun T T' A L pm s₀ s₁ R hT hT' ok F hR => ?_) (fun c pm => by kernel_rfl!) (fun c pm vals A' E Q s tz hl hq => ?_) (by decide +kernel) (fun c pm => by kernel_rfl!) rfl (fun c pm y hy => ?_) (fun c pm => by kernel_rfl!) (fun c pm => by kernel_rfl!) (fun c pm => by kernel_rfl!)
 ·have hz := hT'.trans hT
  have hzi : ∀ {I : List Ins}, (T'.ins I).le Tz := Hp.ins_z hz
  have hzp : ∀ {I : List Ins}, (T'.ins I).le Tp := fun {I} => hzi.trans Tz.le
  refine Qtx F ?_
  refine Qcw (TeA.i (TeA.cmp (EvA.name (.d (.int 1))) EvA.noneC (Qea rfl))) (Qhq ?_)
  refine Qec (.d (.int 1)) (EvA.i (Qby (ct_index "StringIO.read of a size that is no exact int") hzp ok (glob _ hzp) (EvL.cons (EvA.name (.d (.int 1))) (EvL.cons EvA.str .nil')))) ?_
  intro s₃ F
  refine i_exprX (I' := [QEb x D buf p]) (fun E => Qrj (i := QEb x D buf p) hz hz ok F mt_check (EvA.name (.v (.ref x))) (.head _) .nil' (fun i hi => hi) (List.pairwise_singleton _ _) (fun j hj => .inl hj) rfl) fun s₄ F => ?_
  refine Qtx F ?_
  refine Qec (.d (.int p)) (EvA.i (EvA.attr (QEb x D buf p) (.d (.int p)) hzi (Qqb (.refl _) (.head _)) (EvA.name (.v (.ref x))))) ?_
  refine Qec (.d (.int buf.length)) (EvA.i (EvA.call (bltn (.builtin "len") hzp) (EvL.cons (EvA.attr (QEb x D buf p) (.d (.str buf)) hzi (Qqb (.refl _) (.head _)) (EvA.name (.v (.ref x)))) .nil') (QHx hb))) ?_
  intro s₆ F
  refine i_if (decide ((buf.length : Int) ≤ p)) F (TeA.i (TeA.cmp (EvA.name (.d (.int p))) (EvA.name (.d (.int buf.length))) Qlw)) (fun h s₇ F => ?_) (fun h s₇ F => ?_)
  ·have hge : ¬ p < buf.length := by have := of_decide_eq_true h; lia
   refine Qhy (.d (.str (Str.ofString ""))) F (EvA.i EvA.str) fun v s' hv F => ?_
   refine hR v s' ?_ F.f.kt ?_
   ·have : chAt buf p = Str.ofString "" := by
     have hs : ¬ p < buf.cps.size := hge
     unfold chAt
     rw [Array.getElem?_eq_none (Nat.le_of_not_lt hs)]
     rfl
    rw [this]; exact hv
   ·rw [posN, if_neg hge]; exact F.i
  ·have hlt : p < buf.length := by have := of_decide_eq_false h; lia
   have fin : ∀ {s₈ : Shared} {G : Gam}, FI (Ds [QEb x D buf p]) T' s₀ (callEnvC (fdM 39 25 "StringIO.read" (.ref (691 - 1)) pm (.ref 684)) L 691) (("stop", .d (.int ((p : Int) + 1))) :: G) [QEb x D buf p] s₈ → List.lookup (Str.ofString "start") G = some (Dv.d (.int p)) → List.lookup (Str.ofString "self") G = some (Dv.v (.ref x)) → Go prog w A (callEnvC (fdM 39 25 "StringIO.read" (.ref (691 - 1)) pm (.ref 684)) L 691) ((Qmk 39 25).drop 7) (fun f s' => R (.ret (match f with | .ret v => v | _ => .none)) s') s₈ := by
    intro s₈ G F hs1 hs2
    refine i_set (.d (.int ((p : Int) + 1))) hz F (EvA.i (EvA.name (.d (.int ((p : Int) + 1))))) (EvA.i (EvA.name (.v (.ref x)) (hx := (Qaz (by decide)).trans hs2))) fun s₉ F => ?_
    have F := F.pick1 (G2 := sioG buf (p + 1)) (.cons (.cons .nil))
    refine Qhy (.d (.str (chAt buf p))) F (EvA.i ?_) fun v s' hv F => ?_
    ·rw [← chAt_slice hlt]
     exact EvA.sliceStr (EvA.attr (QEb x D buf (p + 1)) (.d (.str buf)) hzi (Qqb (.refl _) (.head _)) (EvA.name (.v (.ref x)) (hx := (Qaz (by decide)).trans hs2))) (EvPt.some (EvA.name (.d (.int p)) (hx := (Qaz (by decide)).trans hs1))) (EvPt.some (EvA.name (.d (.int ((p : Int) + 1))))) hb
    ·refine hR v s' hv F.f.kt ?_
     rw [posN, if_pos hlt]; exact F.i
   refine Qaw ?_
   refine i_if (decide ((p : Int) + 1 < buf.length)) F (TeA.i (TeA.cast (TeA.and (TeA.cmp (b := true) (EvA.name (.d (.int 1))) EvA.int Qlw) fun ζ => TeA.and (TeA.cmp (EvA.binop (EvA.name (.d (.int p))) (EvA.name (.d (.int 1))) Qhw) (EvA.name (.d (.int buf.length))) Qow) fun ζ => TeA.and0) (by simp))) (fun h s₈ F => ?_) (fun h s₈ F => Qaw ?_)
   ·refine i_assign (.d (.int ((p : Int) + 1))) F (EvA.i (EvA.binop (EvA.name (.d (.int p))) (EvA.name (.d (.int 1))) Qhw)) fun s₉ F => Qaw ?_
    exact fin F rfl rfl
   ·have e : (buf.length : Int) = (p : Int) + 1 := by have := of_decide_eq_false h; lia
    rw [e] at F
    exact fin F rfl rfl
 ·refine eEE (len2 hl) fun v u ρ1 => ?_
  subst ρ1
  refine eEA (tz.dfl 684 [.int (-1)] (.head _)) fun vs ν2 r => ?_
  refine eEAAE (ν2) fun o ho hc n hd => ?_
  refine Qac (r.cons_inv) fun d ds e r1 r2 => ?_
  rw [r2.nil_inv] at e
  obtain ⟨l⟩ := vs
  have e : l = [d] := e
  subst e
  exact bind_read c pm v u d o n ho hd hq
 ·rcases List.mem_cons.mp hy with rfl | hy
  ·exact .inl (by kernel_rfl!)
  ·rw [List.mem_singleton.mp hy]; exact .inl (by kernel_rfl!)
end
section
variable {prog : Program} {w : World} {T : Hp} {A : Around} {env : Env} {G : Gam}
theorem op_inTuple {d:PyData}{xs:List PyData}{n:Nat}(ok:OkA A n)(h1:d.canLay0 = true)(h2:PyData.canLayAll0 xs = true)(hd:d.depth ≤ 64) : Op2 prog w T A (compareOp .In) (.d d) (.d (.tuple xs)) (.d (.bool (xs.any fun y => PyData.eqv y d))) := ⟨fun E s v1 v2 hp p1 p2 => by
 refine eE (Rd.reads _ _ p1) fun as r1 => ?_
 obtain ⟨bs, r2⟩ := Rd.reads _ _ p2
 exact SeqAt.in_tuple_reads r2 r1 h2 h1 (by have := ok.cline; lia) ⟨Dv.p.bool, .refl s⟩⟩
theorem EvA.pch {o:Expr}{pos:Pos}(i:Ins)(pc:Str){n:Nat}(ok:OkA A (n + 2))(hT:T.le Tz)(hi:∀ h, T.p h → InsAt h i)(ho:EvA prog w T A env G o (.v (.ref i.x)))(hg:autoParam (List.lookup (Str.ofString "_punctuation_chars") i.G = some (Dv.d (.str pc))) sK)
  (hC : autoParam (i.C = 880) sR)
  (hbase : autoParam (attributeBase o "punctuation_chars" env (eval o env) = eval o env) sK) (hlet : autoParam (∀ ov r, letTemporaryGo o ov r = pure ()) sR) : EvA prog w T A env G (.Attribute o "punctuation_chars" pos) (.d (.str pc)) := ⟨fun E s hp hv => by
 refine attr_go (i := i) (a := .d (.str pc)) (wpAny_mono (ho.of E s hp hv) (fun ov s₁ k => ?_) fun ζ ζ x => x) hbase hlet
 obtain ⟨rfl, k⟩ := k
 have hp₁ := T.kt hp k
 refine eEA ((hT.p _ hp₁).k) fun K hK sk => ?_
 refine eEA ((hi _ hp₁).wi) fun od I' ζ => ?_
 refine eE (sk.prec) fun rest hrec => ?_
 have cl := hC ▸ sk.lex
 have hcls : (PySem.W.clsIn K i.C).isSome = true := by obtain ⟨cd, hc, _⟩ := PySem.W.any_some cl.hd; rw [hc]; rfl
 refine PySem.W.get_bind hK I' cl.ga (PySem.W.findObj_data hcls (hC ▸ sk.prop) sk.pget sk.ptak) cl.gk (wpAny_call (PySem.W.prop_get (s := { s₁ with toks := s₁.toks + 1 }) hK hrec ?_))
 refine eE ((hT.p _ hp₁).meth 811 51 1 "shlex.punctuation_chars" .none (by decide +kernel)) fun pm hf => ?_
 have kt := k.trans (.tok s₁ (s₁.toks + 1))
 refine Qha (A := A.in1) (T := T) (I := []) (body := Qmk 51 1) (names := ["self"]) (as := [.v (.ref i.x)]) (n := n) hf ok.in1 (hT.p _ hp₁).p.lim (T.kt hp kt) ⟨fun ζ h => (nomatch h), fun ζ h => (nomatch h), fun ζ h => (nomatch h), List.Pairwise.nil⟩ (by kernel_rfl!) (fun E Q hq => ?_) (by decide +kernel) (by kernel_rfl!) rfl (fun y hy => ?_) (by kernel_rfl!) (by kernel_rfl!) (by kernel_rfl!) (fun sb s₂ kb F ok' => ?_)
 ·refine wpAny_of_eq ?_ (hq [.ref i.x] _ (.refl _) ⟨_, _, rfl, rfl, rfl⟩)
  kernel_rfl!
 ·rw [List.mem_singleton.mp hy]; exact .inl (by kernel_rfl!)
 ·have hle := Hp.push_le T (Qba (callEnvC (fdM 51 1 (Str.ofString "shlex.punctuation_chars") (.ref (811 - 1)) pm .none) sb.heap.objs.size 811))
  refine wpAny_mono (Go.of (R := fun f s' => match f with | .ret v => wpAny (model prog w) A (handedOut v) (fun v s' => (Dv.d (.str pc)).p T.X s'.heap v ∧ Kt s s') E s' | _ => False) (Qhy (.d (.str pc)) F (EvA.i (EvA.attr i (.d (.str pc)) (Hp.ins_z (hle.trans hT)) (fun h q => hi h (hle.p h q.1)) (EvA.name (.v (.ref i.x))) (hg := hg) (hC := .inl hC) (hn := by rw [hC]; decide +kernel))) fun v s' hv F => ?_)) (fun f s' q => ?_) fun ζ ζ x => x.elim
  ·refine eE (hv.str_inv) fun t ρ0 => ?_
   subst ρ0
   have ks : Kt sb s' := by
    refine Qfw (F.f.kt.of) fun h' tk e k => ?_
    exact ⟨h', tk, e, fun b o eb => k.kp b o (fun ⟨i, hi, _⟩ => nomatch hi) eb⟩
   exact wpAny_pure ⟨Dv.p.str, kt.trans (kb.trans ks)⟩
  ·cases f <;> first | exact q | exact q.elim⟩
end
noncomputable def Qsy : List Nat := [97, 98, 45, 65, 46, 47]
noncomputable def QFx : List Nat := [97, 98, 45, 65, 46, 47, 32]
noncomputable abbrev ch (c:Nat) : Str := ⟨#[c]⟩
structure BareC (x : Str) : Prop where
 nl : (x == Str.ofString "\n") = false
 ne : Qbc (.str x) = true
 ws : Txt.contains (Str.ofString " \t\r\n") x = false
 em : Txt.contains (Str.ofString "") x = false
 qt : Txt.contains (Str.ofString "'\"") x = false
 es : Txt.contains (Str.ofString "\\") x = false
theorem bareC : ∀ c ∈ Qsy, BareC (ch c) := by
 have h : ∀ c ∈ Qsy, (ch c == Str.ofString "\n") = false ∧ Qbc (.str (ch c)) = true ∧ Txt.contains (Str.ofString " \t\r\n") (ch c) = false ∧ Txt.contains (Str.ofString "") (ch c) = false ∧ Txt.contains (Str.ofString "'\"") (ch c) = false ∧ Txt.contains (Str.ofString "\\") (ch c) = false := by decide +kernel
 exact fun c hc => let ⟨a, b, d, e, f, g⟩ := h c hc; ⟨a, b, d, e, f, g⟩
structure QuotC (x : Str) : Prop where
 nl : (x == Str.ofString "\n") = false
 ne : Qbc (.str x) = true
 q : (x == Str.ofString "'") = false
 es : Txt.contains (Str.ofString "\\") x = false
theorem quotC : ∀ c ∈ QFx, QuotC (ch c) := by
 have h : ∀ c ∈ QFx, (ch c == Str.ofString "\n") = false ∧ Qbc (.str (ch c)) = true ∧ (ch c == Str.ofString "'") = false ∧ Txt.contains (Str.ofString "\\") (ch c) = false := by decide +kernel
 exact fun c hc => Qwb (h c hc) fun a b d e => ⟨a, b, d, e⟩
inductive Md where
 | sp | qt | aw
noncomputable def Md.str : Md → Str
 | .sp => Str.ofString " "
 | .qt => Str.ofString "'"
 | .aw => Str.ofString "a"
noncomputable def Qdy : Md → List Nat → List Nat → Option (List Nat × List Nat × Bool)
 | .sp, _, [] => none
 | .sp, _, c :: r => if c = 39 then Qdy .qt [] r else if c ∈ Qsy then Qdy .aw [c] r else none
 | .qt, _, [] => none
 | .qt, tok, c :: r => if c = 39 then Qdy .aw tok r else if c ∈ QFx then Qdy .qt (tok ++ [c]) r else none
 | .aw, tok, [] => if tok = [] then none else some (tok, [], true)
 | .aw, tok, c :: r => if c = 32 then (if tok = [] then none else some (tok, r, false)) else if c ∈ Qsy then Qdy .aw (tok ++ [c]) r else none
theorem lexSp {tok:List Nat}{c:Nat}{r:List Nat} : Qdy .sp tok (c :: r) = if c = 39 then Qdy .qt [] r else if c ∈ Qsy then Qdy .aw [c] r else none := rfl
theorem lexQt {tok:List Nat}{c:Nat}{r:List Nat} : Qdy .qt tok (c :: r) = if c = 39 then Qdy .aw tok r else if c ∈ QFx then Qdy .qt (tok ++ [c]) r else none := rfl
theorem lexEnd {tok:List Nat} : Qdy .aw tok [] = if tok = [] then none else some (tok, [], true) := rfl
theorem lexAw {tok:List Nat}{c:Nat}{r:List Nat} : Qdy .aw tok (c :: r) = if c = 32 then (if tok = [] then none else some (tok, r, false)) else if c ∈ Qsy then Qdy .aw (tok ++ [c]) r else none := rfl
theorem QGk {α:Type}{c:Prop} [Decidable c]{a b x:α}{C:Prop}(h:(if c then a else b) = x)(k:c → a = x → C)(k':¬ c → b = x → C) : C :=
 Decidable.byCases (fun q => k q ((if_pos q).symm.trans h)) fun q => k' q ((if_neg q).symm.trans h)
structure Lp where
 x : Addr
 D : Addr
 sx : Addr
 sD : Addr
 d1 : Addr
 d2 : Addr
 wc : Str
 buf : Str
noncomputable def lexG (P:Lp)(st:PyData)(tok:Str) : Gam := [("state", .d st), ("token", .d (.str tok)), ("instream", .v (.ref P.sx)), ("posix", .d (.bool true)), ("eof", .d .none), ("commenters", .d (.str (Str.ofString ""))), ("wordchars", .d (.str P.wc)), ("whitespace", .d (.str (Str.ofString " \t\r\n"))), ("whitespace_split", .d (.bool true)),
 ("quotes", .d (.str (Str.ofString "'\""))), ("escape", .d (.str (Str.ofString "\\"))), ("escapedquotes", .d (.str (Str.ofString "\""))), ("pushback", .v (.ref P.d1)), ("debug", .d (.int 0)), ("filestack", .v (.ref P.d2)), ("source", .d .none), ("_punctuation_chars", .d (.str (Str.ofString "")))]
noncomputable abbrev Qfz (P:Lp)(st:PyData)(tok:Str) : Ins := ⟨P.x, 880, P.D, Qab, lexG P st tok⟩
noncomputable abbrev Qfx (P:Lp)(p:Nat) : Ins := QEb P.sx P.sD P.buf p
theorem Qlv {P:Lp}{st st':PyData}{tok:Str} : Pick (("state", .d st') :: lexG P st tok) (lexG P st' tok) := .cons (.cons (.cons (.cons (.cons (.cons (.cons (.cons (.cons (.cons (.cons (.cons (.cons (.cons (.cons (.cons (.cons .nil))))))))))))))))
theorem Qlk {P:Lp}{st:PyData}{tok tok':Str} : Pick (("token", .d (.str tok')) :: lexG P st tok) (lexG P st tok') := .cons (.cons (.cons (.cons (.cons (.cons (.cons (.cons (.cons (.cons (.cons (.cons (.cons (.cons (.cons (.cons (.cons .nil))))))))))))))))
noncomputable def rtG (P:Lp)(q:Bool) : Gam := [("quoted", .d (.bool q)), ("escapedstate", .d (.str (Str.ofString " "))), ("self", .v (.ref P.x))]
noncomputable abbrev Qbk (pm:Value)(L:Addr) : Env := callEnvC (fdM 51 6 "shlex.read_token" (.ref (848 - 1)) pm .none) L 848
noncomputable def rtLoop : List Stmt := match (Qmk 51 6)[2]? with
 | some (Stmt.While _ body _ _) => body
 | _ => []
section
variable {prog : Program} {w : World}
theorem rt_pre {W:Addr → Prop}{T:Hp}{s₀ s:Shared}{A:Around}{P:Lp}{st:PyData}{tok:Str}{p n:Nat}{q:Bool}{pm:Value}{L:Addr}{R:Flow → Shared → Prop}(hT:T.le Tz)(ok:OkA A (n + 4))(hb:P.buf.length ≤ sizeLine)(hp:p ≤ P.buf.length)(hnl:(chAt P.buf p == Str.ofString "\n") = false)
  (F : FI W T s₀ (Qbk pm L) (rtG P q) [Qfz P st tok, Qfx P p] s)
  (h : ∀ s', FI W T s₀ (Qbk pm L) (("nextchar", .d (.str (chAt P.buf p))) :: rtG P q) [Qfz P st tok, Qfx P (posN P.buf p)] s' → Go prog w A (Qbk pm L) (rtLoop.drop 3) R s') : Go prog w A (Qbk pm L) rtLoop R s := by
 have hz : ∀ {I : List Ins}, (T.ins I).le Tz := Hp.ins_z hT
 refine Qsa F (TeA.i (TeA.and (b := false) (c := false) (TeA.val (d := .str (Str.ofString "")) (EvA.pch (Qfz P st tok) (Str.ofString "") ok hz (Qqb (.refl _) (.head _)) (EvA.name (.v (.ref P.x)))) (Nat.zero_le _)) fun e => nomatch e)) fun s₂ F => ?_
 refine Qvw (.d (.str (chAt P.buf p))) (I' := [Qfz P st tok, Qfx P (posN P.buf p)]) (fun E => Qrj (I := [Qfx P p]) (I' := [Qfx P (posN P.buf p)]) (i := Qfx P p) hT hT ok F (mt_read hp hb) (EvA.attr (Qfz P st tok) (.v (.ref P.sx)) hz (Qqb (.refl _) (.head _)) (EvA.name (.v (.ref P.x)))) (.tail _ (.head _)) (EvL.cons EvA.int .nil') (fun i hi => .tail _ hi) (List.pairwise_singleton _ _) (fun j hj => ?_) rfl) fun s₃ F => Qaw ?_
 ·rcases List.mem_cons.mp hj with rfl | hj
  ·exact .inr ⟨.head _, fun i hi => by rw [List.mem_singleton.mp hi]; exact (List.pairwise_cons.mp F.ap).1 _ (.head _)⟩
  ·exact .inl hj
 ·refine Qtx F ?_
  refine Qcw (TeA.i (TeA.cast (TeA.cmp (EvA.name (.d (.str (chAt P.buf p)))) EvA.str Qcb) hnl)) (Qhq ?_)
  refine Qcw (TeA.i (TeA.cmp (b := false) (EvA.attr (Qfz P st tok) (.d (.int 0)) hz (Qqb (.refl _) (.head _)) (EvA.name (.v (.ref P.x)))) (EvA.int (x := 3)) Qlw)) (Qhq ?_)
  intro s₅ F
  exact h _ F
end
section
variable {prog : Program} {w : World} {W : Addr → Prop} {T : Hp} {s₀ s : Shared} {A : Around} {P : Lp} {st : PyData} {tok c : Str} {p n : Nat} {q : Bool} {pm : Value} {L : Addr} {R : Flow → Shared → Prop}
noncomputable abbrev Qkw (P:Lp)(q:Bool)(c:Str) : Gam := ("nextchar", .d (.str c)) :: rtG P q
theorem Qfj {T':Hp}{env:Env}{G:Gam}{I:List Ins}{o:Expr}{name:Str}{pos:Pos}(a:Dv)(hT:T.le Tz)(ho:EvA prog w (T.ins (Qfz P st tok :: I)) A env G o (.v (.ref P.x)))(hg:autoParam ((lexG P st tok).lookup name = some a) sK)(hok:autoParam (okDv a = true) sR)(hn:autoParam (name ∈ Qab) sD)
  (hbase : autoParam (attributeBase o name env (eval o env) = eval o env) sK) (hlet : autoParam (∀ ov r, letTemporaryGo o ov r = pure ()) sR) : EvA prog w (T.ins (Qfz P st tok :: I)) A env G (.Attribute o name pos) a :=
 EvA.attr (Qfz P st tok) a (Hp.ins_z hT) (Qqb (.refl _) (.head _)) ho hg (.inl rfl) hn hok hbase hlet
theorem op_notInStr {x y:Str} : Op2 prog w T A (compareOp .NotIn) (.d (.str x)) (.d (.str y)) (.d (.bool (!Txt.contains y x))) := ⟨fun E s v1 v2 ζ p1 p2 => by
 refine eE (p1.str_inv) fun t ρ0 => ?_
 subst ρ0
 refine eE (p2.str_inv) fun u ρ1 => ?_
 subst ρ1
 exact P.notIn_str ⟨Dv.p.bool, .refl s⟩⟩
theorem rt_spq (hT:T.le Tz)(hwc:Txt.contains P.wc (Str.ofString "'") = false)
  (F : FI W T s₀ (Qbk pm L) (Qkw P q (Str.ofString "'")) [Qfz P (.str (Str.ofString " ")) tok, Qfx P p] s) (ok : OkA A (n + 4))
  (h : ∀ s', FI W T s₀ (Qbk pm L) (Qkw P q (Str.ofString "'")) [Qfz P (.str (Str.ofString "'")) tok, Qfx P p] s' → R .next s') : Go prog w A (Qbk pm L) (rtLoop.drop 3) R s := by
 have self : ∀ {I : List Ins} {pos : Pos}, EvA prog w (T.ins I) A (Qbk pm L) (Qkw P q (Str.ofString "'")) (.Name "self" pos) (.v (.ref P.x)) := EvA.name (.v (.ref P.x))
 have hz : ∀ {I : List Ins}, (T.ins I).le Tz := Hp.ins_z hT
 refine Qtx F ?_
 refine Qcw (TeA.i (TeA.cmp (Qfj (T' := T) (.d (.str (Str.ofString " "))) hT self) EvA.noneC (Qea rfl))) ?_
 refine Qkz (TeA.i (TeA.cmp (b := true) (Qfj (T' := T) (.d (.str (Str.ofString " "))) hT self) EvA.str Qcb)) ?_
 refine Qcw (TeA.i (TeA.not (b := true) (TeA.val (d := .str (Str.ofString "'")) (EvA.name (.d (.str (Str.ofString "'")))) (Nat.le_of_ble_eq_true rfl)))) ?_
 refine Qcw (TeA.i (TeA.cast (TeA.cmp (EvA.name (.d (.str (Str.ofString "'")))) (Qfj (T' := T) (.d (.str (Str.ofString " \t\r\n"))) hT self) Qbj) (by decide +kernel))) ?_
 refine Qcw (TeA.i (TeA.cast (TeA.cmp (EvA.name (.d (.str (Str.ofString "'")))) (Qfj (T' := T) (.d (.str (Str.ofString ""))) hT self) Qbj) (by decide +kernel))) ?_
 refine Qcw (TeA.i (TeA.and (b := true) (TeA.val (d := .bool true) (Qfj (T' := T) (.d (.bool true)) hT self) trivial) fun ζ => TeA.and (b := false) (c := false) (TeA.cast (TeA.cmp (EvA.name (.d (.str (Str.ofString "'")))) (Qfj (T' := T) (.d (.str (Str.ofString "\\"))) hT self) Qbj) (by decide +kernel)) fun e => nomatch e)) ?_
 refine Qcw (TeA.i (TeA.cast (TeA.cmp (EvA.name (.d (.str (Str.ofString "'")))) (Qfj (T' := T) (.d (.str P.wc)) hT self) Qbj) hwc)) ?_
 refine Qcw (TeA.i (TeA.cast (TeA.cmp (EvA.name (.d (.str (Str.ofString "'")))) (EvA.pch (Qfz P (.str (Str.ofString " ")) tok) (Str.ofString "") ok hz (Qqb (.refl _) (.head _)) self) Qbj) (by decide +kernel))) ?_
 refine Qkz (TeA.i (TeA.cast (TeA.cmp (EvA.name (.d (.str (Str.ofString "'")))) (Qfj (T' := T) (.d (.str (Str.ofString "'\""))) hT self) Qbj) (by decide +kernel))) ?_
 refine Qcw (TeA.i (TeA.not (b := true) (TeA.val (d := .bool true) (Qfj (T' := T) (.d (.bool true)) hT self) trivial))) (Qhq ?_)
 refine Qqc (.d (.str (Str.ofString "'"))) hT (EvA.i (EvA.name (.d (.str (Str.ofString "'"))))) (EvA.i self) ?_
 refine Qgc Qlv ?_
 repeat refine Qhq ?_
 exact h
theorem rt_spc (hT:T.le Tz)(hc:BareC c)(hcl:c.length ≤ sizeLine)
  (F : FI W T s₀ (Qbk pm L) (Qkw P q c) [Qfz P (.str (Str.ofString " ")) tok, Qfx P p] s) (ok : OkA A (n + 4))
  (h : ∀ s', FI W T s₀ (Qbk pm L) (Qkw P q c) [Qfz P (.str (Str.ofString "a")) c, Qfx P p] s' → R .next s') : Go prog w A (Qbk pm L) (rtLoop.drop 3) R s := by
 have self : ∀ {I : List Ins} {pos : Pos}, EvA prog w (T.ins I) A (Qbk pm L) (Qkw P q c) (.Name "self" pos) (.v (.ref P.x)) := EvA.name (.v (.ref P.x))
 have nc : ∀ {I : List Ins} {pos : Pos}, EvA prog w (T.ins I) A (Qbk pm L) (Qkw P q c) (.Name "nextchar" pos) (.d (.str c)) := EvA.name (.d (.str c))
 have hz : ∀ {I : List Ins}, (T.ins I).le Tz := Hp.ins_z hT
 refine Qtx F ?_
 refine Qcw (TeA.i (TeA.cmp (Qfj (T' := T) (.d (.str (Str.ofString " "))) hT self) EvA.noneC (Qea rfl))) ?_
 refine Qkz (TeA.i (TeA.cmp (b := true) (Qfj (T' := T) (.d (.str (Str.ofString " "))) hT self) EvA.str Qcb)) ?_
 refine Qcw (TeA.i (TeA.cast (TeA.not (TeA.val (d := .str c) nc hcl)) (by rw [hc.ne]; rfl))) ?_
 refine Qcw (TeA.i (TeA.cast (TeA.cmp nc (Qfj (T' := T) (.d (.str (Str.ofString " \t\r\n"))) hT self) Qbj) hc.ws)) ?_
 refine Qcw (TeA.i (TeA.cast (TeA.cmp nc (Qfj (T' := T) (.d (.str (Str.ofString ""))) hT self) Qbj) hc.em)) ?_
 refine Qcw (TeA.i (TeA.and (b := true) (TeA.val (d := .bool true) (Qfj (T' := T) (.d (.bool true)) hT self) trivial) fun ζ => TeA.and (b := false) (c := false) (TeA.cast (TeA.cmp nc (Qfj (T' := T) (.d (.str (Str.ofString "\\"))) hT self) Qbj) hc.es) fun e => nomatch e)) ?_
 intro s₁ F
 refine i_if (Txt.contains P.wc c) F (TeA.i (TeA.cmp nc (Qfj (T' := T) (.d (.str P.wc)) hT self) Qbj)) (fun ζ s₁ F => ?_) (fun ζ s₁ F => ?_)
 ·refine Qtx F ?_
  refine Qqc (.d (.str c)) hT (EvA.i nc) (EvA.i self) ?_
  refine Qgc Qlk ?_
  refine Qqc (.d (.str (Str.ofString "a"))) hT (EvA.i EvA.str) (EvA.i self) ?_
  refine Qgc Qlv ?_
  repeat refine Qhq ?_
  exact h
 refine Qtx F ?_
 refine Qcw (TeA.i (TeA.cast (TeA.cmp nc (EvA.pch (Qfz P (.str (Str.ofString " ")) tok) (Str.ofString "") ok hz (Qqb (.refl _) (.head _)) self) Qbj) hc.em)) ?_
 refine Qcw (TeA.i (TeA.cast (TeA.cmp nc (Qfj (T' := T) (.d (.str (Str.ofString "'\""))) hT self) Qbj) hc.qt)) ?_
 refine Qkz (TeA.i (TeA.val (d := .bool true) (Qfj (T' := T) (.d (.bool true)) hT self) trivial)) ?_
 refine Qqc (.d (.str c)) hT (EvA.i nc) (EvA.i self) ?_
 refine Qgc Qlk ?_
 refine Qqc (.d (.str (Str.ofString "a"))) hT (EvA.i EvA.str) (EvA.i self) ?_
 refine Qgc Qlv ?_
 repeat refine Qhq ?_
 exact h
theorem rt_qtq (hT:T.le Tz)
  (F : FI W T s₀ (Qbk pm L) (Qkw P q (Str.ofString "'")) [Qfz P (.str (Str.ofString "'")) tok, Qfx P p] s) (ok : OkA A (n + 4))
  (h : ∀ s', FI W T s₀ (Qbk pm L) (Qkw P true (Str.ofString "'")) [Qfz P (.str (Str.ofString "a")) tok, Qfx P p] s' → R .next s') : Go prog w A (Qbk pm L) (rtLoop.drop 3) R s := by
 have self : ∀ {I : List Ins} {q : Bool} {pos : Pos}, EvA prog w (T.ins I) A (Qbk pm L) (Qkw P q (Str.ofString "'")) (.Name "self" pos) (.v (.ref P.x)) := EvA.name (.v (.ref P.x))
 have nc : ∀ {I : List Ins} {q : Bool} {pos : Pos}, EvA prog w (T.ins I) A (Qbk pm L) (Qkw P q (Str.ofString "'")) (.Name "nextchar" pos) (.d (.str (Str.ofString "'"))) := EvA.name (.d (.str (Str.ofString "'")))
 refine Qtx F ?_
 refine Qcw (TeA.i (TeA.cmp (Qfj (T' := T) (.d (.str (Str.ofString "'"))) hT self) EvA.noneC (Qea rfl))) ?_
 refine Qcw (TeA.i (TeA.cmp (b := false) (Qfj (T' := T) (.d (.str (Str.ofString "'"))) hT self) EvA.str Qcb)) ?_
 refine Qkz (TeA.i (TeA.cast (TeA.cmp (Qfj (T' := T) (.d (.str (Str.ofString "'"))) hT self) (Qfj (T' := T) (.d (.str (Str.ofString "'\""))) hT self) Qbj) (by decide +kernel))) ?_
 refine Qec (.d (.bool true)) (EvA.i EvA.boolC) ?_
 refine g_pick (G' := Qkw P true (Str.ofString "'")) (.cons (.cons (.cons (.cons .nil)))) ?_
 refine Qcw (TeA.i (TeA.not (b := true) (TeA.val (d := .str (Str.ofString "'")) nc (Nat.le_of_ble_eq_true rfl)))) (Qhq ?_)
 refine Qkz (TeA.i (TeA.cmp (b := true) nc (Qfj (T' := T) (.d (.str (Str.ofString "'"))) hT self) Qcb)) ?_
 refine Qcw (TeA.i (TeA.not (b := true) (TeA.val (d := .bool true) (Qfj (T' := T) (.d (.bool true)) hT self) trivial))) ?_
 refine Qqc (.d (.str (Str.ofString "a"))) hT (EvA.i EvA.str) (EvA.i self) ?_
 refine Qgc Qlv ?_
 repeat refine Qhq ?_
 exact h
theorem rt_qtc (hT:T.le Tz)(hc:QuotC c)(hcl:c.length ≤ sizeLine)(htl:tok.length + c.length ≤ sizeLine)
  (F : FI W T s₀ (Qbk pm L) (Qkw P q c) [Qfz P (.str (Str.ofString "'")) tok, Qfx P p] s) (ok : OkA A (n + 4))
  (h : ∀ s', FI W T s₀ (Qbk pm L) (Qkw P true c) [Qfz P (.str (Str.ofString "'")) (tok ++ c), Qfx P p] s' → R .next s') : Go prog w A (Qbk pm L) (rtLoop.drop 3) R s := by
 have self : ∀ {I : List Ins} {q : Bool} {pos : Pos}, EvA prog w (T.ins I) A (Qbk pm L) (Qkw P q c) (.Name "self" pos) (.v (.ref P.x)) := EvA.name (.v (.ref P.x))
 have nc : ∀ {I : List Ins} {q : Bool} {pos : Pos}, EvA prog w (T.ins I) A (Qbk pm L) (Qkw P q c) (.Name "nextchar" pos) (.d (.str c)) := EvA.name (.d (.str c))
 refine Qtx F ?_
 refine Qcw (TeA.i (TeA.cmp (Qfj (T' := T) (.d (.str (Str.ofString "'"))) hT self) EvA.noneC (Qea rfl))) ?_
 refine Qcw (TeA.i (TeA.cmp (b := false) (Qfj (T' := T) (.d (.str (Str.ofString "'"))) hT self) EvA.str Qcb)) ?_
 refine Qkz (TeA.i (TeA.cast (TeA.cmp (Qfj (T' := T) (.d (.str (Str.ofString "'"))) hT self) (Qfj (T' := T) (.d (.str (Str.ofString "'\""))) hT self) Qbj) (by decide +kernel))) ?_
 refine Qec (.d (.bool true)) (EvA.i EvA.boolC) ?_
 refine g_pick (G' := Qkw P true c) (.cons (.cons (.cons (.cons .nil)))) ?_
 refine Qcw (TeA.i (TeA.cast (TeA.not (TeA.val (d := .str c) nc hcl)) (by rw [hc.ne]; rfl))) (Qhq ?_)
 refine Qcw (TeA.i (TeA.cast (TeA.cmp nc (Qfj (T' := T) (.d (.str (Str.ofString "'"))) hT self) Qcb) hc.q)) ?_
 refine Qcw (TeA.i (TeA.and (b := true) (TeA.val (d := .bool true) (Qfj (T' := T) (.d (.bool true)) hT self) trivial) fun ζ => TeA.and (b := false) (c := false) (TeA.cast (TeA.cmp nc (Qfj (T' := T) (.d (.str (Str.ofString "\\"))) hT self) Qbj) hc.es) fun e => nomatch e)) ?_
 refine g_augset (.d (.str tok)) (.d (.str c)) (.d (.str (tok ++ c))) hT (EvA.i self) (by kernel_rfl!) rfl (EvA.i nc) (Qia htl) ?_
 refine Qgc Qlk ?_
 repeat refine Qhq ?_
 exact h
theorem lay_a : (PyData.str (Str.ofString "a")).canLay0 = true := by first | rfl | decide +kernel | simp [PyData.canLay0]
theorem lay_ac : PyData.canLayAll0 [.str (Str.ofString "a"), .str (Str.ofString "c")] = true := by first | rfl | decide +kernel | simp [PyData.canLayAll0, PyData.canLay0]
theorem any_ac : ([.str (Str.ofString "a"), .str (Str.ofString "c")] : List PyData).any (fun y => PyData.eqv y (.str (Str.ofString "a"))) = true := by first | rfl | decide +kernel | simp [PyData.eqv]
theorem rt_aw (hT:T.le Tz)(hz':c.length ≤ sizeLine)
    (F : FI W T s₀ (Qbk pm L) (Qkw P q c) [Qfz P (.str (Str.ofString "a")) tok, Qfx P p] s) (ok : OkA A (n + 4))
    (h : ∀ s', FI W T s₀ (Qbk pm L) (Qkw P q c) [Qfz P (.str (Str.ofString "a")) tok, Qfx P p] s' → Go prog w A (Qbk pm L) (match (rtLoop.drop 3)[0]? with | some (Stmt.If _ _ [Stmt.If _ _ [Stmt.If _ _ [Stmt.If _ _ [Stmt.If _ b _ _] _] _] _] _) => b | _ => []) R s') : Go prog w A (Qbk pm L) (rtLoop.drop 3) R s := by
  have self : ∀ {I : List Ins} {q : Bool} {pos : Pos}, EvA prog w (T.ins I) A (Qbk pm L) (Qkw P q c) (.Name "self" pos) (.v (.ref P.x)) := EvA.name (.v (.ref P.x))
  refine Qtx F ?_
  refine Qcw (TeA.i (TeA.cmp (Qfj (T' := T) (.d (.str (Str.ofString "a"))) hT self) EvA.noneC (Qea rfl))) ?_
  refine Qcw (TeA.i (TeA.cmp (b := false) (Qfj (T' := T) (.d (.str (Str.ofString "a"))) hT self) EvA.str Qcb)) ?_
  refine Qcw (TeA.i (TeA.cast (TeA.cmp (Qfj (T' := T) (.d (.str (Str.ofString "a"))) hT self) (Qfj (T' := T) (.d (.str (Str.ofString "'\""))) hT self) Qbj) (by decide +kernel))) ?_
  refine Qcw (TeA.i (TeA.cast (TeA.cmp (Qfj (T' := T) (.d (.str (Str.ofString "a"))) hT self) (Qfj (T' := T) (.d (.str (Str.ofString "\\"))) hT self) Qbj) (by decide +kernel))) ?_
  refine Qkz (TeA.i (TeA.cast (TeA.cmp (Qfj (T' := T) (.d (.str (Str.ofString "a"))) hT self) (EvA.tuple (ds := [.str (Str.ofString "a"), .str (Str.ofString "c")]) (EvL.cons EvA.str (EvL.cons EvA.str .nil'))) (op_inTuple ok lay_a lay_ac (by decide))) any_ac)) ?_
  intro s₁ F
  refine ⟨wpAny_mono (h _ F).of (fun f s' q => ?_) fun ζ ζ x => x⟩
  cases f with
  | next => repeat refine Qaw ?_
            exact q
  | cont => exact q
  | brk => exact q
  | ret v => exact q
theorem rt_awe (hT:T.le Tz)
  (F : FI W T s₀ (Qbk pm L) (Qkw P q ⟨#[]⟩) [Qfz P (.str (Str.ofString "a")) tok, Qfx P p] s) (ok : OkA A (n + 4))
  (h : ∀ s', FI W T s₀ (Qbk pm L) (Qkw P q ⟨#[]⟩) [Qfz P .none tok, Qfx P p] s' → R .brk s') : Go prog w A (Qbk pm L) (rtLoop.drop 3) R s := by
 have self : ∀ {I : List Ins} {q : Bool} {pos : Pos}, EvA prog w (T.ins I) A (Qbk pm L) (Qkw P q ⟨#[]⟩) (.Name "self" pos) (.v (.ref P.x)) := EvA.name (.v (.ref P.x))
 have nc : ∀ {I : List Ins} {q : Bool} {pos : Pos}, EvA prog w (T.ins I) A (Qbk pm L) (Qkw P q ⟨#[]⟩) (.Name "nextchar" pos) (.d (.str ⟨#[]⟩)) := EvA.name (.d (.str ⟨#[]⟩))
 refine rt_aw hT (Nat.zero_le _) F ok fun s₁ F => ?_
 refine Qtx F ?_
 refine Qkz (TeA.i (TeA.not (b := false) (TeA.val (d := .str ⟨#[]⟩) nc (Nat.zero_le _)))) ?_
 refine Qqc (.d .none) hT (EvA.i EvA.noneC) (EvA.i self) ?_
 refine Qgc Qlv ?_
 intro s₁ F
 exact Qsb (h _ F)
theorem rt_aws (hT:T.le Tz)(ht:Qbc (.str tok) = true)(htl:tok.length ≤ sizeLine)
  (F : FI W T s₀ (Qbk pm L) (Qkw P q (Str.ofString " ")) [Qfz P (.str (Str.ofString "a")) tok, Qfx P p] s) (ok : OkA A (n + 4))
  (h : ∀ s', FI W T s₀ (Qbk pm L) (Qkw P q (Str.ofString " ")) [Qfz P (.str (Str.ofString " ")) tok, Qfx P p] s' → R .brk s') : Go prog w A (Qbk pm L) (rtLoop.drop 3) R s := by
 have self : ∀ {I : List Ins} {q : Bool} {pos : Pos}, EvA prog w (T.ins I) A (Qbk pm L) (Qkw P q (Str.ofString " ")) (.Name "self" pos) (.v (.ref P.x)) := EvA.name (.v (.ref P.x))
 have nc : ∀ {I : List Ins} {q : Bool} {pos : Pos}, EvA prog w (T.ins I) A (Qbk pm L) (Qkw P q (Str.ofString " ")) (.Name "nextchar" pos) (.d (.str (Str.ofString " "))) := EvA.name (.d (.str (Str.ofString " ")))
 refine rt_aw hT (Nat.le_of_ble_eq_true rfl) F ok fun s₁ F => ?_
 refine Qtx F ?_
 refine Qcw (TeA.i (TeA.not (b := true) (TeA.val (d := .str (Str.ofString " ")) nc (Nat.le_of_ble_eq_true rfl)))) ?_
 refine Qkz (TeA.i (TeA.cast (TeA.cmp nc (Qfj (T' := T) (.d (.str (Str.ofString " \t\r\n"))) hT self) Qbj) (by decide +kernel))) ?_
 refine Qcw (TeA.i (TeA.cmp (b := false) (Qfj (T' := T) (.d (.int 0)) hT self) (EvA.int (x := 2)) Qlw)) (Qhq ?_)
 refine Qqc (.d (.str (Str.ofString " "))) hT (EvA.i EvA.str) (EvA.i self) ?_
 refine Qgc Qlv ?_
 refine Qkz (TeA.i (TeA.cast (TeA.or (TeA.val (d := .str tok) (Qfj (T' := T) (.d (.str tok)) hT self) htl) (c := true) fun e => by rw [ht] at e; cases e) (by rw [ht]; rfl))) ?_
 intro s₁ F
 exact Qsb (h _ F)
theorem rt_awc (hT:T.le Tz)(hc:BareC c)(hcl:c.length ≤ sizeLine)(htl:tok.length + c.length ≤ sizeLine)
  (F : FI W T s₀ (Qbk pm L) (Qkw P q c) [Qfz P (.str (Str.ofString "a")) tok, Qfx P p] s) (ok : OkA A (n + 4))
  (h : ∀ s', FI W T s₀ (Qbk pm L) (Qkw P q c) [Qfz P (.str (Str.ofString "a")) (tok ++ c), Qfx P p] s' → R .next s') : Go prog w A (Qbk pm L) (rtLoop.drop 3) R s := by
 have self : ∀ {I : List Ins} {q : Bool} {pos : Pos}, EvA prog w (T.ins I) A (Qbk pm L) (Qkw P q c) (.Name "self" pos) (.v (.ref P.x)) := EvA.name (.v (.ref P.x))
 have nc : ∀ {I : List Ins} {q : Bool} {pos : Pos}, EvA prog w (T.ins I) A (Qbk pm L) (Qkw P q c) (.Name "nextchar" pos) (.d (.str c)) := EvA.name (.d (.str c))
 have hz : ∀ {I : List Ins}, (T.ins I).le Tz := Hp.ins_z hT
 refine rt_aw hT hcl F ok fun s₁ F => ?_
 refine Qtx F ?_
 refine Qcw (TeA.i (TeA.cast (TeA.not (TeA.val (d := .str c) nc hcl)) (by rw [hc.ne]; rfl))) ?_
 refine Qcw (TeA.i (TeA.cast (TeA.cmp nc (Qfj (T' := T) (.d (.str (Str.ofString " \t\r\n"))) hT self) Qbj) hc.ws)) ?_
 refine Qcw (TeA.i (TeA.cast (TeA.cmp nc (Qfj (T' := T) (.d (.str (Str.ofString ""))) hT self) Qbj) hc.em)) ?_
 refine Qcw (TeA.i (TeA.cmp (b := false) (Qfj (T' := T) (.d (.str (Str.ofString "a"))) hT self) EvA.str Qcb)) ?_
 refine Qcw (TeA.i (TeA.and (b := true) (TeA.val (d := .bool true) (Qfj (T' := T) (.d (.bool true)) hT self) trivial) fun ζ => TeA.and (b := false) (c := false) (TeA.cast (TeA.cmp nc (Qfj (T' := T) (.d (.str (Str.ofString "'\""))) hT self) Qbj) hc.qt) fun e => nomatch e)) ?_
 refine Qcw (TeA.i (TeA.and (b := true) (TeA.val (d := .bool true) (Qfj (T' := T) (.d (.bool true)) hT self) trivial) fun ζ => TeA.and (b := false) (c := false) (TeA.cast (TeA.cmp nc (Qfj (T' := T) (.d (.str (Str.ofString "\\"))) hT self) Qbj) hc.es) fun e => nomatch e)) ?_
 refine Qkz (TeA.i (TeA.cast (TeA.or (TeA.cmp nc (Qfj (T' := T) (.d (.str P.wc)) hT self) Qbj) fun ζ => TeA.or (TeA.cmp nc (Qfj (T' := T) (.d (.str (Str.ofString "'\""))) hT self) Qbj) fun ζ => TeA.or (TeA.and (b := true) (TeA.val (d := .bool true) (Qfj (T' := T) (.d (.bool true)) hT self) trivial) fun ζ => TeA.and (TeA.cmp nc (EvA.pch (Qfz P (.str (Str.ofString "a")) tok) (Str.ofString "") ok hz (Qqb (.refl _) (.head _)) self) op_notInStr) fun ζ => TeA.and0) fun ζ => TeA.or0) (by rw [hc.em]; simp))) ?_
 refine g_augset (.d (.str tok)) (.d (.str c)) (.d (.str (tok ++ c))) hT (EvA.i self) (by kernel_rfl!) rfl (EvA.i nc) (Qia htl) ?_
 refine Qgc Qlk ?_
 repeat refine Qhq ?_
 exact h
theorem rt_none (hT:T.le Tz)
  (F : FI W T s₀ (Qbk pm L) (Qkw P q c) [Qfz P .none tok, Qfx P p] s)
  (h : ∀ s', FI W T s₀ (Qbk pm L) (Qkw P q c) [Qfz P .none (Str.ofString ""), Qfx P p] s' → R .brk s') : Go prog w A (Qbk pm L) (rtLoop.drop 3) R s := by
 have self : ∀ {I : List Ins} {q : Bool} {pos : Pos}, EvA prog w (T.ins I) A (Qbk pm L) (Qkw P q c) (.Name "self" pos) (.v (.ref P.x)) := EvA.name (.v (.ref P.x))
 refine Qtx F ?_
 refine Qkz (TeA.i (TeA.cmp (Qfj (T' := T) (.d .none) hT self) EvA.noneC op_isNoneT)) ?_
 refine Qqc (.d (.str (Str.ofString ""))) hT (EvA.i EvA.str) (EvA.i self) ?_
 refine Qgc Qlk ?_
 intro s₁ F
 exact Qsb (h _ F)
end
noncomputable abbrev tkS (l:List Nat) : Str := ⟨l.toArray⟩
theorem tkS_snoc (l:List Nat)(c:Nat) : tkS l ++ ch c = tkS (l ++ [c]) := by
 show (⟨l.toArray ++ #[c]⟩ : Str) = _
 simp [tkS]
theorem QAx (l:List Nat) : (tkS l).length = l.length := by show l.toArray.size = _; simp
theorem QAz {l:List Nat}(h:l ≠ []) : Qbc (.str (tkS l)) = true := by
 cases l with
 | nil => exact absurd rfl h
 | cons a l => rfl
theorem drop_end {buf:Str}{p:Nat}(hp:p ≤ buf.length)(h:buf.cps.toList.drop p = []) : chAt buf p = ⟨#[]⟩ ∧ posN buf p = p ∧ p = buf.length := by
 have e : buf.cps.toList.length = buf.length := by simp [Str.length]
 have h1 : buf.cps.toList.length ≤ p := List.drop_eq_nil_iff.mp h
 have : p = buf.length := by lia
 refine ⟨?_, ?_, this⟩
 ·unfold chAt
  rw [Array.getElem?_eq_none (by show buf.length ≤ p; lia)]
 ·unfold posN
  rw [if_neg (by lia)]
theorem drop_cons {buf:Str}{p:Nat}{c:Nat}{r:List Nat}(h:buf.cps.toList.drop p = c :: r) : chAt buf p = ch c ∧ posN buf p = p + 1 ∧ p < buf.length ∧ buf.cps.toList.drop (p + 1) = r := by
 have e : buf.cps.toList.length = buf.length := by simp [Str.length]
 have h1 : p < buf.cps.toList.length := by
  apply Classical.byContradiction
  intro q
  rw [List.drop_eq_nil_of_le (by lia)] at h
  cases h
 have h2 : buf.cps.toList[p]? = some c := by
  have := congrArg (fun l => l[0]?) h
  simpa using this
 refine ⟨?_, ?_, by lia, ?_⟩
 ·unfold chAt
  rw [← Array.getElem?_toList, h2]
 ·unfold posN
  rw [if_pos (by lia)]
 ·rw [← List.drop_drop, h]; rfl
section
variable {prog : Program} {w : World}
theorem rt_tail {W:Addr → Prop}{T:Hp}{s₀ s:Shared}{A:Around}{P:Lp}{st:PyData}{tok c:Str}{p:Nat}{q:Bool}{pm:Value}{L:Addr}{R:Flow → Shared → Prop}(d:PyData)(hT:T.le Tz)(htl:tok.length ≤ sizeLine)(hd:(Qbc (.str tok) = true ∧ d = .str tok) ∨ (q = false ∧ tok = Str.ofString "" ∧ d = .none))
  (F : FI W T s₀ (Qbk pm L) (Qkw P q c) [Qfz P st tok, Qfx P p] s)
  (h : ∀ v s', (Dv.d d).p T.X s'.heap v → KtX W s₀ s' → (∀ i ∈ [Qfz P st (Str.ofString ""), Qfx P p], InsAt s'.heap i) → R (.ret v) s') : Go prog w A (Qbk pm L) ((Qmk 51 6).drop 3) R s := by
 have self : ∀ {I : List Ins} {G : Gam} {pos : Pos}, List.lookup (Str.ofString "self") G = some (Dv.v (.ref P.x)) → EvA prog w (T.ins I) A (Qbk pm L) G (.Name "self" pos) (.v (.ref P.x)) := fun e => EvA.name (.v (.ref P.x)) (hx := e)
 refine Qtx F ?_
 refine Qec (.d (.str tok)) (EvA.i (Qfj (T' := T) (.d (.str tok)) hT (self rfl))) ?_
 refine Qqc (.d (.str (Str.ofString ""))) hT (EvA.i EvA.str) (EvA.i (self rfl)) ?_
 refine Qgc Qlk ?_
 intro s₁ F
 have fin : ∀ {G : Gam} {s : Shared}, FI W T s₀ (Qbk pm L) G [Qfz P st (Str.ofString ""), Qfx P p] s → List.lookup (Str.ofString "result") G = some (Dv.d d) → List.lookup (Str.ofString "self") G = some (Dv.v (.ref P.x)) → scal d = true → Go prog w A (Qbk pm L) ((Qmk 51 6).drop 6) R s := fun F e1 e2 hd => by
  refine Qsa F (TeA.i (TeA.cmp (b := false) (Qfj (T' := T) (.d (.int 0)) hT (self e2)) (EvA.int (x := 1)) op_gtInt)) fun s₁ F => Qaw ?_
  exact Qhy (.d d) F (EvA.i (EvA.name (.d d) (hx := e1)) hd) fun v s' hv F => h v s' hv F.f.kt F.i
 rcases hd with ⟨ht, rfl⟩ | ⟨rfl, rfl, rfl⟩
 ·have hne : (tok == Str.ofString "") = false := by
   rw [beq_eq_false_iff_ne]
   rintro rfl
   exact absurd ht (by decide)
  refine Qsa F (TeA.i (TeA.cast (TeA.and (TeA.val (d := .bool true) (Qfj (T' := T) (.d (.bool true)) hT (self rfl)) trivial) fun ζ => TeA.and (TeA.not (TeA.val (d := .bool q) (EvA.name (.d (.bool q))) trivial)) fun ζ => TeA.and (c := false) (TeA.cast (TeA.cmp (EvA.name (.d (.str tok))) EvA.str Qcb) hne) fun e => nomatch e) (by simp))) fun s₁ F => Qaw ?_
  exact fin F rfl rfl rfl
 ·refine Qtx F ?_
  refine Qkz (TeA.i (TeA.cast (TeA.and (TeA.val (d := .bool true) (Qfj (T' := T) (.d (.bool true)) hT (self rfl)) trivial) fun ζ => TeA.and (TeA.not (TeA.val (d := .bool false) (EvA.name (.d (.bool false))) trivial)) fun ζ => TeA.and (TeA.cmp (EvA.name (.d (.str (Str.ofString "")))) EvA.str Qcb) fun ζ => TeA.and0) (by decide +kernel))) ?_
  refine Qec (.d .none) (EvA.i EvA.noneC) (Qhq ?_)
  intro s₁ F
  exact fin F rfl rfl rfl
end
noncomputable def stOf (fin:Bool) : PyData := if fin then .none else .str (Str.ofString " ")
structure LpOk (P : Lp) : Prop where
 len : P.buf.length ≤ 1000000
 wc : Txt.contains P.wc (Str.ofString "'") = false
section
variable {prog : Program} {w : World}
noncomputable def RtJ (P:Lp)(tok rest:List Nat)(fin:Bool)(k:Nat)(G:Gam)(I:List Ins) : Prop := ∃ m tk p' q, G = rtG P q ∧ I = [Qfz P (.str (Md.str m)) (tkS tk), Qfx P p'] ∧ p' ≤ P.buf.length ∧ k + p' = P.buf.length + 1 ∧ Qdy m tk (P.buf.cps.toList.drop p') = some (tok, rest, fin) ∧ tk.length ≤ p' ∧ (m = .sp → tk = [])
theorem mt_readTok {P:Lp}(hP:LpOk P){p:Nat}(hp:p ≤ P.buf.length){tok rest:List Nat}{fin:Bool}(hrun:Qdy .sp [] (P.buf.cps.toList.drop p) = some (tok, rest, fin)) :
  MtI prog w 6 848 [.v (.ref P.x)] (.d (.str (tkS tok))) [Qfz P (.str (Str.ofString " ")) (Str.ofString ""), Qfx P p] [Qfz P (stOf fin) (Str.ofString ""), Qfx P (P.buf.length - rest.length)] := by
 have hb : P.buf.length ≤ sizeLine := Nat.le_trans hP.len (Nat.le_of_ble_eq_true rfl)
 have hbl := hP.len
 have hsl : (1000001 : Nat) ≤ sizeLine := Nat.le_of_ble_eq_true rfl
 refine Qyw (i := 51) (j := 6) (q := "shlex.read_token") (dfl := .none) (names := ["self"]) (by decide +kernel) (fun T T' A L pm s₀ s₁ R hT hT' ok F hR => ?_) (fun c pm => by kernel_rfl!) (fun c pm vals A' E Q s tz hl hq => ?_) (by decide +kernel) (fun c pm => by kernel_rfl!) rfl (fun c pm y hy => ?_) (fun c pm => by kernel_rfl!) (fun c pm => by kernel_rfl!) (fun c pm => by kernel_rfl!)
 ·have hz := hT'.trans hT
  refine Qtx F ?_
  refine Qec (.d (.bool false)) (EvA.i EvA.boolC) ?_
  refine Qec (.d (.str (Str.ofString " "))) (EvA.i EvA.str) ?_
  refine g_pick (G' := rtG P false) (.cons (.cons (.cons .nil))) ?_
  intro s₃ F
  refine QCv (RtJ P tok rest fin) (P.buf.length + 1 - p) F ⟨.sp, [], p, false, rfl, rfl, hp, Nat.sub_add_cancel (Nat.le_succ_of_le hp), hrun, Nat.zero_le _, fun ζ => rfl⟩ ?_
  intro k G' I' s' κ0 F
  refine eEEEEAAAAAA (κ0) fun m tk p' q e4 e5 hp' hk hrun' htk hsp => ?_
  subst e4
  subst e5
  have hk0 : 0 < k := Nat.pos_of_ne_zero fun q => by rw [q, Nat.zero_add] at hk; exact absurd hp' (by rw [hk]; exact Nat.not_succ_le_self _)
  have hlc : (ch 0).length = 1 := rfl
  have htl : ∀ c : Nat, (tkS tk).length + (ch c).length ≤ sizeLine := fun c => by rw [QAx]; show tk.length + 1 ≤ sizeLine; lia
  have hcl : ∀ c : Nat, (ch c).length ≤ sizeLine := fun c => Nat.le_of_ble_eq_true rfl
  have goOn : ∀ {s : Shared} {m' : Md} {tk' : List Nat} {q' : Bool} {c : Str}, FI (Ds [Qfz P (.str (Str.ofString " ")) (Str.ofString ""), Qfx P p]) T' s₀ (Qbk pm L) (Qkw P q' c) [Qfz P (.str (Md.str m')) (tkS tk'), Qfx P (p' + 1)] s → p' < P.buf.length → Qdy m' tk' (P.buf.cps.toList.drop (p' + 1)) = some (tok, rest, fin) → tk'.length ≤ p' + 1 → (m' = .sp → tk' = []) →
    INx (Ds [Qfz P (.str (Str.ofString " ")) (Str.ofString ""), Qfx P p]) T' s₀ (Qbk pm L) (RtJ P tok rest fin) k s :=
   fun {s m' tk' q' c} F h1 h2 h3 h4 => ⟨k - 1, rtG P q', _, Nat.sub_lt hk0 Nat.one_pos, ⟨m', tk', p' + 1, q', rfl, rfl, h1, (by rw [Nat.add_comm p' 1, ← Nat.add_assoc, Nat.sub_add_cancel hk0]; exact hk), h2, h3, h4⟩, F.pick (.cons (.cons (.cons .nil)))⟩
  refine ⟨true, TeA.i (TeA.val (d := .bool true) EvA.boolC trivial), fun ζ s'' F => ?_, fun e => nomatch e⟩
  cases hd : P.buf.cps.toList.drop p' with
  | nil =>
   refine eAA (drop_end hp' hd) fun e1 e2 e3 => ?_
   rw [hd] at hrun'
   cases m with
   | sp => cases hrun'
   | qt => cases hrun'
   | aw =>
    rw [lexEnd] at hrun'
    have hne : tk ≠ [] := fun q => by rw [if_pos q] at hrun'; cases hrun'
    rw [if_neg hne] at hrun'
    cases hrun'
    refine rt_pre hz ok hb hp' (by rw [e1]; decide +kernel) F fun s₄ F => ?_
    rw [e1, e2] at F
    refine rt_awe hz F ok fun s₅ F => ?_
    refine rt_tail (.str (tkS tok)) hz (by rw [QAx]; lia) (.inl ⟨QAz hne, rfl⟩) F fun v s' hv kx hi => hR v s' hv kx ?_
    rw [e3] at hi
    exact hi
  | cons c r =>
   refine Qwb (drop_cons hd) fun e1 e2 e3 e4 => ?_
   rw [hd] at hrun'
   have step : ∀ {R : Flow → Shared → Prop}, (ch c == Str.ofString "\n") = false → (∀ s', FI (Ds [Qfz P (.str (Str.ofString " ")) (Str.ofString ""), Qfx P p]) T' s₀ (Qbk pm L) (Qkw P q (ch c)) [Qfz P (.str (Md.str m)) (tkS tk), Qfx P (p' + 1)] s' → Go prog w A (Qbk pm L) (rtLoop.drop 3) R s') → Go prog w A (Qbk pm L) rtLoop R s'' := fun hnl h => by
    refine rt_pre hz ok hb hp' (by rw [e1]; exact hnl) F fun s₄ F => ?_
    rw [e1, e2] at F
    exact h s₄ F
   cases m with
   | sp =>
    obtain rfl := hsp rfl
    rw [lexSp] at hrun'
    by_cases hq : c = 39
    ·subst hq
     rw [if_pos rfl] at hrun'
     refine step (by decide +kernel) fun s₄ F => ?_
     exact rt_spq hz hP.wc F ok fun s₅ F => goOn (m' := .qt) (tk' := []) F e3 (e4 ▸ hrun') (Nat.zero_le _) fun e => nomatch e
    ·rw [if_neg hq] at hrun'
     have hc : c ∈ Qsy := Classical.byContradiction fun z => by rw [if_neg z] at hrun'; cases hrun'
     rw [if_pos hc] at hrun'
     have hB := bareC c hc
     refine step hB.nl fun s₄ F => ?_
     exact rt_spc hz hB (hcl c) F ok fun s₅ F => goOn (m' := .aw) (tk' := [c]) F e3 (e4 ▸ hrun') (by simp) fun e => nomatch e
   | qt =>
    rw [lexQt] at hrun'
    by_cases hq : c = 39
    ·subst hq
     rw [if_pos rfl] at hrun'
     refine step (by decide +kernel) fun s₄ F => ?_
     exact rt_qtq hz F ok fun s₅ F => goOn (m' := .aw) (tk' := tk) F e3 (e4 ▸ hrun') (by lia) fun e => nomatch e
    ·rw [if_neg hq] at hrun'
     have hc : c ∈ QFx := Classical.byContradiction fun z => by rw [if_neg z] at hrun'; cases hrun'
     rw [if_pos hc] at hrun'
     have hB := quotC c hc
     refine step hB.nl fun s₄ F => ?_
     refine rt_qtc hz hB (hcl c) (htl c) F ok fun s₅ F => ?_
     rw [tkS_snoc] at F
     exact goOn (m' := .qt) (tk' := tk ++ [c]) F e3 (e4 ▸ hrun') (by simp; lia) fun e => nomatch e
   | aw =>
    rw [lexAw] at hrun'
    by_cases hq : c = 32
    ·subst hq
     rw [if_pos rfl] at hrun'
     have hne : tk ≠ [] := fun q => by rw [if_pos q] at hrun'; cases hrun'
     rw [if_neg hne] at hrun'
     cases hrun'
     refine step (by decide +kernel) fun s₄ F => ?_
     refine rt_aws hz (QAz hne) (by rw [QAx]; lia) F ok fun s₅ F => ?_
     refine rt_tail (.str (tkS tok)) hz (by rw [QAx]; lia) (.inl ⟨QAz hne, rfl⟩) F fun v s' hv kx hi => hR v s' hv kx ?_
     have hr : P.buf.length - rest.length = p' + 1 := by
      have h1 := congrArg List.length e4
      have h2 : P.buf.cps.toList.length = P.buf.length := by simp [Str.length]
      rw [List.length_drop] at h1
      lia
     rw [hr]
     exact hi
    ·rw [if_neg hq] at hrun'
     have hc : c ∈ Qsy := Classical.byContradiction fun z => by rw [if_neg z] at hrun'; cases hrun'
     rw [if_pos hc] at hrun'
     have hB := bareC c hc
     refine step hB.nl fun s₄ F => ?_
     refine rt_awc hz hB (hcl c) (htl c) F ok fun s₅ F => ?_
     rw [tkS_snoc] at F
     exact goOn (m' := .aw) (tk' := tk ++ [c]) F e3 (e4 ▸ hrun') (by simp; lia) fun e => nomatch e
 ·refine eE (len1 hl) fun v ρ0 => ?_
  subst ρ0
  refine wpAny_of_eq ?_ hq
  kernel_rfl!
 ·rw [List.mem_singleton.mp hy]; exact .inl (by kernel_rfl!)
theorem mt_readEnd {P:Lp}(hP:LpOk P) :
  MtI prog w 6 848 [.v (.ref P.x)] (.d .none) [Qfz P .none (Str.ofString ""), Qfx P P.buf.length] [Qfz P .none (Str.ofString ""), Qfx P P.buf.length] := by
 have hb : P.buf.length ≤ sizeLine := Nat.le_trans hP.len (Nat.le_of_ble_eq_true rfl)
 refine Qyw (i := 51) (j := 6) (q := "shlex.read_token") (dfl := .none) (names := ["self"]) (by decide +kernel) (fun T T' A L pm s₀ s₁ R hT hT' ok F hR => ?_) (fun c pm => by kernel_rfl!) (fun c pm vals A' E Q s tz hl hq => ?_) (by decide +kernel) (fun c pm => by kernel_rfl!) rfl (fun c pm y hy => ?_) (fun c pm => by kernel_rfl!) (fun c pm => by kernel_rfl!) (fun c pm => by kernel_rfl!)
 ·have hz := hT'.trans hT
  refine Qtx F ?_
  refine Qec (.d (.bool false)) (EvA.i EvA.boolC) ?_
  refine Qec (.d (.str (Str.ofString " "))) (EvA.i EvA.str) ?_
  refine g_pick (G' := rtG P false) (.cons (.cons (.cons .nil))) ?_
  intro s₃ F
  refine QCv (fun k G I => G = rtG P false ∧ I = [Qfz P .none (Str.ofString ""), Qfx P P.buf.length]) 1 F ⟨rfl, rfl⟩ ?_
  intro k G' I' s' κ1 F
  refine eA (κ1) fun ρ0 ρ1 => ?_
  subst ρ0
  subst ρ1
  refine ⟨true, TeA.i (TeA.val (d := .bool true) EvA.boolC trivial), fun ζ s'' F => ?_, fun e => nomatch e⟩
  have hd : P.buf.cps.toList.drop P.buf.length = [] := List.drop_eq_nil_of_le (by simp [Str.length])
  refine eAA (drop_end (Nat.le_refl _) hd) fun e1 e2 e3 => ?_
  refine rt_pre hz ok hb (Nat.le_refl _) (by rw [e1]; decide +kernel) F fun s₄ F => ?_
  rw [e1, e2] at F
  refine rt_none hz F fun s₅ F => ?_
  exact rt_tail .none hz (Nat.zero_le _) (.inr ⟨rfl, rfl, rfl⟩) F fun v s' hv kx hi => hR v s' hv kx hi
 ·refine eE (len1 hl) fun v ρ1 => ?_
  subst ρ1
  refine wpAny_of_eq ?_ hq
  kernel_rfl!
 ·rw [List.mem_singleton.mp hy]; exact .inl (by kernel_rfl!)
end
noncomputable abbrev Qgq : Obj := { cls := .type "collections.deque", dict := none, data := .fields #[.none, rawInt 0] }
theorem QGq : typeLookup (.type "collections.deque") "__bool__" = pure none := by rw [typeLookup_type, builtinLookup_eq_fast]; kernel_rfl
theorem slot_dq_len : Slot "collections.deque" "__len__" "collections.deque.__len__" :=
 .of (owner := "collections.deque") (n := "__len__") (by rw [typeLookup_type, builtinLookup_eq_fast]; kernel_rfl) (by decide +kernel) (by decide +kernel) (by decide +kernel)
  (by first | exact .inl (by decide +kernel) | exact .inr (by decide +kernel)) (by rw [isSubtype_type]; kernel_rfl)
theorem QHa : entryFor table "collections.deque.__len__" = some Builtin.«collections.deque.__len__» := entryFor_of_tree (by kernel_rfl)
theorem args_dq_len (a:Value) : argsOk "collections.deque.__len__" ⟨[a], []⟩ := by unfold argsOk; kernel_rfl
section
variable {prog : Program} {w : World} {A : Around} {E : Value → Shared → Prop} {s : Shared}
theorem truthy_dq {a:Addr}{Q:Bool → Shared → Prop}(ho:s.heap.get? a = some Qgq)(h:Q false { s with toks := s.toks + 1 + 1 }) : wpAny (model prog w) A (truthy (.ref a)) Q E s := by
 have hT : s.TypeIs (.ref a) "collections.deque" := ⟨_, ho, rfl⟩
 have body : ∀ A, wpAny (model prog w) A (Builtin.«len» ⟨[.ref a], []⟩) (fun fin s' => ∃ r, fin = .done (.ret r) ∧ r = .int 0 (s.toks + 1) ∧ Q false s') E s := by
  intro A
  unfold Builtin.«len»
  refine wpAny_bind (m := oneArg "len" _) (wpAny_pure ?_)
  refine wpAny_bind (m := callSpecial? (.ref a) (Str.ofString "__len__")) (wpAny_callSpecial?_slot (name := Str.ofString "__len__") hT slot_dq_len
   (wpAny_call_entry slot_dq_len hT QHa ?_ (args_dq_len _)))
  show wpAny _ _ (do retInt (← Builtin.Deque.size (.ref a))) _ _ s
  unfold Builtin.Deque.size fieldsOf
  refine wpAny_bind (wpAny_bind (wpAny_bind (wpAny_load ho ?_)))
  refine wpAny_pure (wpAny_pure (wpAny_bind (wpAny_mkInt (wpAny_pure ⟨_, rfl, ?_⟩))))
  refine wpAny_bind (wpAny_holding (wpAny_pure ?_))
  refine wpAny_bind (wpAny_letGo ?_)
  show wpAny _ _ (if ((0 : Nat) : Int) < 0 then _ else _) _ _ _
  rw [if_neg (by lia)]
  show wpAny _ _ (if ((0 : Nat) : Int) ≥ 2 ^ 63 then _ else _) _ _ _
  rw [if_neg (by lia)]
  exact wpAny_bind (wpAny_mkInt (wpAny_pure ⟨_, rfl, rfl, h⟩))
 have key : wpAny (model prog w) A (runValue (.builtin "len" ⟨[.ref a], []⟩)) (fun r s' => r = .int 0 (s.toks + 1) ∧ Q false s') E s := by
  refine wpAny_runValue (codeAny_builtin entry_len ?_)
  rw [Around.under_plainId plain_len _]
  exact wpAny_mono (body _) (fun fin s' h' => by obtain ⟨r, rfl, hq⟩ := h'; exact hq) fun ζ ζ e => e
 unfold truthy
 first
  | refine wpAny_bind (wpAny_callSpecial?_none (name := Str.ofString "__bool__") hT QGq ?_)
  | refine wpAny_bind (wpAny_pure (wpAny_bind (wpAny_callSpecial?_none (name := Str.ofString "__bool__") hT QGq ?_)))
 first
  | refine wpAny_bind (wpAny_specialOf (name := Str.ofString "__len__") hT slot_dq_len.lookup ?_)
  | refine wpAny_bind (wpAny_pure (wpAny_bind (wpAny_specialOf (name := Str.ofString "__len__") hT slot_dq_len.lookup ?_)))
 first
  | exact wpAny_bind (wpAny_mono key (fun r s' h' => by obtain ⟨rfl, hq⟩ := h'; exact wpAny_pure hq) fun ζ ζ e => e)
  | exact wpAny_bind (wpAny_pure (wpAny_bind (wpAny_mono key (fun r s' h' => by obtain ⟨rfl, hq⟩ := h'; exact wpAny_pure hq) fun ζ ζ e => e)))
end
theorem mro_dq : mroOf (.type "collections.deque") = pure [.type "collections.deque", .type "object"] := by kernel_rfl
theorem QCz : typeLookup (.type "collections.deque") "__new__" = pure (some (.builtin "collections.deque.__new__")) := by rw [typeLookup_type, builtinLookup_eq_fast]; kernel_rfl
theorem QEa : Slot "collections.deque" "__init__" "collections.deque.__init__" :=
 .of (owner := "collections.deque") (n := "__init__") (by rw [typeLookup_type, builtinLookup_eq_fast]; kernel_rfl) (by decide +kernel) (by decide +kernel) (by decide +kernel)
  (by first | exact .inl (by decide +kernel) | exact .inr (by decide +kernel)) (by rw [isSubtype_type]; kernel_rfl)
theorem called_dq : TypeCalled "collections.deque" "collections.deque.__new__" "collections.deque.__init__" :=
 ⟨by decide +kernel, by decide +kernel, ⟨_, _, mro_dq⟩, madeBy_type mro_dq QCz (by decide +kernel), by decide +kernel, by rw [isSubtype_type]; kernel_rfl, QEa⟩
theorem typeCall_dq : checkTypeCall "collections.deque" ⟨[], []⟩ = pure () := by kernel_rfl
theorem newCall_dq : checkBuiltinCall "collections.deque.__new__" ⟨[.type "collections.deque"], []⟩ = pure () := by kernel_rfl
theorem QHw : entryFor table "collections.deque.__new__" = some Builtin.«collections.deque.__new__» := entryFor_of_tree (by kernel_rfl)
theorem QDq : entryFor table "collections.deque.__init__" = some Builtin.«collections.deque.__init__» := entryFor_of_tree (by kernel_rfl)
theorem QJq (a:Value) : argsOk "collections.deque.__init__" ⟨[a], []⟩ := by unfold argsOk; kernel_rfl
theorem new_dq_args : Builtin.Deque.newArgs Builtin.Deque.ty ⟨[.type "collections.deque"], []⟩ = pure (.type "collections.deque", []) := by kernel_rfl
theorem init_dq (a:Value) : Builtin.«collections.deque.__init__» ⟨[a], []⟩ = (setField a 0 .none >>= fun ζ => Builtin.Deque.clear a >>= fun ζ => PySem.ret .none) := by kernel_rfl
section
variable {prog : Program} {w : World} {A : Around} {E : Value → Shared → Prop} {s : Shared}
theorem call_dq {Q:Value → Shared → Prop}(h:∀ h', h'.get? s.heap.objs.size = some Qgq → Kp s.heap h' → Q (.ref s.heap.objs.size) { s with heap := h' }) : wpAny (model prog w) A (call (.type "collections.deque") []) Q E s := by
 refine callType_codes (Q₁ := fun obj s₁ => obj = .ref s.heap.objs.size ∧ s₁ = { s with heap := s.heap.push Qgq }) called_dq typeCall_dq QDq ?_ fun obj s₁ h₁ => ?_
 ·refine codeAny_call_builtin (by decide +kernel) QHw ?_
  rw [newCall_dq]
  refine wpAny_pure ?_
  unfold Builtin.«collections.deque.__new__»
  rw [new_dq_args]
  refine wpAny_bind (wpAny_pure ?_)
  unfold Builtin.Deque.new
  refine wpAny_bind ?_
  rw [if_neg (by decide)]
  refine wpAny_bind (wpAny_pure ?_)
  refine wpAny_newObj_type ?_
  exact wpAny_pure ⟨rfl, rfl⟩
 ·refine eA (h₁) fun ρ0 ρ1 => ?_
  subst ρ0
  subst ρ1
  have hg : (s.heap.push Qgq).get? s.heap.objs.size = some Qgq := Heap.get?_push_size _ rfl
  refine ⟨⟨_, hg, rfl⟩, QJq _, ?_⟩
  rw [init_dq]
  refine wpAny_bind (wpAny_setField_rec (s := { s with heap := s.heap.push Qgq }) hg (by decide) fun h' hg' hs => ?_)
  have hg' : h'.get? s.heap.objs.size = some Qgq := hg'
  refine wpAny_bind ?_
  unfold Builtin.Deque.clear Builtin.Deque.items fieldsOf
  refine wpAny_bind (wpAny_bind (wpAny_bind (wpAny_load hg' (wpAny_pure (wpAny_pure ?_)))))
  refine wpAny_pure (wpAny_pure ⟨rfl, h h' hg' fun b o e => ?_⟩)
  have hb : b ≠ s.heap.objs.size := Nat.ne_of_lt (Heap.lt_size e)
  exact (hs.2 b hb).trans (Heap.get?_push_of_some _ e)
end
noncomputable def Hp.has (T:Hp)(a:Addr)(o:Obj) : Hp where
 p h := T.p h ∧ h.get? a = some o ∧ ¬ T.X a
 X := T.X
 mono h h' k x := ⟨T.mono h h' k x.1, k.kp a o x.2.2 x.2.1, x.2.2⟩
 live h x b hb := T.live h x.1 b hb
theorem Hp.has_le (T:Hp)(a:Addr)(o:Obj) : (T.has a o).le T := ⟨fun h q => q.1, fun b q => q⟩
noncomputable def Tq (P:Lp) : Hp := (Tz.has P.d1 Qgq).has P.d2 Qgq
theorem Tq.le (P:Lp) : (Tq P).le Tz := (Hp.has_le _ _ _).trans (Hp.has_le _ _ _)
theorem QCy : PyData.none.canLay0 = true := by first | rfl | simp [PyData.canLay0]
section
variable {prog : Program} {w : World} {T : Hp} {A : Around} {env : Env} {G : Gam}
theorem TeA.dq {e:Expr}{a:Addr}(h:EvA prog w T A env G e (.v (.ref a)))(ha:∀ h, T.p h → h.get? a = some Qgq)(he:autoParam (isTrue e env (eval e env) = (do let v ← eval e env; standAt e.pos; holding [v] (truthy v))) sK) : TeA prog w T A env G e false := ⟨fun E s hp hv =>
 wpAny_isTrue_value (wpAny_mono (h.of E s hp hv) (fun v s' k => by
  obtain ⟨rfl, k⟩ := k
  exact truthy_dq (ha _ (T.kt hp k)) ⟨rfl, k.trans (.tok s' _)⟩) fun ζ ζ x => x) he⟩
theorem Qrv {x:Str}{n:Nat}(ok:OkA A n)(hx:(PyData.str x).canLay0 = true) : Op2 prog w T A (compareOp .Eq) (.d (.str x)) (.d .none) (.d (.bool false)) := by
 have := op_eq (prog := prog) (w := w) (T := T) ok hx QCy (by simp [PyData.depth])
 rwa [show PyData.eqv (.str x) .none = false by simp [PyData.eqv]] at this
theorem Qov {n:Nat}(ok:OkA A n) : Op2 prog w T A (compareOp .Eq) (.d .none) (.d .none) (.d (.bool true)) := by
 have := op_eq (prog := prog) (w := w) (T := T) ok QCy QCy (by simp [PyData.depth])
 rwa [show PyData.eqv .none .none = true by simp [PyData.eqv]] at this
noncomputable abbrev gtEnv (pm:Value)(L:Addr) : Env := callEnvC (fdM 51 5 "shlex.get_token" (.ref (841 - 1)) pm .none) L 841
theorem gt_pre {W:Addr → Prop}{s₀ s:Shared}{P:Lp}{st:PyData}{p n:Nat}{pm:Value}{L:Addr}{R:Flow → Shared → Prop}{d:PyData}{I':List Ins}(hT:T.le (Tq P))(ok:OkA A (n + 6))(hd:scal d = true)
  (ct : MtI prog w 6 848 [.v (.ref P.x)] (.d d) [Qfz P st (Str.ofString ""), Qfx P p] I') (hI' : I'.map (fun i => (i.x, i.D)) = [Qfz P st (Str.ofString ""), Qfx P p].map fun i => (i.x, i.D))
  (F : FI W T s₀ (gtEnv pm L) [("self", .v (.ref P.x))] [Qfz P st (Str.ofString ""), Qfx P p] s)
  (h : ∀ s', FI W T s₀ (gtEnv pm L) [("raw", .d d), ("self", .v (.ref P.x))] I' s' → Go prog w A (gtEnv pm L) ((Qmk 51 5).drop 2) R s') : Go prog w A (gtEnv pm L) (Qmk 51 5) R s := by
 have hz := hT.trans (Tq.le P)
 have hd1 : ∀ {I : List Ins}, ∀ h, (T.ins I).p h → h.get? P.d1 = some Qgq := fun h q => (hT.p h q.1).1.2.1
 refine Qsa F (TeA.i (TeA.dq (Qfj (T' := T) (.v (.ref P.d1)) hz (EvA.name (.v (.ref P.x)))) hd1)) fun s₁ F => Qaw ?_
 refine Qvw (.d d) (I' := I') (fun E => Qrj (I := [Qfz P st (Str.ofString ""), Qfx P p]) (I' := I') (i := Qfz P st (Str.ofString "")) hz hz ok F ct (EvA.name (.v (.ref P.x))) (.head _) .nil' (fun i hi => hi) F.ap (fun j hj => .inl hj) hI') fun s₃ F => ?_
 exact h _ F
theorem mt_getTok {P:Lp}(hP:LpOk P){p:Nat}(hp:p ≤ P.buf.length){tok rest:List Nat}{fin:Bool}(hrun:Qdy .sp [] (P.buf.cps.toList.drop p) = some (tok, rest, fin))(hlay:(PyData.str (tkS tok)).canLay0 = true) :
  MtT (Tq P) prog w 7 841 [.v (.ref P.x)] (.d (.str (tkS tok))) [Qfz P (.str (Str.ofString " ")) (Str.ofString ""), Qfx P p] [Qfz P (stOf fin) (Str.ofString ""), Qfx P (P.buf.length - rest.length)] := by
 refine QBv (Tq.le P) (i := 51) (j := 5) (q := "shlex.get_token") (dfl := .none) (names := ["self"]) (by decide +kernel) (fun T T' A L pm s₀ s₁ R hT hT' ok F hR => ?_) (fun c pm => by kernel_rfl!) (fun c pm vals A' E Q s tz hl hq => ?_) (by decide +kernel) (fun c pm => by kernel_rfl!) rfl (fun c pm y hy => ?_) (fun c pm => by kernel_rfl!) (fun c pm => by kernel_rfl!) (fun c pm => by kernel_rfl!)
 ·have hq := hT'.trans hT
  have hz := hq.trans (Tq.le P)
  refine gt_pre (n := 0) hq ok rfl (mt_readTok hP hp hrun) rfl F fun s₂ F => ?_
  refine Qsa F (TeA.i (TeA.cmp (Qfj (T' := T') (.d .none) hz (EvA.name (.v (.ref P.x)))) EvA.noneC Qob)) fun s₁ F => Qaw ?_
  refine QCv (fun k G I => G = ([("raw", .d (.str (tkS tok))), ("self", .v (.ref P.x))] : Gam) ∧ I = [Qfz P (stOf fin) (Str.ofString ""), Qfx P (P.buf.length - rest.length)]) 0 F ⟨rfl, rfl⟩ ?_
  intro k G' I' s' κ0 F
  refine eA (κ0) fun ρ0 ρ1 => ?_
  subst ρ0
  subst ρ1
  refine ⟨false, TeA.i (TeA.cmp (EvA.name (.d (.str (tkS tok)))) (Qfj (T' := T') (.d .none) hz (EvA.name (.v (.ref P.x)))) (Qrv ok hlay)), fun e => (nomatch e), fun ζ s₃ F => ?_⟩
  refine Qsa F (TeA.i (TeA.cmp (b := false) (Qfj (T' := T') (.d (.int 0)) hz (EvA.name (.v (.ref P.x)))) (EvA.int (x := 1)) Qlw)) fun s₁ F => Qaw ?_
  exact Qhy (.d (.str (tkS tok))) F (EvA.i (EvA.name (.d (.str (tkS tok))))) fun v s' hv F => hR v s' hv F.f.kt F.i
 ·refine eE (len1 hl) fun v ρ0 => ?_
  subst ρ0
  refine wpAny_of_eq ?_ hq
  kernel_rfl!
 ·rw [List.mem_singleton.mp hy]; exact .inl (by kernel_rfl!)
theorem mt_getEnd {P:Lp}(hP:LpOk P) :
  MtT (Tq P) prog w 7 841 [.v (.ref P.x)] (.d .none) [Qfz P .none (Str.ofString ""), Qfx P P.buf.length] [Qfz P .none (Str.ofString ""), Qfx P P.buf.length] := by
 refine QBv (Tq.le P) (i := 51) (j := 5) (q := "shlex.get_token") (dfl := .none) (names := ["self"]) (by decide +kernel) (fun T T' A L pm s₀ s₁ R hT hT' ok F hR => ?_) (fun c pm => by kernel_rfl!) (fun c pm vals A' E Q s tz hl hq => ?_) (by decide +kernel) (fun c pm => by kernel_rfl!) rfl (fun c pm y hy => ?_) (fun c pm => by kernel_rfl!) (fun c pm => by kernel_rfl!) (fun c pm => by kernel_rfl!)
 ·have hq := hT'.trans hT
  have hz := hq.trans (Tq.le P)
  have hd2 : ∀ {I : List Ins}, ∀ h, (T'.ins I).p h → h.get? P.d2 = some Qgq := fun h q => (hq.p h q.1).2.1
  refine gt_pre (n := 0) hq ok rfl (mt_readEnd hP) rfl F fun s₂ F => ?_
  refine Qsa F (TeA.i (TeA.cmp (Qfj (T' := T') (.d .none) hz (EvA.name (.v (.ref P.x)))) EvA.noneC Qob)) fun s₁ F => Qaw ?_
  refine QCv (fun k G I => G = ([("raw", .d .none), ("self", .v (.ref P.x))] : Gam) ∧ I = [Qfz P .none (Str.ofString ""), Qfx P P.buf.length]) 0 F ⟨rfl, rfl⟩ ?_
  intro k G' I' s' κ1 F
  refine eA (κ1) fun ρ2 ρ3 => ?_
  subst ρ2
  subst ρ3
  refine ⟨true, TeA.i (TeA.cmp (EvA.name (.d .none)) (Qfj (T' := T') (.d .none) hz (EvA.name (.v (.ref P.x)))) (Qov ok)), fun ζ s₃ F => ?_, fun e => (nomatch e)⟩
  refine i_ifT F (TeA.i (TeA.not (b := false) (TeA.dq (Qfj (T' := T') (.v (.ref P.d2)) hz (EvA.name (.v (.ref P.x)))) hd2))) fun s₁ F => ?_
  exact Qhy (.d .none) F (EvA.i (Qfj (T' := T') (.d .none) hz (EvA.name (.v (.ref P.x))))) fun v s' hv F => hR v s' hv F.f.kt F.i
 ·refine eE (len1 hl) fun v ρ1 => ?_
  subst ρ1
  refine wpAny_of_eq ?_ hq
  kernel_rfl!
 ·rw [List.mem_singleton.mp hy]; exact .inl (by kernel_rfl!)
end
noncomputable def Frs (h:Heap)(l:List Env) : Prop := ∀ env ∈ l, env.scope.kind ≠ .module ∧ ∃ L o, env.frame = some L ∧ h.get? L = some o ∧ ∀ vs, o.data ≠ .fields vs
theorem Frs.fun {h h':Heap}{as:List Addr}(hl:∀ b o, h.get? b = some o → (∀ vs, o.data ≠ .fields vs) → ∃ o', h'.get? b = some o' ∧ o'.data = o.data) : ∀ {l:List Env}, Frs h l → (∀ env ∈ l, ∀ a, env.frame = some a → a ∈ as) → h'.FunFrames (PySem.W.hideAll h as) l
 | [], _, _ => trivial
 | env :: l, f, ha => by
  refine Qlq (f env (.head _)) fun hk L o hf ho hd => ?_
  refine eEA (hl L o ho hd) fun o' ho' hd' => ?_
  exact ⟨hk, ⟨L, o', hf, PySem.W.hideAll_none _ (ha env (.head _) L hf), ho', fun vs => hd' ▸ hd vs⟩, Frs.fun hl (fun e he => f e (.tail _ he)) fun e he => ha e (.tail _ he)⟩
noncomputable abbrev fra (l:List Env) : List Addr := l.filterMap (·.frame)
structure SlK (as : List Addr) (h h' : Heap) : Prop where
 kp : ∀ b o, b ∉ as → h.get? b = some o → h'.get? b = some o
 sl : ∀ b o, h.get? b = some o → (∀ vs, o.data ≠ .fields vs) → ∃ sl, h'.get? b = some { o with slots := sl }
section
variable {M : Model} {A : Around} {E : Value → Shared → Prop} {s : Shared}
theorem leave_exact {env:Env}{outer:List Env}{L e:Addr}{h₀:Heap}{X:String}{Q:Unit → Shared → Prop}(hfr:A.frames = some (env :: outer))(hf:env.frame = some L)(hl:Frs h₀ (env :: outer))(hx:Heap.MadeExc h₀ s.heap e X [])
  (h : ∀ h', SlK (fra (env :: outer)) h₀ h' → (∃ o, h'.get? e = some o ∧ o.cls = .type X) → Q () { s with heap := h' }) : wpAny M A (leaving env (.ref e)) Q E s := by
 refine Qpj (hx.there) fun t he ht htt => ?_
 have hmem : ∀ env' ∈ env :: outer, ∀ a, env'.frame = some a → a ∈ fra (env :: outer) := fun env' hm a ha => List.mem_filterMap.mpr ⟨env', hm, ha⟩
 refine wpAny_leaving_first (base := PySem.W.hideAll h₀ (fra (env :: outer))) hfr (Frs.fun (h' := s.heap) (fun b o hb ζ => ⟨o, hx.keeps b o hb, rfl⟩) hl hmem) hf he (fun b o hb => hx.keeps b o (PySem.W.of_hideAll _ hb)) ?_ rfl rfl fun h' hL => ?_
 ·cases hq : (PySem.W.hideAll h₀ (fra (env :: outer))).get? e with
  | none => rfl
  | some o' => have := PySem.W.of_hideAll _ hq; rw [hx.new] at this; cases this
 ·refine Qwb (hL) fun k1 k2 ν0 k4 => ?_
  obtain ⟨oe, vs, T, oT, ts, q1, q2, _⟩ := ν0
  exact h h' ⟨fun b o hb e => k1 b o (PySem.W.hideAll_get _ e hb), fun b o e hd => k4 b o (hx.keeps b o e) hd⟩ ⟨oe, q1, q2⟩
end
section
variable {prog : Program} {w : World}
theorem ifT_x {W:Addr → Prop}{T:Hp}{A:Around}{env:Env}{s₀ s:Shared}{G:Gam}{I:List Ins}{test:Expr}{body orelse:List Stmt}{pos:Pos}{Q:Flow → Shared → Prop}{E:Value → Shared → Prop}(F:FI W T s₀ env G I s)(ht:TeI prog w T A env G I test true)
  (h : ∀ s', FI W T s₀ env G I s' → wpAny (model prog w) A (execs body env) Q E s') : wpAny (model prog w) A (exec (.If test body orelse pos) env) Q E s :=
 wpAny_If (wpAny_mono (ht.of _ s F.f.t F.f.vw F.i) (fun r s' k => by
  obtain ⟨rfl, k⟩ := k
  exact h s' (F.kept k)) fun ζ ζ x => x)
theorem mt_next {P:Lp}(hP:LpOk P){p:Nat}(hp:p ≤ P.buf.length){tok rest:List Nat}{fin:Bool}(hrun:Qdy .sp [] (P.buf.cps.toList.drop p) = some (tok, rest, fin))(hlay:(PyData.str (tkS tok)).canLay0 = true) :
  MtT (Tq P) prog w 8 877 [.v (.ref P.x)] (.d (.str (tkS tok))) [Qfz P (.str (Str.ofString " ")) (Str.ofString ""), Qfx P p] [Qfz P (stOf fin) (Str.ofString ""), Qfx P (P.buf.length - rest.length)] := by
 refine QBv (Tq.le P) (i := 51) (j := 10) (q := "shlex.__next__") (dfl := .none) (names := ["self"]) (by decide +kernel) (fun T T' A L pm s₀ s₁ R hT hT' ok F hR => ?_) (fun c pm => by kernel_rfl!) (fun c pm vals A' E Q s tz hl hq => ?_) (by decide +kernel) (fun c pm => by kernel_rfl!) rfl (fun c pm y hy => ?_) (fun c pm => by kernel_rfl!) (fun c pm => by kernel_rfl!) (fun c pm => by kernel_rfl!)
 ·have hq := hT'.trans hT
  have hz := hq.trans (Tq.le P)
  refine Qvw (.d (.str (tkS tok))) (I' := [Qfz P (stOf fin) (Str.ofString ""), Qfx P (P.buf.length - rest.length)]) (fun E => Qrj (I := [Qfz P (.str (Str.ofString " ")) (Str.ofString ""), Qfx P p]) (i := Qfz P (.str (Str.ofString " ")) (Str.ofString "")) hz hq ok F (mt_getTok hP hp hrun hlay) (EvA.name (.v (.ref P.x))) (.head _) .nil' (fun i hi => hi) F.ap (fun j hj => .inl hj) rfl) fun s₃ F => ?_
  refine Qsa F (TeA.i (TeA.cmp (EvA.name (.d (.str (tkS tok)))) (Qfj (T' := T') (.d .none) hz (EvA.name (.v (.ref P.x)))) (Qrv ok hlay))) fun s₁ F => Qaw ?_
  exact Qhy (.d (.str (tkS tok))) F (EvA.i (EvA.name (.d (.str (tkS tok))))) fun v s' hv F => hR v s' hv F.f.kt F.i
 ·refine eE (len1 hl) fun v ρ1 => ?_
  subst ρ1
  refine wpAny_of_eq ?_ hq
  kernel_rfl!
 ·rw [List.mem_singleton.mp hy]; exact .inl (by kernel_rfl!)
theorem mt_iter {P:Lp}{I:List Ins} : MtI prog w 1 870 [.v (.ref P.x)] (.v (.ref P.x)) I I := by
 refine Qyw (i := 51) (j := 9) (q := "shlex.__iter__") (dfl := .none) (names := ["self"]) (by decide +kernel) (fun T T' A L pm s₀ s₁ R hT hT' ok F hR => ?_) (fun c pm => by kernel_rfl!) (fun c pm vals A' E Q s tz hl hq => ?_) (by decide +kernel) (fun c pm => by kernel_rfl!) rfl (fun c pm y hy => ?_) (fun c pm => by kernel_rfl!) (fun c pm => by kernel_rfl!) (fun c pm => by kernel_rfl!)
 ·exact Qhy (.v (.ref P.x)) F (EvA.i (EvA.name (.v (.ref P.x)))) fun v s' hv F => hR v s' hv F.f.kt F.i
 ·refine eE (len1 hl) fun v ρ2 => ?_
  subst ρ2
  refine wpAny_of_eq ?_ hq
  kernel_rfl!
 ·rw [List.mem_singleton.mp hy]; exact .inl (by kernel_rfl!)
noncomputable abbrev QBz (pm:Value)(L:Addr) : Env := callEnvC (fdM 51 10 "shlex.__next__" (.ref (877 - 1)) pm .none) L 877
theorem next_stop {P:Lp}(hP:LpOk P){T:Hp}{A:Around}{outer:List Env}{s:Shared}{R:Result → Shared → Prop}(hT:T.le (Tq P))(ok:OkA A 9)(hfr:A.frames = some outer)(hfo:Frs s.heap outer)(hfX:∀ b ∈ fra outer, T.X b ∧ b ≠ P.D ∧ b ≠ P.sD)
  (hp : T.p s.heap) (hI : Own3 T [Qfz P .none (Str.ofString ""), Qfx P P.buf.length] s.heap)
  (hR : ∀ e h' tk, (∀ b o, b ∉ fra outer → b ≠ P.D → b ≠ P.sD → s.heap.get? b = some o → h'.get? b = some o) → (∀ b ∈ fra outer, ∀ o, s.heap.get? b = some o → ∃ sl, h'.get? b = some { o with slots := sl }) → (∃ o, h'.get? e = some o ∧ o.cls = .type "StopIteration") →
   InsAt h' (Qfz P .none (Str.ofString "")) → InsAt h' (Qfx P P.buf.length) → R (.error (.ref e)) { s with heap := h', toks := tk }) :
  codeAny (model prog w) A (.call (.ref 877) ⟨[.ref P.x], []⟩) R s := by
 have tz := (hT.trans (Tq.le P)).p _ hp
 refine eE (tz.meth 877 51 10 "shlex.__next__" .none (by decide +kernel)) fun pm hf => ?_
 refine Qha (T := T) (I := [Qfz P .none (Str.ofString ""), Qfx P P.buf.length]) (body := Qmk 51 10) (names := ["self"]) (as := [.v (.ref P.x)]) (n := 8) hf ok tz.p.lim hp hI (by kernel_rfl!) (fun E Q hq => ?_) (by decide +kernel) (by kernel_rfl!) rfl (fun y hy => ?_) (by kernel_rfl!) (by kernel_rfl!) (by kernel_rfl!) (fun sb s₁ kb F ok' => ?_)
 ·refine wpAny_of_eq ?_ (hq [.ref P.x] _ (.refl _) ⟨_, _, rfl, rfl, rfl⟩)
  kernel_rfl!
 ·rw [List.mem_singleton.mp hy]; exact .inl (by kernel_rfl!)
 have hle := Hp.push_le T (Qba (QBz pm sb.heap.objs.size))
 have hq := hle.trans hT
 have hz := hq.trans (Tq.le P)
 have hzi : ∀ {I : List Ins}, ((T.push (Qba (QBz pm sb.heap.objs.size))).ins I).le Tz := Hp.ins_z hz
 refine wpAny_execs_cons (wpAny_Assign_Name (hs := by kernel_rfl!) (wpAny_mono (Qrj (I := [Qfz P .none (Str.ofString ""), Qfx P P.buf.length]) (J' := [Qfz P .none (Str.ofString ""), Qfx P P.buf.length]) (i := Qfz P .none (Str.ofString "")) hz hq ok' F (mt_getEnd hP) (EvA.name (.v (.ref P.x))) (.head _) .nil' (fun i hi => hi) F.ap (fun j hj => .inl hj) rfl) (fun v s₂ k => k.2.store (.d .none) (by kernel_rfl!) (.inl (by kernel_rfl!)) k.1 fun s₃ F3 => ?_) fun ζ ζ x => x))
 refine wpAny_execs_cons (ifT_x F3 (TeA.i (TeA.cmp (EvA.name (.d .none)) (Qfj (T' := T) (.d .none) hz (EvA.name (.v (.ref P.x)))) (Qov ok'))) fun s₄ F4 => ?_)
 refine wpAny_execs_cons (PySem.W.owsi_raiseC ok'.handled ?_ fun h' e hx => ?_)
 ·have st := (hz.p _ F4.f.t).stopTn
  refine Qpj (st.g) fun mg hn ζ h1 => ?_
  refine eEA (st.b) fun mb hn' h2 => ?_
  exact Name_function_global (by kernel_rfl!) (by kernel_rfl!) (loadGlobal_builtin hn (h1 "StopIteration" (.type "StopIteration") rfl) hn' (h2 "StopIteration" (.type "StopIteration") rfl) ⟨rfl, rfl⟩) (by kernel_rfl!)
 refine eEA (F4.f.ns) fun m4 hn4 hm4 => ?_
 have kx := F4.f.kt.kp
 have hDs : ∀ b, Ds [Qfz P .none (Str.ofString ""), Qfx P P.buf.length] b → b = P.D ∨ b = P.sD := fun b ⟨i, hi, e⟩ => by
  rcases List.mem_cons.mp hi with rfl | hi
  ·exact .inl e
  ·rw [List.mem_singleton.mp hi] at e; exact .inr e
 have keep4 : ∀ b o, b ≠ P.D → b ≠ P.sD → s.heap.get? b = some o → s₄.heap.get? b = some o := fun b o h1 h2 e => kx.kp b o (fun q => (hDs b q).elim h1 h2) (kb.kp b o e)
 have hloc : (QBz pm sb.heap.objs.size).frame = some (QBz pm sb.heap.objs.size).locals := by kernel_rfl!
 have hnew : ¬ Qaa s.heap (QBz pm sb.heap.objs.size).locals := fun ⟨o, e⟩ => Qax (h := sb.heap) (Nat.le_refl sb.heap.objs.size) ⟨o, kb.kp _ o e⟩
 refine leave_exact (h₀ := s₄.heap) (outer := outer) (Around.frames_deeper hfr) hloc (fun env hm => ?_) hx fun h'' sk he => ?_
 ·rcases List.mem_cons.mp hm with rfl | hm
  ·refine Qgz (hn4) fun o es ep ho hd ζ => ?_
   have hkf : (QBz pm sb.heap.objs.size).scope.kind = .function := by kernel_rfl!
   exact ⟨(fun q => by rw [hkf] at q; cases q), _, o, hloc, ho, (fun vs q => by rw [hd] at q; cases q)⟩
  ·refine Qlq (hfo env hm) fun hk L o hfL ho hd => ?_
   refine eAA (hfX L (List.mem_filterMap.mpr ⟨env, hm, hfL⟩)) fun ζ q2 q3 => ?_
   exact ⟨hk, L, o, hfL, keep4 L o q2 q3 ho, hd⟩
 ·have hfra : fra (QBz pm sb.heap.objs.size :: outer) = (QBz pm sb.heap.objs.size).locals :: fra outer := rfl
  refine Qfw (F4.f.kt.of) fun ha tka ea ζ => ?_
  refine Qfw (kb.of) fun hb tkb eb ζ => ?_
  subst eb
  dsimp only at ea hx sk
  subst ea
  have hnl : ∀ b o, s.heap.get? b = some o → b ≠ (QBz pm hb.objs.size).locals := fun b o e q => hnew (q ▸ ⟨o, e⟩)
  refine hR e h'' _ (fun b o h1 h2 h3 e => sk.kp b o (fun q => ?_) (keep4 b o h2 h3 e)) (fun b hm o e => ?_) he ?_ ?_
  ·rw [hfra] at q
   exact (List.mem_cons.mp q).elim (hnl b o e) h1
  ·refine eEA (List.mem_filterMap.mp hm) fun env hme hfe => ?_
   refine Qlq (hfo env hme) fun hk L o' hfL ho hd => ?_
   rw [hfe] at hfL; cases hfL
   rw [e] at ho; cases ho
   refine eAA (hfX b hm) fun ζ q2 q3 => ?_
   exact sk.sl b o (keep4 b o q2 q3 e) hd
  ·refine (F4.i _ (.head _)).at (fun o e => sk.kp _ o (fun q => ?_) e) fun o e => sk.kp _ o (fun q => ?_) e
   ·rw [hfra] at q
    exact (List.mem_cons.mp q).elim (fun q => F4.x _ (.head _) (q ▸ F4.f.loX)) fun q => hI.x _ (.head _) (hfX _ q).1
   ·rw [hfra] at q
    exact (List.mem_cons.mp q).elim (F4.w _ (.head _)).2.2.1 fun q => (hfX _ q).2.1 rfl
  ·refine (F4.i _ (.tail _ (.head _))).at (fun o e => sk.kp _ o (fun q => ?_) e) fun o e => sk.kp _ o (fun q => ?_) e
   ·rw [hfra] at q
    exact (List.mem_cons.mp q).elim (fun q => F4.x _ (.tail _ (.head _)) (q ▸ F4.f.loX)) fun q => hI.x _ (.tail _ (.head _)) (hfX _ q).1
   ·rw [hfra] at q
    exact (List.mem_cons.mp q).elim (F4.w _ (.tail _ (.head _))).2.2.1 fun q => (hfX _ q).2.2 rfl
end
noncomputable abbrev lstObj (acc:Array Value)(c:Nat) : Obj := { cls := .type "list", dict := none, data := .seq acc c, slots := #[] }
structure Wlk (prog : Program) (w : World) (A : Around) (I S : Addr) (n : Nat) (P : Nat → Value → Prop) (St : Nat → Shared → Prop) (Fin : Shared → Prop) : Prop where
 frame : ∀ i (s : Shared) h', St i s → Qaa h' S → (∀ b o, b ≠ S → s.heap.get? b = some o → h'.get? b = some o) → St i { s with heap := h' }
 item : ∀ i (s : Shared) (Q : Option Value → Shared → Prop) (E : Value → Shared → Prop), i < n → St i s → (∀ v s', P i v → St (i + 1) s' → (∀ o, s.heap.get? S = some o → s'.heap.get? S = some o) → Q (some v) s') → wpAny (model prog w) A (pyNext (.ref I)) Q E s
 done : ∀ (s : Shared) (Q : Option Value → Shared → Prop) (E : Value → Shared → Prop), St n s → (∀ s', Fin s' → (∀ o, s.heap.get? S = some o → s'.heap.get? S = some o) → Q none s') → wpAny (model prog w) A (pyNext (.ref I)) Q E s
 self : ∀ (s : Shared) (Q : Value → Shared → Prop) (E : Value → Shared → Prop), St 0 s → (∀ s', St 0 s' → (∀ o, s.heap.get? S = some o → s'.heap.get? S = some o) → Q (.ref I) s') → wpAny (model prog w) A (pyIter (.ref I)) Q E s
section
variable {prog : Program} {w : World} {A : Around} {R : Result → Shared → Prop} {I S : Addr} {n : Nat} {P : Nat → Value → Prop} {St : Nat → Shared → Prop} {Fin : Shared → Prop}
theorem wlk_loop (W:Wlk prog w A.in1 I S n P St Fin)(hn:n ≤ sizeLine)(res:Value) :
  ∀ (k i : Nat) (s : Shared) (acc : Array Value) (c : Nat), n - i = k → i ≤ n → St i s → s.heap.get? S = some (lstObj acc c) → ItemsOf P acc i →
  (∀ s' acc' c', Fin s' → s'.heap.get? S = some (lstObj acc' c') → ItemsOf P acc' n → R (.ok (.ret res)) s') →
  codeAny (model prog w) A (.builtin "list.extend.loop" ⟨[.ref S, .ref I, res], []⟩) R s := by
 intro k
 induction k with
 | zero =>
  intro i s acc c hk hi hst hS hacc hR
  have hin : i = n := by lia
  subst hin
  refine codeAny_builtin F.entry_extend_loop ?_
  rw [Around.under_plainId F.plain_extend_loop _]
  show wpAny _ A.in1 (pyNext (.ref I) >>= _) _ _ s
  refine wpAny_bind (W.done s _ _ hst fun s' hf hk => ?_)
  exact wpAny_pure (hR s' acc c hf (hk _ hS) hacc)
 | succ k ih =>
  intro i s acc c hk hi hst hS hacc hR
  have hlt : i < n := by lia
  refine codeAny_builtin F.entry_extend_loop ?_
  rw [Around.under_plainId F.plain_extend_loop _]
  show wpAny _ A.in1 (pyNext (.ref I) >>= _) _ _ s
  refine wpAny_bind (W.item i s _ _ hlt hst fun v s' hP hst' hk' => ?_)
  have hS' := hk' _ hS
  show wpAny _ A.in1 (updateSeq S (·.push v) >>= _) _ _ _
  refine wpAny_bind ?_
  have hSu := Heap.get?_update_self (Obj.mapSeq (·.push v)) hS' rfl
  refine wpAny_updateSeq hS' rfl (wpAny_pure ⟨plainId_quiet F.plain_extend_loop _, ih (i + 1) _ (acc.push v) _ (by lia) hlt (W.frame _ s' _ hst' ⟨_, hSu⟩ fun b o hb e => ?_) hSu (hacc.push hP) hR⟩)
   (by rw [hacc.1]; lia) (by show (acc.push v).size ≤ sizeLine + 1; rw [Array.size_push, hacc.1]; lia)
  exact (Heap.get?_update_other _ _ (Ne.symm hb)).trans e
theorem QDb {T:Value}{E:Value → Shared → Prop}{s:Shared}{Q:Value → Shared → Prop}(hSe:S = s.heap.objs.size)(W:Wlk prog w A.in1.in1 I S n P St Fin)(hSI:S ≠ I)(hB:∀ s, St 0 s → Bare prog w A.in1.in1 I T s)(hT1:(T == Value.type "list") = false)(hT2:(T == Value.type "tuple") = false)
  (hst : St 0 { s with heap := s.heap.push { cls := .type "list", data := .seq #[] } }) (hn : n ≤ sizeLine)
  (hQ : ∀ s' acc' c', Fin s' → s'.heap.get? S = some (lstObj acc' c') → ItemsOf P acc' n → Q (.ref S) s') : wpAny (model prog w) A (call (.type "list") [.ref I]) Q E s := by
 subst hSe
 refine callType_codes (Q₁ := fun obj s₁ => obj = .ref s.heap.objs.size ∧ s₁ = { s with heap := s.heap.push { cls := .type "list", data := .seq #[] } }) F.called_list (F.typeCall_list_1 _) F.entry_list_init
  (code_list_new _ ⟨rfl, rfl⟩) fun obj s₁ h₁ => ?_
 refine eA (h₁) fun ρ0 ρ1 => ?_
 subst ρ0
 subst ρ1
 have hS : (s.heap.push { cls := .type "list", data := .seq #[] }).get? s.heap.objs.size = some { cls := .type "list", data := .seq #[] } := Heap.get?_push_size _ rfl
 refine ⟨⟨_, hS, rfl⟩, F.args_list_init_2 _ _, ?_⟩
 show wpAny _ A.in1.in1 (do let old ← Builtin.List.listItems (.ref s.heap.objs.size); Builtin.List.listUpdate (.ref s.heap.objs.size) (fun ζ => #[]); letGo old.toList.reverse; Builtin.List.listExtendWith (.ref s.heap.objs.size) (.ref I) .none) _ _ _
 refine wpAny_bind ?_
 unfold Builtin.List.listItems
 refine wpAny_bind (wpAny_seqItems hS rfl (wpAny_pure ?_))
 show wpAny _ A.in1.in1 (updateSeq s.heap.objs.size (fun ζ => #[]) >>= fun ζ => letGo (#[] : Array Value).toList.reverse >>= fun ζ => Builtin.List.listExtendWith (.ref s.heap.objs.size) (.ref I) .none) _ _ _
 refine wpAny_bind (wpAny_updateSeq hS rfl ?_)
 have hS₂ := Heap.get?_update_self (Obj.mapSeq (fun ζ => (#[] : Array Value))) hS rfl
 have st2 := W.frame 0 _ _ hst ⟨_, hS₂⟩ fun b o hb e => (Heap.get?_update_other _ (Obj.mapSeq (fun ζ => (#[] : Array Value))) (Ne.symm hb)).trans e
 refine wpAny_bind (wpAny_letGo ?_)
 unfold Builtin.List.listExtendWith
 refine wpAny_bind ((hB _ st2).ty _ _ ?_)
 have h1 : Builtin.List.listSameRef (.ref s.heap.objs.size) (.ref I) = false := by simp [Builtin.List.listSameRef, hSI]
 simp only [h1, hT1, hT2, Bool.or_false, Bool.false_eq_true, if_false]
 refine wpAny_bind (W.self _ _ _ st2 fun s3 st3 k3 => ?_)
 have hS₃ := k3 _ hS₂
 refine wpAny_bind (wpAny_holding ?_)
 unfold Builtin.List.listLengthHint
 refine wpAny_bind ((hB s3 st3).len _ _ ?_)
 refine wpAny_bind ((hB s3 st3).hint _ _ ?_)
 refine wpAny_pure ?_
 show wpAny _ A.in1.in1 (rule "list.extend.makes-room" >>= fun ζ => Builtin.List.listTouch (.ref s.heap.objs.size) >>= fun ζ => again (.builtin "list.extend.loop" ⟨[.ref s.heap.objs.size, .ref I, .none], []⟩)) _ _ _
 refine wpAny_bind (wpAny_rule (wpAny_bind ?_))
 show wpAny _ A.in1.in1 (updateSeq s.heap.objs.size (·.push .none) >>= fun ζ => updateSeq s.heap.objs.size (·.pop)) _ _ _
 refine wpAny_bind (wpAny_updateSeq hS₃ rfl ?_)
 have hS₄ := Heap.get?_update_self (Obj.mapSeq (·.push Value.none)) hS₃ rfl
 refine wpAny_updateSeq hS₄ rfl ?_
 have hS₅ := Heap.get?_update_self (Obj.mapSeq (·.pop)) hS₄ rfl
 have oth : ∀ b o, b ≠ s.heap.objs.size → s3.heap.get? b = some o → ((s3.heap.update s.heap.objs.size (Obj.mapSeq (·.push Value.none))).update s.heap.objs.size (Obj.mapSeq (·.pop))).get? b = some o := fun b o hb e =>
  (Heap.get?_update_other _ _ (Ne.symm hb)).trans ((Heap.get?_update_other _ _ (Ne.symm hb)).trans e)
 exact wpAny_pure ⟨plainId_quiet F.plain_extend_loop _, wlk_loop W hn .none n 0 _ _ _ rfl (Nat.zero_le _) (W.frame 0 s3 _ st3 ⟨_, hS₅⟩ oth) hS₅ (ItemsOf.nil P) fun s' acc' c' hf hS' hacc => ⟨rfl, hQ s' acc' c' hf hS' hacc⟩⟩
end
section
variable {prog : Program} {w : World} {A : Around} {E : Value → Shared → Prop} {s : Shared} {K : PySem.W.Frag} {i : Ins} {nones : List Str} {fns : List (Str × Addr)}
theorem next_ins {f:Addr}{Q:Option Value → Shared → Prop}(X:K.In s.heap)(c:ClsK K i.C nones fns)(I:InsAt s.heap i)(hf:((Str.ofString "__next__"), f) ∈ fns)
  (h : codeAny (model prog w) A (.call (.ref f) ⟨[.ref i.x], []⟩) (fun r s' => match r with
   | .ok (.ret v) => Q (some v) s'
   | .ok _ => False
   | .error e => (∃ a o, e = .ref a ∧ s'.heap.get? a = some o ∧ o.cls = .type "StopIteration") ∧ Q none s') s) : wpAny (model prog w) A (pyNext (.ref i.x)) Q E s := by
 refine eEA (I.wi) fun od I' ζ => ?_
 unfold pyNext
 refine wpAny_bind (wpAny_attempt (PySem.W.special_fn (name := "__next__") (args := []) X I' (c.fn _ hf).1 (c.fn _ hf).2 (wpAny_call (codeAny_mono h fun r s' z => ?_))))
 rcases r with e | (v | _ | _ | _)
 ·refine eA (z) fun ν0 q => ?_
  refine Qac (ν0) fun a o ρ0 ho hc => ?_
  subst ρ0
  exact wpAny_bind (Qsx ho hc (wpAny_pure q))
 all_goals first | exact wpAny_pure z | exact z.elim
theorem iter_ins {f g:Addr}{Q:Value → Shared → Prop}(X:K.In s.heap)(c:ClsK K i.C nones fns)(I:InsAt s.heap i)(hf:((Str.ofString "__iter__"), f) ∈ fns)(hg:((Str.ofString "__next__"), g) ∈ fns)
  (h : wpAny (model prog w) A (call (.ref f) [.ref i.x]) (fun v s' => v = .ref i.x ∧ K.In s'.heap ∧ InsAt s'.heap i ∧ Q (.ref i.x) s') E s) : wpAny (model prog w) A (pyIter (.ref i.x)) Q E s := by
 refine eEA (I.wi) fun od I' ζ => ?_
 have hfi := (c.fn _ hf).1
 have hty := (c.fn _ hf).2
 have fin : wpAny (model prog w) A (call (.ref f) [.ref i.x] >>= fun v => pure (some v)) (fun r s' => r = some (.ref i.x) ∧ K.In s'.heap ∧ InsAt s'.heap i ∧ Q (.ref i.x) s') E s :=
  wpAny_bind (wpAny_mono h (fun v s' h' => wpAny_pure ⟨by rw [h'.1], h'.2⟩) fun ζ ζ z => z)
 have one : ∀ refuse : Sem Value, wpAny (model prog w) A (callSpecialIfBoundUnlessNone? (.ref i.x) "__iter__" refuse) (fun r s' => r = some (.ref i.x) ∧ K.In s'.heap ∧ InsAt s'.heap i ∧ Q (.ref i.x) s') E s := by
  intro refuse
  unfold callSpecialIfBoundUnlessNone? bindSpecialIfBound?
  refine wpAny_holding (wpAny_bind (wpAny_bind (wpAny_bind (I'.type.here ((PySem.W.looks_findIn X hfi).here ?_)))))
  refine wpAny_bind (wpAny_askSetting (wpAny_ite ?_))
  have fin2 : wpAny (model prog w) A (if (Value.ref f == Value.none) = true then (refuse >>= fun v => pure (some v)) else (call (.ref f) [.ref i.x] >>= fun v => pure (some v))) (fun r s' => r = some (.ref i.x) ∧ K.In s'.heap ∧ InsAt s'.heap i ∧ Q (.ref i.x) s') E s := by
   rw [if_neg (show ¬ ((Value.ref f == Value.none) = true) from Bool.false_ne_true)]
   exact fin
  split
  ·exact wpAny_bind ((PySem.W.bind_fn X _ hty).here (wpAny_pure (by exact fin2)))
  ·exact wpAny_tryCatch (wpAny_bind ((PySem.W.bind_fn X _ hty).here (wpAny_pure (by exact fin2))))
 unfold pyIter
 refine wpAny_bind (wpAny_bind (I'.type.here ((PySem.W.looks_findIn X hfi).here ?_)))
 show wpAny (model prog w) A (callSpecialIfBoundUnlessNone? (.ref i.x) "__iter__" _ >>= _) Q E s
 refine wpAny_bind (wpAny_mono (one _) (fun r s' hr => ?_) fun ζ ζ z => z)
 refine Qwb (hr) fun ρ1 hK hI hq => ?_
 subst ρ1
 refine eEA (hI.wi) fun od2 I2 ζ => ?_
 exact wpAny_bind (wpAny_bind (I2.type.here ((PySem.W.looks_findIn hK (c.fn _ hg).1).here (wpAny_pure hq))))
end
inductive Toks : List Nat → List (List Nat) → Prop
 | last {l t : List Nat} : Qdy .sp [] l = some (t, [], true) → Toks l [t]
 | more {l t r : List Nat} {ts : List (List Nat)} : Qdy .sp [] l = some (t, r, false) → Toks r ts → Toks l (t :: ts)
theorem Qtv {c:Nat}{l r:List Nat}(h:∃ pre, l = pre ++ r) : ∃ pre, c :: l = pre ++ r := h.elim fun p e => ⟨c :: p, congrArg (c :: ·) e⟩
theorem Qeb : ∀ (m:Md)(tk l t r:List Nat)(b:Bool), Qdy m tk l = some (t, r, b) → ∃ pre, l = pre ++ r
 | .sp, tk, [], t, r, b, h => nomatch h
 | .sp, tk, c :: l, t, r, b, h => QGk (lexSp.symm.trans h) (fun ζ h => Qtv (Qeb _ _ l t r b h)) fun ζ h => QGk h (fun ζ h => Qtv (Qeb _ _ l t r b h)) fun ζ h => nomatch h
 | .qt, tk, [], t, r, b, h => nomatch h
 | .qt, tk, c :: l, t, r, b, h => QGk (lexQt.symm.trans h) (fun ζ h => Qtv (Qeb _ _ l t r b h)) fun ζ h => QGk h (fun ζ h => Qtv (Qeb _ _ l t r b h)) fun ζ h => nomatch h
 | .aw, tk, [], t, r, b, h => QGk (lexEnd.symm.trans h) (fun ζ h => nomatch h) fun ζ h => ⟨[], (Prod.mk.inj (Prod.mk.inj (Option.some.inj h)).2).1⟩
 | .aw, tk, c :: l, t, r, b, h => QGk (lexAw.symm.trans h) (fun ζ h => QGk h (fun ζ h => nomatch h) fun ζ h => ⟨[c], congrArg (c :: ·) (Prod.mk.inj (Prod.mk.inj (Option.some.inj h)).2).1⟩) fun ζ h => QGk h (fun ζ h => Qtv (Qeb _ _ l t r b h)) fun ζ h => nomatch h
theorem Qxa {buf:Str}{p:Nat}{l pre r:List Nat}(hp:p ≤ buf.length)(h:buf.cps.toList.drop p = l)(e:l = pre ++ r) : buf.cps.toList.drop (buf.length - r.length) = r ∧ buf.length - r.length ≤ buf.length := by
 have hl : buf.cps.toList.length = buf.length := by simp [Str.length]
 have h1 : buf.cps.toList = (buf.cps.toList.take p ++ pre) ++ r := by
  rw [List.append_assoc, ← e, ← h, List.take_append_drop]
 have h2 : (buf.cps.toList.take p ++ pre).length = buf.length - r.length := by
  have := congrArg List.length h1
  rw [List.length_append] at this
  lia
 refine ⟨?_, Nat.sub_le _ _⟩
 generalize buf.cps.toList.take p ++ pre = q at h1 h2
 rw [← h2, h1]
 exact List.drop_left
noncomputable abbrev lexN (P:Lp)(st:PyData) : Ins := Qfz P st (Str.ofString "")
noncomputable def LxAt (P:Lp)(toks:List (List Nat))(i:Nat)(h:Heap) : Prop :=
 ∃ p st, InsAt h (lexN P st) ∧ InsAt h (Qfx P p) ∧ ((i < toks.length ∧ st = .str (Str.ofString " ") ∧ p ≤ P.buf.length ∧ Toks (P.buf.cps.toList.drop p) (toks.drop i)) ∨ (i = toks.length ∧ st = .none ∧ p = P.buf.length))
noncomputable def Grown (P:Lp)(S:Addr)(s₀ s:Shared) : Prop := ∃ h tk, s = { s₀ with heap := h, toks := tk } ∧ KpX (fun b => b = S ∨ b = P.D ∨ b = P.sD) s₀.heap h
theorem Grown.more {P:Lp}{S:Addr}{s₀ s s':Shared}(g:Grown P S s₀ s)(k:KtX (fun b => b = S ∨ b = P.D ∨ b = P.sD) s s') : Grown P S s₀ s' := by
 refine Qfw (g) fun h tk ρ2 kx => ?_
 subst ρ2
 refine Qfw (k.of) fun h' tk' ρ3 kx' => ?_
 subst ρ3
 exact ⟨h', tk', rfl, kx.trans kx'⟩
noncomputable def FinAt (P:Lp)(S:Addr)(outer:List Env)(s₀ s:Shared) : Prop := ∃ h tk, s = { s₀ with heap := h, toks := tk } ∧ (∀ b o, b ∉ fra outer → b ≠ S → b ≠ P.D → b ≠ P.sD → s₀.heap.get? b = some o → h.get? b = some o) ∧ (∀ b ∈ fra outer, ∀ o, s₀.heap.get? b = some o → ∃ sl, h.get? b = some { o with slots := sl })
section
variable {prog : Program} {w : World} {A : Around}
set_option tactic.hygienic true in
theorem wlk_lex {P:Lp}(hP:LpOk P){T:Hp}{S:Addr}{outer:List Env}{s₀:Shared}{toks:List (List Nat)}(hT:T.le (Tq P))(ok:OkA A 10)(hfr:A.frames = some outer)(hfo:Frs s₀.heap outer)(hfX:∀ b ∈ fra outer, T.X b ∧ b ≠ P.D ∧ b ≠ P.sD ∧ b ≠ S)
  (hp : T.p s₀.heap) (hX : ¬ T.X P.x ∧ ¬ T.X P.sx) (hD : T.X P.D ∧ T.X P.sD ∧ T.X S) (hne : P.D ≠ P.sD ∧ S ≠ P.D ∧ S ≠ P.sD) (hlay : ∀ t ∈ toks, (PyData.str (tkS t)).canLay0 = true) (hSx : S ≠ P.x ∧ S ≠ P.sx) :
  Wlk prog w A P.x S toks.length (fun i v => ∃ t, v = .str (tkS (toks.getD i [])) t) (fun i s => Grown P S s₀ s ∧ LxAt P toks i s.heap) (FinAt P S outer s₀) := by
 have hTp : ∀ {s}, Grown P S s₀ s → T.p s.heap := fun {s} g => by
  refine Qfw (g) fun h tk ρ4 kx => ?_
  subst ρ4
  exact T.mono _ _ (kx.wider fun b hb => hb.elim (fun q => q ▸ hD.2.2) fun q => q.elim (fun q => q ▸ hD.1) fun q => q ▸ hD.2.1) hp
 have own : ∀ {h : Heap} {st : PyData} {p : Nat}, InsAt h (lexN P st) → InsAt h (Qfx P p) → Own3 T [lexN P st, Qfx P p] h := fun a b =>
  ⟨fun i hi => by
   rcases List.mem_cons.mp hi with rfl | hi
   ·exact a
   ·rw [List.mem_singleton.mp hi]; exact b,
  fun i hi => by
   rcases List.mem_cons.mp hi with rfl | hi
   ·exact hD.1
   ·rw [List.mem_singleton.mp hi]; exact hD.2.1,
  fun i hi => by
   rcases List.mem_cons.mp hi with rfl | hi
   ·exact hX.1
   ·rw [List.mem_singleton.mp hi]; exact hX.2,
  List.pairwise_cons.mpr ⟨fun j hj => by rw [List.mem_singleton.mp hj]; exact hne.1, List.pairwise_singleton _ _⟩⟩
 have hDs : ∀ {st : PyData} {p : Nat} b, Ds [lexN P st, Qfx P p] b → b = S ∨ b = P.D ∨ b = P.sD := fun b ⟨i, hi, e⟩ => by
  rcases List.mem_cons.mp hi with rfl | hi
  ·exact .inr (.inl e)
  ·rw [List.mem_singleton.mp hi] at e; exact .inr (.inr e)
 have hDS : ∀ {st : PyData} {p : Nat}, ¬ Ds [lexN P st, Qfx P p] S := fun ⟨i, hi, e⟩ => by
  rcases List.mem_cons.mp hi with rfl | hi
  ·exact hne.2.1 e
  ·rw [List.mem_singleton.mp hi] at e; exact hne.2.2 e
 refine ⟨?_, ?_, ?_, ?_⟩
 ·intro i s h' κ0 hl hk
  refine Qlq (κ0) fun g p st a b c => ?_
  refine ⟨g.more ⟨h', s.toks, rfl, ⟨fun b o hb e => hk b o (fun q => hb (.inl q)) e, fun b l => ?_⟩⟩, p, st, a.at (fun o e => hk _ o (Ne.symm hSx.1) e) fun o e => hk _ o (Ne.symm hne.2.1) e, b.at (fun o e => hk _ o (Ne.symm hSx.2) e) fun o e => hk _ o (Ne.symm hne.2.2) e, c⟩
  by_cases q : b = S
  ·exact q ▸ hl
  ·obtain ⟨o, e⟩ := l; exact ⟨o, hk b o q e⟩
 ·intro i s Q E hi κ1 hq
  refine Qlq (κ1) fun g p st a b c => ?_
  rcases c with ⟨_, rfl, hpl, ht⟩ | ⟨q, _⟩
  ·have tp := hTp g
   refine eEA (((hT.trans (Tq.le P)).p _ tp).k) fun K hK sk => ?_
   have hget : toks.drop i = toks.getD i [] :: toks.drop (i + 1) := by
    rw [List.drop_eq_getElem_cons hi]; simp [List.getD, List.getElem?_eq_getElem hi]
   have hmem : toks.getD i [] ∈ toks := by
    have : toks.getD i [] = toks[i] := by simp [List.getD, List.getElem?_eq_getElem hi]
    rw [this]; exact List.getElem_mem hi
   have step : ∀ {r : List Nat} {fin : Bool}, Qdy .sp [] (P.buf.cps.toList.drop p) = some (toks.getD i [], r, fin) → (∀ s', Grown P S s₀ s' → InsAt s'.heap (lexN P (stOf fin)) → InsAt s'.heap (Qfx P (P.buf.length - r.length)) → LxAt P toks (i + 1) s'.heap) → wpAny (model prog w) A (pyNext (.ref P.x)) Q E s := fun {r fin} hrun hnext => by
    refine next_ins (i := lexN P (.str (Str.ofString " "))) hK sk.lex a (f := 877) (by decide +kernel) ?_
    refine (mt_next hP hpl hrun (hlay _ hmem)).of T A s _ _ hT (ok.le (by lia)) tp (own a b) ⟨_, _, rfl, rfl, rfl⟩ fun v s' hv kx hI => ?_
    refine eE (hv.str_inv) fun t ρ5 => ?_
    subst ρ5
    have g' := g.more (kx.wider hDs)
    exact hq _ s' ⟨t, rfl⟩ ⟨g', hnext s' g' (hI _ (.head _)) (hI _ (.tail _ (.head _)))⟩ fun o e => kx.kp.kp S o hDS e
   rw [hget] at ht
   generalize hl : P.buf.cps.toList.drop p = l at ht
   generalize htl : toks.drop (i + 1) = tl at ht
   generalize htk : toks.getD i [] = tk at *
   cases ht with
   | last hr =>
    have hi1 : i + 1 = toks.length := by
     have := congrArg List.length htl
     rw [List.length_drop, List.length_nil] at this
     lia
    refine step (r := []) (fin := true) (by rw [hl]; exact hr) fun s' g' h1 h2 => ?_
    exact ⟨P.buf.length, .none, h1, h2, .inr ⟨hi1, rfl, rfl⟩⟩
   | more hr hts =>
    rename_i r
    refine eE (Qeb _ _ _ _ _ _ hr) fun pre e => ?_
    refine eA (Qxa hpl hl e) fun d1 d2 => ?_
    have hi1 : i + 1 < toks.length := by
     apply Classical.byContradiction
     intro q
     rw [List.drop_eq_nil_of_le (by lia)] at htl
     subst htl
     cases hts
    refine step (r := r) (fin := false) (by rw [hl]; exact hr) fun s' g' h1 h2 => ?_
    exact ⟨P.buf.length - r.length, .str (Str.ofString " "), h1, h2, .inl ⟨hi1, rfl, d2, by rw [d1, htl]; exact hts⟩⟩
  ·lia
 ·intro s Q E κ2 hq
  refine Qlq (κ2) fun g p st a b c => ?_
  rcases c with ⟨q, _⟩ | ⟨_, rfl, rfl⟩
  ·exact absurd q (Nat.lt_irrefl _)
  ·have tp := hTp g
   refine eEA (((hT.trans (Tq.le P)).p _ tp).k) fun K hK sk => ?_
   refine Qfw (g) fun h tk ρ6 kx => ?_
   subst ρ6
   have keepF : ∀ b ∈ fra outer, ∀ o, s₀.heap.get? b = some o → h.get? b = some o := fun b hb o e => kx.kp b o (fun q => by
    refine Qwb (hfX b hb) fun ζ q1 q2 q3 => ?_
    exact q.elim q3 fun q => q.elim q1 q2) e
   refine next_ins (i := lexN P .none) hK sk.lex a (f := 877) (by decide +kernel) ?_
   refine next_stop hP (T := T) hT (ok.le (by lia)) hfr (fun env he => ?_) (fun b hb => ⟨(hfX b hb).1, (hfX b hb).2.1, (hfX b hb).2.2.1⟩) tp (own a b) fun e h' tk' h1 h2 h3 h4 h5 => ?_
   ·refine Qlq (hfo env he) fun hk L o hfL ho hd => ?_
    exact ⟨hk, L, o, hfL, keepF L (List.mem_filterMap.mpr ⟨env, he, hfL⟩) o ho, hd⟩
   ·refine eEA (h3) fun o ho hc => ?_
    refine ⟨⟨e, o, rfl, ho, hc⟩, hq _ ⟨h', tk', rfl, fun b o n1 n2 n3 n4 eb => h1 b o n1 n3 n4 (kx.kp b o (fun q => q.elim n2 fun q => q.elim n3 n4) eb), fun b hb o eb => h2 b hb o (keepF b hb o eb)⟩ fun o eo => h1 S o (fun q => (hfX S q).2.2.2 rfl) hne.2.1 hne.2.2 eo⟩
 ·intro s Q E κ3 hq
  refine Qlq (κ3) fun g p st a b c => ?_
  have tp := hTp g
  have hz := hT.trans (Tq.le P)
  refine eEA ((hz.p _ tp).k) fun K hK sk => ?_
  refine iter_ins (i := lexN P st) hK sk.lex a (f := 870) (g := 877) (by decide +kernel) (by decide +kernel) (wpAny_call ((mt_iter (P := P) (I := [])).of T A s _ _ hz (ok.le (by lia)) tp ⟨fun ζ h => (nomatch h), fun ζ h => (nomatch h), fun ζ h => (nomatch h), List.Pairwise.nil⟩ ⟨_, _, rfl, rfl, rfl⟩ fun v s' hv kx ζ => ?_))
  have : v = .ref P.x := hv
  subst this
  have kt : Kt s s' := by
   refine Qfw (kx.of) fun h' tk e k => ?_
   exact ⟨h', tk, e, fun b o eb => k.kp b o (fun ⟨i, hi, _⟩ => nomatch hi) eb⟩
  exact ⟨rfl, hK.keeps kt.kp, a.kp kt.kp, hq s' ⟨g.more kt.x, p, st, a.kp kt.kp, b.kp kt.kp, c⟩ fun o e => kt.kp S o e⟩
end
section
variable {prog : Program} {w : World}
noncomputable abbrev sioX (x D:Addr)(G:Gam) : Ins := ⟨x, 745, D, Qoc, G⟩
theorem QBk {x D:Addr}{s:Str}{G:Gam}(hG:List.lookup (Str.ofString "_StringIO__newline") G = some (Dv.d (.str (Str.ofString "\n")))) : MtI prog w 2 522 [.v (.ref x), .d (.str s)] (.d (.str s)) [sioX x D G] [sioX x D G] := by
 refine Qyw (i := 39) (j := 2) (q := "StringIO.__translated") (dfl := .none) (names := ["self", "s"]) (by decide +kernel) (fun T T' A L pm s₀ s₁ R hT hT' ok F hR => ?_) (fun c pm => by kernel_rfl!) (fun c pm vals A' E Q s tz hl hq => ?_) (by decide +kernel) (fun c pm => by kernel_rfl!) rfl (fun c pm y hy => ?_) (fun c pm => by kernel_rfl!) (fun c pm => by kernel_rfl!) (fun c pm => by kernel_rfl!)
 ·have hz := hT'.trans hT
  refine Qtx F ?_
  refine Qec (.d (.str (Str.ofString "\n"))) (EvA.i (EvA.attr (sioX x D G) (.d (.str (Str.ofString "\n"))) (Hp.ins_z hz) (Qqb (.refl _) (.head _)) (EvA.name (.v (.ref x))) (hg := hG))) ?_
  refine Qcw (TeA.i (TeA.cmp (EvA.name (.d (.str (Str.ofString "\n")))) EvA.noneC (Qea rfl))) (Qhq ?_)
  refine Qcw (TeA.i (TeA.or (b := false) (c := false) (TeA.cmp (EvA.name (.d (.str (Str.ofString "\n")))) EvA.str Qcb) fun ζ => TeA.or (b := false) (c := false) (TeA.cmp (EvA.name (.d (.str (Str.ofString "\n")))) EvA.str Qcb) fun ζ => TeA.or0)) (Qhq ?_)
  intro s₃ F
  exact Qhy (.d (.str s)) F (EvA.i (EvA.name (.d (.str s)))) fun v s' hv F => hR v s' hv F.f.kt F.i
 ·refine eEE (len2 hl) fun v u ρ0 => ?_
  subst ρ0
  refine wpAny_of_eq ?_ hq
  kernel_rfl!
 ·rcases List.mem_cons.mp hy with rfl | hy
  ·exact .inl (by kernel_rfl!)
  ·rw [List.mem_singleton.mp hy]; exact .inl (by kernel_rfl!)
theorem bind_sio {M:Model}{A:Around}{s:Shared}{E:Value → Shared → Prop}{Q:List (Str × Value) → Shared → Prop}(c pm v u d d':Value)(o:Obj)(n:Nat)(ho:s.heap.get? 508 = some o)(hd:o.data = .seq #[d, d'] n)(h:Q [(Str.ofString "self", v), (Str.ofString "initial_value", u), (Str.ofString "newline", d')] s) :
  wpAny M A (bindArgs (fdM 39 1 "StringIO.__init__" c pm (.ref 508)) ⟨[v, u], []⟩) Q E s := by
 obtain ⟨oc, od, dt, sl⟩ := o
 have hd : dt = _ := hd
 subst hd
 exact Qjx (a := 508) (by kernel_rfl!) ho (wpAny_of_eq (a := [(Str.ofString "self", v), (Str.ofString "initial_value", u), (Str.ofString "newline", d')]) (by kernel_rfl!) h)
theorem sio_init {x D:Addr}{s:Str}{T:Hp}{A:Around}{t:Tok}{sh:Shared}{R:Result → Shared → Prop}(hT:T.le Tz)(ok:OkA A 4)(hp:T.p sh.heap)(hI:Own3 T [sioX x D []] sh.heap)(hs:s.length ≤ sizeLine)
  (hR : ∀ s', KtX (Ds [sioX x D []]) sh s' → InsAt s'.heap (QEb x D s 0) → R (.ok (.ret .none)) s') : codeAny (model prog w) A (.call (.ref 515) ⟨[.ref x, .str s t], []⟩) R sh := by
 have tz := hT.p _ hp
 refine eE (tz.meth 515 39 1 "StringIO.__init__" (.ref 508) (by repeat first | exact List.Mem.head _ | refine List.Mem.tail _ ?_)) fun pm hf => ?_
 refine Qha (T := T) (I := [sioX x D []]) (body := Qmk 39 1) (names := ["self", "initial_value", "newline"]) (as := [.v (.ref x), .d (.str s), .d (.str (Str.ofString "\n"))]) (n := 3) hf ok tz.p.lim hp hI (by kernel_rfl!) (fun E Q hq => ?_) (by decide +kernel) (by kernel_rfl!) rfl (fun y hy => ?_) (by kernel_rfl!) (by kernel_rfl!) (by kernel_rfl!) (fun sb s₁ kb F ok' => ?_)
 ·refine eEA (tz.dfl 508 [.str (Str.ofString ""), .str (Str.ofString "\n")] (.tail _ (.tail _ (.head _)))) fun vs ν1 r => ?_
  refine eEAAE (ν1) fun o ho hc n hd => ?_
  refine Qac (r.cons_inv) fun d ds e r1 r2 => ?_
  refine Qac (r2.cons_inv) fun d' ds' ρ2 r3 r4 => ?_
  subst ρ2
  rw [r4.nil_inv] at e
  obtain ⟨l⟩ := vs
  have e : l = [d, d'] := e
  subst e
  refine bind_sio _ pm (.ref x) (.str s t) d d' o n ho hd (hq [.ref x, .str s t, d'] _ (.refl _) ⟨_, _, rfl, rfl, _, _, rfl, Dv.p.str, _, _, rfl, ?_, rfl⟩)
  refine eE (r3.str_inv) fun t' ρ3 => ?_
  subst ρ3
  exact Dv.p.str
 ·rcases List.mem_cons.mp hy with rfl | hy
  ·exact .inl (by kernel_rfl!)
  rcases List.mem_cons.mp hy with rfl | hy
  ·exact .inl (by kernel_rfl!)
  ·rw [List.mem_singleton.mp hy]; exact .inl (by kernel_rfl!)
 ·have hle := Hp.push_le T (Qba (callEnvC (fdM 39 1 "StringIO.__init__" (.ref (515 - 1)) pm (.ref 508)) sb.heap.objs.size 515))
  have hz := hle.trans hT
  have hzp : ∀ {I : List Ins}, ((T.push (Qba (callEnvC (fdM 39 1 "StringIO.__init__" (.ref (515 - 1)) pm (.ref 508)) sb.heap.objs.size 515))).ins I).le Tp := fun {I} => (Hp.ins_z hz).trans Tz.le
  have nl : ∀ {I : List Ins} {pos : Pos}, EvA prog w ((T.push (Qba (callEnvC (fdM 39 1 "StringIO.__init__" (.ref (515 - 1)) pm (.ref 508)) sb.heap.objs.size 515))).ins I) (A.deeper (callEnvC (fdM 39 1 "StringIO.__init__" (.ref (515 - 1)) pm (.ref 508)) sb.heap.objs.size 515)) (callEnvC (fdM 39 1 "StringIO.__init__" (.ref (515 - 1)) pm (.ref 508)) sb.heap.objs.size 515) [("self", .v (.ref x)), ("initial_value", .d (.str s)), ("newline", .d (.str (Str.ofString "\n")))] (.Name "newline" pos) (.d (.str (Str.ofString "\n"))) := EvA.name (.d (.str (Str.ofString "\n")))
  refine wpAny_mono (Go.of (R := fun f s' => match f with | .ret v => R (.ok (.ret v)) s' | _ => R (.ok (.ret .none)) s') ?_) (fun f s' q => by cases f <;> exact q) fun ζ ζ x => x.elim
  refine Qtx F ?_
  refine Qcw (TeA.i (TeA.and (TeA.cmp nl EvA.noneC (Qhj rfl)) fun ζ => TeA.and (b := false) (c := false) (TeA.cmp (EvA.call (bltn (.type "type") hzp) (EvL.cons nl .nil') Qrx) (bltn (.type "str") hzp) (Qoa rfl)) fun e => nomatch e)) (Qhq ?_)
  refine Qcw (TeA.i (TeA.and (TeA.cmp nl EvA.noneC (Qhj rfl)) fun ζ => TeA.and (b := true) (TeA.cmp nl EvA.str Qiz) fun ζ => TeA.and (b := false) (c := false) (TeA.cmp nl EvA.str Qiz) fun e => nomatch e)) (Qhq ?_)
  refine Qcw (TeA.i (TeA.and (TeA.cmp (EvA.name (.d (.str s))) EvA.noneC (Qhj rfl)) fun ζ => TeA.and (b := false) (c := false) (TeA.cmp (EvA.call (bltn (.type "type") hzp) (EvL.cons (EvA.name (.d (.str s))) .nil') Qrx) (bltn (.type "str") hzp) (Qoa rfl)) fun e => nomatch e)) (Qhq ?_)
  refine Qqc (.d (.str (Str.ofString "\n"))) hz (EvA.i nl) (EvA.i (EvA.name (.v (.ref x)))) ?_
  refine Qqc (.d (.str (Str.ofString ""))) hz (EvA.i EvA.str) (EvA.i (EvA.name (.v (.ref x)))) ?_
  refine Qqc (.d (.int 0)) hz (EvA.i EvA.int) (EvA.i (EvA.name (.v (.ref x)))) ?_
  refine Qkz (TeA.i (TeA.cmp (EvA.name (.d (.str s))) EvA.noneC (Qhj rfl))) ?_
  intro s₄ F
  refine ⟨wpAny_execs_cons (plainObj_wpAny_Assign_Attribute (wpAny_mono (Qrj (I := [_]) (I' := [_]) (J' := [_]) (i := sioX x D _) hz hz ok' F (QBk rfl) (EvA.name (.v (.ref x))) (.head _) (EvL.cons (EvA.name (.d (.str s))) .nil') (fun i hi => hi) F.ap (fun j hj => .inl hj) rfl) (fun v s₅ k => ?_) fun ζ ζ x => x) (by kernel_rfl!))⟩
  refine eA (k) fun hv F5 => ?_
  refine wpAny_mono ((EvA.name (prog := prog) (w := w) (T := T.push (Qba (callEnvC (fdM 39 1 "StringIO.__init__" (.ref (515 - 1)) pm (.ref 508)) sb.heap.objs.size 515))) (A := A.deeper (callEnvC (fdM 39 1 "StringIO.__init__" (.ref (515 - 1)) pm (.ref 508)) sb.heap.objs.size 515)) (.v (.ref x))).of _ s₅ F5.f.t F5.f.vw) (fun ov s₆ k6 => ?_) fun ζ ζ x => x
  obtain ⟨rfl, k6⟩ := k6
  refine (F5.kept k6).set (i := sioX x D _) hz (.inr rfl) rfl (by show _ ∈ Qdj 745; decide +kernel) (okDv.sv (a := .d (.str s)) rfl hv) fun s₇ F7 => ?_
  have F7 := F7.pick1 (G2 := sioG s 0) (.cons (.cons .nil))
  exact (Qaw (Qaw (hR s₇ ((kb.x (W := Ds [sioX x D []])).trans F7.f.kt) (F7.i _ (.head _))))).of
end
section
variable {prog : Program} {w : World} {A : Around} {K : PySem.W.Frag}
open PySem.W in
theorem new_sio {R:Result → Shared → Prop}{h:Heap}{g:Array GenState}{d:Drawn}{t:Nat}{os:OsState}(X:K.In h)(sk:ShK K)
  (hq : R (.ok (.ret (.ref (h.objs.size + 1)))) ⟨(h.push emptyDict).push (instObj 745 h.objs.size), g, d, t, os⟩) :
  codeAny (model prog w) A (.call (.builtin "object.__new__") ⟨[.ref 745], []⟩) R ⟨h, g, d, t, os⟩ := by
 refine Qnb (sk.cdS) fun cd od sl hK e4 e1 e2 => ?_
 have hC := X _ _ hK
 have F := PySem.F.objNew
 refine codeAny_call_builtin_code (Code.quiet_builtin _ F.quiet) ?_
 have base : Looks (model prog w) h (Bind.staticBase (.ref 745)) (.type "object") := Looks.of_peek X (sk.baseS _)
 have made : Looks (model prog w) h (Bind.madeBy (.type "object")) (some "object.__new__") := Looks.of_peek X (sk.madeO _)
 have here : Looks (model prog w) h (Bind.madeHere "object.__new__" (.ref 745)) () := base.andThen (made.andThen (Looks.of_pure (if_neg (by rw [Option.map_some, bne_self_eq_false]; exact Bool.false_ne_true))))
 have args : Bind.checkArgs "object.__new__" ⟨.hand, "object.__new__", "__new__", .cls, []⟩ ⟨[.ref 745], []⟩ = pure () := by kernel_rfl
 have top : Looks (model prog w) h (isSubtype (.ref 745) (.type "object")) true := by
  refine looks_mroIn X ?_
  have hc : clsIn K 745 = some cd := by unfold clsIn; rw [hK]
  refine eEA (any_some sk.sio.over) fun cd' hc' ho => ?_
  rw [hc] at hc'; cases hc'
  unfold mroIn
  rw [hc, Option.bind_some, if_neg (by rw [e4]; decide), only_has ho]
 have isTy : Looks (model prog w) h (isType (.ref 745)) true := (Looks.ld hC).andThen .now
 have cls : Looks (model prog w) h (classData 745) cd := (Looks.ld hC).andThen .now
 unfold checkBuiltinCall
 rw [F.kind, F.split, F.row]
 show wpAny _ _ (if ("__new__" == "__new__") = true then _ else _) _ _ _
 rw [if_pos (beq_self_eq_true _)]
 refine wpAny_bind (m := isType (.ref 745)) (isTy.here ?_)
 refine wpAny_bind (m := isSubtype (.ref 745) (.type "object")) (top.here ?_)
 refine wpAny_bind (m := Bind.staticBase (.ref 745)) (base.here ?_)
 refine wpAny_bind (m := Bind.madeBy (.type "object")) (made.here ?_)
 show wpAny _ _ (if (Manifest.canonical "object.__new__" != Manifest.canonical "object.__new__") = true then _ else _) _ _ _
 rw [if_neg (by rw [bne_self_eq_false]; exact Bool.false_ne_true)]
 refine wpAny_of_eq args ?_
 refine codeAny_builtin F.entry ?_
 unfold Builtin.«object.__new__»
 have fin : ∀ A', wpAny (model prog w) A' (do
   let d ← if typeHasDict (.ref 745) then some <$> alloc { cls := .type "dict", data := .dict #[] } else pure none
   PySem.ret (← newObj (.ref 745) .plain d)) (fun fin s' => match fin with | .done f => R (.ok f) s' | .again c' => c'.quiet = true ∧ codeAny (model prog w) A c' R s') (fun e s' => R (.error e) s') ⟨h, g, d, t, os⟩ := by
  intro A'
  show wpAny _ _ ((alloc emptyDict >>= fun x => pure (some x)) >>= _) _ _ _
  refine wpAny_bind (wpAny_bind (wpAny_alloc (wpAny_pure (wpAny_bind ?_))))
  show wpAny _ _ (newObjAsIs _ _ _) _ _ _
  unfold newObjAsIs classHasDel
  refine wpAny_bind (wpAny_alloc (wpAny_bind (wpAny_bind (wpAny_load (Heap.get?_push_of_some _ (Heap.get?_push_of_some _ hC)) (wpAny_pure ?_)))))
  rw [e2]
  refine wpAny_pure (wpAny_pure ?_)
  show R _ _
  rw [Heap.size_push]
  exact hq
 refine wpAny_bind (m := isType (.ref 745)) (isTy.here ?_)
 refine wpAny_bind (m := Bind.madeHere "object.__new__" (.ref 745)) (here.here ?_)
 refine wpAny_bind (m := classData 745) (cls.here ?_)
 rw [e1, if_neg Bool.false_ne_true]
 exact fin _
open PySem.W in
theorem QGz {s:Shared}{E:Value → Shared → Prop}{T:String}{v:Value}{name:Str}{pl:Sem Bool}{Q:Value × List Value → Shared → Prop}(X:K.In s.heap)(ht:typeOf (.type T) = pure (.type "type"))(hs:Manifest.isStub T = false)
  (e : findCls K (.type T) (.type "type") name = some (.val v)) (hh : handedIn v = true) (h : Q (v, []) { s with toks := s.toks + 1 }) : wpAny (model prog w) A (getMethod (.type T) name pl) Q E s := by
 have hstub : opaqueClassAbove (.type T) = pure none := by unfold opaqueClassAbove; dsimp only; rw [hs]; rfl
 have L0 : Looks (model prog w) s.heap (typeOf (.type T)) (.type "type") := Looks.of_pure ht
 have hg : findIn K (.type "type") "__getattribute__" = some (some (.builtin "type.__getattribute__")) := type_tga
 unfold getMethod specialOf
 refine wpAny_bind (wpAny_bind (L0.here ((looks_findIn X hg).here ?_)))
 dsimp only
 rw [if_pos canon_tga]
 refine wpAny_bind (wpAny_mono (Q := fun v => Q (v, [])) (E := E) ?_ (fun ζ ζ z => wpAny_pure z) fun ζ ζ z => z)
 have LO : Looks (model prog w) s.heap (opaqueClassAbove (.type T)) none := Looks.of_pure hstub
 refine cls_open X LO L0 hg (looks_hook X (r := none) (by rfl)) (by show subIn K _ _ = _; rfl) e
  (wpAny_pure (by show wpAny _ _ (handedOut v) _ _ _; rw [handedOut_of hh]; exact wpAny_pure h))
end
section
variable {prog : Program} {w : World}
theorem bind_iob (c pm v u:Value) : bindArgs (fdM 35 1 "IOBase.__new__" c pm .none) ⟨[v, u], []⟩ = (do let t ← newTuple [u]; let d ← alloc { cls := .type "dict", data := .dict #[] }; pure [(Str.ofString "cls", v), (Str.ofString "args", t), (Str.ofString "kwargs", .ref d)]) := by kernel_rfl!
theorem ev_anyMeth {A:Around}{env:Env}{E:Value → Shared → Prop}{s:Shared}{Q:Value → Shared → Prop}{o:Expr}{name:Str}{apos pos:Pos}{args:List Expr}
  (h : wpAny (model prog w) A (eval o env) (fun ov s₁ => ∀ pl, wpAny (model prog w) A (getMethod ov name pl) (fun fx s₂ => wpAny (model prog w) A (callWith pos fx.1 fx.2 (backTo pos (starEach args env)) []) Q E s₂) E s₁) E s)
  (hform : autoParam (methodCallForm (args.length + ([] : List Keyword).length) (backTo pos (starEach args env)) (backToKw pos (keywordEach [] env)) = true) sK)
  (hbase : autoParam (attributeBase o name env (eval o env) = eval o env) sK) (hline : autoParam ((apos.endLine == pos.line) = true) sK) : wpAny (model prog w) A (eval (.Call (.Attribute o name apos) args [] pos) env) Q E s := by
 rw [arm_eval_Call, hbase]
 refine wpAny_bind (wpAny_mono h (fun ov s₁ k => ?_) fun ζ ζ e => e)
 refine wpAny_bind (wpAny_standAt ?_)
 have hpos : methodCallPos true o env apos pos = pure pos := by unfold methodCallPos; simp [hline]
 unfold methodCall
 rw [hform]
 refine wpAny_bind (wpAny_holding (wpAny_mono (k _) (fun fx s₂ h₂ => ?_) fun ζ ζ x => x))
 exact wpAny_bind (wpAny_of_eq hpos h₂)
theorem QFb {T:Hp}{A:Around}{x y:Addr}(hxy:x ≠ y)(h:∀ h, T.p h → ∃ ox oy, h.get? x = some ox ∧ h.get? y = some oy ∧ ox.cls ≠ .type "tuple") : Op2 prog w T A (compareOp .IsNot) (.v (.ref x)) (.v (.ref y)) (.d (.bool true)) := ⟨fun E s v1 v2 hp p1 p2 => by
 have : v1 = .ref x := p1
 subst this
 have : v2 = .ref y := p2
 subst this
 refine Qac (h _ hp) fun ox oy h1 h2 h3 => ?_
 exact wpAny_isNot_ref_other hxy h1 h2 h3 ⟨Dv.p.bool, .refl s⟩⟩
theorem QFa {T:Hp}{A:Around}{x:Addr} : Op2 prog w T A (compareOp .IsNot) (.v (.ref x)) (.v (.ref x)) (.d (.bool false)) := ⟨fun E s v1 v2 hp p1 p2 => by
 have : v1 = .ref x := p1
 subst this
 have : v2 = .ref x := p2
 subst this
 exact wpAny_isNot_ref_self ⟨Dv.p.bool, .refl s⟩⟩
structure NewIns (s s' : Shared) (x D C : Addr) : Prop where
 kt : Kt s s'
 nx : ¬ Qaa s.heap x
 nD : ¬ Qaa s.heap D
 ne : x ≠ D
 at_ : ∀ ns, InsAt s'.heap ⟨x, C, D, ns, []⟩
theorem new_at {h:Heap}{C:Addr}{ns:List Str} : InsAt ((h.push PySem.W.emptyDict).push (PySem.W.instObj C h.objs.size)) ⟨h.objs.size + 1, C, h.objs.size, ns, []⟩ := by
 have e : (h.push PySem.W.emptyDict).objs.size = h.objs.size + 1 := Heap.size_push ..
 refine ⟨by rw [← e]; exact Heap.get?_push_size _ rfl, fun ζ => none, ?_, (fun y h => absurd rfl h), fun n a q => by simp at q⟩
 have hD : ((h.push PySem.W.emptyDict).push (PySem.W.instObj C h.objs.size)).get? h.objs.size = some PySem.W.emptyDict := Heap.get?_push_of_some _ (Heap.get?_push_size _ rfl)
 exact Heap.Ns1.of_empty ⟨_, #[], _, hD, rfl, fun e he => absurd he (by simp), fun ζ => rfl⟩
theorem iobase_new {T:Hp}{A:Around}{b:Str}{t:Tok}{sh:Shared}{R:Result → Shared → Prop}(hT:T.le Tz)(ok:OkA A 3)(hp:T.p sh.heap)
  (hR : ∀ x D s', NewIns sh s' x D 745 → R (.ok (.ret (.ref x))) s') : codeAny (model prog w) A (.call (.ref 238) ⟨[.ref 745, .str b t], []⟩) R sh := by
 have tz := hT.p _ hp
 refine eE (tz.meth 238 35 1 "IOBase.__new__" .none (by repeat first | exact List.Mem.head _ | refine List.Mem.tail _ ?_)) fun pm hf => ?_
 refine Qha (T := T) (I := []) (body := Qmk 35 1) (names := ["cls", "args", "kwargs"]) (as := [.v (.ref 745), .d (.tuple [.str b]), .v (.ref (sh.heap.objs.size + 1))]) (n := 2) hf ok tz.p.lim hp ⟨fun ζ h => (nomatch h), fun ζ h => (nomatch h), fun ζ h => (nomatch h), List.Pairwise.nil⟩ (by kernel_rfl!) (fun E Q hq => ?_) (by decide +kernel) (by kernel_rfl!) rfl (fun y hy => ?_) (by kernel_rfl!) (by kernel_rfl!) (by kernel_rfl!) (fun sb s₁ kb F ok' => ?_)
 ·rw [bind_iob]
  refine wpAny_bind (wpAny_newTuple ?_ (Nat.le_of_ble_eq_true rfl))
  refine wpAny_bind (wpAny_alloc' ?_)
  refine wpAny_pure (hq [.ref 745, .ref sh.heap.objs.size, .ref (sh.heap.push { cls := .type "tuple", data := .seq [Value.str b t].toArray }).objs.size] _ (Kt.mk' sh sh.toks ((Qav _ _).trans (Qav _ _))) ⟨_, _, rfl, rfl, _, _, rfl, ?_, _, _, rfl, ?_, rfl⟩)
  ·exact (Dv.p.tuple (fun hx => Qax (Nat.le_refl _) (T.live _ hp _ hx)) ⟨_, Heap.get?_push_size _ rfl, rfl, _, rfl⟩ (RdAll.cons Rd.str .nil)).kp (Qav _ _).kpx
  ·show Value.ref _ = Value.ref _
   rw [Heap.size_push]
 ·rcases List.mem_cons.mp hy with rfl | hy
  ·exact .inl (by kernel_rfl!)
  rcases List.mem_cons.mp hy with rfl | hy
  ·exact .inl (by kernel_rfl!)
  ·rw [List.mem_singleton.mp hy]; exact .inl (by kernel_rfl!)
 ·have hle := Hp.push_le T (Qba (callEnvC (fdM 35 1 "IOBase.__new__" (.ref (238 - 1)) pm .none) sb.heap.objs.size 238))
  have hz := hle.trans hT
  have hzi : ∀ {I : List Ins}, ((T.push (Qba (callEnvC (fdM 35 1 "IOBase.__new__" (.ref (238 - 1)) pm .none) sb.heap.objs.size 238))).ins I).le Tz := Hp.ins_z hz
  have hrefs : ∀ {I : List Ins}, ∀ h, ((T.push (Qba (callEnvC (fdM 35 1 "IOBase.__new__" (.ref (238 - 1)) pm .none) sb.heap.objs.size 238))).ins I).p h → ∃ ox oy, h.get? 745 = some ox ∧ h.get? 498 = some oy ∧ ox.cls ≠ .type "tuple" := fun h q => by
   refine eEA ((hzi.p h q).k) fun K hK sk => ?_
   refine Qxw (sk.cdS) fun cd od sl e ζ => ?_
   refine eE (sk.bytS) fun o e' => ?_
   exact ⟨_, _, hK _ _ e, hK _ _ e', show Value.type "type" ≠ .type "tuple" by decide⟩
  refine wpAny_mono (Go.of (R := fun f s' => match f with | .ret v => R (.ok (.ret v)) s' | _ => R (.ok (.ret .none)) s') ?_) (fun f s' q => by cases f <;> exact q) fun ζ ζ x => x.elim
  refine Qsa F (TeA.i (TeA.and (TeA.cmp (EvA.name (.v (.ref 745))) (EvA.glob (.ref 498) (fun h q => (hzi.p h q).stopTn)) (QFb (by decide) hrefs)) fun ζ => TeA.and (b := false) (c := false) (TeA.cmp (EvA.name (.v (.ref 745))) (glob (.ref 745) (hzi.trans Tz.le)) QFa) fun e => nomatch e)) fun s₂ F => Qaw ?_
  refine ⟨wpAny_execs_cons (wpAny_Return_some ?_)⟩
  refine ev_anyMeth (wpAny_mono ((bltn (prog := prog) (w := w) (A := A.deeper (callEnvC (fdM 35 1 "IOBase.__new__" (.ref (238 - 1)) pm .none) sb.heap.objs.size 238)) (.type "object") (hz.trans Tz.le)).of _ s₂ F.f.t F.f.vw) (fun ov s₃ k3 pl => ?_) fun ζ ζ x => x)
  obtain ⟨rfl, k3⟩ := k3
  have F := F.kept k3
  refine eEA ((hz.p _ F.f.t).k) fun K hK sk => ?_
  have t1 : typeOf (.type "object") = pure (.type "type") := by kernel_rfl
  have t2 : Manifest.isStub "object" = false := by decide +kernel
  have t3 : PySem.W.handedIn (.builtin "object.__new__") = true := by decide +kernel
  refine QGz (T := "object") (name := Str.ofString "__new__") (v := .builtin "object.__new__") hK t1 t2 sk.objNew t3 ?_
  have F := F.kept (.tok s₃ (s₃.toks + 1))
  refine Qbx (by kernel_rfl!) (Qcz (EvL.cons (EvA.name (.v (.ref 745))) .nil') F.f.t F.f.vw fun vs s₄ k4 hvs => ?_)
  refine Qac (hvs) fun v' vs' ρ0 hv' ρ1 => ?_
  subst ρ0
  subst ρ1
  have : v' = .ref 745 := hv'
  subst this
  have F := F.kept k4
  refine wpAny_mono (Q := fun ζ s' => s' = s₄) (by unfold keeperOf; exact wpAny_pure rfl) (fun ζ s₅ e => ?_) fun ζ ζ x => x
  subst e
  refine eEA ((hz.p _ F.f.t).k) fun K hK sk => ?_
  have ks : Kt sh s₅ := by
   have := F.f.kt
   refine Qfw (this.of) fun h' tk e k => ?_
   exact kb.trans ⟨h', tk, e, fun b o eb => k.kp b o (fun ⟨i, hi, _⟩ => nomatch hi) eb⟩
  obtain ⟨hh, gg, dd, tt, os⟩ := s₅
  refine wpAny_call (new_sio hK sk ?_)
  have kk : Kp hh ((hh.push PySem.W.emptyDict).push (PySem.W.instObj 745 hh.objs.size)) := (Qav _ _).trans (Qav _ _)
  exact hR _ _ _ ⟨ks.trans ⟨_, _, rfl, fun b o e => kk b o e⟩, fun l => Qax (h := hh) (b := hh.objs.size + 1) (Nat.le_succ _) (eE (l) fun o e => ⟨o, ks.kp _ o e⟩), fun l => Qax (h := hh) (b := hh.objs.size) (Nat.le_refl _) (eE (l) fun o e => ⟨o, ks.kp _ o e⟩), Nat.succ_ne_self _, fun ns => new_at⟩
end
theorem weight_make (C:Addr)(rest:List Value)(kw:List (Str × Value)) : (Code.builtin "type.__call__" ⟨.ref C :: rest, kw⟩).weight = 1 := by kernel_rfl!
theorem units_make (C:Addr)(rest:List Value)(kw:List (Str × Value)) : (Code.builtin "type.__call__" ⟨.ref C :: rest, kw⟩).cUnits = 1 := by kernel_rfl!
noncomputable abbrev mkA (A:Around)(C:Addr)(rest:List Value)(kw:List (Str × Value)) : Around := A.under (.builtin "type.__call__" ⟨.ref C :: rest, kw⟩)
theorem OkA.make {A:Around}{n:Nat}{C:Addr}{rest:List Value}{kw:List (Str × Value)}(x:OkA A (n + 1)) : OkA (mkA A C rest kw) n :=
 ⟨x.1, by have := x.2; show A.depth + (Code.builtin "type.__call__" ⟨.ref C :: rest, kw⟩).weight + n ≤ 900; rw [weight_make]; lia, by have := x.3; show A.units + (Code.builtin "type.__call__" ⟨.ref C :: rest, kw⟩).cUnits + 20 * n ≤ 9500; rw [units_make]; lia⟩
section
variable {prog : Program} {w : World}
open PySem.W in
theorem call_sio {T:Hp}{A:Around}{b:Str}{t:Tok}{sh:Shared}{R:Result → Shared → Prop}(hT:T.le Tz)(ok:OkA A 6)(hp:T.p sh.heap)(hb:b.length ≤ sizeLine)
  (hR : ∀ x D s', Kt sh s' → ¬ Qaa sh.heap x → ¬ Qaa sh.heap D → x ≠ D → InsAt s'.heap (QEb x D b 0) → R (.ok (.ret (.ref x))) s') : codeAny (model prog w) A (.call (.ref 745) ⟨[.str b t], []⟩) R sh := by
 refine eEA ((hT.p _ hp).k) fun K X sk => ?_
 refine Qnb (sk.cdS) fun cd od sl hK e4 e1 e2 => ?_
 have hC := X _ _ hK
 have call := looks_specialIn (M := model prog w) X sk.callS
 have typ := looks_instIn (M := model prog w) X sk.typS
 have made : Looks (model prog w) sh.heap (Bind.madeBy (.ref 745)) none := Looks.of_peek X (sk.madeS _)
 have ok1 : OkA (mkA A 745 [.str b t] []) 5 := ok.make
 refine codeAny_of_tree ?_
 show wpAny _ _ (callAny (.ref 745) _) _ _ _
 refine nd_load hC ?_
 show wpAny _ _ (callAny.viaDunder (.ref 745) _) _ _ _
 unfold callAny.viaDunder
 refine wpAny_bind (call.at ?_)
 dsimp only
 rw [tc_bind]
 refine wpAny_bind (wpAny_pure (wpAny_bind (wpAny_pure ?_)))
 refine wpAny_pure (a := Fin.again (.call (.builtin "type.__call__") ⟨[.ref 745, .str b t], []⟩)) (And.intro rfl ?_)
 refine codeAny_call_builtin_at (Code.quiet_builtin _ (by decide +kernel)) entry_typeCall (check_slot tc_kind tc_split typ (tc_args _ _ _) ?_)
 unfold Builtin.«type.__call__»
 have hm : Looks (model prog w) sh.heap (mroOf (.ref 745)) cd.mro := ((Looks.ld (part := none) hC).andThen .now).andThen .now
 have go : wpAny (model prog w) (mkA A 745 [.str b t] []) (getAttr (.ref 745) "__new__") (fun new s₁ => wpAny (model prog w) (mkA A 745 [.str b t] []) (PySem.call new [.ref 745, .str b t]) (fun obj s₂ => wpAny (model prog w) (mkA A 745 [.str b t] []) (do
   if !(← isInstance obj (.ref 745)) then rule "type.call.new-gave-other-type"; return ← PySem.ret obj
   match ← holding [obj] (callSpecial? obj "__init__" [.str b t] []) with
   | none => PySem.ret obj
   | some r =>
    if r != .none then
     rule "type.call.init-returned-value"
     raiseError "TypeError" s!"__init__() should return None, not '{← typeNameOf r}'"
    PySem.ret obj) (fun fin s' => match fin with | .done f => R (.ok f) s' | .again c' => c'.quiet = true ∧ codeAny (model prog w) A c' R s') (fun e s' => R (.error e) s') s₂) (fun e s' => R (.error e) s') s₁) (fun e s' => R (.error e) s') sh := by
  refine eE (sk.statS) fun rest hst => ?_
  refine cls_bind X sk.readsS sk.newS (wpAny_call (sm_get (s := { sh with toks := sh.toks + 1 }) X hst ?_))
  show wpAny _ _ (handedOut (.ref 238)) _ _ _
  rw [handedOut_of (show handedIn (.ref 238) = true from rfl)]
  refine wpAny_pure ?_
  have kt := Kt.tok sh (sh.toks + 1)
  refine wpAny_call (iobase_new hT (ok1.le (by lia)) (T.kt hp kt) fun x D s₂ hn => ?_)
  dsimp only
  have I2 := hn.at_ Qoc
  have kt2 := kt.trans hn.kt
  have X2 := X.keeps kt2.kp
  refine eEA (I2.wi) fun od2 I2' ζ => ?_
  have hself : Looks (model prog w) s₂.heap (isInstance (.ref x) (.ref 745)) true := I2'.type.andThen (looks_mroIn X2 sk.selfS)
  refine wpAny_bind (hself.at ?_)
  refine wpAny_bind (wpAny_holding (special_fn X2 I2' (sk.sio.fn _ (show ((Str.ofString "__init__"), (515 : Nat)) ∈ fnsSio by decide +kernel)).1 (sk.sio.fn _ (show ((Str.ofString "__init__"), (515 : Nat)) ∈ fnsSio by decide +kernel)).2 (wpAny_call ?_)))
  have hDn : ¬ T.X D := fun q => hn.nD (eE (T.live _ (T.kt hp kt) D q) fun o e => ⟨o, e⟩)
  have hxn : ¬ T.X x := fun q => hn.nx (eE (T.live _ (T.kt hp kt) x q) fun o e => ⟨o, e⟩)
  refine sio_init (T := T.push fun b => b = D) ((Hp.push_le _ _).trans hT) (ok1.le (by lia)) (Hp.push_p (T.kt hp kt) (fun y hy => hy ▸ hn.nD) hn.kt.kp.kpx fun y hy => hy ▸ I2.dlive) ⟨fun i hi => by rw [List.mem_singleton.mp hi]; exact I2, fun i hi => by rw [List.mem_singleton.mp hi]; exact .inr rfl, fun i hi => by rw [List.mem_singleton.mp hi]; exact fun q => q.elim hxn hn.ne, List.pairwise_singleton _ _⟩ hb fun s' kx hI => ?_
  dsimp only
  refine wpAny_pure (hR x D s' ?_ (fun l => hn.nx l) (fun l => hn.nD l) hn.ne hI)
  refine Qfw (kx.of) fun h' tk' e' k' => ?_
  refine Qfw (kt2.of) fun h2 tk2 e2 k2 => ?_
  subst e2
  exact ⟨h', tk', e', fun bb o eb => k'.kp bb o (fun ⟨i, hi, q⟩ => by rw [List.mem_singleton.mp hi] at q; exact hn.nD ⟨o, (show bb = D from q) ▸ eb⟩) (k2 bb o eb)⟩
 refine wpAny_bind (hm.at ?_)
 rw [e4]
 refine wpAny_bind (made.at ?_)
 refine wpAny_bind (wpAny_mono go (fun new s₁ h₁ => ?_) fun ζ ζ x => x)
 exact wpAny_bind (wpAny_holding (wpAny_mono h₁ (fun obj s₂ h₂ => h₂) fun ζ ζ x => x))
end
section
variable {W : Addr → Prop} {T : Hp} {s₀ s s' : Shared} {env : Env} {G : Gam} {I : List Ins} {i : Ins}
theorem FI.live0 (F:FI W T s₀ env G I s){b:Addr}(h:¬ Qaa s.heap b) : ¬ Qaa s₀.heap b := fun l => h (F.f.kt.kp.live b l)
theorem FI.addIns (F:FI W T s₀ env G I s)(kt:Kt s s')(hx:¬ Qaa s.heap i.x)(hD:¬ Qaa s.heap i.D)(hne:i.x ≠ i.D)(hI:InsAt s'.heap i) : FI W (T.push fun b => b = i.D) s₀ env G (I ++ [i]) s' := by
 refine Qfw (kt.of) fun h' tk ρ0 k => ?_
 subst ρ0
 have F1 : Fx W (T.push fun b => b = i.D) s₀ env G none { s with heap := h', toks := tk } := F.f.push k (fun b hb => hb ▸ hD) fun b hb => hb ▸ hI.dlive
 have own : ∀ j ∈ I, j.D ≠ i.D := fun j hj q => hD (q ▸ (F.i j hj).dlive)
 refine ⟨F1, fun j hj => ?_, fun j hj => ?_, fun j hj => ?_, List.pairwise_append.mpr ⟨F.ap, List.pairwise_singleton _ _, fun a ha b hb => by rw [List.mem_singleton.mp hb]; exact own a ha⟩⟩
 ·rcases List.mem_append.mp hj with hj | hj
  ·exact (F.i j hj).kp k
  ·rw [List.mem_singleton.mp hj]; exact hI
 ·rcases List.mem_append.mp hj with hj | hj
  ·exact ⟨.inl (F.w j hj).1, (F.w j hj).2⟩
  ·rw [List.mem_singleton.mp hj]
   refine eEA (F.f.ns) fun m hn ζ => ?_
   refine ⟨.inr rfl, .inl (F.live0 hD), fun q => hD (q ▸ Ns.live hn), fun n q => ?_⟩
   obtain ⟨v, hi, _⟩ := F.f.cell n _ q
   exact hD (Cell.live hi)
 ·rcases List.mem_append.mp hj with hj | hj
  ·exact fun q => q.elim (F.x j hj) fun q => hD (q ▸ ⟨_, (F.i j hj).obj⟩)
  ·rw [List.mem_singleton.mp hj]
   exact fun q => q.elim (fun q => hx (T.live _ F.f.t _ q)) hne
theorem FI.has (F:FI W T s₀ env G I s){d:Addr}{o:Obj}(hd:s.heap.get? d = some o)(hX:¬ T.X d) : FI W (T.has d o) s₀ env G I s :=
 ⟨⟨⟨F.f.t, hd, hX⟩, F.f.kt, F.f.wX, F.f.lo, F.f.loX, F.f.cells, F.f.apart, F.f.ns, F.f.cell, F.f.all, F.f.own⟩, F.i, F.w, F.x, F.ap⟩
end
section
variable {prog : Program} {w : World} {W : Addr → Prop} {T : Hp} {A : Around} {env : Env} {s₀ s : Shared} {G : Gam} {R : Flow → Shared → Prop} {rest : List Stmt}
theorem i_setDq {i:Ins}{post:List Ins}{o:Expr}{x name:Str}{np cp pos pos':Pos}(hT:T.le Tz)(F:FI W T s₀ env G (i :: post) s)(he:EvA prog w T A env G (.Name x np) (.v (.type "collections.deque")))
  (ho : ∀ T', T'.le T → EvI prog w T' A env G (i :: post) o (.v (.ref i.x)))
  (h : ∀ d s', ¬ Qaa s.heap d → FI W (T.has d Qgq) s₀ env G ({ i with G := (name, .v (.ref d)) :: i.G } :: post) s' → Go prog w A env rest R s')
  (hC : autoParam (i.C = 880 ∨ i.C = 745) sO) (hns : autoParam (i.ns = Qdj i.C) sR) (hn : autoParam (name ∈ Qdj i.C) sD)
  (hs : autoParam (swapsWith (.Call (.Name x np) [] [] cp) (some (.Attribute o name pos')) pos.line env = pure false) sK) : Go prog w A env (.Assign [.Attribute o name pos'] (.Call (.Name x np) [] [] cp) pos :: rest) R s := by
 refine ⟨wpAny_execs_cons (plainObj_wpAny_Assign_Attribute (Call_Name0 (wpAny_mono (he.of _ s F.f.t F.f.vw) (fun f' s₁ k => ?_) fun ζ ζ x => x)) hs)⟩
 obtain ⟨rfl, k⟩ := k
 have F1 := F.kept k
 refine PySem.callWith_type rfl (evalArgs_nil3 (call_dq fun h' hd hk => ?_))
 have hdn : ¬ Qaa s₁.heap s₁.heap.objs.size := Qax (Nat.le_refl _)
 have F2 := (F1.kept (Kt.mk' s₁ (h := h') s₁.toks hk)).has hd fun q => hdn (T.live _ F1.f.t _ q)
 have hle : (T.has s₁.heap.objs.size Qgq).le T := Hp.has_le _ _ _
 refine wpAny_mono ((ho _ hle).of _ _ F2.f.t F2.f.vw F2.i) (fun ov s3 k3 => ?_) fun ζ ζ x => x
 obtain ⟨rfl, k3⟩ := k3
 exact (F2.kept k3).set (a := .v (.ref s₁.heap.objs.size)) (hle.trans hT) hC hns hn (fun ζ ζ => rfl) fun s4 F4 => (h _ s4 (fun l => hdn (eE (l) fun o e => ⟨o, k.kp _ o e⟩)) F4).of
theorem i_sio {I:List Ins}{x y z:Str}{yp np cp pos pos':Pos}{b:Str}{n:Nat}(hT:T.le Tz)(ok:OkA A (n + 6))(F:FI W T s₀ env G I s)(hb:b.length ≤ sizeLine)(hf:EvA prog w T A env G (.Name y np) (.v (.ref 745)))(hz:EvA prog w T A env G (.Name z yp) (.d (.str b)))
  (h : ∀ sx sD s', ¬ Qaa s.heap sx → ¬ Qaa s.heap sD → sx ≠ sD → FI W (T.push fun c => c = sD) s₀ env ((x, .v (.ref sx)) :: G) (I ++ [QEb sx sD b 0]) s' → Go prog w A env rest R s') (hk : autoParam (env.scope.kind = .function) sK)
  (hx : autoParam (env.kindOf x = some .local ∨ (env.kindOf x = some .cell ∧ (env.cells.lookup x).isSome = true)) sO)
  (hse : autoParam (starEach [Expr.Name z yp] env = (false, eval (.Name z yp) env) :: starEach [] env) sK)
  (hs : autoParam (swapsWith (.Call (.Name y np) [.Name z yp] [] cp) (some (.Name x pos')) pos.line env = pure false) sK) : Go prog w A env (.Assign [.Name x pos'] (.Call (.Name y np) [.Name z yp] [] cp) pos :: rest) R s := by
 refine ⟨wpAny_execs_cons (wpAny_Assign_Name (hs := hs) ?_)⟩
 refine Call_Name rfl (wpAny_mono (hf.of _ s F.f.t F.f.vw) (fun f' s₁ k => ?_) fun ζ ζ x => x)
 obtain ⟨rfl, k⟩ := k
 have F1 := F.kept k
 have La := EvL.cons (pos := cp) hz .nil' hse
 refine Qbx La.noStar (Qcz La F1.f.t F1.f.vw fun vs s₂ k2 hvs => ?_)
 refine Qac (hvs) fun v vs' ρ1 hv ρ2 => ?_
 subst ρ1
 subst ρ2
 refine eE (hv.str_inv) fun t ρ3 => ?_
 subst ρ3
 have F2 := F1.kept k2
 refine eEA ((hT.p _ F2.f.t).k) fun K hK sk => ?_
 refine Qxw (sk.cdS) fun cd od sl hl ζ => ?_
 refine wpAny_mono (Q := fun ζ s' => s' = s₂) (by
  unfold keeperOf
  refine wpAny_bind (wpAny_load (hK _ _ hl) ?_)
  dsimp only
  exact wpAny_bind ((PySem.W.looks_specialIn hK sk.callS).here (wpAny_pure rfl))) (fun ζ s₃ e => ?_) fun ζ ζ x => x
 subst e
 refine wpAny_call (call_sio hT (ok.le (by lia)) F2.f.t hb fun sx sD s₄ kt h1 h2 h3 h4 => ?_)
 have F4 := F2.addIns (i := QEb sx sD b 0) kt h1 h2 h3 h4
 have up : ∀ {c}, ¬ Qaa s₃.heap c → ¬ Qaa s.heap c := fun h l => h (eE (l) fun o e => ⟨o, (k.trans k2).kp _ o e⟩)
 exact F4.store (.v (.ref sx)) hk hx rfl fun s₅ F5 => (h sx sD s₅ (up h1) (up h2) h3 F5).of
end
noncomputable abbrev lexX (x D:Addr)(G:Gam) : Ins := ⟨x, 880, D, Qab, G⟩
noncomputable def lexG0 (P:Lp)(cm:Str)(ws:Bool) : Gam := [("state", .d (.str (Str.ofString " "))), ("token", .d (.str (Str.ofString ""))), ("instream", .v (.ref P.sx)), ("posix", .d (.bool true)), ("eof", .d .none), ("commenters", .d (.str cm)), ("wordchars", .d (.str P.wc)), ("whitespace", .d (.str (Str.ofString " \t\r\n"))), ("whitespace_split", .d (.bool ws)),
 ("quotes", .d (.str (Str.ofString "'\""))), ("escape", .d (.str (Str.ofString "\\"))), ("escapedquotes", .d (.str (Str.ofString "\""))), ("pushback", .v (.ref P.d1)), ("debug", .d (.int 0)), ("filestack", .v (.ref P.d2)), ("source", .d .none), ("_punctuation_chars", .d (.str (Str.ofString "")))]
section
variable {prog : Program} {w : World} {W : Addr → Prop} {T : Hp} {A : Around} {env : Env} {s₀ s : Shared} {G GI : Gam} {R : Flow → Shared → Prop} {rest : List Stmt} {post : List Ins} {ix iD : Addr}
theorem x_set {o e:Expr}{name:Str}{pos pos':Pos}(a:Dv)(hT:T.le Tz)(F:FI W T s₀ env G (⟨ix, 880, iD, Qab, GI⟩ :: post) s)(he:EvI prog w T A env G (⟨ix, 880, iD, Qab, GI⟩ :: post) e a)(ho:EvI prog w T A env G (⟨ix, 880, iD, Qab, GI⟩ :: post) o (.v (.ref ix)))
  (h : ∀ s', FI W T s₀ env G (⟨ix, 880, iD, Qab, (name, a) :: GI⟩ :: post) s' → Go prog w A env rest R s') (ha : autoParam (okDv a = true) sR) (hn : autoParam (name ∈ Qdj 880) sD)
  (hs : autoParam (swapsWith e (some (.Attribute o name pos')) pos.line env = pure false) sK) : Go prog w A env (.Assign [.Attribute o name pos'] e pos :: rest) R s :=
 i_set a hT F he ho h ha (.inl rfl) rfl hn hs
theorem x_augset {o e:Expr}{name:Str}{pos pos':Pos}{op:Operator}(a b c:Dv)(hT:T.le Tz)(F:FI W T s₀ env G (⟨ix, 880, iD, Qab, GI⟩ :: post) s)(ho:EvI prog w T A env G (⟨ix, 880, iD, Qab, GI⟩ :: post) o (.v (.ref ix)))(hg:GI.lookup name = some a)(hea:okDv a = true)(he:EvI prog w T A env G (⟨ix, 880, iD, Qab, GI⟩ :: post) e b)
  (hop : Op2 prog w T A (inplaceOp op) a b c) (h : ∀ s', FI W T s₀ env G (⟨ix, 880, iD, Qab, (name, c) :: GI⟩ :: post) s' → Go prog w A env rest R s') (ha : autoParam (okDv c = true) sR) (hn : autoParam (name ∈ Qdj 880) sD) :
  Go prog w A env (.AugAssign (.Attribute o name pos') op e pos :: rest) R s := i_augset a b c hT F ho hg hea he hop h ha (.inl rfl) rfl hn
theorem Qhx {o e:Expr}{name:Str}{pos pos':Pos}(a:Dv)(hT:T.le Tz)(he:EvI prog w T A env G (⟨ix, 880, iD, Qab, GI⟩ :: post) e a)(ho:EvI prog w T A env G (⟨ix, 880, iD, Qab, GI⟩ :: post) o (.v (.ref ix)))
  (h : Gi prog w A W T s₀ env R G (⟨ix, 880, iD, Qab, (name, a) :: GI⟩ :: post) rest) (ha : autoParam (okDv a = true) sR) (hn : autoParam (name ∈ Qdj 880) sD)
  (hs : autoParam (swapsWith e (some (.Attribute o name pos')) pos.line env = pure false) sK) : Gi prog w A W T s₀ env R G (⟨ix, 880, iD, Qab, GI⟩ :: post) (.Assign [.Attribute o name pos'] e pos :: rest) := fun s F => x_set a hT F he ho h ha hn hs
theorem g_xaugset {o e:Expr}{name:Str}{pos pos':Pos}{op:Operator}(a b c:Dv)(hT:T.le Tz)(ho:EvI prog w T A env G (⟨ix, 880, iD, Qab, GI⟩ :: post) o (.v (.ref ix)))(hg:GI.lookup name = some a)(hea:okDv a = true)(he:EvI prog w T A env G (⟨ix, 880, iD, Qab, GI⟩ :: post) e b)
  (hop : Op2 prog w T A (inplaceOp op) a b c) (h : Gi prog w A W T s₀ env R G (⟨ix, 880, iD, Qab, (name, c) :: GI⟩ :: post) rest) (ha : autoParam (okDv c = true) sR) (hn : autoParam (name ∈ Qdj 880) sD) :
  Gi prog w A W T s₀ env R G (⟨ix, 880, iD, Qab, GI⟩ :: post) (.AugAssign (.Attribute o name pos') op e pos :: rest) := fun s F => x_augset a b c hT F ho hg hea he hop h ha hn
theorem x_setDq {o:Expr}{x name:Str}{np cp pos pos':Pos}(hT:T.le Tz)(F:FI W T s₀ env G (⟨ix, 880, iD, Qab, GI⟩ :: post) s)(he:EvA prog w T A env G (.Name x np) (.v (.type "collections.deque")))
  (ho : ∀ T', T'.le T → EvI prog w T' A env G (⟨ix, 880, iD, Qab, GI⟩ :: post) o (.v (.ref ix)))
  (h : ∀ d s', ¬ Qaa s.heap d → FI W (T.has d Qgq) s₀ env G (⟨ix, 880, iD, Qab, (name, .v (.ref d)) :: GI⟩ :: post) s' → Go prog w A env rest R s') (hn : autoParam (name ∈ Qdj 880) sD)
  (hs : autoParam (swapsWith (.Call (.Name x np) [] [] cp) (some (.Attribute o name pos')) pos.line env = pure false) sK) : Go prog w A env (.Assign [.Attribute o name pos'] (.Call (.Name x np) [] [] cp) pos :: rest) R s :=
 i_setDq hT F he ho h (.inl rfl) rfl hn hs
theorem x_attr {T':Hp}{I:List Ins}{o:Expr}{name:Str}{pos:Pos}(a:Dv)(hT:T.le Tz)(ho:EvA prog w (T.ins (⟨ix, 880, iD, Qab, GI⟩ :: I)) A env G o (.v (.ref ix)))(hg:autoParam (GI.lookup name = some a) sK)(hok:autoParam (okDv a = true) sR)(hn:autoParam (name ∈ Qab) sD)
  (hbase : autoParam (attributeBase o name env (eval o env) = eval o env) sK) (hlet : autoParam (∀ ov r, letTemporaryGo o ov r = pure ()) sR) : EvA prog w (T.ins (⟨ix, 880, iD, Qab, GI⟩ :: I)) A env G (.Attribute o name pos) a :=
 EvA.attr ⟨ix, 880, iD, Qab, GI⟩ a (Hp.ins_z hT) (Qqb (.refl _) (.head _)) ho hg (.inl rfl) hn hok hbase hlet
end
section
variable {prog : Program} {w : World}
theorem bind_lex {M:Model}{A:Around}{s:Shared}{E:Value → Shared → Prop}{Q:List (Str × Value) → Shared → Prop}(c pm v u d0 d1 d2 d3:Value)(o:Obj)(n:Nat)(ho:s.heap.get? 797 = some o)(hd:o.data = .seq #[d0, d1, d2, d3] n)(h:Q [(Str.ofString "self", v), (Str.ofString "instream", u), (Str.ofString "infile", d1), (Str.ofString "posix", .bool true), (Str.ofString "punctuation_chars", d3)] s) :
  wpAny M A (bindArgs (fdM 51 0 "shlex.__init__" c pm (.ref 797)) ⟨[v, u], [(Str.ofString "posix", .bool true)]⟩) Q E s := by
 obtain ⟨oc, od, dt, sl⟩ := o
 have hd : dt = _ := hd
 subst hd
 exact Qjx (a := 797) (by kernel_rfl!) ho (wpAny_of_eq (a := [(Str.ofString "self", v), (Str.ofString "instream", u), (Str.ofString "infile", d1), (Str.ofString "posix", .bool true), (Str.ofString "punctuation_chars", d3)]) (by kernel_rfl!) h)
theorem QBq {T:Hp}{A:Around}(a:Addr) : Op2 prog w T A (compareOp .IsNot) (.v (.ref a)) (.d .none) (.d (.bool true)) := ⟨fun E s v1 v2 ζ p1 p2 => by
 have : v2 = .none := Rd.none_inv (X := T.X) (h := s.heap) p2
 subst this
 have : v1 = .ref a := p1
 subst this
 exact isNot_none ⟨Dv.p.bool, .refl s⟩⟩
noncomputable def wcA : Str := Str.ofString "abcdfeghijklmnopqrstuvwxyzABCDEFGHIJKLMNOPQRSTUVWXYZ0123456789_"
noncomputable def wcB : Str := Str.ofString "ßàáâãäåæçèéêëìíîïðñòóôõöøùúûüýþÿÀÁÂÃÄÅÆÇÈÉÊËÌÍÎÏÐÑÒÓÔÕÖØÙÚÛÜÝÞ"
theorem wcLen : wcA.length + wcB.length ≤ sizeLine := by decide +kernel
theorem wcQ : Txt.contains (wcA ++ wcB) (Str.ofString "'") = false := by decide +kernel
noncomputable abbrev liEnv (pm:Value)(L:Addr) : Env := callEnvC (fdM 51 0 "shlex.__init__" (.ref (804 - 1)) pm (.ref 797)) L 804
theorem lex_init {T:Hp}{A:Around}{x D:Addr}{b:Str}{t:Tok}{sh:Shared}{R:Result → Shared → Prop}(hT:T.le Tz)(ok:OkA A 8)(hp:T.p sh.heap)(hI:Own3 T [lexX x D []] sh.heap)(hb:b.length ≤ sizeLine)
  (hR : ∀ (P : Lp) (s' : Shared), P.x = x → P.D = D → P.buf = b → Txt.contains P.wc (Str.ofString "'") = false → KtX (fun b => b = D) sh s' → ¬ Qaa sh.heap P.sx → ¬ Qaa sh.heap P.sD → ¬ Qaa sh.heap P.d1 → ¬ Qaa sh.heap P.d2 → P.sx ≠ P.sD → P.d1 ≠ P.sD → P.d2 ≠ P.sD →
   InsAt s'.heap (lexX x D (lexG0 P (Str.ofString "#") false)) → InsAt s'.heap (Qfx P 0) → s'.heap.get? P.d1 = some Qgq → s'.heap.get? P.d2 = some Qgq → R (.ok (.ret .none)) s') :
  codeAny (model prog w) A (.call (.ref 804) ⟨[.ref x, .str b t], [(Str.ofString "posix", .bool true)]⟩) R sh := by
 have tz := hT.p _ hp
 refine eE (tz.meth 804 51 0 "shlex.__init__" (.ref 797) (by repeat first | exact List.Mem.head _ | refine List.Mem.tail _ ?_)) fun pm hf => ?_
 refine Qha (T := T) (I := [lexX x D []]) (body := Qmk 51 0) (names := ["self", "instream", "infile", "posix", "punctuation_chars"]) (as := [.v (.ref x), .d (.str b), .d .none, .d (.bool true), .d (.bool false)]) (n := 7) hf ok tz.p.lim hp hI (by kernel_rfl!) (fun E Q hq => ?_) (by decide +kernel) (by kernel_rfl!) rfl (fun y hy => ?_) (by kernel_rfl!) (by kernel_rfl!) (by kernel_rfl!) (fun sb s₁ kb F ok' => ?_)
 ·refine eEA (tz.dfl 797 [.none, .none, .bool false, .bool false] (.tail _ (.head _))) fun vs ν0 r => ?_
  refine eEAAE (ν0) fun o ho hc n hd => ?_
  refine Qac (r.cons_inv) fun d0 ds e r1 r2 => ?_
  refine Qac (r2.cons_inv) fun d1 ds' ρ1 r3 r4 => ?_
  subst ρ1
  refine Qac (r4.cons_inv) fun d2 ds2 ρ2 r5 r6 => ?_
  subst ρ2
  refine Qac (r6.cons_inv) fun d3 ds3 ρ3 r7 r8 => ?_
  subst ρ3
  rw [r8.nil_inv] at e
  obtain ⟨l⟩ := vs
  have e : l = [d0, d1, d2, d3] := e
  subst e
  refine bind_lex _ pm (.ref x) (.str b t) d0 d1 d2 d3 o n ho hd (hq [.ref x, .str b t, d1, .bool true, d3] _ (.refl _) ⟨_, _, rfl, rfl, _, _, rfl, Dv.p.str, _, _, rfl, ?_, _, _, rfl, Dv.p.bool, _, _, rfl, ?_, rfl⟩)
  ·rw [r3.none_inv]; exact Dv.p.none
  ·rw [r7.bool_inv]; exact Dv.p.bool
 ·have : y = Str.ofString "self" ∨ y = Str.ofString "instream" ∨ y = Str.ofString "infile" ∨ y = Str.ofString "posix" ∨ y = Str.ofString "punctuation_chars" := by simpa using hy
  rcases this with rfl | rfl | rfl | rfl | rfl <;> exact .inl (by kernel_rfl!)
 ·have hz := (Hp.push_le T (Qba (liEnv pm sb.heap.objs.size))).trans hT
  generalize T.push (Qba (liEnv pm sb.heap.objs.size)) = T1 at F hz
  refine wpAny_mono (Go.of (R := fun f s' => match f with | .ret v => R (.ok (.ret v)) s' | _ => R (.ok (.ret .none)) s') ?_) (fun f s' q => by cases f <;> exact q) fun ζ ζ x => x.elim
  refine i_ifT F (TeA.i (TeA.val (EvA.call (bltn (.builtin "isinstance") ((Hp.ins_z hz).trans Tz.le)) (EvL.cons (EvA.name (.d (.str b))) (EvL.cons (bltn (.type "str") ((Hp.ins_z hz).trans Tz.le)) .nil')) QHj) trivial)) fun s₂ F => ?_
  have hlv2 : ∀ {c}, ¬ Qaa s₂.heap c → ¬ Qaa sh.heap c := fun h l => h (F.f.kt.kp.live _ (eE (l) fun o e => ⟨o, kb.kp _ o e⟩))
  refine i_sio (b := b) (n := 1) hz ok' F hb (glob (.ref 745) (hz.trans Tz.le)) (EvA.name (.d (.str b))) fun sx sD s₃ hsx hsD hne F => Qaw ?_
  have hz2 := (Hp.push_le T1 fun c => c = sD).trans hz
  generalize hT2 : T1.push (fun c => c = sD) = T2 at F hz2
  have self : ∀ {T' : Hp} {G : Gam} {pos : Pos}, List.lookup (Str.ofString "self") G = some (Dv.v (.ref x)) → EvA prog w T' (A.deeper (liEnv pm sb.heap.objs.size)) (liEnv pm sb.heap.objs.size) G (.Name "self" pos) (.v (.ref x)) := fun e => EvA.name (.v (.ref x)) (hx := e)
  refine Qtx F ?_
  refine Qkz (TeA.i (TeA.cmp (EvA.name (.v (.ref sx))) EvA.noneC (QBq _))) ?_
  refine Qhx (.v (.ref sx)) hz2 (EvA.i (EvA.name (.v (.ref sx)))) (EvA.i (self rfl)) ?_
  refine Qhx (.d .none) hz2 (EvA.i (EvA.name (.d .none))) (EvA.i (self rfl)) (Qhq ?_)
  refine Qhx (.d (.bool true)) hz2 (EvA.i (EvA.name (.d (.bool true)))) (EvA.i (self rfl)) ?_
  refine Qkz (TeA.i (TeA.val (d := .bool true) (EvA.name (.d (.bool true))) trivial)) ?_
  refine Qhx (.d .none) hz2 (EvA.i EvA.noneC) (EvA.i (self rfl)) (Qhq ?_)
  refine Qhx (.d (.str (Str.ofString "#"))) hz2 (EvA.i EvA.str) (EvA.i (self rfl)) ?_
  refine Qhx (.d (.str wcA)) hz2 (EvA.i EvA.str) (EvA.i (self rfl)) ?_
  refine Qkz (TeA.i (TeA.val (d := .bool true) (x_attr (T' := T2) (.d (.bool true)) hz2 (self rfl)) trivial)) ?_
  refine g_xaugset (.d (.str wcA)) (.d (.str wcB)) (.d (.str (wcA ++ wcB))) hz2 (EvA.i (self rfl)) Qak rfl (EvA.i EvA.str) (Qia wcLen) (Qhq ?_)
  refine Qhx (.d (.str (Str.ofString " \t\r\n"))) hz2 (EvA.i EvA.str) (EvA.i (self rfl)) ?_
  refine Qhx (.d (.bool false)) hz2 (EvA.i EvA.boolC) (EvA.i (self rfl)) ?_
  refine Qhx (.d (.str (Str.ofString "'\""))) hz2 (EvA.i EvA.str) (EvA.i (self rfl)) ?_
  refine Qhx (.d (.str (Str.ofString "\\"))) hz2 (EvA.i EvA.str) (EvA.i (self rfl)) ?_
  refine Qhx (.d (.str (Str.ofString "\""))) hz2 (EvA.i EvA.str) (EvA.i (self rfl)) ?_
  refine Qhx (.d (.str (Str.ofString " "))) hz2 (EvA.i EvA.str) (EvA.i (self rfl)) ?_
  intro s₆ F
  have hlv6 : ∀ {c}, ¬ Qaa s₆.heap c → ¬ Qaa sh.heap c := fun h l => h (F.f.kt.kp.live _ (eE (l) fun o e => ⟨o, kb.kp _ o e⟩))
  have hsD6 : Qaa s₆.heap sD := (F.i _ (.tail _ (.head _))).dlive
  refine x_setDq hz2 F (glob (.type "collections.deque") (hz2.trans Tz.le)) (fun T' hT' => EvA.i (self rfl)) fun d1 s₇ hd1 F => ?_
  have hz3 := (Hp.has_le T2 d1 Qgq).trans hz2
  generalize hT3 : T2.has d1 Qgq = T3 at F hz3
  refine Qtx F ?_
  refine Qhx (.d (.int 1)) hz3 (EvA.i EvA.int) (EvA.i (self rfl)) ?_
  refine Qhx (.d (.int 0)) hz3 (EvA.i EvA.int) (EvA.i (self rfl)) ?_
  refine Qhx (.d (.str (Str.ofString ""))) hz3 (EvA.i EvA.str) (EvA.i (self rfl)) ?_
  intro s₈ F
  have hlv8 : ∀ {c}, ¬ Qaa s₈.heap c → ¬ Qaa sh.heap c := fun h l => h (F.f.kt.kp.live _ (eE (l) fun o e => ⟨o, kb.kp _ o e⟩))
  have hsD8 : Qaa s₈.heap sD := (F.i _ (.tail _ (.head _))).dlive
  refine x_setDq hz3 F (glob (.type "collections.deque") (hz3.trans Tz.le)) (fun T' hT' => EvA.i (self rfl)) fun d2 s₉ hd2 F => ?_
  have hz4 := (Hp.has_le T3 d2 Qgq).trans hz3
  have hdq : ∀ h, (T3.has d2 Qgq).p h → h.get? d1 = some Qgq ∧ h.get? d2 = some Qgq := fun h q => ⟨by
   have := q.1
   rw [← hT3] at this
   exact this.2.1, q.2.1⟩
  generalize T3.has d2 Qgq = T4 at F hz4 hdq
  refine x_set (.d .none) hz4 F (EvA.i EvA.noneC) (EvA.i (self rfl)) fun s₅ F => ?_
  refine Qtx F ?_
  refine Qkz (TeA.i (TeA.not (b := false) (TeA.val (d := .bool false) (EvA.name (.d (.bool false))) trivial))) ?_
  refine Qec (.d (.str (Str.ofString ""))) (EvA.i EvA.str) (Qhq ?_)
  intro s₅ F
  refine Qtx F ?_
  refine Qhx (.d (.str (Str.ofString ""))) hz4 (EvA.i (EvA.name (.d (.str (Str.ofString ""))))) (EvA.i (self rfl)) ?_
  refine Qcw (TeA.i (TeA.val (d := .str (Str.ofString "")) (EvA.name (.d (.str (Str.ofString "")))) (Nat.zero_le _))) (Qhq (Qhq ?_))
  intro sE F
  let P : Lp := ⟨x, D, sx, sD, d1, d2, wcA ++ wcB, b⟩
  have F := F.pick1 (G2 := lexG0 P (Str.ofString "#") false) (.cons (.cons (.cons (.cons (.cons (.cons (.cons (.cons (.cons (.cons (.cons (.cons (.cons (.cons (.cons (.cons (.cons .nil)))))))))))))))))
  refine eA (hdq _ F.f.t) fun q1 q2 => ?_
  refine hR P sE rfl rfl rfl wcQ ((kb.x (W := fun b => b = D)).trans (F.f.kt.wider fun b ⟨i, hi, e⟩ => by rw [List.mem_singleton.mp hi] at e; exact e)) (hlv2 hsx) (hlv2 hsD) (hlv6 hd1) (hlv8 hd2) hne (fun q => hd1 ((show d1 = sD from q) ▸ hsD6)) (fun q => hd2 ((show d2 = sD from q) ▸ hsD8)) (F.i _ (.head _)) (F.i _ (.tail _ (.head _))) q1 q2
end
section
variable {prog : Program} {w : World}
theorem Qzv {T:Hp}{A:Around}{env:Env}{G:Gam}{E:Value → Shared → Prop}{s:Shared}{Q:Value → Shared → Prop}{x k:Str}{np pos kp:Pos}{e e2:Expr}{f:Value}{a b:Dv}(hf:EvA prog w T A env G (.Name x np) (.v f))(h1:EvA prog w T A env G e a)(h2:EvA prog w T A env G e2 b)(hp:T.p s.heap)(hv:Vw T.X env G s.heap)
  (hkeep : ∀ h, T.p h → ∃ kk, (kk = Keeper.frame ∨ kk = Keeper.machine ∨ kk = Keeper.boundFrame) ∧ PySem.W.Looks (model prog w) h (keeperOf f) kk)
  (hc : ∀ v u s', Kt s s' → a.p T.X s'.heap v → b.p T.X s'.heap u → wpAny (model prog w) A (call f [v] [(k, u)]) Q E s')
  (hkw : autoParam (backToKw pos (keywordEach [⟨some k, e2, kp⟩] env) = [(some k, do let v ← eval e2 env; standAt pos; pure v)]) sK) (he : autoParam (starEach [e] env = (false, eval e env) :: starEach [] env) sK) : wpAny (model prog w) A (eval (.Call (.Name x np) [e] [⟨some k, e2, kp⟩] pos) env) Q E s := by
 refine wpAny_Call_Name_kw (wpAny_mono (hf.of E s hp hv) (fun f' s₁ q => ?_) fun ζ ζ x => x)
 refine eA (q) fun ρ0 k1 => ?_
 subst ρ0
 have hL := EvL.cons (pos := pos) h1 .nil' he
 refine PySem.W.callWith_of (P := T.p) (by rw [hkw, hL.noStar]; rfl) hkeep (evalArgs_kw2 (by rw [hkw]; rfl) ?_ he)
 refine wpAny_mono (hL.of E s₁ (T.kt hp k1) (hv.kp k1.kp)) (fun vs s₂ q => ?_) fun ζ ζ x => x
 refine eA (q) fun ν1 k2 => ?_
 refine Qac (ν1) fun v vs' ρ0 hv1 ρ1 => ?_
 subst ρ0
 subst ρ1
 have kk := k1.trans k2
 rw [hkw]
 refine wpAny_evalAll_cons (wpAny_bind (wpAny_mono (h2.of E s₂ (T.kt hp kk) (hv.kp kk.kp)) (fun u s₃ q => wpAny_bind (wpAny_standAt (wpAny_pure ?_))) fun ζ ζ x => x))
 refine eA (q) fun hu k3 => ?_
 exact wpAny_evalAll_nil ⟨T.kt hp (kk.trans k3), hc v u s₃ (kk.trans k3) (hv1.kp k3.kp.kpx) hu⟩
structure LexNew (P : Lp) (b : Str) (sh s' : Shared) : Prop where
 buf : P.buf = b
 wc : Txt.contains P.wc (Str.ofString "'") = false
 kt : Kt sh s'
 nx : ¬ Qaa sh.heap P.x
 nD : ¬ Qaa sh.heap P.D
 nsx : ¬ Qaa sh.heap P.sx
 nsD : ¬ Qaa sh.heap P.sD
 nd1 : ¬ Qaa sh.heap P.d1
 nd2 : ¬ Qaa sh.heap P.d2
 xD : P.x ≠ P.D
 xsD : P.x ≠ P.sD
 sxD : P.sx ≠ P.D
 sxsD : P.sx ≠ P.sD
 DsD : P.D ≠ P.sD
 d1D : P.d1 ≠ P.D
 d1sD : P.d1 ≠ P.sD
 d2D : P.d2 ≠ P.D
 d2sD : P.d2 ≠ P.sD
 lex : InsAt s'.heap (lexX P.x P.D (lexG0 P (Str.ofString "#") false))
 str : InsAt s'.heap (Qfx P 0)
 q1 : s'.heap.get? P.d1 = some Qgq
 q2 : s'.heap.get? P.d2 = some Qgq
open PySem.W in
theorem call_lex {T:Hp}{A:Around}{b:Str}{t:Tok}{sh:Shared}{R:Result → Shared → Prop}(hT:T.le Tz)(ok:OkA A 9)(hp:T.p sh.heap)(hb:b.length ≤ sizeLine)(hR:∀ P s', LexNew P b sh s' → R (.ok (.ret (.ref P.x))) s') :
  codeAny (model prog w) A (.call (.ref 880) ⟨[.str b t], [(Str.ofString "posix", .bool true)]⟩) R sh := by
 refine eEA ((hT.p _ hp).k) fun K X sk => ?_
 obtain ⟨h, g, d, tk, os⟩ := sh
 have hi := sk.lex.fn _ (show ((Str.ofString "__init__"), (804 : Nat)) ∈ fnsLex by decide +kernel)
 have hDn : ¬ Qaa h h.objs.size := Qax (Nat.le_refl _)
 have hxn : ¬ Qaa h (h.objs.size + 1) := Qax (Nat.le_succ _)
 have kk : Kp h ((h.push PySem.W.emptyDict).push (PySem.W.instObj 880 h.objs.size)) := (Qav _ _).trans (Qav _ _)
 have up : ∀ {c}, ¬ Qaa ((h.push PySem.W.emptyDict).push (PySem.W.instObj 880 h.objs.size)) c → ¬ Qaa h c := fun h l => h (eE (l) fun o e => ⟨o, kk _ o e⟩)
 have hlx : Qaa ((h.push PySem.W.emptyDict).push (PySem.W.instObj 880 h.objs.size)) (h.objs.size + 1) := ⟨_, (new_at (ns := Qab)).obj⟩
 have hlD : Qaa ((h.push PySem.W.emptyDict).push (PySem.W.instObj 880 h.objs.size)) h.objs.size := (new_at (C := 880) (ns := Qab)).dlive
 refine make_core (makes_of X sk.make) (looks_findIn X hi.1) (fun self => bind_fn X self hi.2) (.inl rfl) ?_
 refine lex_init (T := T.push fun c => c = h.objs.size) (x := h.objs.size + 1) (D := h.objs.size) ((Hp.push_le _ _).trans hT) ok.make (Hp.push_p hp (fun y hy => hy ▸ hDn) kk.kpx fun y hy => hy ▸ hlD)
  ⟨fun i hi => by rw [List.mem_singleton.mp hi]; exact new_at, fun i hi => by rw [List.mem_singleton.mp hi]; exact .inr rfl, fun i hi => by rw [List.mem_singleton.mp hi]; exact fun q => q.elim (fun q => hxn (T.live _ hp _ q)) (Nat.succ_ne_self _), List.pairwise_singleton _ _⟩ hb fun P s' e1 e2 e3 hwc kx n1 n2 n3 n4 d1 d2 d3 l1 l2 q1 q2 => ?_
 have ne : ∀ {c : Addr}, ¬ Qaa ((h.push PySem.W.emptyDict).push (PySem.W.instObj 880 h.objs.size)) c → c ≠ h.objs.size ∧ c ≠ h.objs.size + 1 := fun hc => ⟨fun q => hc (q ▸ hlD), fun q => hc (q ▸ hlx)⟩
 have := hR P s' ⟨e3, hwc, ?_, e1 ▸ hxn, e2 ▸ hDn, up n1, up n2, up n3, up n4, ?_, ?_, e2 ▸ (ne n1).1, d1, ?_, e2 ▸ (ne n3).1, d2, e2 ▸ (ne n4).1, d3, ?_, l2, q1, q2⟩
 ·rw [e1] at this
  exact ⟨rfl, this⟩
 ·refine Qfw (kx.of) fun h' tk' e' k' => ?_
  exact ⟨h', tk', e', fun bb o eb => k'.kp bb o (fun q => hDn (q ▸ ⟨o, eb⟩)) (kk bb o eb)⟩
 ·rw [e1, e2]; exact Nat.succ_ne_self _
 ·rw [e1]; exact Ne.symm (ne n2).2
 ·rw [e2]; exact Ne.symm (ne n2).1
 ·rw [e1, e2]; exact l1
end
section
variable {prog : Program} {w : World}
theorem bind_split {M:Model}{A:Around}{s:Shared}{E:Value → Shared → Prop}{Q:List (Str × Value) → Shared → Prop}(c pm v d0 d1:Value)(o:Obj)(n:Nat)(ho:s.heap.get? 885 = some o)(hd:o.data = .seq #[d0, d1] n)(h:Q [(Str.ofString "s", v), (Str.ofString "comments", d0), (Str.ofString "posix", d1)] s) :
  wpAny M A (bindArgs (Qdz 52 c pm (.ref 885)) ⟨[v], []⟩) Q E s := by
 obtain ⟨oc, od, dt, sl⟩ := o
 have hd : dt = _ := hd
 subst hd
 exact Qjx (a := 885) (by kernel_rfl!) ho (wpAny_of_eq (a := [(Str.ofString "s", v), (Str.ofString "comments", d0), (Str.ofString "posix", d1)]) (by kernel_rfl!) h)
noncomputable def lexT (T:Hp)(P:Lp) : Hp := ((T.push fun c => c = P.D ∨ c = P.sD).has P.d1 Qgq).has P.d2 Qgq
theorem lexT.le (T:Hp)(P:Lp) : (lexT T P).le T := (Hp.has_le _ _ _).trans ((Hp.has_le _ _ _).trans (Hp.push_le _ _))
theorem lexT.q {T:Hp}{P:Lp}(hT:T.le Tz) : (lexT T P).le (Tq P) := ⟨fun h q => ⟨⟨hT.p h ((Hp.push_le T _).p h q.1.1), q.1.2.1, fun q => q⟩, q.2.1, fun q => q⟩, fun b q => q.elim⟩
theorem FI.addLex {W:Addr → Prop}{T:Hp}{s₀ s s':Shared}{env:Env}{G:Gam}{P:Lp}{b:Str}(F:FI W T s₀ env G [] s)(L:LexNew P b s s') : FI W (lexT T P) s₀ env G [lexX P.x P.D (lexG0 P (Str.ofString "#") false), Qfx P 0] s' := by
 refine Qfw (L.kt.of) fun h' tk ρ0 k => ?_
 subst ρ0
 have F1 : Fx W (T.push fun c => c = P.D ∨ c = P.sD) s₀ env G none { s with heap := h', toks := tk } := F.f.push k (fun c hc => hc.elim (fun q => q ▸ L.nD) fun q => q ▸ L.nsD) fun c hc => hc.elim (fun q => q ▸ L.lex.dlive) fun q => q ▸ L.str.dlive
 have nX : ∀ {c}, ¬ Qaa s.heap c → c ≠ P.D → c ≠ P.sD → ¬ (T.push fun c => c = P.D ∨ c = P.sD).X c := fun h h1 h2 q => q.elim (fun q => h (T.live _ F.f.t _ q)) fun q => q.elim h1 h2
 refine eEA (F.f.ns) fun m hn ζ => ?_
 have fr : ∀ {c}, ¬ Qaa s.heap c → c ≠ env.locals ∧ ∀ n, env.cells.lookup n ≠ some c := fun h => ⟨fun q => h (q ▸ Ns.live hn), fun n q => by
  obtain ⟨v, hi, _⟩ := F.f.cell n _ q
  exact h (Cell.live hi)⟩
 refine ⟨⟨⟨⟨F1.t, L.q1, nX L.nd1 L.d1D L.d1sD⟩, L.q2, nX L.nd2 L.d2D L.d2sD⟩, F1.kt, F1.wX, F1.lo, F1.loX, F1.cells, F1.apart, F1.ns, F1.cell, F1.all, F1.own⟩, fun i hi => ?_, fun i hi => ?_, fun i hi => ?_, List.pairwise_cons.mpr ⟨fun j hj => by rw [List.mem_singleton.mp hj]; exact L.DsD, List.pairwise_singleton _ _⟩⟩
 ·rcases List.mem_cons.mp hi with rfl | hi
  ·exact L.lex
  ·rw [List.mem_singleton.mp hi]; exact L.str
 ·rcases List.mem_cons.mp hi with rfl | hi
  ·exact ⟨.inr (.inl rfl), .inl (F.live0 L.nD), fr L.nD⟩
  ·rw [List.mem_singleton.mp hi]; exact ⟨.inr (.inr rfl), .inl (F.live0 L.nsD), fr L.nsD⟩
 ·rcases List.mem_cons.mp hi with rfl | hi
  ·exact nX L.nx L.xD L.xsD
  ·rw [List.mem_singleton.mp hi]; exact nX L.nsx L.sxD L.sxsD
structure SplitK (outer : List Env) (s s' : Shared) : Prop where
 of : ∃ h tk, s' = { s with heap := h, toks := tk } ∧ (∀ b o, b ∉ fra outer → s.heap.get? b = some o → h.get? b = some o) ∧ (∀ b ∈ fra outer, ∀ o, s.heap.get? b = some o → ∃ sl, h.get? b = some { o with slots := sl })
noncomputable abbrev Qnx (pm:Value)(L:Addr) : Env := callEnvC (Qdz 52 (.ref 891) pm (.ref 885)) L 892
theorem fn_split {T:Hp}{A:Around}{outer:List Env}{b:Str}{toks:List (List Nat)}{t:Tok}{sh:Shared}{E:Value → Shared → Prop}{Q:Value → Shared → Prop}(hT:T.le Tz)(ok:OkA A 16)(hfr:A.frames = some outer)(hfo:Frs sh.heap outer)(hfX:∀ c ∈ fra outer, T.X c)(hp:T.p sh.heap)
  (htoks : Toks b.cps.toList toks) (hb : b.length ≤ 1000000) (hlay : ∀ t ∈ toks, (PyData.str (tkS t)).canLay0 = true) (hn : toks.length ≤ sizeLine)
  (hQ : ∀ v s', (Dv.d (.list (toks.map fun t => .str (tkS t)))).p T.X s'.heap v → SplitK outer sh s' → Q v s') : wpAny (model prog w) A (call (.ref 892) [.str b t]) Q E sh := by
 have tz := hT.p _ hp
 have hbs : b.length ≤ sizeLine := Nat.le_trans hb (Nat.le_of_ble_eq_true rfl)
 refine eE (tz.split) fun pm hf => ?_
 refine wpAny_call (Qha (T := T) (I := []) (body := Qda 52) (names := ["s", "comments", "posix"]) (as := [.d (.str b), .d (.bool false), .d (.bool true)]) (n := 15) hf ok tz.p.lim hp ⟨fun ζ h => (nomatch h), fun ζ h => (nomatch h), fun ζ h => (nomatch h), List.Pairwise.nil⟩ (by kernel_rfl!) (fun E Q hq => ?_) (by decide +kernel) (by kernel_rfl!) rfl (fun y hy => ?_) (by kernel_rfl!) (by kernel_rfl!) (by kernel_rfl!) (fun sb s₁ kb F ok' => ?_))
 ·refine eEA (tz.dfl 885 [.bool false, .bool true] (.tail _ (.tail _ (.tail _ (.head _))))) fun vs ν1 r => ?_
  refine eEAAE (ν1) fun o ho hc n hd => ?_
  refine Qac (r.cons_inv) fun d0 ds e r1 r2 => ?_
  refine Qac (r2.cons_inv) fun d1 ds' ρ2 r3 r4 => ?_
  subst ρ2
  rw [r4.nil_inv] at e
  obtain ⟨l⟩ := vs
  have e : l = [d0, d1] := e
  subst e
  refine bind_split _ pm (.str b t) d0 d1 o n ho hd (hq [.str b t, d0, d1] _ (.refl _) ⟨_, _, rfl, Dv.p.str, _, _, rfl, ?_, _, _, rfl, ?_, rfl⟩)
  ·rw [r1.bool_inv]; exact Dv.p.bool
  ·rw [r3.bool_inv]; exact Dv.p.bool
 ·have : y = Str.ofString "s" ∨ y = Str.ofString "comments" ∨ y = Str.ofString "posix" := by simpa using hy
  rcases this with rfl | rfl | rfl <;> exact .inl (by kernel_rfl!)
 have hle1 := Hp.push_le T (Qba (Qnx pm sb.heap.objs.size))
 have hz := hle1.trans hT
 have hnewL : ¬ Qaa sb.heap (Qnx pm sb.heap.objs.size).locals := Qax (Nat.le_refl _)
 have hfr' : (A.deeper (Qnx pm sb.heap.objs.size)).frames = some (Qnx pm sb.heap.objs.size :: outer) := Around.frames_deeper hfr
 generalize hT1 : T.push (Qba (Qnx pm sb.heap.objs.size)) = T1 at F hz hle1
 refine wpAny_mono (Go.of (R := fun f s' => match f with | .ret v => Q v s' | _ => False) ?_) (fun f s' q => by cases f <;> first | exact q | exact q.elim) fun ζ ζ x => x.elim
 refine Qsa F (TeA.i (TeA.cmp (EvA.name (.d (.str b))) EvA.noneC (Qea rfl))) fun s₂ F => Qaw ?_
 refine ⟨wpAny_execs_cons (wpAny_Assign_Name (hs := by kernel_rfl!) (Qzv (T := T1) (b := .d (.bool true)) (glob (.ref 880) (hz.trans Tz.le)) (EvA.name (.d (.str b))) (EvA.name (.d (.bool true))) F.f.t F.f.vw (fun h q => ?_) fun v u s₃ k3 hv hu => ?_))⟩
 ·refine eEA ((hz.p h q).k) fun K hK sk => ?_
  exact PySem.W.keeps_K sk.keepL h hK
 refine eE (hv.str_inv) fun t' ρ3 => ?_
 subst ρ3
 have := hu.bool_inv
 subst this
 have F := F.kept k3
 have lk3 : Kp sb.heap s₃.heap := fun bb o eb => F.f.kt.kp.kp bb o (fun ⟨i, hi, _⟩ => nomatch hi) eb
 refine wpAny_call (call_lex hz (ok'.le (by lia)) F.f.t hbs fun P s₄ L => ?_)
 have F := F.addLex L
 have hq := lexT.q (P := P) hz
 have hle4 := lexT.le T1 P
 have hz4 := hq.trans (Tq.le P)
 have lX : ∀ c, (lexT T1 P).X c ↔ (T1.X c ∨ (c = P.D ∨ c = P.sD)) := fun c => Iff.rfl
 have hPD : ∀ c, Qaa s₃.heap c → c ≠ P.D ∧ c ≠ P.sD := fun c l => ⟨fun q => L.nD (q ▸ l), fun q => L.nsD (q ▸ l)⟩
 have hP : LpOk P := ⟨by rw [L.buf]; exact hb, L.wc⟩
 generalize lexT T1 P = T4 at F hq hle4 hz4 lX
 refine F.store (.v (.ref P.x)) (by kernel_rfl!) (.inl (by kernel_rfl!)) rfl fun s₅ F => ?_
 have self : ∀ {T' : Hp} {G : Gam} {pos : Pos}, List.lookup (Str.ofString "lex") G = some (Dv.v (.ref P.x)) → EvA prog w T' (A.deeper (Qnx pm sb.heap.objs.size)) (Qnx pm sb.heap.objs.size) G (.Name "lex" pos) (.v (.ref P.x)) := fun e => EvA.name (.v (.ref P.x)) (hx := e)
 refine (x_set (.d (.bool true)) hz4 F (EvA.i EvA.boolC) (EvA.i (self rfl)) fun s₆ F => ?_).of
 refine i_ifT F (TeA.i (TeA.not (b := false) (TeA.val (d := .bool false) (EvA.name (.d (.bool false))) trivial))) fun s₇ F => ?_
 refine x_set (.d (.str (Str.ofString ""))) hz4 F (EvA.i EvA.str) (EvA.i (self rfl)) fun s₈ F => Qaw ?_
 have F := F.pick1 (G2 := lexG P (.str (Str.ofString " ")) (Str.ofString "")) (.cons (.cons (.cons (.cons (.cons (.cons (.cons (.cons (.cons (.cons (.cons (.cons (.cons (.cons (.cons (.cons (.cons .nil)))))))))))))))))
 refine ⟨wpAny_execs_cons (wpAny_Return_some (Call_Name rfl (wpAny_mono ((bltn (.type "list") (hz4.trans Tz.le)).of _ s₈ F.f.t F.f.vw) (fun f' s₉ k => ?_) fun ζ ζ x => x)))⟩
 obtain ⟨rfl, k⟩ := k
 have F := F.kept k
 refine Qbx (by kernel_rfl!) (Qcz (EvL.cons (self rfl) .nil') F.f.t F.f.vw fun vs s₁₀ k10 hvs => ?_)
 refine Qac (hvs) fun v' vs' ρ4 hv' ρ5 => ?_
 subst ρ4
 subst ρ5
 have : v' = .ref P.x := hv'
 subst this
 have F := F.kept k10
 refine wpAny_mono (Q := fun ζ s' => s' = s₁₀) (by unfold keeperOf; exact wpAny_pure rfl) (fun ζ s₁₁ e => ?_) fun ζ ζ x => x
 subst e
 have hSn : ¬ Qaa s₁₁.heap s₁₁.heap.objs.size := Qax (Nat.le_refl _)
 have kpS : Kp s₁₁.heap (s₁₁.heap.push { cls := .type "list", data := .seq #[] }) := Qav _ _
 have hlex := F.i _ (.head _)
 have hstr := F.i _ (.tail _ (.head _))
 have hXx : ¬ T4.X P.x := F.x _ (.head _)
 have hXsx : ¬ T4.X P.sx := F.x _ (.tail _ (.head _))
 have hSl : ∀ {c}, Qaa s₁₁.heap c → c ≠ s₁₁.heap.objs.size := fun l q => hSn (q ▸ l)
 have lkE : Kp sb.heap s₁₁.heap := fun bb o eb => F.f.kt.kp.kp bb o (fun ⟨i, hi, _⟩ => nomatch hi) eb
 have shE : Kp sh.heap s₁₁.heap := fun bb o eb => lkE bb o (kb.kp bb o eb)
 have hloc : (Qnx pm sb.heap.objs.size).frame = some (Qnx pm sb.heap.objs.size).locals := by kernel_rfl!
 have hkf : (Qnx pm sb.heap.objs.size).scope.kind = .function := by kernel_rfl!
 refine eEA (F.f.ns) fun mE hnE ζ => ?_
 have sh3 : Kp sh.heap s₃.heap := fun bb o eb => lk3 bb o (kb.kp bb o eb)
 have fram : ∀ c ∈ fra (Qnx pm sb.heap.objs.size :: outer), Qaa s₁₁.heap c ∧ T4.X c ∧ c ≠ P.D ∧ c ≠ P.sD := fun c hc => by
  have hfra : fra (Qnx pm sb.heap.objs.size :: outer) = (Qnx pm sb.heap.objs.size).locals :: fra outer := rfl
  rw [hfra] at hc
  rcases List.mem_cons.mp hc with rfl | hc
  ·exact ⟨Ns.live hnE, F.f.loX, Ne.symm (F.w _ (.head _)).2.2.1, Ne.symm (F.w _ (.tail _ (.head _))).2.2.1⟩
  ·refine eEA (List.mem_filterMap.mp hc) fun env hme hfe => ?_
   refine Qlq (hfo env hme) fun hk L' o' hfL ho hd => ?_
   rw [hfe] at hfL; cases hfL
   exact ⟨⟨o', shE _ _ ho⟩, (lX c).mpr (.inl (hle1.X c (hfX c hc))), hPD c ⟨o', sh3 _ _ ho⟩⟩
 let T5 := T4.push fun c => c = s₁₁.heap.objs.size
 have hle5 : T5.le T4 := Hp.push_le _ _
 refine QDb (T := .ref 880) (S := s₁₁.heap.objs.size) rfl (wlk_lex hP (T := T5) (outer := Qnx pm sb.heap.objs.size :: outer) (s₀ := { s₁₁ with heap := s₁₁.heap.push { cls := .type "list", data := .seq #[] } }) (hle5.trans hq) (OkA.in1 (OkA.in1 (ok'.le (m := 12) (by lia)))) hfr' (fun env he => ?_) (fun c hc => ?_) ?_ ⟨?_, ?_⟩ ⟨?_, ?_, ?_⟩ ⟨L.DsD, ?_, ?_⟩ hlay ⟨?_, ?_⟩) ?_ ?_ rfl rfl ?_ hn ?_
 ·rcases List.mem_cons.mp he with rfl | he
  ·refine Qgz (hnE) fun o es ep ho hd ζ => ?_
   exact ⟨(fun q => by rw [hkf] at q; cases q), _, o, hloc, kpS _ _ ho, (fun vs q => by rw [hd] at q; cases q)⟩
  ·refine Qlq (hfo env he) fun hk L' o' hfL ho hd => ?_
   exact ⟨hk, L', o', hfL, kpS _ _ (shE _ _ ho), hd⟩
 ·refine Qwb (fram c hc) fun q1 q2 q3 q4 => ?_
  exact ⟨.inl q2, q3, q4, hSl q1⟩
 ·exact Hp.push_p F.f.t (fun y hy => hy ▸ hSn) kpS.kpx fun y hy => hy ▸ ⟨_, Heap.get?_push_size _ rfl⟩
 ·exact fun q => q.elim hXx (hSl ⟨_, hlex.obj⟩)
 ·exact fun q => q.elim hXsx (hSl ⟨_, hstr.obj⟩)
 ·exact .inl ((lX _).mpr (.inr (.inl rfl)))
 ·exact .inl ((lX _).mpr (.inr (.inr rfl)))
 ·exact .inr rfl
 ·exact Ne.symm (hSl hlex.dlive)
 ·exact Ne.symm (hSl hstr.dlive)
 ·exact Ne.symm (hSl ⟨_, hlex.obj⟩)
 ·exact Ne.symm (hSl ⟨_, hstr.obj⟩)
 ·exact Ne.symm (hSl ⟨_, hlex.obj⟩)
 ·intro sx κ0
  refine Qlq (κ0) fun g p st a1 b1 ζ => ?_
  have tp : T5.p sx.heap := by
   refine Qfw (g) fun hh tk ρ6 kx => ?_
   subst ρ6
   exact T5.mono _ _ (kx.wider fun bb hb => hb.elim (fun q => .inr q) fun q => .inl ((lX _).mpr (.inr q))) (Hp.push_p F.f.t (fun y hy => hy ▸ hSn) kpS.kpx fun y hy => hy ▸ ⟨_, Heap.get?_push_size _ rfl⟩)
  refine eEA (((hle5.trans hz4).p _ tp).k) fun K hK sk => ?_
  refine eEA (a1.wi) fun od I' ζ => ?_
  exact ⟨fun E Q q => I'.type.here q, fun E Q q => wpAny_bind (I'.type.here ((PySem.W.looks_findIn hK sk.lenN).here q)), fun E Q q => wpAny_bind (I'.type.here ((PySem.W.looks_findIn hK sk.hintN).here q))⟩
 ·refine ⟨⟨_, _, rfl, .refl _⟩, 0, .str (Str.ofString " "), hlex.kp kpS, hstr.kp kpS, .inl ⟨?_, rfl, Nat.zero_le _, ?_⟩⟩
  ·cases htoks <;> simp
  ·rw [L.buf]; simpa using htoks
 ·intro s' acc c' hfin hS hacc
  refine Qac (hfin) fun h' tk' ρ7 k1 k2 => ?_
  subst ρ7
  have hlive : ∀ {c o}, sh.heap.get? c = some o → c ≠ (Qnx pm sb.heap.objs.size).locals := fun e q => hnewL (q ▸ ⟨_, kb.kp _ _ e⟩)
  have keep : ∀ c o, c ∉ fra outer → sh.heap.get? c = some o → h'.get? c = some o := fun c o hc e => by
   refine eA (hPD c ⟨o, sh3 _ _ e⟩) fun q1 q2 => ?_
   exact k1 c o (fun q => (List.mem_cons.mp q).elim (hlive e) hc) (hSl ⟨o, shE _ _ e⟩) q1 q2 (kpS _ _ (shE _ _ e))
  have hST : ¬ T.X s₁₁.heap.objs.size := fun q => hSn (eE (T.live _ hp _ q) fun o e => ⟨o, shE _ _ e⟩)
  have rd : ∀ (ts : List (List Nat)) (vs : List Value), vs.length = ts.length → (∀ j v, vs[j]? = some v → ∃ t, v = Value.str (tkS (ts.getD j [])) t) → RdAll T.X h' (ts.map fun t => PyData.str (tkS t)) vs := by
   intro ts
   induction ts with
   | nil => intro vs hl _; rw [List.length_eq_zero_iff.mp hl]; exact .nil
   | cons a ts ih =>
    intro vs hl hv
    cases vs with
    | nil => cases hl
    | cons v vs =>
     refine eE (hv 0 v rfl) fun t e => ?_
     subst e
     exact .cons Rd.str (ih vs (by simpa using hl) fun j v e => by simpa using hv (j + 1) v (by simpa using e))
  refine hQ _ _ (Dv.p.list hST ⟨_, hS, rfl, _, rfl⟩ (rd toks acc.toList (by simpa using hacc.1) fun j v e => hacc.2 j v (by simpa using e))) ?_
  refine Qfw (F.f.kt.of) fun h2 tk2 e2 ζ => ?_
  refine Qfw (kb.of) fun h1 tk1 e1 ζ => ?_
  subst e1
  subst e2
  refine ⟨h', tk', rfl, keep, fun c hc o e => k2 c (List.mem_cons_of_mem _ hc) o (kpS _ _ (shE _ _ e))⟩
end
theorem Fx.slots {W:Addr → Prop}{T:Hp}{s₀ s s':Shared}{env:Env}{G:Gam}{O:Own}{outer:List Env}(F:Fx W T s₀ env G O s)(k:SplitK outer s s')(ho:∀ c, c ∈ fra outer → c = env.locals)(hin:env.locals ∈ fra outer) : Fx W T s₀ env G O s' := by
 refine Qac (k.of) fun h' tk ρ0 k1 k2 => ?_
 subst ρ0
 refine eEA (F.ns) fun m hn hm => ?_
 have hn' : h'.Ns env.locals m := by
  refine Qgz (hn) fun o es ep e d r => ?_
  refine eE (k2 _ hin o e) fun sl e' => ?_
  exact ⟨_, es, ep, e', d, r⟩
 have kp : ∀ b o, b ≠ env.locals → s.heap.get? b = some o → h'.get? b = some o := fun b o hb e => k1 b o (fun q => hb (ho b q)) e
 have kx : KpX (fun b => b = env.locals) s.heap h' := ⟨fun b o hb e => kp b o hb e, fun b l => by
  by_cases q : b = env.locals
  ·exact q ▸ Ns.live hn'
  ·obtain ⟨o, e⟩ := l; exact ⟨o, kp b o q e⟩⟩
 have kT : KpX T.X s.heap h' := kx.wider fun b hb => hb ▸ F.loX
 refine ⟨T.mono _ _ kT F.t, ?_, F.wX, F.lo, F.loX, F.cells, F.apart, ⟨m, hn', fun x a e hl => ?_⟩, fun n c hc => ?_, F.all, fun L ds e => ?_⟩
 ·refine Qfw (F.kt.of) fun h1 t1 e k3 => ?_
  subst e
  refine ⟨h', tk, rfl, ⟨fun b o hb e => ?_, fun b l => kx.live b (k3.live b l)⟩⟩
  have hbl : b ≠ env.locals := fun q => F.lo.elim (fun z => hb (q ▸ z)) fun z => z (q ▸ ⟨o, e⟩)
  exact kp b o hbl (k3.kp b o hb e)
 ·refine eEA (hm x a e hl) fun v hv hp => ?_
  exact ⟨v, hv, hp.kp kT⟩
 ·refine eEA (F.cell n c hc) fun v hi hp => ?_
  refine eAA (F.cells n c hc) fun ζ ζ hne => ?_
  refine ⟨v, ?_, fun a e hl => ?_⟩
  ·refine eEA (hi) fun o e r => ?_
   exact ⟨o, kp c o hne e, r⟩
  ·refine eEA (hp a e hl) fun v' e' q => ?_
   exact ⟨v', e', q.kp kT⟩
 ·refine QDx (F.own L ds e) fun a1 a2 vs a3 a4 => ?_
  refine ⟨a1, a2, vs, a3.at (fun o q => kp L o (Qla hn a3) q), a4.kp kT⟩
noncomputable def nmAt (i:Nat) : Str := nmTab.getD i ""
noncomputable def Qaj : List (List Str) := (List.range 4).map (fun a => [nmAt a]) ++ (List.range 16).map (fun a => [nmAt (a % 4), nmAt (a / 4)]) ++ (List.range 64).map fun a => [nmAt (a % 4), nmAt (a / 4 % 4), nmAt (a / 16)]
theorem three_of : ∀ k ∈ List.range 3, (1 + (k:Int)).toNat = 1 ∨ (1 + (k:Int)).toNat = 2 ∨ (1 + (k:Int)).toNat = 3 := by decide +kernel
theorem dig2 : ∀ a ∈ List.range 4, ∀ b ∈ List.range 4, a + 4 * b < 16 ∧ (a + 4 * b) % 4 = a ∧ (a + 4 * b) / 4 = b := by decide +kernel
theorem dig3 : ∀ a ∈ List.range 4, ∀ b ∈ List.range 4, ∀ c ∈ List.range 4, a + 4 * b + 16 * c < 64 ∧ (a + 4 * b + 16 * c) % 4 = a ∧ (a + 4 * b + 16 * c) / 4 % 4 = b ∧ (a + 4 * b + 16 * c) / 16 = c := by decide +kernel
theorem Qsz (x:Int) : Qcv x ∈ Qaj := by
 have hk : ∀ k, ∃ a, a < 4 ∧ Qix x k = nmAt a := fun k => ⟨(((x.fdiv 3).fdiv (4 ^ k)).fmod 4).toNat, by
  have h1 := Int.fmod_lt_of_pos ((x.fdiv 3).fdiv (4 ^ k)) (show (0 : Int) < 4 by decide)
  have h2 := Int.fmod_nonneg_of_pos ((x.fdiv 3).fdiv (4 ^ k)) (show (0 : Int) < 4 by decide)
  exact (Int.toNat_lt h2).mpr h1, rfl⟩
 refine eEA (hk 0) fun a ha ea => ?_
 refine eEA (hk 1) fun b hb eb => ?_
 refine eEA (hk 2) fun c hc ec => ?_
 have h1 := Int.fmod_lt_of_pos x (show (0 : Int) < 3 by decide)
 have h2 := Int.fmod_nonneg_of_pos x (show (0 : Int) < 3 by decide)
 have h3 : (1 + x.fmod 3).toNat = 1 ∨ (1 + x.fmod 3).toNat = 2 ∨ (1 + x.fmod 3).toNat = 3 := by
  rw [← Int.toNat_of_nonneg h2]
  exact three_of _ (List.mem_range.mpr ((Int.toNat_lt h2).mpr h1))
 unfold Qcv Qaj
 rcases h3 with h | h | h
 ·rw [h]
  show [Qix x 0] ∈ _
  rw [ea]
  exact List.mem_append_left _ (List.mem_append_left _ (List.mem_map.mpr ⟨a, List.mem_range.mpr ha, rfl⟩))
 ·rw [h]
  show [Qix x 0, Qix x 1] ∈ _
  rw [ea, eb]
  refine List.mem_append_left _ (List.mem_append_right _ (List.mem_map.mpr ⟨a + 4 * b, List.mem_range.mpr (dig2 a (List.mem_range.mpr ha) b (List.mem_range.mpr hb)).1, ?_⟩))
  rw [(dig2 a (List.mem_range.mpr ha) b (List.mem_range.mpr hb)).2.1, (dig2 a (List.mem_range.mpr ha) b (List.mem_range.mpr hb)).2.2]
 ·rw [h]
  show [Qix x 0, Qix x 1, Qix x 2] ∈ _
  rw [ea, eb, ec]
  refine Qwb (dig3 a (List.mem_range.mpr ha) b (List.mem_range.mpr hb) c (List.mem_range.mpr hc)) fun q1 q2 q3 q4 => ?_
  refine List.mem_append_right _ (List.mem_map.mpr ⟨a + 4 * b + 16 * c, List.mem_range.mpr q1, ?_⟩)
  rw [q2, q3, q4]
theorem Qgy : ∀ (m:Md)(tk l t:List Nat)(rest:List Nat), Qdy m tk l = some (t, [], true) → Qdy m tk (l ++ 32 :: rest) = some (t, rest, false)
 | .sp, tk, [], t, rest, h => nomatch h
 | .sp, tk, c :: l, t, rest, h => QGk (lexSp.symm.trans h) (fun q h => lexSp.trans ((if_pos q).trans (Qgy _ _ l t rest h))) fun q h => QGk h (fun q' h => lexSp.trans ((if_neg q).trans ((if_pos q').trans (Qgy _ _ l t rest h)))) fun ζ h => nomatch h
 | .qt, tk, [], t, rest, h => nomatch h
 | .qt, tk, c :: l, t, rest, h => QGk (lexQt.symm.trans h) (fun q h => lexQt.trans ((if_pos q).trans (Qgy _ _ l t rest h))) fun q h => QGk h (fun q' h => lexQt.trans ((if_neg q).trans ((if_pos q').trans (Qgy _ _ l t rest h)))) fun ζ h => nomatch h
 | .aw, tk, [], t, rest, h => QGk (lexEnd.symm.trans h) (fun ζ h => nomatch h) fun q h => lexAw.trans ((if_pos rfl).trans ((if_neg q).trans (congrArg (fun x => some (x, rest, false)) (Prod.mk.inj (Option.some.inj h)).1)))
 | .aw, tk, c :: l, t, rest, h => QGk (lexAw.symm.trans h) (fun ζ h => QGk h (fun ζ h => nomatch h) fun ζ h => nomatch h) fun q h => QGk h (fun q' h => lexAw.trans ((if_neg q).trans ((if_pos q').trans (Qgy _ _ l t rest h)))) fun ζ h => nomatch h
noncomputable def WordOk (x:Str) : Prop := Qdy .sp [] (Qfy x).cps.toList = some (x.cps.toList, [], true)
noncomputable def Qaq (row:List Str) : Str := Str.ofString "/" ++ Txt.join (Str.ofString "/") row
noncomputable def Qej (row:List Str) : Str := ((if row.length % 2 = 0 then Str.ofString "" else Str.ofString "./") ++ Txt.join (Str.ofString "/") row) ++ (if row.length % 2 = 0 then Str.ofString "" else Str.ofString "/")
theorem text_norm : ∀ row ∈ Qaj, normD (Qcy (Str.ofString "/") (Qej row)) = Qaq row := by decide +kernel
theorem join_cons2 (sep x y:Str)(r:List Str) : (Txt.join sep (x :: y :: r)).cps.toList = x.cps.toList ++ (sep.cps.toList ++ (Txt.join sep (y :: r)).cps.toList) := by
 show (Builtin.Str.glued sep (x :: y :: r)).cps.toList = _
 rw [StrLaws.glued_eq_join]
 show ((x ++ sep ++ Str.join sep (y :: r)) : Str).cps.toList = x.cps.toList ++ (sep.cps.toList ++ (Builtin.Str.glued sep (y :: r)).cps.toList)
 rw [StrLaws.glued_eq_join]
 show ((x.cps ++ sep.cps) ++ (Str.join sep (y :: r)).cps).toList = _
 simp
theorem join_one (sep x:Str) : Txt.join sep [x] = x := rfl
theorem QEx : ∀ (xs:List Str), xs ≠ [] → (∀ x ∈ xs, WordOk x) → Toks (Txt.join (Str.ofString " ") (xs.map Qfy)).cps.toList (xs.map fun x => x.cps.toList)
 | [], h, _ => absurd rfl h
 | [x], _, h => by
  rw [List.map_cons, List.map_nil, join_one]
  exact .last (h x (.head _))
 | x :: y :: r, _, h => by
  have ih := QEx (y :: r) (by simp) fun z hz => h z (.tail _ hz)
  rw [List.map_cons, List.map_cons, join_cons2, ← List.map_cons]
  exact .more (Qgy _ _ _ _ _ (h x (.head _))) ih
section
variable {α : Type} {r : α → Nat}
noncomputable abbrev Rise (r:α → Nat)(l:List α) : Prop := l.Pairwise fun a b => r a < r b
theorem Quj : ∀ {l₁ l₂:List α}, Rise r l₁ → Rise r l₂ → l₁.Perm l₂ → l₁ = l₂
 | [], l₂, _, _, p => (List.nil_perm.mp p).symm
 | a :: l₁, [], _, _, p => by have := p.length_eq; simp at this
 | a :: l₁, b :: l₂, h1, h2, p => by
  have h1' := List.pairwise_cons.mp h1
  have h2' := List.pairwise_cons.mp h2
  have ha : a ∈ b :: l₂ := p.subset (.head _)
  have hb : b ∈ a :: l₁ := p.symm.subset (.head _)
  have hab : a = b := by
   rcases List.mem_cons.mp ha with e | ha
   ·exact e
   ·rcases List.mem_cons.mp hb with e | hb
    ·exact e.symm
    ·have x := h2'.1 a ha
     have y := h1'.1 b hb
     lia
  subst hab
  rw [Quj h1'.2 h2'.2 (List.Perm.cons_inv p)]
theorem Qjw {k:Nat} : ∀ {l:List α}, Rise r l → (∀ i a, l[i]? = some a → (r a < k ↔ i < (l.filter fun a => decide (r a < k)).length))
 | [], _, i, a, e => by simp at e
 | b :: l, h, i, a, e => by
  have h' := List.pairwise_cons.mp h
  by_cases hb : r b < k
  ·rw [List.filter_cons_of_pos (by simpa using hb), List.length_cons]
   cases i with
   | zero => simp at e; subst e; exact ⟨fun ζ => Nat.succ_pos _, fun ζ => hb⟩
   | succ i =>
    have := Qjw (k := k) h'.2 i a (by simpa using e)
    rw [this]; lia
  ·have hn : l.filter (fun a => decide (r a < k)) = [] := List.filter_eq_nil_iff.mpr fun c hc => by
    have := h'.1 c hc
    simp; lia
   rw [List.filter_cons_of_neg (by simpa using hb), hn]
   have ha : a ∈ b :: l := List.mem_of_getElem? e
   rcases List.mem_cons.mp ha with rfl | ha
   ·exact ⟨fun z => absurd z hb, fun z => absurd z (by simp)⟩
   ·have := h'.1 a ha
    exact ⟨fun z => by lia, fun z => absurd z (by simp)⟩
noncomputable def Qxy (l:List α)(k:Nat)(x:α) : List α := l.take k ++ [x] ++ l.drop k
theorem Qzq (l:List α)(k:Nat)(x:α) : (Qxy l k x).Perm (x :: l) := by
 unfold Qxy
 have h : (l.take k ++ l.drop k) = l := List.take_append_drop k l
 rw [List.append_assoc]
 have := List.perm_middle (a := x) (l₁ := l.take k) (l₂ := l.drop k)
 rw [h] at this
 exact this
theorem insAt_rise {l:List α}{x:α}(h:Rise r l)(hx:∀ a ∈ l, r a ≠ r x) : Rise r (Qxy l (l.filter fun a => decide (r a < r x)).length x) := by
 have hf := Qjw (k := r x) h
 generalize (l.filter fun a => decide (r a < r x)).length = k at hf
 have low : ∀ a ∈ l.take k, r a < r x := fun a ha => by
  refine eE (List.mem_iff_getElem?.mp ha) fun i hi => ?_
  rw [List.getElem?_take] at hi
  split at hi
  ·rename_i hk; exact (hf i a hi).mpr hk
  ·cases hi
 have high : ∀ a ∈ l.drop k, r x < r a := fun a ha => by
  refine eE (List.mem_iff_getElem?.mp ha) fun i hi => ?_
  rw [List.getElem?_drop] at hi
  have h1 : ¬ r a < r x := fun q => by have := (hf _ a hi).mp q; lia
  have h2 := hx a (List.mem_of_getElem? hi)
  lia
 unfold Qxy
 refine List.pairwise_append.mpr ⟨List.pairwise_append.mpr ⟨h.sublist (List.take_sublist _ _), List.pairwise_singleton _ _, fun a ha b hb => by rw [List.mem_singleton.mp hb]; exact low a ha⟩, h.sublist (List.drop_sublist _ _), fun a ha b hb => ?_⟩
 rcases List.mem_append.mp ha with ha | ha
 ·exact Nat.lt_trans (low a ha) (high b hb)
 ·rw [List.mem_singleton.mp ha]; exact high b hb
end
noncomputable def QJz (B:Nat) : Nat → List Nat → Nat
 | 0, _ => 0
 | _ + 1, [] => 0
 | n + 1, c :: l => c * B ^ n + QJz B n l
theorem Qdv {B n c:Nat}{l:List Nat} : QJz B (n + 1) (c :: l) = c * B ^ n + QJz B n l := rfl
theorem Qpw {B n:Nat} : QJz B (n + 1) [] = 0 := rfl
theorem QDy {B:Nat} : ∀ (n:Nat)(l:List Nat), (∀ c ∈ l, c < B) → 0 < B → QJz B n l < B ^ n
 | 0, _, _, _ => Nat.zero_lt_one
 | n + 1, [], _, hB => Nat.pow_pos hB
 | n + 1, c :: l, h, hB => by
  have ih := QDy n l (fun d hd => h d (.tail _ hd)) hB
  have hc := h c (.head _)
  rw [Qdv, Nat.pow_succ, Nat.mul_comm (B ^ n) B]
  have : (c + 1) * B ^ n ≤ B * B ^ n := Nat.mul_le_mul_right _ hc
  rw [Nat.succ_mul] at this
  lia
theorem digs_cmp {B:Nat} : ∀ (n:Nat)(l m:List Nat), l.length ≤ n → m.length ≤ n → (∀ c ∈ l, 0 < c ∧ c < B) → (∀ c ∈ m, 0 < c ∧ c < B) → (l < m ↔ QJz B n l < QJz B n m)
 | n, [], [], _, _, _, _ => ⟨(fun h => nomatch h), fun h => absurd h (Nat.lt_irrefl _)⟩
 | 0, c :: l, m, h, _, _, _ => nomatch h
 | 0, [], c :: m, _, h, _, _ => nomatch h
 | n + 1, [], c :: m, _, _, _, h => by
  have hc := h c (.head _)
  have hB : 0 < B := Nat.lt_of_le_of_lt (Nat.zero_le _) hc.2
  have : 0 < c * B ^ n := Nat.mul_pos hc.1 (Nat.pow_pos hB)
  rw [Qdv, Qpw]
  exact ⟨fun ζ => Nat.lt_of_lt_of_le this (Nat.le_add_right _ _), fun ζ => List.Lex.nil⟩
 | n + 1, c :: l, [], _, _, h, _ => by
  rw [Qdv, Qpw]
  exact ⟨(fun z => by cases z), fun z => absurd z (Nat.not_lt_zero _)⟩
 | n + 1, c :: l, d :: m, hl, hm, h1, h2 => by
  have ih := digs_cmp n l m (Nat.le_of_succ_le_succ hl) (Nat.le_of_succ_le_succ hm) (fun x hx => h1 x (.tail _ hx)) fun x hx => h2 x (.tail _ hx)
  have hc := h1 c (.head _)
  have hd := h2 d (.head _)
  have hB : 0 < B := Nat.lt_of_le_of_lt (Nat.zero_le _) hc.2
  have b1 := QDy (B := B) n l (fun x hx => (h1 x (.tail _ hx)).2) hB
  have b2 := QDy (B := B) n m (fun x hx => (h2 x (.tail _ hx)).2) hB
  rw [Qdv, Qdv, List.cons_lt_cons_iff]
  constructor
  ·rintro (q | ⟨rfl, q⟩)
   ·have : (c + 1) * B ^ n ≤ d * B ^ n := Nat.mul_le_mul_right _ q
    rw [Nat.succ_mul] at this
    lia
   ·have := ih.mp q; lia
  ·intro q
   rcases Nat.lt_trichotomy c d with z | z | z
   ·exact .inl z
   ·subst z; exact .inr ⟨rfl, ih.mpr (by lia)⟩
   ·have : (d + 1) * B ^ n ≤ c * B ^ n := Nat.mul_le_mul_right _ z
    rw [Nat.succ_mul] at this
    lia
section
variable {B : Nat} {f : Nat → PyData}
theorem Qpv {n c d:Nat}{l m:List Nat}(h1:∀ x ∈ l, x < B)(h2:∀ x ∈ m, x < B)(hB:0 < B)(h:c < d) : QJz B (n + 1) (c :: l) < QJz B (n + 1) (d :: m) := by
 have b1 := QDy (B := B) n l h1 hB
 rw [Qdv, Qdv]
 have : (c + 1) * B ^ n ≤ d * B ^ n := Nat.mul_le_mul_right _ h
 rw [Nat.succ_mul] at this
 lia
theorem ltL_digs (he:∀ a b, 0 < a → a < B → 0 < b → b < B → PyData.eqv (f a) (f b) = (a == b))(hl:∀ a b, 0 < a → a < B → 0 < b → b < B → ltA (f a) (f b) = decide (a < b)) :
  ∀ (n : Nat) (l m : List Nat), l.length ≤ n → m.length ≤ n → (∀ c ∈ l, 0 < c ∧ c < B) → (∀ c ∈ m, 0 < c ∧ c < B) → ltL (l.map f) (m.map f) = decide (QJz B n l < QJz B n m)
 | n, [], [], _, _, _, _ => (decide_eq_false (Nat.lt_irrefl _)).symm
 | 0, c :: l, m, h, _, _, _ => nomatch h
 | 0, [], c :: m, _, h, _, _ => nomatch h
 | n + 1, [], c :: m, _, _, _, h => by
  have hc := h c (.head _)
  have : 0 < c * B ^ n := Nat.mul_pos hc.1 (Nat.pow_pos (Nat.lt_of_le_of_lt (Nat.zero_le _) hc.2))
  rw [Qpw, Qdv]
  exact (decide_eq_true (Nat.lt_of_lt_of_le this (Nat.le_add_right _ _))).symm
 | n + 1, c :: l, [], _, _, h, _ => by
  rw [Qpw]
  exact (decide_eq_false (Nat.not_lt_zero _)).symm
 | n + 1, c :: l, d :: m, h1, h2, g1, g2 => by
  have ih := ltL_digs he hl n l m (Nat.le_of_succ_le_succ h1) (Nat.le_of_succ_le_succ h2) (fun x hx => g1 x (.tail _ hx)) fun x hx => g2 x (.tail _ hx)
  have hc := g1 c (.head _)
  have hd := g2 d (.head _)
  rw [List.map_cons, List.map_cons, ltL_cons, he c d hc.1 hc.2 hd.1 hd.2, hl c d hc.1 hc.2 hd.1 hd.2]
  by_cases e : c = d
  ·subst e
   rw [if_pos (beq_self_eq_true c), ih, Qdv, Qdv]
   exact decide_eq_decide.mpr (Nat.add_lt_add_iff_left).symm
  ·rw [if_neg (fun q => e (eq_of_beq q))]
   by_cases q : c < d
   ·rw [decide_eq_true q, decide_eq_true (Qpv (fun x hx => (g1 x (.tail _ hx)).2) (fun x hx => (g2 x (.tail _ hx)).2) (by lia) q)]
   ·have q' : d < c := by lia
    have := Qpv (n := n) (fun x hx => (g2 x (.tail _ hx)).2) (fun x hx => (g1 x (.tail _ hx)).2) (by lia) q'
    rw [decide_eq_false q, decide_eq_false (by lia)]
theorem QCx (he:∀ a b, 0 < a → a < B → 0 < b → b < B → PyData.eqv (f a) (f b) = (a == b))(hl:∀ a b, 0 < a → a < B → 0 < b → b < B → ltA (f a) (f b) = decide (a < b)) :
  ∀ (n : Nat) (l m : List Nat), l.length ≤ n → m.length ≤ n → (∀ c ∈ l, 0 < c ∧ c < B) → (∀ c ∈ m, 0 < c ∧ c < B) → leL (l.map f) (m.map f) = decide (QJz B n l ≤ QJz B n m)
 | n, [], m, _, _, _, _ => by
  have e : QJz B n [] = 0 := by cases n <;> rfl
  exact (decide_eq_true (e ▸ Nat.zero_le _)).symm
 | 0, c :: l, m, h, _, _, _ => nomatch h
 | n + 1, c :: l, [], _, _, h, _ => by
  have hc := h c (.head _)
  have : 0 < c * B ^ n := Nat.mul_pos hc.1 (Nat.pow_pos (Nat.lt_of_le_of_lt (Nat.zero_le _) hc.2))
  rw [Qpw, Qdv]
  exact (decide_eq_false (Nat.not_le.mpr (Nat.lt_of_lt_of_le this (Nat.le_add_right _ _)))).symm
 | n + 1, c :: l, d :: m, h1, h2, g1, g2 => by
  have ih := QCx he hl n l m (Nat.le_of_succ_le_succ h1) (Nat.le_of_succ_le_succ h2) (fun x hx => g1 x (.tail _ hx)) fun x hx => g2 x (.tail _ hx)
  have hc := g1 c (.head _)
  have hd := g2 d (.head _)
  rw [List.map_cons, List.map_cons, leL_cons, he c d hc.1 hc.2 hd.1 hd.2, hl d c hd.1 hd.2 hc.1 hc.2]
  by_cases e : c = d
  ·subst e
   rw [if_pos (beq_self_eq_true c), ih, Qdv, Qdv]
   exact decide_eq_decide.mpr (Nat.add_le_add_iff_left).symm
  ·rw [if_neg (fun q => e (eq_of_beq q))]
   by_cases q : c < d
   ·have := Qpv (n := n) (fun x hx => (g1 x (.tail _ hx)).2) (fun x hx => (g2 x (.tail _ hx)).2) (by lia) q
    rw [decide_eq_false (by lia), decide_eq_true (Nat.le_of_lt this)]; rfl
   ·have q' : d < c := by lia
    have := Qpv (n := n) (fun x hx => (g2 x (.tail _ hx)).2) (fun x hx => (g1 x (.tail _ hx)).2) (by lia) q'
    rw [decide_eq_true q', decide_eq_false (by lia)]; rfl
end
noncomputable def cpsOf (row:List Str) : List Nat := (Qaq row).cps.toList
noncomputable def nmRk (x:Str) : Nat := if x == Str.ofString "A" then 1 else if x == Str.ofString "a" then 2 else if x == Str.ofString "a b" then 3 else 4
noncomputable def nmOf (d:Nat) : Str := if d = 1 then Str.ofString "A" else if d = 2 then Str.ofString "a" else if d = 3 then Str.ofString "a b" else Str.ofString "a-"
noncomputable def rkS (row:List Str) : Nat := QJz 128 12 (cpsOf row)
noncomputable def rkN (row:List Str) : Nat := QJz 5 3 (row.map nmRk)
theorem Qjv : ∀ row ∈ Qaj, (cpsOf row).length ≤ 12 ∧ ∀ c ∈ cpsOf row, 0 < c ∧ c < 128 := by decide +kernel
theorem Qik : ∀ row ∈ Qaj, (row.map nmRk).length ≤ 3 ∧ (∀ c ∈ row.map nmRk, 0 < c ∧ c < 5) ∧ (row.map nmRk).map nmOf = row ∧ 0 < row.length := by decide +kernel
theorem nm_lt : ∀ a ∈ List.range 5, ∀ b ∈ List.range 5, 0 < a → 0 < b → (decide ((nmOf a).cps.toList < (nmOf b).cps.toList) = decide (a < b) ∧ (nmOf a == nmOf b) = (a == b)) := by decide +kernel
theorem path_lt {r q:List Str}(hr:r ∈ Qaj)(hq:q ∈ Qaj) : ((Qaq r).cps.toList < (Qaq q).cps.toList ↔ rkS r < rkS q) :=
 digs_cmp 12 _ _ (Qjv r hr).1 (Qjv q hq).1 (Qjv r hr).2 (Qjv q hq).2
noncomputable def markS (row:List Str) : List PyData := (cpsOf row).map fun (c:Nat) => PyData.int (c:Int)
theorem markS_le {r q:List Str}(hr:r ∈ Qaj)(hq:q ∈ Qaj) : leL (markS r) (markS q) = decide (rkS r ≤ rkS q) :=
 QCx (B := 128) (f := fun (c : Nat) => PyData.int (c : Int)) (fun a b ζ ζ ζ ζ => by rw [Qry, Bool.eq_iff_iff, beq_iff_eq, beq_iff_eq]; lia) (fun a b ζ ζ ζ ζ => decide_eq_decide.mpr Int.ofNat_lt) 12 _ _ (Qjv r hr).1 (Qjv q hq).1 (Qjv r hr).2 (Qjv q hq).2
theorem QBy {row:List Str}(hr:row ∈ Qaj) : row.map PyData.str = (row.map nmRk).map fun d => PyData.str (nmOf d) := by
 conv => lhs; rw [← (Qik row hr).2.2.1]
 rw [List.map_map]
 rfl
theorem nm_he (a b:Nat)(h1:0 < a)(h2:a < 5)(h3:0 < b)(h4:b < 5) : PyData.eqv (PyData.str (nmOf a)) (PyData.str (nmOf b)) = (a == b) := by
 have := (nm_lt a (List.mem_range.mpr h2) b (List.mem_range.mpr h4) h1 h3).2
 simpa [PyData.eqv] using this
theorem nm_hl (a b:Nat)(h1:0 < a)(h2:a < 5)(h3:0 < b)(h4:b < 5) : ltA (PyData.str (nmOf a)) (PyData.str (nmOf b)) = decide (a < b) := (nm_lt a (List.mem_range.mpr h2) b (List.mem_range.mpr h4) h1 h3).1
theorem names_le {r q:List Str}(hr:r ∈ Qaj)(hq:q ∈ Qaj) : leL (r.map .str) (q.map .str) = decide (rkN r ≤ rkN q) := by
 rw [QBy hr, QBy hq]
 exact QCx (B := 5) nm_he nm_hl 3 _ _ (Qik r hr).1 (Qik q hq).1 (Qik r hr).2.1 (Qik q hq).2.1
theorem QBj {r q:List Str}(hr:r ∈ Qaj)(hq:q ∈ Qaj) : ltL (r.map .str) (q.map .str) = decide (rkN r < rkN q) := by
 rw [QBy hr, QBy hq]
 exact ltL_digs (B := 5) nm_he nm_hl 3 _ _ (Qik r hr).1 (Qik q hq).1 (Qik r hr).2.1 (Qik q hq).2.1
theorem rkS_inj : ∀ r ∈ Qaj, ∀ q ∈ Qaj, rkS r = rkS q → r = q := by decide +kernel
theorem rkN_inj : ∀ r ∈ Qaj, ∀ q ∈ Qaj, rkN r = rkN q → r = q := by decide +kernel
section
variable {α : Type} {rk : α → Nat}
noncomputable def sortR (rk:α → Nat)(xs:List α) : List α := xs.foldl (fun l x => Qxy l (l.filter fun a => decide (rk a < rk x)).length x) []
theorem QAj : ∀ (xs acc:List α), Rise rk acc → (∀ a ∈ acc, ∀ x ∈ xs, rk a ≠ rk x) → xs.Pairwise (fun a b => rk a ≠ rk b) →
  Rise rk (xs.foldl (fun l x => Qxy l (l.filter fun a => decide (rk a < rk x)).length x) acc) ∧ (xs.foldl (fun l x => Qxy l (l.filter fun a => decide (rk a < rk x)).length x) acc).Perm (xs ++ acc)
 | [], acc, h, _, _ => ⟨h, .refl _⟩
 | x :: xs, acc, h, h1, h2 => by
  have h2' := List.pairwise_cons.mp h2
  have p := Qzq acc (acc.filter fun a => decide (rk a < rk x)).length x
  have ih := QAj xs _ (insAt_rise (x := x) h fun a ha => h1 a ha x (.head _)) (fun a ha y hy => by
   rcases List.mem_cons.mp (p.subset ha) with rfl | ha
   ·exact h2'.1 y hy
   ·exact h1 a ha y (.tail _ hy)) h2'.2
  refine ⟨ih.1, ih.2.trans ?_⟩
  exact ((List.Perm.append_left xs p).trans List.perm_middle)
theorem Qqy {xs:List α}(h:xs.Pairwise fun a b => rk a ≠ rk b) : Rise rk (sortR rk xs) := (QAj xs [] List.Pairwise.nil (fun a ha => nomatch ha) h).1
theorem Qqk {xs:List α}(h:xs.Pairwise fun a b => rk a ≠ rk b) : (sortR rk xs).Perm xs := by
 have := (QAj xs [] List.Pairwise.nil (fun a ha => nomatch ha) h).2
 rwa [List.append_nil] at this
theorem Qrc (enc:α → PyData)(mk:PyData → List PyData)(ok:α → Prop)(hle:∀ a b, ok a → ok b → leL (mk (enc a)) (mk (enc b)) = decide (rk a ≤ rk b)) : ∀ (xs acc:List α), (∀ a ∈ acc, ok a) → (∀ x ∈ xs, ok x) → (∀ a ∈ acc, ∀ x ∈ xs, rk a ≠ rk x) → xs.Pairwise (fun a b => rk a ≠ rk b) →
  (xs.map enc).foldl (Qdx mk) (acc.map enc) = (xs.foldl (fun l x => Qxy l (l.filter fun a => decide (rk a < rk x)).length x) acc).map enc
 | [], acc, _, _, _, _ => rfl
 | x :: xs, acc, h1, h2, h3, h4 => by
  have h4' := List.pairwise_cons.mp h4
  have p := Qzq acc (acc.filter fun a => decide (rk a < rk x)).length x
  have hf : ((acc.map enc).filter fun o => leL (mk o) (mk (enc x))).length = (acc.filter fun a => decide (rk a < rk x)).length := by
   rw [List.filter_map, List.length_map]
   congr 1
   refine List.filter_congr fun a ha => ?_
   show leL (mk (enc a)) (mk (enc x)) = _
   rw [hle a x (h1 a ha) (h2 x (.head _))]
   have := h3 a ha x (.head _)
   exact decide_eq_decide.mpr (by lia)
  have hs : Qdx mk (acc.map enc) (enc x) = (Qxy acc (acc.filter fun a => decide (rk a < rk x)).length x).map enc := by
   unfold Qdx Qxy
   rw [hf]
   simp [List.map_take, List.map_drop]
  rw [List.map_cons, List.foldl_cons, List.foldl_cons, hs]
  exact Qrc enc mk ok hle xs _ (fun a ha => (List.mem_cons.mp (p.subset ha)).elim (fun q => q ▸ h2 x (.head _)) (h1 a)) (fun y hy => h2 y (.tail _ hy)) (fun a ha y hy => by
   rcases List.mem_cons.mp (p.subset ha) with rfl | ha
   ·exact h4'.1 y hy
   ·exact h3 a ha y (.tail _ hy)) h4'.2
theorem Qsq (enc:α → PyData)(mk:PyData → List PyData)(ok:α → Prop)(hle:∀ a b, ok a → ok b → leL (mk (enc a)) (mk (enc b)) = decide (rk a ≤ rk b)){xs:List α}(h2:∀ x ∈ xs, ok x)(h4:xs.Pairwise fun a b => rk a ≠ rk b) :
  Qic mk (xs.map enc) = (sortR rk xs).map enc := Qrc enc mk ok hle xs [] (fun a ha => nomatch ha) h2 (fun a ha => nomatch ha) h4
end
section
variable {α : Type} [Inhabited α] {rk : α → Nat}
theorem QEw {rows:List α}(enc key:α → PyData){t:String}(hlt:∀ a ∈ rows, ∀ b ∈ rows, ltK (key a) (key b) = decide (rk a < rk b))(hne:rows.Pairwise fun a b => rk a ≠ rk b)(two:2 ≤ rows.length)(few:rows.length < 64)
  (hok : ∀ a ∈ rows, ∀ b ∈ rows, keyOk (key a) (key b)) (ht : t = "str" ∨ t = "list") (hty : ∀ a ∈ rows, keyTy (key a) = t) : SortOk (rows.map enc) (rows.map key) ((sortR rk rows).map enc) := by
 have hg : ∀ {i}, i < rows.length → rows.getD i default = rows[i]! ∧ rows.getD i default ∈ rows := fun {i} h => by
  have : rows.getD i default = rows[i] := by simp [List.getD, List.getElem?_eq_getElem h]
  exact ⟨by simp [List.getD, h], this ▸ List.getElem_mem h⟩
 have hk : ∀ {i}, i < rows.length → (rows.map key).getD i .none = key (rows.getD i default) := fun {i} h => by simp [List.getD, List.getElem?_eq_getElem h]
 have he : ∀ {i}, i < rows.length → (rows.map enc).getD i .none = enc (rows.getD i default) := fun {i} h => by simp [List.getD, List.getElem?_eq_getElem h]
 refine ⟨by simp, by simpa using two, by simpa using few, ?_, ⟨t, ht, ?_⟩, ⟨fun i => (rk (rows.getD i default) : Int), ⟨?_, ?_⟩, ?_⟩⟩
 ·intro a ha b hb
  refine eEA (List.mem_map.mp ha) fun x hx ρ0 => ?_
  subst ρ0
  refine eEA (List.mem_map.mp hb) fun y hy ρ1 => ?_
  subst ρ1
  exact hok x hx y hy
 ·intro a ha
  refine eEA (List.mem_map.mp ha) fun x hx ρ2 => ?_
  subst ρ2
  exact hty x hx
 ·intro i j hi hj
  rw [List.length_map] at hi hj
  show ltK ((rows.map key).getD i .none) ((rows.map key).getD j .none) = _
  rw [hk hi, hk hj, hlt _ (hg hi).2 _ (hg hj).2]
  exact decide_eq_decide.mpr (by lia)
 ·intro i j hi hj e
  rw [List.length_map] at hi hj
  have e : rk (rows.getD i default) = rk (rows.getD j default) := by exact_mod_cast e
  apply Classical.byContradiction
  intro hij
  have hp := List.pairwise_iff_getElem.mp hne
  have e1 : rows.getD i default = rows[i] := by simp [List.getD, List.getElem?_eq_getElem hi]
  have e2 : rows.getD j default = rows[j] := by simp [List.getD, List.getElem?_eq_getElem hj]
  rw [e1, e2] at e
  rcases Nat.lt_or_gt_of_ne hij with q | q
  ·exact hp i j hi hj q e
  ·exact hp j i hj hi q e.symm
 ·intro p hp hu
  rw [List.length_map] at hp hu
  have hpl : p.toList.Perm (List.range rows.length) := by
   have := Array.perm_iff_toList_perm.mp hp.perm
   simpa using this
  have hlt : ∀ i ∈ p.toList, i < rows.length := fun i hi => List.mem_range.mp (hpl.subset hi)
  have h1 : (p.toList.map fun i => (rows.map enc).getD i .none) = (p.toList.map fun i => rows.getD i default).map enc := by
   rw [List.map_map]
   exact List.map_congr_left fun i hi => he (hlt i hi)
  rw [h1]
  congr 1
  have hrange : (List.range rows.length).map (fun i => rows.getD i default) = rows := by
   refine List.ext_getElem (by simp) fun i h2 h3 => ?_
   simp [List.getD, List.getElem?_eq_getElem h3]
  have hpm := hpl.map fun i => rows.getD i default
  rw [show (List.range rows.length).map (fun i => rows.getD i default) = rows from hrange] at hpm
  refine Quj (r := rk) ?_ (Qqy hne) (hpm.trans (Qqk hne).symm)
  refine List.pairwise_iff_getElem.mpr fun i j hi hj hij => ?_
  have hps : p.size = rows.length := hp.size
  have hi' : i < p.size := by simpa using hi
  have hj' : j < p.size := by simpa using hj
  have := hu i j hij (by lia)
  unfold Rk at this
  rw [hp.get (by lia), hp.get (by lia)] at this
  dsimp only at this
  have this : rk (rows.getD p[i] default) < rk (rows.getD p[j] default) := by exact_mod_cast this
  simpa using this
end
theorem Qhv : ∀ r ∈ Qaj, Qcc (Qaq r) = r := by decide +kernel
noncomputable def under (r q:List Str) : Bool := q.take r.length == r
theorem QAq : ∀ r ∈ Qaj, ∀ q ∈ Qaj, under r q = (decide (rkN r ≤ rkN q) && decide (rkN q < rkN r + 5 ^ (3 - r.length))) := by decide +kernel
noncomputable def comR (r q:List Str) : List Str := QIw (if decide (rkN q < rkN r) then q else r) (if decide (rkN r < rkN q) then q else r)
theorem gtL_ltL : ∀ (xs ys:List PyData), (∀ x ∈ xs, ∀ y ∈ ys, PyData.eqv x y = PyData.eqv y x) → gtL xs ys = ltL ys xs
 | [], [], _ => rfl
 | [], _ :: _, _ => rfl
 | _ :: _, [], _ => rfl
 | x :: xs, y :: ys, h => by
  rw [gtL_cons, ltL_cons, h x (.head _) y (.head _), gtL_ltL xs ys fun a ha b hb => h a (.tail _ ha) b (.tail _ hb)]
theorem names_gt {r q:List Str}(hr:r ∈ Qaj)(hq:q ∈ Qaj) : gtL (r.map .str) (q.map .str) = decide (rkN q < rkN r) := by
 rw [gtL_ltL, QBj hq hr]
 intro x hx y hy
 refine eEA (List.mem_map.mp hx) fun a ζ ρ0 => ?_
 subst ρ0
 refine eEA (List.mem_map.mp hy) fun b ζ ρ1 => ?_
 subst ρ1
 simp only [PyData.eqv]
 rw [Bool.eq_iff_iff, beq_iff_eq, beq_iff_eq]
 exact eq_comm
theorem QBw {r q:List Str}(hr:r ∈ Qaj)(hq:q ∈ Qaj) : Qmy (Qaq r) (Qaq q) = if decide (rkN q < rkN r) then q else r := by
 unfold Qmy
 rw [Qhv r hr, Qhv q hq, QBj hq hr]
theorem maxL_row {r q:List Str}(hr:r ∈ Qaj)(hq:q ∈ Qaj) : Qwa (Qaq r) (Qaq q) = if decide (rkN r < rkN q) then q else r := by
 unfold Qwa
 rw [Qhv r hr, Qhv q hq, names_gt hq hr]
theorem commonD_row {r q:List Str}(hr:r ∈ Qaj)(hq:q ∈ Qaj) : commonD (Qaq r) (Qaq q) = Qaq (comR r q) := by
 unfold commonD comR Qaq
 rw [show (Str.ofString "/" ++ Txt.join (Str.ofString "/") r) = Qaq r from rfl, show (Str.ofString "/" ++ Txt.join (Str.ofString "/") q) = Qaq q from rfl, QBw hr hq, maxL_row hr hq]
open Builtin Builtin.Str in
theorem QAb : ∀ r ∈ Qaj, (Qaq r).length ≤ 100 ∧ (partsBetween (Qaq r) (occurrences (Qaq r) (Str.ofString "/") 0 (Qaq r).length ((Qaq r).length + 1)) (Str.ofString "/").length).length ≤ 100 ∧ Txt.startswith (Qaq r) (Str.ofString "/") = true ∧ (Txt.split (Qaq r) (Str.ofString "/")).length ≤ 100 ∧
  ∀ c ∈ Txt.split (Qaq r) (Str.ofString "/"), c.length ≤ 100 ∧ PyData.strOk c = true := by decide +kernel
theorem row_take : ∀ r ∈ Qaj, ∀ n ∈ List.range 4, JoinOk (Str.ofString "/") (r.take n) = true ∧ (Txt.join (Str.ofString "/") (r.take n)).length ≤ 100 := by decide +kernel
theorem Qrb {c:Str}(h:PyData.strOk c = true) : (PyData.str c).canLay0 = true := by simpa [PyData.canLay0] using h
theorem Qpa : ∀ (a b:List Str), ∃ k, QIw a b = a.take k
 | [], b => ⟨0, by cases b <;> rfl⟩
 | a :: as, [] => ⟨0, rfl⟩
 | a :: as, b :: bs => by
  by_cases h : (a == b) = true
  ·refine eE (Qpa as bs) fun k e => ?_
   exact ⟨k + 1, by rw [comL_cons, if_pos h, e]; rfl⟩
  ·exact ⟨0, by rw [comL_cons, if_neg h]; rfl⟩
theorem Qnv {r:List Str}(hr:r ∈ Qaj) : r.length ≤ 3 := by simpa using (Qik r hr).1
theorem QFj {a b:List Str}(ha:a ∈ Qaj)(hb:b ∈ Qaj){i:Nat}(hi:i < a.length)(ht:a.take i = b.take i)(hl:b.length ≤ i) : rkN b ≤ rkN a := by
 have e : b = a.take i := by rw [ht, List.take_of_length_le hl]
 have hbl : b.length = i := by rw [e, List.length_take]; lia
 have hu : under b a = true := by
  unfold under
  rw [hbl, ← e]; simp
 rw [QAq b hb a ha, Bool.and_eq_true] at hu
 exact of_decide_eq_true hu.1
theorem common_ok {r q:List Str}(hr:r ∈ Qaj)(hq:q ∈ Qaj) : CommonOk (Qaq r) (Qaq q) := by
 have hs : (1000 : Nat) ≤ sizeLine := Nat.le_of_ble_eq_true rfl
 have one : ∀ u ∈ Qaj, _ := QAb
 have mm : (Qmy (Qaq r) (Qaq q)) ∈ Qaj := by rw [QBw hr hq]; split <;> assumption
 refine eE (Qpa (Qmy (Qaq r) (Qaq q)) (Qwa (Qaq r) (Qaq q))) fun k ek => ?_
 have hk : ∃ n ∈ List.range 4, QIw (Qmy (Qaq r) (Qaq q)) (Qwa (Qaq r) (Qaq q)) = (Qmy (Qaq r) (Qaq q)).take n := by
  by_cases h : k < 4
  ·exact ⟨k, List.mem_range.mpr h, ek⟩
  ·refine ⟨3, by decide, ?_⟩
   rw [ek, List.take_of_length_le (Nat.le_trans (Qnv mm) (by lia)), List.take_of_length_le (Qnv mm)]
 refine eEA (hk) fun n hn en => ?_
 have ht := row_take _ mm n hn
 refine ⟨fun u hu => ?_, fun i hi he => ?_, by rw [en]; exact ht.1, by rw [en]; have := ht.2; show 1 + _ ≤ _; lia⟩
 ·have : ∃ v ∈ Qaj, u = Qaq v := hu.elim (fun e => ⟨r, hr, e⟩) fun e => ⟨q, hq, e⟩
  refine eEA (this) fun v hv ρ0 => ?_
  subst ρ0
  refine eAAAA (QAb v hv) fun a b c d e => ?_
  exact ⟨by lia, Nat.le_trans b (by lia), c, by lia, fun x hx => ⟨by have := (e x hx).1; lia, Qrb (e x hx).2⟩⟩
 ·rw [QBw hr hq] at hi he
  rw [maxL_row hr hq] at he ⊢
  apply Classical.byContradiction
  intro hc
  have hc := Nat.le_of_not_lt hc
  rcases Nat.lt_trichotomy (rkN r) (rkN q) with z | z | z
  ·rw [if_neg (by simpa using Nat.le_of_lt z)] at hi he
   rw [if_pos (by simpa using z)] at he hc
   have := QFj hr hq hi he hc
   lia
  ·rw [if_neg (by simp [z])] at hi he
   rw [if_neg (by simp [z])] at he hc
   lia
  ·rw [if_pos (by simpa using z)] at hi he
   rw [if_neg (by simpa using Nat.le_of_lt z)] at he hc
   have := QFj hq hr hi he hc
   lia
section
variable {prog : Program} {w : World}
theorem QDk {T₀:Hp}(hT₀:T₀.le Tp)(mk:PyData → List PyData)(rows:List PyData)(m k:Nat)(hm:∀ d ∈ rows, CtT T₀ prog w k (.ref m) [.d d] (.d (.list (mk d))))(hk:∀ d ∈ rows, ∀ d' ∈ rows, Qfb (mk d) (mk d'))(hl:rows.length ≤ 1000) :
  CtT T₀ prog w (k + 1) (.ref 917) [.d (.list rows), .v (.ref m)] (.pl (Qic mk rows)) :=
 ct_def2T hT₀ (i := 58) (x := "rows") (y := "mark") fun T T' A L pm s₀ s₁ hT hT' hT0 ok F => by
  have hTp := hT0.trans hT₀
  refine Qcx (.pl []) F (EvA.list (ds := []) .nil').f fun s₂ F => ?_
  refine QEk F (EvIt.list ok (EvA.name (.d (.list rows)))) (fun i G' O' => G' = ([("order", .pl ((rows.take i).foldl (Qdx mk) [])), ("rows", .d (.list rows)), ("mark", .v (.ref m))] : Gam) ∧ O' = none) ⟨rfl, rfl⟩ (fun i G' O' h L' ds e => by rw [h.2] at e; cases e) ?_ ?_
  ·intro T₃ W₁ sb i row G' O' sc hT₃ hW hd κ0 F
   refine eA (κ0) fun ρ0 ρ1 => ?_
   subst ρ0
   subst ρ1
   have hlt : i < rows.length := (List.getElem?_eq_some_iff.mp hd).1
   have hrow : row ∈ rows := List.mem_of_getElem? hd
   refine eA (Qtw mk rows i (by lia)) fun hol hom => ?_
   have hT3 := hT₃.trans hT0
   have hTp3 := hT3.trans hT₀
   generalize ho : (rows.take i).foldl (Qdx mk) [] = order at *
   have hsz : order.length ≤ sizeLine := by show order.length ≤ 2 ^ 24; lia
   have hfl := List.length_filter_le (fun o => leL (mk o) (mk row)) order
   refine Qcx (.d (.int (order.filter fun o => leL (mk o) (mk row)).length)) F (EvA.bnd (EvA.call (bltn (.builtin "len") hTp3) (EvL.cons (EvA.listComp (Gf := [("mark", .v (.ref m)), ("row", .d row)]) [("row", L + 2), ("mark", L + 1)] (fun o => leL (mk o) (mk row)) id ok (EvIt.list ok (EvA.plain (EvA.name (.pl order)))) hsz (Takes.cons _ (Takes.cons _ .nil))
    (fun T'' C d hT'' hd => TeL.one (TeA.cmp (Qby (hm d (hom d hd)) (hT''.trans hT3) ok (EvA.name (.v (.ref m))) (EvL.cons (EvA.name (.d d)) .nil')) (Qby (hm row hrow) (hT''.trans hT3) ok (EvA.name (.v (.ref m))) (EvL.cons (EvA.name (.d row)) .nil')) (op_leList ok (hk d (hom d hd) row hrow))))
    (fun T'' C d hT'' hd ζ => EvA.name (.d d))) .nil') (Qbz (by rw [List.length_map]; lia))) (by rw [List.length_map])).f fun sd F => ?_
   refine Qcx (.pl (Qdx mk order row)) F (EvA.cast (EvA.binop (EvA.plain (EvA.binop (EvA.plain (EvA.sliceList (EvA.plain (EvA.name (.pl order))) .none (.some (EvA.name (.d (.int (order.filter fun o => leL (mk o) (mk row)).length)))) hsz)) (EvA.plain (EvA.list (ds := [row]) (EvL.cons (EvA.name (.d row)) .nil'))) (Qib ?_))) (EvA.plain (EvA.sliceList (EvA.plain (EvA.name (.pl order))) (.some (EvA.name (.d (.int (order.filter fun o => leL (mk o) (mk row)).length)))) .none hsz)) (Qib ?_)) ?_).f fun se F => Qaw ⟨_, _, ⟨rfl, rfl⟩, (fun ζ ζ e => nomatch e), ?_⟩
   ·rw [Qek]; show _ ≤ 2 ^ 24; simp; lia
   ·rw [Qek, Qnj]; show _ ≤ 2 ^ 24; simp; lia
   ·rw [Qek, Qnj]; rfl
   ·have e : (rows.take (i + 1)).foldl (Qdx mk) [] = Qdx mk order row := by
     rw [List.take_succ_eq_append_getElem hlt, List.foldl_append, ho]
     have : rows[i] = row := by have := List.getElem?_eq_getElem hlt; rw [hd] at this; exact (Option.some.inj this).symm
     rw [this]; rfl
    rw [e]
    exact F.pick (.cons (.cons (.cons .nil)))
  ·intro G' O' sb κ1 F
   refine eA (κ1) fun ρ2 ρ3 => ?_
   subst ρ2
   subst ρ3
   rw [List.take_length] at F
   exact ret hT' F (EvA.name (.pl (Qic mk rows))).f
end
section
variable {prog : Program} {w : World} {T : Hp} {A : Around} {env : Env} {G : Gam}
theorem op_index {xs:List PyData}{d:PyData}{n j:Nat}(ok:OkA A (n + 1))(hj:j < xs.length)(hsmall:xs.length ≤ 1000)(hl:PyData.canLayAll0 xs = true)(hd:d.canLay0 = true)(hdep:d.depth ≤ 64)
  (hit : PyData.eqv (xs.getD j .none) d = true) (hno : ∀ m, m < j → PyData.eqv (xs.getD m .none) d = false) : OpM prog w T A "list.index" (.pl xs) [.d d] (.d (.int j)) := ⟨fun E s ov vs hp h1 h2 => by
 obtain ⟨a, us, ⟨cls, dd, data, sl⟩, rfl, hx, ho, hc, hdd, ⟨k, hdt⟩, hr⟩ := h1
 simp only at hc hdd hdt
 subst hc hdd hdt
 refine Qac (h2) fun v vs' ρ0 h3 ρ1 => ?_
 subst ρ0
 subst ρ1
 refine eE (RdAll.reads _ _ hr) fun as r1 => ?_
 refine eE (Rd.reads _ _ h3) fun bs r2 => ?_
 have hlen : us.size = xs.length := by have := hr.length; simpa using this
 have hmap := SeqAt.readsAll_map xs _ _ hl r1
 have hat : ∀ m (hm : m < us.size), SeqAt.readOf s.heap us[m] = xs.getD m .none := fun m hm => by
  have : (us.toList.map (SeqAt.readOf s.heap))[m]? = some (SeqAt.readOf s.heap us[m]) := by simp [hm]
  rw [hmap] at this
  simp [List.getD, this]
 refine call_meets PySem.F.slot_list_index ⟨_, ho, rfl⟩ PySem.F.entry_list_index (PySem.F.args_list_index_2 _ _)
  (SeqAt.list_indexAt a us k none sl v (fun y => PyData.eqv (SeqAt.readOf s.heap y) d) j (by lia) (by have := hsmall; have := hj; lia) ?_ ?_) ⟨ho, fun y hy => SeqAt.items_eqAt (A := A) r1 r2 hl hd ?_ y hy, ⟨Dv.p.int, .tok s _⟩⟩
 ·show PyData.eqv (SeqAt.readOf s.heap us[j]) d = true
  rw [hat]; exact hit
 ·intro m hm hlt
  show PyData.eqv (SeqAt.readOf s.heap us[m]) d = false
  rw [hat]; exact hno m hlt
 ·have := ok.cline
  show A.units + 1 + min (PyData.depthAll xs) d.depth < cLine
  lia⟩
theorem m_index : Mth "list" "index" "list.index" := ⟨F.plainAttrs_list, F.slot_list_index, F.type_list_index⟩
theorem QHq {v:Value} : ∀ (n:Nat)(acc:Array Value), (List.foldl (fun x1 x2 => x1 ++ x2) acc (List.replicate n #[v])).toList = acc.toList ++ List.replicate n v
 | 0, acc => by simp
 | n + 1, acc => by rw [List.replicate_succ, List.foldl_cons, QHq n]; simp [List.replicate_succ]
theorem QFz {X:Addr → Prop}{h:Heap}{d:PyData}{v:Value}(r:Rd X h d v) : ∀ n, RdAll X h (List.replicate n d) (List.replicate n v)
 | 0 => .nil
 | n + 1 => .cons r (QFz r n)
theorem EvA.mulOne {e e2:Expr}{lpos pos:Pos}{d:PyData}{n:Int}(h1:EvA prog w T A env G e (.d d))(h2:EvA prog w T A env G e2 (.d (.int n)))(hlo:-(2 ^ 63 : Int) ≤ n)(hhi:n ≤ 100000)(hs:autoParam (starEach [e] env = (false, eval e env) :: starEach [] env) sK) :
  EvA prog w T A env G (.BinOp (.List [e] lpos) .Mult e2 pos) (.pl (List.replicate n.toNat d)) := ⟨fun E s hp hv => by
 refine wpAny_BinOp (wpAny_List ?_)
 rw [hs]
 refine spliced_cons (wpAny_mono (h1.of _ s hp hv) (fun v s₁ k1 => spliced_nil ⟨Nat.le_of_ble_eq_true rfl, ?_⟩) fun ζ ζ x => x)
 have kp1 := Qav s₁.heap { cls := .type "list", data := .seq ([v] : List Value).toArray }
 have hp1 := T.kt hp k1.2
 have hp2 := T.mono _ _ kp1.kpx hp1
 refine wpAny_mono (h2.of _ { s₁ with heap := s₁.heap.push { cls := .type "list", data := .seq ([v] : List Value).toArray } } hp2 ((hv.kp k1.2.kp).kp kp1)) (fun u s₂ k2 => ?_) fun ζ ζ x => x
 refine eE (k2.1.int_inv) fun t ρ2 => ?_
 subst ρ2
 have hl : s₂.heap.get? s₁.heap.objs.size = some { cls := .type "list", dict := none, data := .seq #[v] 0, slots := #[] } := k2.2.kp _ _ (Heap.get?_push_size _ rfl)
 have hp3 := T.kt hp2 k2.2
 refine wpAny_binaryOp_repeat_ref (T := "list") (U := "int") (by decide) ⟨_, hl, rfl⟩ (fun s' => typeIs_int s' n t) noFill_list_mul F.fills_int_mul F.slot_int_rmul repeat_list F.slot_int_index.lookup
  (call_meets F.slot_int_rmul (typeIs_int _ n t) F.entry_int_rmul (F.args_int_rmul_2 _ _) (int___rmul___int_list n t _ #[v] 0)
   ⟨hl, rfl, ⟨_, hl, rfl⟩, call_meets F.slot_list_mul ⟨_, hl, rfl⟩ F.entry_list_mul (F.args_list_mul_2 _ _)
    (AutoListH.list___mul___list_int_3 _ #[v] 0 n t (by simp [Builtin.List.listFitsIndex]; lia) (by simp; lia) (by simp [Builtin.List.listTooLong, sizeLine]; lia))
    ⟨hl, ?_⟩⟩)
 have kp3 := Qav s₂.heap { cls := .type "list", data := .seq (List.foldl (fun x1 x2 => x1 ++ x2) #[] (List.replicate (if (#[v] : Array Value).isEmpty = true then 0 else n.toNat) #[v])) }
 refine ⟨⟨_, _, _, rfl, fun hx => Qax (Nat.le_refl _) (T.live _ hp3 _ hx), Heap.get?_push_size _ rfl, rfl, rfl, ⟨_, rfl⟩, ?_⟩, (k1.2.trans (Kt.mk' s₁ s₁.toks kp1)).trans (k2.2.trans (Kt.mk' s₂ s₂.toks kp3))⟩
 rw [QHq]
 have hd : Rd T.X s₂.heap d v := ((Rd.kp k1.1 kp1.kpx).kp k2.2.kp.kpx)
 simpa using (QFz hd n.toNat).kp kp3.kpx⟩
end
structure TLb (h : Heap) : Prop where
 z : Tzp h
 code : PySem.W.CodeHd h 933 931
 mod : ∃ mg, h.Ns mainGlobals mg ∧ h.BuiltinsAt mg 931
theorem BuiltinsAt.kp {h h':Heap}{mg:Str → Option Value}{P:Addr}(b:h.BuiltinsAt mg P)(k:Kp h h') : h'.BuiltinsAt mg P := let ⟨bm, o, h1, h2, h3, h4, h5, h6⟩ := b; ⟨bm, o, h1, h2, h3, h4, k _ _ h5, h6⟩
theorem TLb.kp {h h':Heap}(t:TLb h)(k:Kp h h') : TLb h' := ⟨t.z.kp k, t.code.keeps k, eEA (t.mod) fun mg h1 h2 => ⟨mg, h1.keeps k, BuiltinsAt.kp h2 k⟩⟩
noncomputable def TW : Hp where
 p h := TLb (h.hide 931) ∧ Qaa h 931
 X b := b = 931
 mono h h' k t := ⟨t.1.kp fun b o e => by
  by_cases q : b = 931
  ·subst q; rw [Heap.hide_self] at e; cases e
  ·rw [Heap.hide_ne _ q] at e ⊢
   exact k.kp b o q e, k.live _ t.2⟩
 live h t b hb := hb ▸ t.2
theorem hide_kp (h:Heap)(a:Addr) : Kp (h.hide a) h := fun b o e => Heap.of_hide e
theorem TWz : Hp.le TW Tz := ⟨fun h t => t.1.z.kp (hide_kp _ _), fun b q => q.elim⟩
theorem TWb {h:Heap}(t:TW.p h) : TLb h := t.1.kp (hide_kp _ _)
theorem Fx.move {Z:Addr → Prop}{T:Hp}{env:Env}{G:Gam}{O:Own}{s s':Shared}(F:Fx (Fx.mine env O) T s env G O s)(k:KpX Z s.heap s'.heap)(hZ:∀ b, Z b → T.X b ∧ ¬ Fx.mine env O b) : Fx (Fx.mine env O) T s' env G O s' where
 t := T.mono _ _ (k.wider fun b hb => (hZ b hb).1) F.t
 kt := .refl _ _
 wX := F.wX
 lo := .inl (.inl rfl)
 loX := F.loX
 cells := fun n c hc => ⟨(F.cells n c hc).1, .inl (.inr (.inl ⟨n, hc⟩)), (F.cells n c hc).2.2⟩
 apart := F.apart
 ns := eEA (F.ns) fun m hn h => ⟨m, hn.at' (fun o e => k.kp _ o (fun hz => (hZ _ hz).2 (.inl rfl)) e), fun x a e hl => eEA (h x a e hl) fun v hv hp => ⟨v, hv, hp.kp (k.wider fun b hb => (hZ b hb).1)⟩⟩
 cell := fun n c hc => let ⟨v, ⟨o, ho, hd⟩, h⟩ := F.cell n c hc; ⟨v, ⟨o, k.kp _ o (fun hz => (hZ _ hz).2 (.inr (.inl ⟨n, hc⟩))) ho, hd⟩, fun a e hl => eEA (h a e hl) fun v' e' hp => ⟨v', e', hp.kp (k.wider fun b hb => (hZ b hb).1)⟩⟩
 all := F.all
 own := fun L ds e => let ⟨h1, h2, vs, h3, h4⟩ := F.own L ds e; ⟨h1, .inl (.inr (.inr ⟨ds, e⟩)), vs, h3.at (fun o q => k.kp _ o (fun hz => (hZ _ hz).2 (.inr (.inr ⟨ds, e⟩))) q), h4.kp (k.wider fun b hb => (hZ b hb).1)⟩
structure LawK (s₀ s : Shared) : Prop where
 of : ∃ h tk gs, s = { s₀ with heap := h, toks := tk, gens := gs } ∧ KpX (fun b => b = 931) s₀.heap h ∧ (AllBare s₀.gens → AllBare gs)
structure LawAt (T : Hp) (s₀ : Shared) (env : Env) (ps : Array Value) (G : Gam) (O : Own) (s : Shared) : Prop where
 f : Fx (Fx.mine env O) T s env G O s
 k : LawK s₀ s
 new : ∀ b, Fx.mine env O b → ¬ Qaa s₀.heap b
 x : T.X 931
 tab : s.heap.get? 931 = some (PySem.W.tabObj ps)
 l0 : Qaa s₀.heap 931
section
variable {T T' : Hp} {s₀ s s' : Shared} {env : Env} {ps : Array Value} {G G' : Gam} {O O' : Own}
theorem LawAt.n931 (L:LawAt T s₀ env ps G O s) : ¬ Fx.mine env O 931 := fun q => L.new _ q L.l0
theorem LawK.kt {Y:Addr → Prop}(k:LawK s₀ s)(hY:∀ b, Y b → ¬ Qaa s₀.heap b)(kt:KtX Y s s') : LawK s₀ s' := by
 refine Qgz (k.of) fun h tk gs ρ0 k1 k2 => ?_
 subst ρ0
 refine Qfw (kt.of) fun h' tk' ρ1 k3 => ?_
 subst ρ1
 exact ⟨h', tk', gs, rfl, ⟨fun b o hb e => k3.kp b o (fun q => hY b q ⟨o, e⟩) (k1.kp b o hb e), fun b l => k3.live b (k1.live b l)⟩, k2⟩
theorem LawAt.step (L:LawAt T s₀ env ps G O s)(F:Fx (Fx.mine env O) T' s env G' O' s')(hx:T'.X 931) : LawAt T' s₀ env ps G' O' s' := by
 have live : ∀ b, Qaa s₀.heap b → Qaa s.heap b := fun b l => by
  refine Qgz (L.k.of) fun h tk gs ρ2 k1 k2 => ?_
  subst ρ2
  exact k1.live b l
 refine ⟨F.rebase0, L.k.kt L.new F.kt, fun b hb => ?_, hx, F.kt.kp.kp _ _ L.n931 L.tab, L.l0⟩
 rcases hb with rfl | ⟨n, hc⟩ | ⟨ds, e⟩
 ·exact L.new _ (.inl rfl)
 ·exact L.new _ (.inr (.inl ⟨n, hc⟩))
 ·rcases (F.own b ds e).2.1 with q | q
  ·exact L.new _ q
  ·exact fun l => q (live _ l)
theorem LawAt.move (L:LawAt T s₀ env ps G O s){ps':Array Value}(k:KpX (fun b => b = 931) s.heap s'.heap)(hs:∃ h tk gs, s' = { s with heap := h, toks := tk, gens := gs } ∧ (AllBare s.gens → AllBare gs))(ht:s'.heap.get? 931 = some (PySem.W.tabObj ps')) : LawAt T s₀ env ps' G O s' := by
 refine ⟨L.f.move k fun b hb => hb ▸ ⟨L.x, L.n931⟩, ?_, L.new, L.x, ht, L.l0⟩
 refine Qgz (L.k.of) fun h tk gs ρ3 k1 k2 => ?_
 subst ρ3
 refine Qxw (hs) fun h' tk' gs' ρ4 k4 => ?_
 subst ρ4
 exact ⟨h', tk', gs', rfl, k1.trans k, fun q => k4 (k2 q)⟩
theorem Fx.atT (F:Fx (Fx.mine env O) T s env G O s)(hX:∀ b, T'.X b ↔ T.X b)(hp:T'.p s.heap) : Fx (Fx.mine env O) T' s env G O s where
 t := hp
 kt := F.kt
 wX := fun b hb => (hX b).2 (F.wX b hb)
 lo := F.lo
 loX := (hX _).2 F.loX
 cells := fun n c hc => ⟨(hX _).2 (F.cells n c hc).1, (F.cells n c hc).2⟩
 apart := F.apart
 ns := eEA (F.ns) fun m hn h => ⟨m, hn, fun x a e hl => eEA (h x a e hl) fun v hv hp => ⟨v, hv, hp.less fun b hb => (hX b).1 hb⟩⟩
 cell := fun n c hc => eEA (F.cell n c hc) fun v hi h => ⟨v, hi, fun a e hl => eEA (h a e hl) fun v' e' hp => ⟨v', e', hp.less fun b hb => (hX b).1 hb⟩⟩
 all := F.all
 own := fun L ds e => let ⟨h1, h2, vs, h3, h4⟩ := F.own L ds e; ⟨(hX _).2 h1, h2, vs, h3, h4.less fun b hb => (hX b).1 hb⟩
noncomputable def Hp.fn (T:Hp)(f:Addr)(fd:FuncData) : Hp where
 p h := T.p h ∧ (¬ T.X f ∧ ∃ o, h.get? f = some o ∧ o.data = .func fd) ∧ ∃ c oc vs t, fd.code = .ref c ∧ ¬ T.X c ∧ h.get? c = some oc ∧ oc.data = .fields vs ∧ vs[1]? = some (.str fd.qualname t)
 X := T.X
 mono h h' k x := ⟨T.mono _ _ k x.1, ⟨x.2.1.1, eEA (x.2.1.2) fun o e d => ⟨o, k.kp _ _ x.2.1.1 e, d⟩⟩, let ⟨c, oc, vs, t, h1, h2, h3, h4⟩ := x.2.2; ⟨c, oc, vs, t, h1, h2, k.kp _ _ h2 h3, h4⟩⟩
 live h x b hb := T.live h x.1 b hb
theorem Hp.fn_le (T:Hp)(f:Addr)(fd:FuncData) : (T.fn f fd).le T := ⟨fun ζ x => x.1, fun ζ x => x⟩
theorem Hp.fn_at {T:Hp}{f:Addr}{fd:FuncData}{h:Heap}(x:(T.fn f fd).p h) : FnAt h f fd := by
 obtain ⟨_, ⟨_, o, e, d⟩, c, oc, vs, t, h1, _, h3, h4, h5⟩ := x
 exact ⟨o, e, d, c, oc, vs, t, h1, h3, h4, h5⟩
end
section
variable {prog : Program} {w : World} {T : Hp} {A : Around} {env : Env} {E : Value → Shared → Prop} {s₀ s : Shared} {G : Gam} {O : Own} {ps : Array Value}
theorem LawAt.lam {Q:Value → Shared → Prop}{params:Arguments}{body:Expr}{scope:Scope}{pos:Pos}(L:LawAt T s₀ env ps G O s)(hT:T.le TW)(ht:TriplesOk ps.toList)(hnf:codeAmong pos ps.toList = none)
  (h : ∀ f c' pm ctv s', LawAt (T.fn f (PySem.W.kla_fn "<lambda>" (env.qual ++ "<lambda>") params body scope [] pm (.ref c') ctv)) s₀ env (ps ++ #[rawInt pos.line, rawInt pos.col, .ref c']) G O s' → KpX (fun b => b = 931) s.heap s'.heap → Q (.ref f) s')
  (hdef : autoParam (PySem.defaultsOf params env = ([], [])) sK) (hcl : autoParam (closureFor scope env = pure []) sK) (hge : autoParam (env.globals = mainGlobals) sK) (hcode : autoParam (env.code = .ref 933) sK) :
  wpAny (model prog w) A (eval (.Lambda params body scope pos) env) Q E s := by
 have tb := TWb (hT.p _ L.f.t)
 refine eEA (tb.mod) fun mg hg hb => ?_
 have hgP : mainGlobals ≠ 931 := fun q => by
  refine Qgz (hg) fun o es ep e hd ζ => ?_
  rw [q, L.tab] at e; cases e; cases hd
 refine PySem.W.kla_eval hdef (PySem.W.kla_makeFunction hcl hge hg hcode tb.code L.tab ht hnf hgP hb fun c' ctv h' tk hx hge' hlt hrec htb => ?_)
 have kp : KpX (fun b => b = 931) s.heap (h'.push (PySem.W.kla_obj "<lambda>" (env.qual ++ "<lambda>") params body scope [] ((mg "__name__").getD .none) c' ctv)) := ⟨fun b o hb e => Heap.get?_push_of_some _ (hx b o hb e), fun b l => by
  by_cases q : b = 931
  ·exact q ▸ ⟨_, Heap.get?_push_of_some _ htb⟩
  ·exact eE (l) fun o e => ⟨o, Heap.get?_push_of_some _ (hx b o q e)⟩⟩
 have L1 : LawAt T s₀ env (ps ++ #[rawInt pos.line, rawInt pos.col, .ref c']) G O { s with heap := h'.push (PySem.W.kla_obj "<lambda>" (env.qual ++ "<lambda>") params body scope [] ((mg "__name__").getD .none) c' ctv), toks := tk } := L.move kp ⟨_, tk, s.gens, rfl, fun q => q⟩ (Heap.get?_push_of_some _ htb)
 have nX : ∀ b, s.heap.objs.size ≤ b → ¬ T.X b := fun b hb q => Qax hb (T.live _ L.f.t b q)
 have hsz : s.heap.objs.size ≤ h'.objs.size := Nat.le_of_lt (Nat.lt_of_le_of_lt hge' hlt)
 obtain ⟨c2, oc, vs, t, e2, h3, h4, h5⟩ := hrec
 cases e2
 have hp : (T.fn h'.objs.size (PySem.W.kla_fn "<lambda>" (env.qual ++ "<lambda>") params body scope [] ((mg "__name__").getD .none) (.ref c') ctv)).p (h'.push (PySem.W.kla_obj "<lambda>" (env.qual ++ "<lambda>") params body scope [] ((mg "__name__").getD .none) c' ctv)) :=
  ⟨L1.f.t, ⟨nX _ hsz, _, Heap.get?_push_size _ rfl, rfl⟩, c', oc, vs, t, rfl, nX _ hge', Heap.get?_push_of_some _ h3, h4, h5⟩
 exact h _ c' _ ctv _ ⟨L1.f.atT (fun b => Iff.rfl) hp, L1.k, L1.new, L1.x, L1.tab, L1.l0⟩ kp
end
section
variable {prog : Program} {w : World} {T : Hp} {A : Around} {env : Env} {G : Gam}
noncomputable def Qjy (x:Str) : List PyData := x.cps.toList.map fun c => .str ⟨#[c]⟩
theorem EvIt.strA {iter:Expr}{x:Str}{n:Nat}(ok:OkA A n)(ha:x.cps.all (· < 128) = true)(he:EvA prog w T A env G iter (.d (.str x))) : EvIt prog w T A env G iter (Qjy x) := ⟨fun E s hp hv => by
 refine wpAny_mono (he.of E s hp hv) (fun v s₁ k => ?_) fun ζ ζ x => x
 obtain ⟨hd, k⟩ := k
 obtain ⟨t, rfl⟩ := hd.str_inv
 refine wpAny_pyIter_ascii ha ⟨k.trans (Kt.mk' s₁ s₁.toks (Qav _ _)), s₁.heap.objs.size, [s₁.heap.objs.size], [s₁.heap.objs.size], SignAt x, (fun i h => h.IsStrIter s₁.heap.objs.size "str_ascii_iterator" x t i), s₁.heap, ?_⟩
 have W := Walks.strAscii (prog := prog) (w := w) (A := A) ok.handled s₁.heap.objs.size x t
 rw [show x.cps.size = (Qjy x).length by simp [Qjy]] at W
 refine ⟨rfl, W, ⟨_, Heap.get?_push_size _ rfl, rfl, rfl⟩, ?_, ?_, ?_, k.kp, Qav _ _, ?_⟩
 ·intro i h κ0 b hb
  refine eEA (κ0) fun o e ζ => ?_
  rw [List.mem_singleton.mp hb]; exact ⟨o, e⟩
 ·intro b hb; rw [List.mem_singleton.mp hb]; exact Qax (Nat.le_refl _)
 ·intro b hb; exact .inl hb
 ·intro i v d κ1 hd
  refine Qfw (κ1) fun c u hc ρ0 => ?_
  subst ρ0
  have : (Qjy x)[i]? = some (.str ⟨#[c]⟩) := by simp [Qjy, hc]
  rw [this] at hd; cases hd
  exact Rd.str⟩
end
section
variable {prog : Program} {w : World} {T : Hp} {A : Around} {env : Env} {E : Value → Shared → Prop} {s₀ s : Shared} {G : Gam} {O : Own} {R : Flow → Shared → Prop} {rest : List Stmt}
theorem Qqj {x:Str}{e:Expr}{pos pos':Pos}(a:Dv)
  (he : wpAny (model prog w) A (eval e env) (fun v s' => ∃ W' T' sb, Fx W' T' sb env G O s' ∧ a.p T'.X s'.heap v ∧ ∀ s'', Fx W' T' sb env ((x, a) :: G) O s'' → Go prog w A env rest R s'') (fun ζ ζ => False) s)
  (hk : autoParam (env.scope.kind = .function) sK)
  (hx : autoParam (env.kindOf x = some .local ∨ (env.kindOf x = some .cell ∧ (env.cells.lookup x).isSome = true)) sO)
  (hs : autoParam (swapsWith e (some (.Name x pos')) pos.line env = pure false) sK) : Go prog w A env (.Assign [.Name x pos'] e pos :: rest) R s :=
 ⟨wpAny_execs_cons (wpAny_Assign_Name (wpAny_mono he (fun v s' k => by
  refine Qgz (k) fun W' T' sb F hv h => ?_
  exact F.store a hk hx hv fun s'' F' => (h s'' F').of) fun ζ ζ x => x) hs)⟩
theorem st_pairW {x y:Str}{px py tpos pos vpos:Pos}{k kv:Nat}{e1 e2:Expr}{n:Nat}(a b:Dv)(ok:OkA A n)
  (he : wpAny (model prog w) A (eval e1 env) (fun v1 s1 => wpAny (model prog w) A (eval e2 env) (fun v2 s2 => ∃ W' T' sb, Fx W' T' sb env G O s2 ∧ a.p T'.X s2.heap v1 ∧ b.p T'.X s2.heap v2 ∧ ∀ s3, Fx W' T' sb env ((x, a) :: (y, b) :: G) O s3 → Go prog w A env rest R s3) (fun ζ ζ => False) s1) (fun ζ ζ => False) s)
  (hk : autoParam (env.scope.kind = .function) sK)
  (hx : autoParam (Qww env x) sO)
  (hy : autoParam (Qww env y) sO)
  (hse : autoParam (starEach [e1, e2] env = [(false, eval e1 env), (false, eval e2 env)]) sK)
  (hs : autoParam (swapsWithSole [.Tuple [.Name x px, .Name y py] k tpos] (.Tuple [e1, e2] kv vpos) pos.line env = pure false) sK)
  (hw : autoParam (swappedStores [.Tuple [.Name x px, .Name y py] k tpos] (.Tuple [e1, e2] kv vpos) env = pure (some [x, y])) sK) :
  Go prog w A env (.Assign [.Tuple [.Name x px, .Name y py] k tpos] (.Tuple [e1, e2] kv vpos) pos :: rest) R s := by
 refine ⟨wpAny_execs_cons (Assign_Tuple_swapped (wpAny_Tuple ?_) hs hw)⟩
 rw [hse]
 refine spliced_cons (wpAny_mono he (fun v1 s1 h1 => spliced_cons (wpAny_mono h1 (fun v2 s2 h2 => spliced_nil ⟨Nat.le_of_ble_eq_true rfl, ?_⟩) fun ζ ζ x => x)) fun ζ ζ x => x)
 refine Qnb (h2) fun W' T' sb F ha hb h => ?_
 have key : ∀ (s9 : Shared) (t : Addr) (u1 u2 : Value) (Q : List Value → Shared → Prop), s9.heap.IsTuple t #[u1, u2] → (∀ h', Kp s9.heap h' → Q [u1, u2] { s9 with heap := h' }) → wpAny (model prog w) A (unpackItems (.ref t) [x, y].length none) Q (fun ζ ζ => False) s9 := fun s9 t u1 u2 Q ht hq =>
  wpAny_unpackItems_tuple (items := #[u1, u2]) ok.handled ht fun h' he' => hq h' fun b o q => he' b o (fun z => Qax (Nat.le_of_eq z.symm) ⟨o, q⟩) q
 refine key _ _ v1 v2 _ ⟨_, Heap.get?_push_size _ rfl, rfl, _, rfl⟩ fun h' he' => ?_
 have k' : Kp s2.heap h' := (Qav _ _).trans he'
 have F4 := F.kept (Kt.mk' _ s2.toks k')
 refine Qpc (a := b) F4 hk hy (hb.kp k'.kpx) fun s5 F5 k5 => ?_
 refine Qpc (a := a) F5 hk hx (ha.kp (k'.kpx.trans k5)) fun s6 F6 k6 => ?_
 exact assignInOrder_nil (h s6 F6).of
theorem ev_callKwW {Q:Value → Shared → Prop}{x k:Str}{np pos kp:Pos}{e e2:Expr}{f:String}{a:Dv}(hf:EvA prog w T A env G (.Name x np) (.v (.builtin f)))(h1:EvA prog w T A env G e a)(hp:T.p s.heap)(hv:Vw T.X env G s.heap)
  (hkeep : ∀ h, PySem.W.Looks (model prog w) h (keeperOf (.builtin f)) .machine)
  (hc : ∀ v s', Kt s s' → a.p T.X s'.heap v → wpAny (model prog w) A (eval e2 env) (fun u s₃ => wpAny (model prog w) A (call (.builtin f) [v] [(k, u)]) Q E s₃) E s')
  (hkw : autoParam (backToKw pos (keywordEach [⟨some k, e2, kp⟩] env) = [(some k, do let v ← eval e2 env; standAt pos; pure v)]) sK) (he : autoParam (starEach [e] env = (false, eval e env) :: starEach [] env) sK) : wpAny (model prog w) A (eval (.Call (.Name x np) [e] [⟨some k, e2, kp⟩] pos) env) Q E s := by
 refine wpAny_Call_Name_kw (wpAny_mono (hf.of E s hp hv) (fun f' s₁ q => ?_) fun ζ ζ x => x)
 refine eA (q) fun ρ0 k1 => ?_
 subst ρ0
 have hL := EvL.cons (pos := pos) h1 .nil' he
 refine PySem.W.callWith_of (P := fun ζ => True) (by rw [hkw, hL.noStar]; rfl) (fun h ζ => ⟨_, .inr (.inl rfl), hkeep h⟩) (evalArgs_kw2 (by rw [hkw]; rfl) ?_ he)
 refine wpAny_mono (hL.of E s₁ (T.kt hp k1) (hv.kp k1.kp)) (fun vs s₂ q => ?_) fun ζ ζ x => x
 refine eA (q) fun ν1 k2 => ?_
 refine Qac (ν1) fun v vs' ρ1 hv1 ρ2 => ?_
 subst ρ1
 subst ρ2
 rw [hkw]
 refine wpAny_evalAll_cons (wpAny_bind (wpAny_mono (hc v s₂ (k1.trans k2) hv1) (fun u s₃ q => wpAny_bind (wpAny_standAt (wpAny_pure ?_))) fun ζ ζ x => x))
 exact wpAny_evalAll_nil ⟨trivial, q⟩
end
noncomputable def Qbb (r:List Str) : PyData := .list (r.map .str)
theorem Qvb : ∀ a b : List Str, PyData.eqvAll (a.map .str) (b.map .str) = (a == b)
 | [], [] => rfl
 | [], _ :: _ => rfl
 | _ :: _, [] => rfl
 | x :: a, y :: b => by
  rw [List.map_cons, List.map_cons, PyData.eqvAll, Qvb a b, PyData.eqv]; rfl
theorem Qkj (a b:List Str) : PyData.eqv (Qbb a) (Qbb b) = (a == b) := by
 unfold Qbb
 rw [PyData.eqv, Qvb]
noncomputable def Qfq (script:List Int) : List Int := script.take 6 ++ [0, 3, 40, 1, 6, 25, 9]
noncomputable def Qbv (rs:List (List Str))(x:Int) : List (List Str) := if rs.any (fun y => y == Qcv x) then rs else rs ++ [Qcv x]
noncomputable def rowsOf (nums:List Int) : List (List Str) := nums.foldl Qbv []
theorem Quq (nums:List Int) : ∀ i, i ≤ nums.length → ((nums.take i).foldl Qbv []).length ≤ i ∧ (∀ r ∈ (nums.take i).foldl Qbv [], r ∈ Qaj) ∧ ((nums.take i).foldl Qbv []).Nodup ∧ ∀ x ∈ nums.take i, Qcv x ∈ (nums.take i).foldl Qbv []
 | 0, _ => by simp
 | i + 1, h => by
  rw [List.take_succ_eq_append_getElem (by lia), List.foldl_append]
  refine Qwb (Quq nums i (by lia)) fun h1 h2 h3 h4 => ?_
  generalize (nums.take i).foldl Qbv [] = rs at *
  show (Qbv rs nums[i]).length ≤ i + 1 ∧ (∀ r ∈ Qbv rs nums[i], r ∈ Qaj) ∧ (Qbv rs nums[i]).Nodup ∧ ∀ x ∈ nums.take i ++ [nums[i]], Qcv x ∈ Qbv rs nums[i]
  unfold Qbv
  by_cases hb : (rs.any fun y => y == Qcv nums[i]) = true
  ·rw [if_pos hb]
   refine ⟨by lia, h2, h3, fun x hx => ?_⟩
   rcases List.mem_append.mp hx with q | q
   ·exact h4 x q
   ·rw [List.mem_singleton.mp q]
    refine eEA (List.any_eq_true.mp hb) fun y hy e => ?_
    rw [← (beq_iff_eq.mp e)]; exact hy
  ·rw [if_neg hb]
   refine ⟨by simp; lia, fun r hr => ?_, ?_, fun x hx => ?_⟩
   ·rcases List.mem_append.mp hr with q | q
    ·exact h2 r q
    ·rw [List.mem_singleton.mp q]; exact Qsz _
   ·refine List.nodup_append.mpr ⟨h3, by simp, fun a ha b hb' e => ?_⟩
    rw [List.mem_singleton.mp hb'] at e
    exact hb (List.any_eq_true.mpr ⟨a, ha, by rw [e]; simp⟩)
   ·rcases List.mem_append.mp hx with q | q
    ·exact List.mem_append_left _ (h4 x q)
    ·rw [List.mem_singleton.mp q]; exact List.mem_append_right _ (List.mem_singleton.mpr rfl)
structure RowsOk (rows : List (List Str)) : Prop where
 mem : ∀ r ∈ rows, r ∈ Qaj
 nodup : rows.Nodup
 lo : 7 ≤ rows.length
 hi : rows.length ≤ 13
theorem nodup_le : ∀ (a b:List (List Str)), a.Nodup → a ⊆ b → a.length ≤ b.length
 | [], b, _, _ => Nat.zero_le _
 | x :: a, b, hn, hs => by
  have hx : x ∈ b := hs (.head _)
  have hn' := List.nodup_cons.mp hn
  have h := nodup_le a (b.erase x) hn'.2 fun y hy => (List.mem_erase_of_ne (fun e : y = x => hn'.1 (e ▸ hy))).mpr (hs (.tail _ hy))
  rw [List.length_erase_of_mem hx] at h
  have := List.length_pos_of_mem hx
  rw [List.length_cons]; lia
theorem rows_ok (script:List Int) : RowsOk (rowsOf (Qfq script)) := by
 have h := Quq (Qfq script) (Qfq script).length (Nat.le_refl _)
 rw [List.take_length] at h
 refine Qwb (h) fun h1 h2 h3 h4 => ?_
 have hl : (Qfq script).length ≤ 13 := by simp [Qfq]; lia
 refine ⟨h2, h3, ?_, Nat.le_trans h1 hl⟩
 have hs : ([0, 3, 40, 1, 6, 25, 9] : List Int).map Qcv ⊆ rowsOf (Qfq script) := fun r hr => by
  refine eEA (List.mem_map.mp hr) fun x hx ρ0 => ?_
  subst ρ0
  exact h4 x (List.mem_append_right _ hx)
 have hn : (([0, 3, 40, 1, 6, 25, 9] : List Int).map Qcv).Nodup := by decide +kernel
 have := nodup_le _ _ hn hs
 simpa using this
noncomputable def Qsw (k:Nat) : List Stmt := (Qda 61).drop k
noncomputable abbrev Qez (L:Addr)(pm:Value) : Env := Qna 61 934 L pm
theorem TWp : Hp.le TW Tp := TWz.trans Tz.le
theorem Qvk : ∀ r ∈ Qaj, (Qbb r).canLay0 = true ∧ (Qbb r).depth ≤ 64 := by decide +kernel
theorem lay_all (f:List Str → PyData)(h:∀ r ∈ Qaj, (f r).canLay0 = true) : ∀ (rows:List (List Str)), (∀ r ∈ rows, r ∈ Qaj) → PyData.canLayAll0 (rows.map f) = true
 | [], _ => rfl
 | r :: rows, hm => by
  rw [List.map_cons, PyData.canLayAll0, h r (hm r (.head _)), lay_all f h rows fun q hq => hm q (.tail _ hq)]; rfl
section
variable {prog : Program} {w : World} {T : Hp} {A : Around} {E : Value → Shared → Prop} {s₀ s : Shared} {R : Flow → Shared → Prop} {ps : Array Value} {Lc : Addr} {pm : Value}
noncomputable abbrev gRows (script:List Int)(rows:List (List Str)) : Gam := [("rows", .pl (rows.map Qbb)), ("script", .d (.list (script.map .int)))]
theorem law_p0 {script:List Int}(L:LawAt T s₀ (Qez Lc pm) ps [("script", .d (.list (script.map .int)))] none s)(hT:T.le TW){m:Nat}(ok:OkA A (m + 4))(hsz:script.length ≤ 100000)
  (h : ∀ T' s', T'.le TW → LawAt T' s₀ (Qez Lc pm) ps (gRows script (rowsOf (Qfq script))) none s' → Go prog w A (Qez Lc pm) (Qsw 2) R s') : Go prog w A (Qez Lc pm) (Qda 61) R s := by
 have hTp := hT.trans TWp
 have hnl : (Qfq script).length ≤ 13 := by simp [Qfq]; lia
 have hsl : (script.map PyData.int).length ≤ sizeLine := by rw [List.length_map]; show script.length ≤ 2 ^ 24; lia
 have e6 : Qmw (script.map PyData.int) none (some 6) = (script.take 6).map .int := by
  have := Qek (script.map PyData.int) 6
  rw [List.map_take]; exact this
 have hnum : (script.take 6).map PyData.int ++ [(0 : Int), 3, 40, 1, 6, 25, 9].map PyData.int = (Qfq script).map .int := by rw [Qfq, List.map_append]
 refine Qyq (.d (.list ((Qfq script).map .int))) ok L.f (EvA.cast (EvA.plain (EvA.binop (EvA.plain (EvA.sliceList (EvA.name (.d (.list (script.map .int)))) .none (.some EvA.int) hsl)) (EvA.plain (EvA.list (ds := [(0 : Int), 3, 40, 1, 6, 25, 9].map .int) (EvL.cons EvA.int (EvL.cons EvA.int (EvL.cons EvA.int (EvL.cons EvA.int (EvL.cons EvA.int (EvL.cons EvA.int (EvL.cons EvA.int .nil'))))))))) (Qib ?_))) ?_) fun T₂ Lo sa hT₂ hLo hX F => ?_
 ·rw [e6]; show _ ≤ 2 ^ 24; simp; lia
 ·rw [e6, hnum]
 have hTp2 := hT₂.trans hTp
 have h931 : T₂.X 931 := hT₂.X _ L.x
 have F0 := F.pick (G' := [("numbers", .d (.list ((Qfq script).map .int))), ("rows", .v (.ref Lo)), ("script", .d (.list (script.map .int)))]) (.cons (.cons (.cons .nil)))
 refine QEk F0 (EvIt.list ok (EvA.name (.d (.list ((Qfq script).map .int))))) (fun i G' O' => G' = ([("numbers", .d (.list ((Qfq script).map .int))), ("rows", .v (.ref Lo)), ("script", .d (.list (script.map .int)))] : Gam) ∧ O' = some (Lo, (((Qfq script).take i).foldl Qbv []).map Qbb)) ⟨rfl, rfl⟩ ?_ ?_ ?_
 ·intro i G' O' h L' ds e
  rw [h.2] at e; cases e; exact ⟨_, rfl⟩
 ·intro T₃ W₁ sb i d G' O' sc hT₃ hW hd κ0 F
  refine eA (κ0) fun ρ0 ρ1 => ?_
  subst ρ0
  subst ρ1
  rw [List.getElem?_map] at hd
  refine eEA (Option.map_eq_some_iff.mp hd) fun x hx ρ0 => ?_
  subst ρ0
  have hlt : i < (Qfq script).length := (List.getElem?_eq_some_iff.mp hx).1
  have hxi : (Qfq script)[i] = x := by have := List.getElem?_eq_getElem hlt; rw [hx] at this; exact (Option.some.inj this).symm
  refine Qwb (Quq (Qfq script) i (by lia)) fun r1 r2 r3 r4 => ?_
  have hnext : ((Qfq script).take (i + 1)).foldl Qbv [] = Qbv (((Qfq script).take i).foldl Qbv []) x := by
   rw [List.take_succ_eq_append_getElem hlt, List.foldl_append, hxi]; rfl
  rw [hnext]
  generalize ((Qfq script).take i).foldl Qbv [] = rs at *
  have hTp3 := hT₃.trans hTp2
  have hTs : (T₃.see Lo (rs.map Qbb)).le Tp := Hp.le_of hTp3 fun h q => q.1
  have hl := Qvk _ (Qsz x)
  have e1 : ((rs.map Qbb).any fun y => PyData.eqv y (Qbb (Qcv x))) = rs.any fun y => y == Qcv x := by
   rw [List.any_map]
   congr 1
   funext y
   exact Qkj y (Qcv x)
  refine Qiy (!(rs.any fun y => y == Qcv x)) F (TeA.see (TeA.cmp (Qby (Qwz x) hTs ok (glob (.ref 905) hTs) (EvL.cons (EvA.name (.d (.int x))) .nil')) (EvA.own (EvA.name (.v (.ref Lo)))) (e1 ▸ op_notIn (d := Qbb (Qcv x)) ok hl.1 (lay_all Qbb (fun r hr => (Qvk r hr).1) rs r2) hl.2))) (fun hb s₄ F => ?_) (fun hb s₄ F => ?_)
  ·refine Qox (Qbb (Qcv x)) F (Qby (Qwz x) hTp3 ok (glob (.ref 905) hTp3) (EvL.cons (EvA.name (.d (.int x))) .nil')).f (by rw [List.length_map]; show rs.length ≤ 2 ^ 24; lia) fun s₅ F => Qaw (Qaw ⟨_, some (Lo, (Qbv rs x).map Qbb), ⟨rfl, rfl⟩, (fun L' ds e => by cases e; exact ⟨_, rfl⟩), ?_⟩)
   have e : (Qbv rs x).map Qbb = rs.map Qbb ++ [Qbb (Qcv x)] := by
    unfold Qbv
    rw [if_neg (fun q => by rw [q] at hb; exact absurd hb (by decide))]; simp
   rw [e]
   exact F.pick (.cons (.cons (.cons .nil)))
  ·refine Qaw (Qaw ⟨_, some (Lo, (Qbv rs x).map Qbb), ⟨rfl, rfl⟩, (fun L' ds e => by cases e; exact ⟨_, rfl⟩), ?_⟩)
   have e : (Qbv rs x).map Qbb = rs.map Qbb := by
    unfold Qbv
    rw [if_pos (by simpa using hb)]
   rw [e]
   exact F.pick (.cons (.cons (.cons .nil)))
 ·intro G' O' sb κ1 F
  refine eA (κ1) fun ρ2 ρ3 => ?_
  subst ρ2
  subst ρ3
  rw [List.length_map, List.take_length] at F
  have hLm : ¬ Fx.mine (Qez Lc pm) none Lo := fun q => hLo (L.f.may_X _ (.inl q))
  refine Qpj (F.give (x := "rows") (by kernel_rfl!) hLm) fun T₄ hp4 hX4 F => ?_
  have hT4 : T₄.le T := ⟨fun h q => hT₂.p h (hp4 h q), fun b q => (hX4 b).2 ⟨hT₂.X b q, fun z => hLo (z ▸ q)⟩⟩
  exact h T₄ sb (hT4.trans hT) (L.step (F.pick (.cons (.cons .nil))) (hT4.X _ L.x))
end
theorem Qca : (100000:Nat) ≤ sizeLine := Nat.le_of_ble_eq_true rfl
theorem QGy (sep:Str)(hs:sep.length ≤ 1) : ∀ (xs:List Str)(n:Nat), (∀ x ∈ xs, x.length ≤ 100) → xs.foldl (· + ·.length + sep.length) n ≤ n + 101 * xs.length
 | [], n, _ => by simp
 | x :: xs, n, h => by
  rw [List.foldl_cons]
  have := QGy sep hs xs (n + x.length + sep.length) fun y hy => h y (.tail _ hy)
  have := h x (.head _)
  rw [List.length_cons]; lia
theorem Qqa {sep:Str}(hs:sep.length ≤ 1){xs:List Str}(hl:xs.length ≤ 100)(h:∀ x ∈ xs, x.length ≤ 100) : JoinOk sep xs = true := by
 unfold JoinOk
 rw [List.foldl_toArray]
 have := QGy sep hs xs 0 h
 have hz := Qca
 have : Builtin.Str.tooLong (xs.foldl (· + ·.length + sep.length) 0) = false := by
  unfold Builtin.Str.tooLong
  exact decide_eq_false (by lia)
 rw [this]; rfl
theorem join_len (sep:Str)(hs:sep.length ≤ 1)(xs:List Str)(hl:xs.length ≤ 100)(h:∀ x ∈ xs, x.length ≤ 100) : (Txt.join sep xs).length ≤ 20000 := by
 show (Builtin.Str.glued sep xs).length ≤ _
 rw [StrLaws.glued_eq_join]
 have := StrLaws.join_length_le sep xs
 have h2 : ∀ (ys : List Str), (∀ x ∈ ys, x.length ≤ 100) → (ys.map (·.length)).sum ≤ 100 * ys.length := by
  intro ys
  induction ys with
  | nil => intro _; simp
  | cons y ys ih =>
   intro hy
   have := ih fun x hx => hy x (.tail _ hx)
   have := hy y (.head _)
   rw [List.map_cons, List.sum_cons, List.length_cons]; lia
 have := h2 xs h
 have : xs.length * sep.length ≤ xs.length * 1 := Nat.mul_le_mul_left _ hs
 lia
theorem mulOk_few {x:Str}(hx:x.length = 1){n:Nat}(hn:n ≤ 1000) : MulOk x (n:Int) := by
 unfold MulOk
 have hz := Qca
 refine ⟨by rw [Bool.or_eq_false_iff]; exact ⟨decide_eq_false (by lia), decide_eq_false (by lia)⟩, fun h1 ζ => ?_, fun ζ ζ => ?_⟩
 ·rw [hx]
  have h2 : (1 : Int) ≤ (2 ^ 63 - 1) / (n : Int) := (Int.le_ediv_iff_mul_le (by lia)).mpr (by lia)
  show ¬ (((1 : Nat) : Int) > (2 ^ 63 - 1) / (n : Int))
  lia
 ·rw [hx]
  unfold Builtin.Str.tooLong
  exact decide_eq_false (by simp; lia)
open Builtin Builtin.Str in
noncomputable def wordT (x:Str) : Bool := decide (x.length ≤ 100) && (Qgv x).isSome && (occurrences x (Str.ofString "'") 0 x.length (x.length + 1)).isEmpty && decide (Qdy .sp [] (Qfy x).cps.toList = some (x.cps.toList, [], true)) && decide ((Qfy x).length ≤ 100) && PyData.strOk x
structure WordFine (x : Str) : Prop where
 q : QuoteOk x
 w : WordOk x
 l : x.length ≤ 100
 ql : (Qfy x).length ≤ 100
 s : PyData.strOk x = true
open Builtin Builtin.Str in
theorem wordT.ok {x:Str}(h:wordT x = true) : WordFine x := by
 unfold wordT at h
 simp only [Bool.and_eq_true, decide_eq_true_eq] at h
 refine eA (h) fun ν0 h6 => ?_
 refine eA (ν0) fun ν0 h5 => ?_
 obtain ⟨⟨⟨h1, h2⟩, h3⟩, h4⟩ := ν0
 exact ⟨⟨by lia, Option.isSome_iff_exists.mp h2, h3⟩, h4, h1, h5, h6⟩
theorem text_fine : ∀ r ∈ Qaj, wordT (Qej r) = true := by decide +kernel
theorem dir_fine : ∀ r ∈ Qaj, wordT (Qey (Qaq r)) = true := by decide +kernel
theorem base_fine : ∀ r ∈ Qaj, wordT (Qeq (Qaq r)) = true := by decide +kernel
theorem Qfa : ∀ r ∈ Qaj, Qcy (Qey (Qaq r)) (Qeq (Qaq r)) = Qaq r ∧ (Qkq (Qaq r)).length ≤ 100 ∧ PyData.strOk (Qaq r) = true := by decide +kernel
open Builtin Builtin.Str in
noncomputable def normT (x:Str) : Bool := decide (x.length ≤ 100) && Qbc (.str x) && decide ((Qay x).2.2.length ≤ 100) &&
 decide ((partsBetween (Qay x).2.2 (occurrences (Qay x).2.2 "/" 0 (Qay x).2.2.length ((Qay x).2.2.length + 1)) (Str.ofString "/").length).length ≤ 100) && decide ((Txt.split (Qay x).2.2 "/").length ≤ 100) &&
 (Txt.split (Qay x).2.2 "/").all (fun c => decide (c.length ≤ 100) && !(c == "..")) && JoinOk "/" (Qgb x) && decide ((Qay x).2.1.length + (Txt.join "/" (Qgb x)).length ≤ 100)
open Builtin Builtin.Str in
theorem normT.ok {x:Str}(h:normT x = true) : NormOk x := by
 unfold normT at h
 simp only [Bool.and_eq_true, decide_eq_true_eq] at h
 refine eA (h) fun ν1 h8 => ?_
 refine eA (ν1) fun ν1 h7 => ?_
 obtain ⟨⟨⟨⟨⟨h1, h2⟩, h3⟩, h4⟩, h5⟩, h6⟩ := ν1
 have hz := Qca
 refine ⟨by lia, h2, by lia, by lia, by lia, fun c hc => ?_, h7, by lia⟩
 have := List.all_eq_true.mp h6 c hc
 simp only [Bool.and_eq_true, decide_eq_true_eq, Bool.not_eq_true'] at this
 exact ⟨by lia, this.2⟩
theorem text_normOk : ∀ r ∈ Qaj, normT (Qcy (Str.ofString "/") (Qej r)) = true := by decide +kernel
noncomputable def strD : PyData → Str
 | .str x => x
 | _ => ""
noncomputable def rowD : PyData → List Str
 | .list xs => xs.map strD
 | _ => []
theorem Qbw (r:List Str) : rowD (Qbb r) = r := by
 show (r.map PyData.str).map strD = r
 rw [List.map_map]
 exact List.map_id'' (fun ζ => rfl) r
theorem QAa : ∀ r ∈ Qaj, r.length = 1 ∨ r.length = 2 ∨ r.length = 3 := by decide +kernel
theorem tkS_cps (x:Str) : tkS x.cps.toList = x := by
 cases x with | mk c => simp [tkS]
section
variable {prog : Program} {w : World} {T : Hp} {A : Around} {E : Value → Shared → Prop} {s₀ s : Shared} {R : Flow → Shared → Prop} {ps : Array Value} {Lc : Addr} {pm : Value} {env : Env} {G : Gam} {O : Own}
theorem LawAt.evSplit {Q:Value → Shared → Prop}{m:Nat}{xs:List Str}{e:Expr}{np pos:Pos}(L:LawAt T s₀ env ps G O s)(hT:T.le TW)(ok:OkA A (m + 16))(hfr:A.frames = some [env])(hne:xs ≠ [])(hl:xs.length ≤ 100)(hx:∀ x ∈ xs, WordFine x)
  (he : EvA prog w T A env G e (.d (.str (Txt.join (Str.ofString " ") (xs.map Qfy)))))
  (h : ∀ v s', LawAt T s₀ env ps G O s' → (Dv.d (.list (xs.map .str))).p T.X s'.heap v → Q v s')
  (hf : autoParam (env.frame = some env.locals) sK) (hk : autoParam (env.scope.kind = .function) sK) (hn : EvA prog w T A env G (.Name "split" np) (.v (.ref 892)) := by exact glob (.ref 892) (hT.trans TWp))
  (hs : autoParam (starEach [e] env = (false, eval e env) :: starEach [] env) sK) : wpAny (model prog w) A (eval (.Call (.Name "split" np) [e] [] pos) env) Q E s := by
 have hsp : (Str.ofString " ").length ≤ 1 := by decide +kernel
 have hql : ∀ q ∈ xs.map Qfy, q.length ≤ 100 := fun q hq => by
  refine eEA (List.mem_map.mp hq) fun x hx' ρ0 => ?_
  subst ρ0
  exact (hx x hx').ql
 have hLs := EvL.cons (pos := pos) he .nil' hs
 refine Call_Name rfl (wpAny_mono (hn.of _ s L.f.t L.f.vw) (fun f s₁ k1 => ?_) fun ζ ζ x => x)
 obtain ⟨rfl, k1⟩ := k1
 have F1 := L.f.kept k1
 refine Qbx hLs.noStar (Qcz hLs F1.t F1.vw fun vs s₂ k2 hvs => ?_)
 have F2 := F1.kept k2
 have hz := hT.trans TWz
 refine Qac (hvs) fun v vs' ρ1 hv ρ2 => ?_
 subst ρ1
 subst ρ2
 refine eE (hv.str_inv) fun t ρ3 => ?_
 subst ρ3
 refine eE ((hz.p _ F2.t).split) fun pm' hfn => ?_
 refine wpAny_mono (Qev hfn) (fun ζ s₃ e => ?_) fun ζ ζ x => x
 subst e
 have hfra : fra [env] = [env.locals] := by simp [fra, hf]
 have hz5 := Qca
 refine fn_split (T := T) hz (ok.le (by lia)) hfr (fun e he' => ?_) (fun c hc => ?_) F2.t (QEx xs hne fun x hx' => (hx x hx').w) (Nat.le_trans (join_len _ hsp _ (by rw [List.length_map]; exact hl) hql) (by lia)) (fun t ht => ?_) (by rw [List.length_map]; lia) fun v s' hv' k => ?_
 ·rw [List.mem_singleton.mp he']
  refine eEA (F2.ns) fun mm hns ζ => ?_
  refine Qgz (hns) fun o es ep e hd ζ => ?_
  exact ⟨by rw [hk]; decide, env.locals, o, hf, e, fun vs q => by rw [hd] at q; cases q⟩
 ·rw [hfra] at hc
  rw [List.mem_singleton.mp hc]; exact F2.loX
 ·refine eEA (List.mem_map.mp ht) fun x hx' ρ4 => ?_
  subst ρ4
  rw [tkS_cps]
  exact Qrb (hx x hx').s
 ·refine h v s' (L.step (F2.slots k (fun c hc => ?_) ?_) L.x) ?_
  ·rw [hfra] at hc; exact List.mem_singleton.mp hc
  ·rw [hfra]; exact .head _
  ·rw [List.map_map] at hv'
   have : xs.map ((fun t => PyData.str (tkS t)) ∘ fun x => x.cps.toList) = xs.map .str := List.map_congr_left fun x ζ => by show PyData.str (tkS x.cps.toList) = _; rw [tkS_cps]
   rwa [this] at hv'
noncomputable def Qsv (r:List Str) : PyData := .str (Qaq r)
noncomputable abbrev gPaths (script:List Int)(rows:List (List Str)) : Gam := [("paths", .d (Qbb (rows.map Qaq))), ("rows", .pl (rows.map Qbb)), ("script", .d (.list (script.map .int)))]
theorem QIj (f:PyData → PyData)(g:List Str → Str)(rows:List (List Str))(h:∀ r ∈ rows, f (Qbb r) = .str (g r)) : (((rows.map Qbb).filter fun ζ => true).map f) = (rows.map g).map .str := by
 rw [List.filter_eq_self.mpr fun ζ ζ => rfl, List.map_map, List.map_map]
 exact List.map_congr_left h
theorem Qwj (f:PyData → PyData)(g:Str → Str)(xs:List Str)(h:∀ x ∈ xs, f (.str x) = .str (g x)) : (((xs.map PyData.str).filter fun ζ => true).map f) = (xs.map g).map .str := by
 rw [List.filter_eq_self.mpr fun ζ ζ => rfl, List.map_map, List.map_map]
 exact List.map_congr_left h
theorem QCj : ∀ (xs:List Str), (∀ x ∈ xs, PyData.strOk x = true) → PyData.canLayAll0 (xs.map .str) = true
 | [], _ => rfl
 | x :: xs, h => by
  rw [List.map_cons, PyData.canLayAll0, Qrb (h x (.head _)), QCj xs fun y hy => h y (.tail _ hy)]; rfl
theorem Qfk (xs:List Str)(h:∀ x ∈ xs, PyData.strOk x = true) : (Qbb xs).canLay0 = true := by
 have := QCj xs h
 simpa [Qbb, PyData.canLay0] using this
theorem Qzw : ∀ (xs:List Str), PyData.depthAll (xs.map .str) ≤ 2
 | [] => by simp [PyData.depthAll]
 | x :: xs => by
  have := Qzw xs
  rw [List.map_cons, PyData.depthAll]
  have : (PyData.str x).depth ≤ 2 := by simp [PyData.depth]
  lia
theorem Qhk (xs:List Str) : (Qbb xs).depth ≤ 64 := by
 have := Qzw xs
 simp only [Qbb, PyData.depth]; lia
theorem pick2 (r:List Str)(h:r.length = 1 ∨ r.length = 2 ∨ r.length = 3)(a b:Str) : 0 ≤ (r.length : Int).fmod 2 ∧ (r.length : Int).fmod 2 < 2 ^ 63 ∧ ([PyData.str a, .str b] : List PyData)[((r.length : Int).fmod 2).toNat]? = some (.str (if r.length % 2 = 0 then a else b)) := by
 rcases h with h | h | h <;> rw [h]
 ·exact ⟨by decide, by decide, rfl⟩
 ·exact ⟨by decide, by decide, rfl⟩
 ·exact ⟨by decide, by decide, rfl⟩
theorem Qux : ∀ r ∈ Qaj, (∀ x ∈ r, x.length ≤ 100) ∧ (Txt.join (Str.ofString "/") r).length ≤ 100 ∧ ((if r.length % 2 = 0 then Str.ofString "" else Str.ofString "./") ++ Txt.join (Str.ofString "/") r).length ≤ 100 ∧ (Qcy (Str.ofString "/") (Qej r)).length ≤ 100 ∧ (Qaq r).length ≤ 100 := by decide +kernel
theorem slash1 : (Str.ofString "/").length = 1 := by decide +kernel
theorem law_texts {script:List Int}{rows:List (List Str)}(L:LawAt T s₀ (Qez Lc pm) ps (gRows script rows) none s)(hT:T.le TW){m:Nat}(ok:OkA A (m + 20))(rk:RowsOk rows)
  (h : ∀ s', LawAt T s₀ (Qez Lc pm) ps (("texts", .d (Qbb (rows.map Qej))) :: gRows script rows) none s' → Go prog w A (Qez Lc pm) (Qsw 3) R s') : Go prog w A (Qez Lc pm) (Qsw 2) R s := by
 have hz := Qca
 have hhi := rk.hi
 have hrl : (rows.map Qbb).length ≤ sizeLine := by rw [List.length_map]; lia
 refine Qew (Gf := []) [] (fun ζ => true) (fun d => .str (Qej (rowD d))) ok L.f (EvIt.list ok (EvA.plain (EvA.name (.pl (rows.map Qbb))))) hrl .nil (fun T' C d hT' hd => TeL.nil) (fun T' C d hT' hd ζ => ?_) fun s' F => ?_
 ·refine eEA (List.mem_map.mp hd) fun r hr ρ5 => ?_
  subst ρ5
  have hra := rk.mem r hr
  have hTp := hT'.trans (hT.trans TWp)
  refine eAAAA (Qux r hra) fun z1 z2 z3 z4 z5 => ?_
  have hll : (r.map PyData.str).length ≤ sizeLine := by rw [List.length_map]; have := Qnv hra; lia
  have hp := pick2 r (QAa r hra) (Str.ofString "") (Str.ofString "./")
  have hp' := pick2 r (QAa r hra) (Str.ofString "") (Str.ofString "/")
  have hlen : ((r.map PyData.str).length : Int) = (r.length : Int) := by rw [List.length_map]
  rw [Qbw]
  refine EvA.binop (EvA.binop (EvA.sub Qfv (EvA.plain (EvA.list (ds := [.str (Str.ofString ""), .str (Str.ofString "./")]) (EvL.cons EvA.str (EvL.cons EvA.str .nil')))) (EvA.binop (EvA.bnd (EvA.call (bltn (.builtin "len") hTp) (EvL.cons (EvA.name (.d (.list (r.map .str)))) .nil') (Qbz hll)) hlen) EvA.int (Qkc (by decide))) (Qdq hp.1 hp.2.1 hp.2.2)) (EvA.join EvA.str (EvA.name (.d (.list (r.map .str)))) (Qqa (Nat.le_of_eq slash1) (by have := Qnv hra; lia) z1)) (Qfc ?_))
   (EvA.sub Qfv (EvA.plain (EvA.list (ds := [.str (Str.ofString ""), .str (Str.ofString "/")]) (EvL.cons EvA.str (EvL.cons EvA.str .nil')))) (EvA.binop (EvA.bnd (EvA.call (bltn (.builtin "len") hTp) (EvL.cons (EvA.name (.d (.list (r.map .str)))) .nil') (Qbz hll)) hlen) EvA.int (Qkc (by decide))) (Qdq hp'.1 hp'.2.1 hp'.2.2)) (Qfc ?_)
  ·have : (if r.length % 2 = 0 then Str.ofString "" else Str.ofString "./").length ≤ 2 := by split <;> decide +kernel
   lia
  ·have : (if r.length % 2 = 0 then Str.ofString "" else Str.ofString "/").length ≤ 2 := by split <;> decide +kernel
   lia
 ·rw [QIj _ Qej rows (fun r ζ => by rw [Qbw])] at F
  exact h s' (L.step F L.x)
theorem Quv : ∀ r ∈ Qaj, JoinOk (Str.ofString "/") r = true ∧ (Str.ofString "/").length + (Txt.join (Str.ofString "/") r).length ≤ 100 := by decide +kernel
theorem Qyb {α β γ:Type}(f:α → β)(g:β → γ)(h:α → γ) : ∀ (l:List α), (∀ a ∈ l, g (f a) = h a) → (l.map f).map g = l.map h
 | [], _ => rfl
 | a :: l, e => by rw [List.map_cons, List.map_cons, List.map_cons, e a (.head _), Qyb f g h l fun b hb => e b (.tail _ hb)]
noncomputable def normF (d:PyData) : PyData := .str (normD (Qcy (Str.ofString "/") (strD d)))
noncomputable def normG (x:Str) : Str := normD (Qcy (Str.ofString "/") x)
theorem QFc (x:Str) : normF (.str x) = .str (normG x) := by unfold normF normG; rw [show strD (.str x) = x from rfl]
theorem norm_paths (rows:List (List Str))(hm:∀ r ∈ rows, r ∈ Qaj) : ((((rows.map Qej).map PyData.str).filter fun ζ => true).map normF) = (rows.map Qaq).map .str := by
 rw [Qwj normF normG (rows.map Qej) (fun x ζ => QFc x), Qyb Qej normG Qaq rows fun r hr => by unfold normG; exact text_norm r (hm r hr)]
theorem Qnw {T:Hp}{G:Gam}{rs:List (List Str)}{iter:Expr}{px np npp pos:Pos}{scope:Scope}{m:Nat}(hT:T.le Tp)(ok:OkA A (m + 20))(hm:∀ r ∈ rs, r ∈ Qaj)(hl:rs.length ≤ 100)(hi:EvA prog w T A env G iter (.d (.list (rs.map Qbb))))
  (hclos : autoParam (closureFor scope env = pure []) sK) (hcell : autoParam (∀ y ∈ scope.names, y.2 ≠ .cell) sD) (hkind : autoParam (scope.kind = .function) sK)
  (hnames : autoParam (∀ y ∈ scope.names, y.2 = .local → scope.names.lookup y.1 = some .local) sD) (hx : autoParam (scope.names.lookup (Str.ofString "row") = some .local) sK)
  (hs : autoParam (∀ x, foldedSetIterable iter env x = pure x) sK)
  (hg : ∀ T' C d, T'.le Tp → EvA prog w T' A (compEnvC scope [] C env) [("row", .d d)] (.Name "_law_path" np) (.v (.ref 912)) := by exact fun T' C d h => glob (.ref 912) h)
  (hr : ∀ T' C d, EvA prog w T' A (compEnvC scope [] C env) [("row", .d d)] (.Name "row" npp) (.d d) := by exact fun T' C d => EvA.name (.d d))
  (hst : autoParam (∀ C, starEach [.Name "row" npp] (compEnvC scope [] C env) = (false, eval (.Name "row" npp) (compEnvC scope [] C env)) :: starEach [] (compEnvC scope [] C env)) sK) {cpos : Pos} :
  EvA prog w T A env G (.ListComp (.Call (.Name "_law_path" np) [.Name "row" npp] [] cpos) [⟨.Name "row" px, iter, [], 0⟩] scope pos) (.d (Qbb (rs.map Qaq))) := by
 have hz := Qca
 refine EvA.cast (EvA.listComp (Gf := []) [] (fun ζ => true) (fun d => .str (Qaq (rowD d))) ok (EvIt.list ok hi) (by rw [List.length_map]; lia) .nil (fun T' C d hT' hd => TeL.nil) (fun T' C d hT' hd ζ => ?_) hclos hcell hkind hnames hx hs) ?_
 ·refine eEA (List.mem_map.mp hd) fun r hr' ρ6 => ?_
  subst ρ6
  refine eA (Quv r (hm r hr')) fun j1 j2 => ?_
  rw [Qbw]
  exact Qby (Qmz r j1 (by lia)) (hT'.trans hT) ok (hg T' C _ (hT'.trans hT)) (EvL.cons (hr T' C _) .nil' (hst C))
 ·rw [QIj _ Qaq rs (fun r ζ => by rw [Qbw])]; rfl
set_option maxHeartbeats 2000000 in
theorem law_read {script:List Int}{rows:List (List Str)}(L:LawAt T s₀ (Qez Lc pm) ps (("texts", .d (Qbb (rows.map Qej))) :: gRows script rows) none s)(hT:T.le TW){m:Nat}(ok:OkA A (m + 20))(hfr:A.frames = some [Qez Lc pm])(rk:RowsOk rows)
  (h : ∀ s', LawAt T s₀ (Qez Lc pm) ps (gPaths script rows) none s' → Go prog w A (Qez Lc pm) (Qsw 6) R s') : Go prog w A (Qez Lc pm) (Qsw 3) R s := by
 have hz := Qca
 have hhi := rk.hi
 have hlo := rk.lo
 have hTp := hT.trans TWp
 have hrl : ((rows.map Qej).map PyData.str).length ≤ sizeLine := by rw [List.length_map, List.length_map]; lia
 have hsp : (Str.ofString " ").length ≤ 1 := by decide +kernel
 have hne : rows.map Qej ≠ [] := fun q => by
  have := congrArg List.length q
  rw [List.length_map, List.length_nil] at this
  lia
 have hw : ∀ x ∈ rows.map Qej, WordFine x := fun x hx => by
  refine eEA (List.mem_map.mp hx) fun r hr ρ7 => ?_
  subst ρ7
  exact wordT.ok (text_fine r (rk.mem r hr))
 have hql : ∀ q ∈ (rows.map Qej).map Qfy, q.length ≤ 100 := fun q hq => by
  refine eEA (List.mem_map.mp hq) fun x hx' ρ8 => ?_
  subst ρ8
  exact (hw x hx').ql
 refine Qqj (.d (Qbb (rows.map Qej))) (L.evSplit (m := m + 4) (xs := rows.map Qej) hT ok hfr hne (by rw [List.length_map]; lia) hw ?_ fun v s' L' hv => ⟨_, _, _, L'.f, hv, fun s'' F => ?_⟩)
 ·refine EvA.join EvA.str (EvA.cast (EvA.listComp (Gf := []) [] (fun ζ => true) (fun d => .str (Qfy (strD d))) ok (EvIt.list ok (EvA.name (.d (Qbb (rows.map Qej))))) hrl .nil (fun T' C d hT' hd => TeL.nil) (fun T' C d hT' hd ζ => ?_)) ?_) (Qqa hsp (by rw [List.length_map, List.length_map]; lia) hql)
  ·refine eEA (List.mem_map.mp hd) fun x hx ρ9 => ?_
   subst ρ9
   exact Qby (ct_quote x (hw x hx).q) (hT'.trans (hT.trans (TWz.trans Tz.leR))) ok (glob (.ref 900) (hT'.trans hTp)) (EvL.cons (EvA.name (.d (.str x))) .nil')
  ·rw [Qwj (fun d => .str (Qfy (strD d))) Qfy (rows.map Qej) (fun x ζ => by show PyData.str (Qfy (strD (.str x))) = _; rw [show strD (.str x) = x from rfl])]
 have L := L'.step F L'.x
 have hw' : ∀ x ∈ rows.map Qej, normT (Qcy (Str.ofString "/") x) = true ∧ (Qcy (Str.ofString "/") x).length ≤ 100 ∧ x.length ≤ 100 := fun x hx => by
  refine eEA (List.mem_map.mp hx) fun r hr ρ10 => ?_
  subst ρ10
  exact ⟨text_normOk r (rk.mem r hr), (Qux r (rk.mem r hr)).2.2.2.1, (hw _ hx).l⟩
 refine Qew (Gf := []) [] (fun ζ => true) normF ok L.f (EvIt.list ok (EvA.name (.d (Qbb (rows.map Qej))))) hrl .nil (fun T' C d hT' hd => TeL.nil) (fun T' C d hT' hd ζ => ?_) fun s' F => ?_
 ·refine eEA (List.mem_map.mp hd) fun x hx ρ11 => ?_
  subst ρ11
  refine eAA (hw' x hx) fun n1 n2 n3 => ?_
  rw [QFc]
  unfold normG
  exact Qby (ct_normpath _ (normT.ok n1)) (hT'.trans hTp) ok (glob (.ref 187) (hT'.trans hTp)) (EvL.cons (Qby (ct_join (Str.ofString "/") x (by rw [slash1]; lia)) (hT'.trans hTp) ok (glob (.ref 159) (hT'.trans hTp)) (EvL.cons EvA.str (EvL.cons (EvA.name (.d (.str x))) .nil'))) .nil')
 have L := L.step F L.x
 rw [norm_paths rows rk.mem] at L
 have sT : ∀ x ∈ rows.map Qej, PyData.strOk x = true := fun x hx => (hw x hx).s
 have sP : ∀ x ∈ rows.map Qaq, PyData.strOk x = true := fun x hx => by
  refine eEA (List.mem_map.mp hx) fun r hr ρ12 => ?_
  subst ρ12
  exact (Qfa r (rk.mem r hr)).2.2
 have self : ∀ xs : List Str, PyData.eqv (Qbb xs) (Qbb xs) = true := fun xs => by rw [Qkj]; exact beq_self_eq_true _
 refine Qiy false L.f (TeA.cast (TeA.or (TeA.cmp (EvA.name (.d (Qbb (rows.map Qej)))) (EvA.name (.d (Qbb (rows.map Qej)))) (QAc ok (Qfk _ sT) (Qfk _ sT) (Qhk _))) fun ζ => TeA.or (TeA.cmp (EvA.name (.d (Qbb (rows.map Qaq)))) (Qnw hTp ok rk.mem (by lia) (EvA.plain (EvA.name (.pl (rows.map Qbb))))) (QAc ok (Qfk _ sP) (Qfk _ sP) (Qhk _))) fun ζ => TeA.or0) (by rw [self, self]; rfl)).f (fun e => nomatch e) (fun ζ s₄ F => Qaw ?_)
 exact h _ (L.step (F.pick (.cons (.cons (.cons .nil)))) L.x)
end
theorem Qua : ∀ (xs ys:List Nat), Qfb (xs.map fun (c:Nat) => PyData.int (c:Int)) (ys.map fun (c:Nat) => PyData.int (c:Int))
 | [], _ => trivial
 | _ :: _, [] => trivial
 | x :: xs, y :: ys => ⟨⟨rfl, by simp [PyData.canLay0], by simp [PyData.canLay0]⟩, Qua xs ys⟩
noncomputable def mkS (d:PyData) : List PyData := markS (rowD d)
noncomputable def mkN (d:PyData) : List PyData := (rowD d).map .str
noncomputable def sgn (rows:List (List Str)) : List (List Str) := sortR rkS rows
noncomputable def nms (rows:List (List Str)) : List (List Str) := sortR rkN rows
theorem Qsc {rows:List (List Str)}(rk:RowsOk rows) : rows.Pairwise fun a b => rkS a ≠ rkS b := by
 refine List.Pairwise.imp_of_mem ?_ rk.nodup
 intro a b ha hb hne e
 exact hne (rkS_inj a (rk.mem a ha) b (rk.mem b hb) e)
theorem Qtq {rows:List (List Str)}(rk:RowsOk rows) : rows.Pairwise fun a b => rkN a ≠ rkN b := by
 refine List.Pairwise.imp_of_mem ?_ rk.nodup
 intro a b ha hb hne e
 exact hne (rkN_inj a (rk.mem a ha) b (rk.mem b hb) e)
theorem sorted_S {rows:List (List Str)}(rk:RowsOk rows) : Qic mkS (rows.map Qbb) = (sgn rows).map Qbb :=
 Qsq Qbb mkS (· ∈ Qaj) (fun a b ha hb => by unfold mkS; rw [Qbw, Qbw]; exact markS_le ha hb) rk.mem (Qsc rk)
theorem sorted_N {rows:List (List Str)}(rk:RowsOk rows) : Qic mkN (rows.map Qbb) = (nms rows).map Qbb :=
 Qsq Qbb mkN (· ∈ Qaj) (fun a b ha hb => by unfold mkN; rw [Qbw, Qbw]; exact names_le ha hb) rk.mem (Qtq rk)
theorem Quz : ∀ r ∈ Qaj, ∀ c ∈ r, PyData.strOk c = true := by decide +kernel
section
variable {prog : Program} {w : World} {T : Hp} {A : Around} {E : Value → Shared → Prop} {s₀ s : Shared} {R : Flow → Shared → Prop} {ps : Array Value} {Lc : Addr} {pm : Value} {env : Env} {G : Gam} {O : Own}
theorem LawAt.evSorted {Q:Value → Shared → Prop}{m:Nat}{rows:List (List Str)}{e0 body:Expr}{params:Arguments}{scope:Scope}{lpos np pos:Pos}(mk:PyData → List PyData)(L:LawAt T s₀ env ps G O s)(hT:T.le TW)(ok:OkA A (m + 20))(hl:rows.length ≤ 13)
  (ht : TriplesOk ps.toList) (hnf : codeAmong lpos ps.toList = none) (h0 : EvA prog w T A env G e0 (.d (.list (rows.map Qbb))))
  (hm : ∀ (T₀ : Hp) f c' pm ctv, T₀.le Tp → (∀ h, T₀.p h → FnAt h f (PySem.W.kla_fn "<lambda>" (env.qual ++ "<lambda>") params body scope [] pm (.ref c') ctv)) → ∀ d ∈ rows.map Qbb, CtT T₀ prog w 10 (.ref f) [.d d] (.d (.list (mk d))))
  (hk : ∀ d ∈ rows.map Qbb, ∀ d' ∈ rows.map Qbb, Qfb (mk d) (mk d'))
  (h : ∀ v s' T' c', T'.le T → (∀ b, T'.X b ↔ T.X b) → KpX T.X s.heap s'.heap → LawAt T' s₀ env (ps ++ #[rawInt lpos.line, rawInt lpos.col, .ref c']) G O s' → (Dv.pl (Qic mk (rows.map Qbb))).p T'.X s'.heap v → Q v s')
  (hn : EvA prog w T A env G (.Name "_law_sorted" np) (.v (.ref 917)) := by exact glob (.ref 917) (hT.trans TWp))
  (hs : autoParam (starEach [e0, .Lambda params body scope lpos] env = [(false, eval e0 env), (false, eval (.Lambda params body scope lpos) env)]) sK)
  (hdef : autoParam (PySem.defaultsOf params env = ([], [])) sK) (hcl : autoParam (closureFor scope env = pure []) sK) (hge : autoParam (env.globals = mainGlobals) sK) (hcode : autoParam (env.code = .ref 933) sK) :
  wpAny (model prog w) A (eval (.Call (.Name "_law_sorted" np) [e0, .Lambda params body scope lpos] [] pos) env) Q E s := by
 refine Call_Name rfl (wpAny_mono (hn.of _ s L.f.t L.f.vw) (fun f s₁ k1 => ?_) fun ζ ζ x => x)
 obtain ⟨rfl, k1⟩ := k1
 have L1 := L.step (L.f.kept k1) L.x
 rw [hs]
 refine Qbx (by rfl) (evalArgs_plain (spliced_cons (wpAny_mono (h0.of _ s₁ L1.f.t L1.f.vw) (fun v s₂ k2 => ?_) fun ζ ζ x => x)))
 have L2 := L1.step (L1.f.kept k2.2) L1.x
 refine spliced_cons (L2.lam hT ht hnf (fun g c' pm' ctv s₃ L3 k3 => spliced_nil ?_) hdef hcl hge hcode)
 have k23 : KpX T.X s₂.heap s₃.heap := k3.wider fun b hb => hb ▸ L.x
 have hv : (Dv.d (.list (rows.map Qbb))).p T.X s₃.heap v := k2.1.kp k23
 have hTf := Hp.fn_le T g (PySem.W.kla_fn "<lambda>" (env.qual ++ "<lambda>") params body scope [] pm' (.ref c') ctv)
 have hat : ∀ h, (T.fn g (PySem.W.kla_fn "<lambda>" (env.qual ++ "<lambda>") params body scope [] pm' (.ref c') ctv)).p h → FnAt h g (PySem.W.kla_fn "<lambda>" (env.qual ++ "<lambda>") params body scope [] pm' (.ref c') ctv) := fun h q => Hp.fn_at q
 have hXf : ∀ b, (T.fn g (PySem.W.kla_fn "<lambda>" (env.qual ++ "<lambda>") params body scope [] pm' (.ref c') ctv)).X b ↔ T.X b := fun b => Iff.rfl
 generalize T.fn g (PySem.W.kla_fn "<lambda>" (env.qual ++ "<lambda>") params body scope [] pm' (.ref c') ctv) = T' at L3 hTf hat hXf
 have hTp' := (hTf.trans hT).trans TWp
 have ct := hm T' g c' pm' ctv hTp' hat
 refine eE ((hTp'.p _ L3.f.t).defs 917 58 (by decide)) fun pmS hfn => ?_
 refine wpAny_mono (Qev hfn) (fun ζ s₄ e => ?_) fun ζ ζ x => x
 subst e
 refine wpAny_mono (((QDk (w := w) (prog := prog) hTp' mk (rows.map Qbb) g 10 ct hk (by rw [List.length_map]; lia)).of T' A (Hp.le.refl T') (ok.le (by lia))).of E s₄ [v, .ref g] L3.f.t ⟨v, _, rfl, hv.less (fun b hb => (hXf b).1 hb), .ref g, [], rfl, rfl, rfl⟩) (fun r s₅ k5 => ?_) fun ζ ζ x => x
 exact h r s₅ T' c' hTf hXf (((k1.kp.kpx.trans k2.2.kp.kpx).trans k23).trans k5.2.kp.kpx) (L3.step (L3.f.kept k5.2) L3.x) k5.1
end
noncomputable abbrev ltab1 (c1:Addr) : Array Value := #[] ++ #[rawInt 960, rawInt 0, .ref c1]
noncomputable abbrev ltab2 (c1 c2:Addr) : Array Value := ltab1 c1 ++ #[rawInt 961, rawInt 0, .ref c2]
noncomputable def ordF (d:PyData) : PyData := .int (((strD d).cps.getD 0 0 : Nat) : Int)
theorem signs_mark (r:List Str) : (((Qjy (Qaq r)).filter fun ζ => true).map ordF) = markS r := by
 rw [List.filter_eq_self.mpr fun ζ ζ => rfl]
 unfold Qjy markS cpsOf
 rw [List.map_map]
 exact List.map_congr_left fun c ζ => rfl
theorem path_ascii : ∀ r ∈ Qaj, (Qaq r).cps.all (· < 128) = true := by decide +kernel
noncomputable abbrev Qzx (script:List Int)(rows:List (List Str)) : Gam := ("signs", .pl ((sgn rows).map Qbb)) :: ("names", .pl ((nms rows).map Qbb)) :: gPaths script rows
section
variable {prog : Program} {w : World} {T : Hp} {A : Around} {E : Value → Shared → Prop} {s₀ s : Shared} {R : Flow → Shared → Prop} {ps : Array Value} {Lc : Addr} {pm : Value} {env : Env} {G : Gam} {O : Own}
theorem law_signs {script:List Int}{rows:List (List Str)}(L:LawAt T s₀ (Qez Lc pm) #[] (gPaths script rows) none s)(hT:T.le TW){m:Nat}(ok:OkA A (m + 20))(rk:RowsOk rows)
  (h : ∀ T' s' c1 c2, T'.le TW → LawAt T' s₀ (Qez Lc pm) (ltab2 c1 c2) (Qzx script rows) none s' → Go prog w A (Qez Lc pm) (Qsw 7) R s') : Go prog w A (Qez Lc pm) (Qsw 6) R s := by
 have hz := Qca
 have hhi := rk.hi
 have hlo := rk.lo
 refine st_pairW (O := none) (G := gPaths script rows) (a := .pl ((sgn rows).map Qbb)) (b := .pl ((nms rows).map Qbb)) ok (L.evSorted (m := m) mkS hT ok hhi trivial (by kernel_rfl!) (EvA.plain (EvA.name (.pl (rows.map Qbb)))) (fun T₀ f c' pm' ctv hT₀ hfn d hd => ?_) (fun d hd d' hd' => ?_) fun v1 s1 T1 c1 hT1 hX1 k1 L1 hv1 => ?_)
 ·refine eEA (List.mem_map.mp hd) fun r hr ρ0 => ?_
  subst ρ0
  have hra := rk.mem r hr
  refine eA (Quv r hra) fun j1 j2 => ?_
  refine ct_lam (n := 9) (x := "row") hT₀ hfn (fun T' A' L' hT' ok' => ?_) rfl (by intro v; kernel_rfl!) (by kernel_rfl!) (.inl (by kernel_rfl!)) (by kernel_rfl!) (by kernel_rfl!) (by kernel_rfl!)
  have hTp' := hT'.trans hT₀
  refine EvA.cast (EvA.listComp (Gf := []) [] (fun ζ => true) ordF ok' (EvIt.strA ok' (path_ascii r hra) (Qby (Qmz r j1 (by lia)) hTp' ok' (glob (.ref 912) hTp') (EvL.cons (EvA.name (.d (Qbb r))) .nil'))) (by unfold Qjy; rw [List.length_map]; have := (Qjv r hra).1; unfold cpsOf at this; lia) .nil (fun T'' C d hT'' hd => TeL.nil) (fun T'' C d hT'' hd ζ => ?_)) ?_
  ·unfold Qjy at hd
   refine eEA (List.mem_map.mp hd) fun c hc ρ1 => ?_
   subst ρ1
   have hTp'' := hT''.trans hTp'
   exact EvA.call (bltn (.builtin "ord") hTp'') (EvL.cons (EvA.name (.d (.str ⟨#[c]⟩))) .nil') (fn_ord rfl)
  ·rw [signs_mark]
   unfold mkS; rw [Qbw]
 ·refine eEA (List.mem_map.mp hd) fun r hr ρ2 => ?_
  subst ρ2
  refine eEA (List.mem_map.mp hd') fun q hq ρ3 => ?_
  subst ρ3
  unfold mkS; rw [Qbw, Qbw]
  exact Qua _ _
 rw [sorted_S rk] at hv1
 refine L1.evSorted (hn := glob (.ref 917) ((hT1.trans hT).trans TWp)) (m := m) mkN (hT1.trans hT) ok hhi trivial (by kernel_rfl!) (EvA.plain (EvA.name (.pl (rows.map Qbb)))) (fun T₀ f c' pm' ctv hT₀ hfn d hd => ?_) (fun d hd d' hd' => ?_) fun v2 s2 T2 c2 hT2 hX2 k2 L2 hv2 => ?_
 ·refine eEA (List.mem_map.mp hd) fun r hr ρ4 => ?_
  subst ρ4
  refine ct_lam (n := 9) (x := "row") hT₀ hfn (fun T' A' L' hT' ok' => ?_) rfl (by intro v; kernel_rfl!) (by kernel_rfl!) (.inl (by kernel_rfl!)) (by kernel_rfl!) (by kernel_rfl!) (by kernel_rfl!)
  refine EvA.cast (EvA.name (.d (Qbb r))) ?_
  unfold mkN; rw [Qbw]; rfl
 ·refine eEA (List.mem_map.mp hd) fun r hr ρ5 => ?_
  subst ρ5
  refine eEA (List.mem_map.mp hd') fun q hq ρ6 => ?_
  subst ρ6
  unfold mkN; rw [Qbw, Qbw]
  exact Qja _ _ (fun c hc => Qrb (Quz r (rk.mem r hr) c hc)) fun c hc => Qrb (Quz q (rk.mem q hq) c hc)
 rw [sorted_N rk] at hv2
 have hv1' : (Dv.pl ((sgn rows).map Qbb)).p T2.X s2.heap v1 := (hv1.kp k2).less fun b hb => (hX2 b).1 hb
 exact ⟨_, T2, _, L2.f, hv1', hv2, fun s3 F => h T2 s3 c1 c2 ((hT2.trans hT1).trans hT) (L2.step F L2.x)⟩
end
theorem Qjk {rows:List (List Str)}(rk:RowsOk rows) : (sgn rows).Perm rows := Qqk (Qsc rk)
theorem Qgw {rows:List (List Str)}(rk:RowsOk rows) : (nms rows).Perm rows := Qqk (Qtq rk)
theorem Qta {rows:List (List Str)}(rk:RowsOk rows) : ∀ r ∈ sgn rows, r ∈ Qaj := fun r hr => rk.mem r ((Qjk rk).subset hr)
theorem Qnk {rows:List (List Str)}(rk:RowsOk rows) : ∀ r ∈ nms rows, r ∈ Qaj := fun r hr => rk.mem r ((Qgw rk).subset hr)
theorem QEv : ∀ r ∈ Qaj, Txt.split (Qaq r) (Str.ofString "/") = Str.ofString "" :: r := by decide +kernel
noncomputable def keyD (r:List Str) : PyData := Qbb (Str.ofString "" :: r)
theorem ltL_head (a b:List Str) : ltL ((Str.ofString "" :: a).map .str) ((Str.ofString "" :: b).map .str) = ltL (a.map .str) (b.map .str) := by
 rw [List.map_cons, List.map_cons, ltL_cons, if_pos (show PyData.eqv (.str _) (.str _) = true from beq_self_eq_true _)]
theorem sortOk_S {rows:List (List Str)}(rk:RowsOk rows) : SortOk (rows.map Qsv) (rows.map Qsv) ((sgn rows).map Qsv) := by
 have h1 := rk.lo
 have h2 := rk.hi
 refine QEw (t := "str") Qsv Qsv (fun a ha b hb => ?_) (Qsc rk) (by lia) (by lia) (fun a ζ b ζ => trivial) (.inl rfl) fun a ζ => rfl
 show decide _ = decide _
 exact decide_eq_decide.mpr (path_lt (rk.mem a ha) (rk.mem b hb))
theorem sortOk_N {rows:List (List Str)}(rk:RowsOk rows) : SortOk (rows.map Qsv) (rows.map keyD) ((nms rows).map Qsv) := by
 have h1 := rk.lo
 have h2 := rk.hi
 have hs : ∀ r ∈ rows, ∀ c ∈ Str.ofString "" :: r, (PyData.str c).canLay0 = true := fun r hr c hc => by
  rcases List.mem_cons.mp hc with rfl | hc
  ·exact Qrb (by decide +kernel)
  ·exact Qrb (Quz r (rk.mem r hr) c hc)
 refine QEw (t := "list") Qsv keyD (fun a ha b hb => ?_) (Qtq rk) (by lia) (by lia) (fun a ha b hb => Qja _ _ (hs a ha) (hs b hb)) (.inr rfl) fun a ζ => rfl
 show ltL ((Str.ofString "" :: a).map .str) ((Str.ofString "" :: b).map .str) = _
 rw [ltL_head, QBj (rk.mem a ha) (rk.mem b hb)]
theorem Qoy (rows:List (List Str)) : rows.map Qsv = (rows.map Qaq).map .str := by
 rw [List.map_map]; rfl
noncomputable abbrev QGc (script:List Int)(rows:List (List Str)) : Gam := ("told", .pl (((nms rows).map Qaq).map .str)) :: Qzx script rows
section
variable {prog : Program} {w : World} {T : Hp} {A : Around} {E : Value → Shared → Prop} {s₀ s : Shared} {R : Flow → Shared → Prop} {ps : Array Value} {Lc : Addr} {pm : Value} {env : Env} {G : Gam} {O : Own}
theorem LawAt.lam2 {Q:Value → Shared → Prop}{params:Arguments}{body:Expr}{scope:Scope}{pos:Pos}(L:LawAt T s₀ env ps G O s)(hT:T.le TW)(ht:TriplesOk ps.toList)(hnf:codeAmong pos ps.toList = none)
  (h : ∀ f c' pm ctv s' T', T'.le T → T'.X = T.X → (∀ h, T'.p h → FnAt h f (PySem.W.kla_fn "<lambda>" (env.qual ++ "<lambda>") params body scope [] pm (.ref c') ctv)) → LawAt T' s₀ env (ps ++ #[rawInt pos.line, rawInt pos.col, .ref c']) G O s' → KpX (fun b => b = 931) s.heap s'.heap → Q (.ref f) s')
  (hdef : autoParam (PySem.defaultsOf params env = ([], [])) sK) (hcl : autoParam (closureFor scope env = pure []) sK) (hge : autoParam (env.globals = mainGlobals) sK) (hcode : autoParam (env.code = .ref 933) sK) :
  wpAny (model prog w) A (eval (.Lambda params body scope pos) env) Q E s :=
 L.lam hT ht hnf (fun f c' pm ctv s' L' k => h f c' pm ctv s' _ (Hp.fn_le _ _ _) rfl (fun h q => Hp.fn_at q) L' k) hdef hcl hge hcode
theorem Qvv {M:Model}(h:Heap) : PySem.W.Looks M h (keeperOf (.builtin "sorted")) .machine := PySem.W.Looks.of_pure rfl
theorem law_if7 {script:List Int}{rows:List (List Str)}(L:LawAt T s₀ (Qez Lc pm) ps (Qzx script rows) none s)(hT:T.le TW){m:Nat}(ok:OkA A (m + 22))(rk:RowsOk rows)
  (h : ∀ s', LawAt T s₀ (Qez Lc pm) ps (Qzx script rows) none s' → Go prog w A (Qez Lc pm) (Qsw 8) R s') : Go prog w A (Qez Lc pm) (Qsw 7) R s := by
 have hTp := hT.trans TWp
 have hhi := rk.hi
 have hsl : (sgn rows).length ≤ 100 := by rw [(Qjk rk).length_eq]; lia
 have sP : ∀ x ∈ (sgn rows).map Qaq, PyData.strOk x = true := fun x hx => by
  refine eEA (List.mem_map.mp hx) fun r hr ρ0 => ?_
  subst ρ0
  exact (Qfa r (Qta rk r hr)).2.2
 have self : ∀ xs : List Str, PyData.eqv (Qbb xs) (Qbb xs) = true := fun xs => by rw [Qkj]; exact beq_self_eq_true _
 refine Qiy false L.f (TeA.cast (TeA.cmp (a1 := .d (Qbb ((sgn rows).map Qaq))) ⟨fun E s hp hv => ?_⟩ (Qnw hTp (ok.le (by lia) : OkA A (0 + 20)) (Qta rk) hsl (EvA.plain (EvA.name (.pl ((sgn rows).map Qbb))))) (QAc ok (Qfk _ sP) (Qfk _ sP) (Qhk _))) (by rw [self]; rfl)).f (fun e => nomatch e) (fun ζ s₄ F => Qaw (h _ (L.step F L.x)))
 refine Qzv (bltn (.builtin "sorted") hTp) (EvA.name (.d (Qbb (rows.map Qaq)))) (glob (.ref 58) hTp) hp hv (fun h ζ => ⟨_, .inr (.inl rfl), Qvv h⟩) fun v u s' k hv hu => ?_
 have hu : u = .ref 58 := hu
 subst hu
 have hv' : (Dv.d (.list (rows.map Qsv))).p T.X s'.heap v := by rw [Qoy]; exact hv
 refine wpAny_mono (Qsj (m := m + 20) ok (sortOk_S rk) (fun T' A' i x k' hT' ok' hx hk => ?_) (T.kt hp k) hv') (fun r s3 q => ⟨?_, k.trans q.2⟩) fun ζ ζ x => x
 ·rw [hx] at hk; cases hk
  refine eEA (List.mem_map.mp (List.mem_of_getElem? hx)) fun p hp' ρ1 => ?_
  subst ρ1
  exact (Qzb (Qaq p)).of T' A' (hT'.trans hTp) (ok'.le (by lia))
 ·have := q.1
  rw [Qoy] at this
  exact this.plain
theorem law_told {script:List Int}{rows:List (List Str)}{c1 c2:Addr}(L:LawAt T s₀ (Qez Lc pm) (ltab2 c1 c2) (Qzx script rows) none s)(hT:T.le TW){m:Nat}(ok:OkA A (m + 24))(rk:RowsOk rows)
  (h : ∀ T' s' ps', T'.le TW → LawAt T' s₀ (Qez Lc pm) ps' (QGc script rows) none s' → Go prog w A (Qez Lc pm) (Qsw 10) R s') : Go prog w A (Qez Lc pm) (Qsw 8) R s := by
 have hTp := hT.trans TWp
 have hz := Qca
 have hhi := rk.hi
 refine Qqj (O := none) (G := Qzx script rows) (.pl (((nms rows).map Qaq).map .str)) (ev_callKwW (f := "sorted") (bltn (.builtin "sorted") hTp) (EvA.name (.d (Qbb (rows.map Qaq)))) L.f.t L.f.vw Qvv fun v s' k hv => ?_)
 have L1 := L.step (L.f.kept k) L.x
 refine L1.lam2 hT trivial (by kernel_rfl!) fun g c' pm' ctv s₃ T' hTf hX hat L3 k3 => ?_
 have hT' := hTf.trans hT
 have hTp' := hT'.trans TWp
 have ct : ∀ r ∈ rows, CtT T' prog w 10 (.ref g) [.d (Qsv r)] (.d (keyD r)) := fun r hr => by
  have hra := rk.mem r hr
  refine eAAAA (QAb r hra) fun z1 z2 z3 z4 z5 => ?_
  refine ct_lam (n := 9) (x := "path") hTp' hat (fun T2 A' L' hT2 ok' => ?_) rfl (by intro v; kernel_rfl!) (by kernel_rfl!) (.inl (by kernel_rfl!)) (by kernel_rfl!) (by kernel_rfl!) (by kernel_rfl!)
  refine EvA.cast (EvA.listComp (Gf := []) [] (fun ζ => true) (fun d => d) ok' (EvIt.list ok' (EvA.meth QCq (EvA.name (.d (.str (Qaq r)))) Qgj (EvL.cons EvA.str .nil') (Qtz (by decide +kernel) (by lia) (by lia)))) (by rw [List.length_map]; lia) .nil (fun T'' C d hT'' hd => TeL.nil) (fun T'' C d hT'' hd ζ => ?_)) ?_
  ·refine eEA (List.mem_map.mp hd) fun x hx ρ2 => ?_
   subst ρ2
   have hTp'' := (hT''.trans hT2).trans hTp'
   exact Qby (Qzb x) hTp'' ok' (glob (.ref 58) hTp'') (EvL.cons (EvA.name (.d (.str x))) .nil')
  ·rw [List.filter_eq_self.mpr fun ζ ζ => rfl, List.map_id', QEv r hra]
   rfl
 have hv3 : (Dv.d (.list (rows.map Qsv))).p T'.X s₃.heap v := by
  have := hv.kp (k3.wider (Y := T.X) fun b hb => hb ▸ L.x)
  rw [hX, Qoy]; exact this
 refine wpAny_mono (Qsj (m := m + 20) (ok.le (by lia)) (sortOk_N rk) (fun T2 A' i x k' hT2 ok' hx hk => ?_) L3.f.t hv3) (fun r s4 q => ?_) fun ζ ζ x => x
 ·rw [List.getElem?_map] at hx hk
  refine eEA (Option.map_eq_some_iff.mp hx) fun p hp' ρ3 => ?_
  subst ρ3
  refine eEA (Option.map_eq_some_iff.mp hk) fun p2 hp2 ρ4 => ?_
  subst ρ4
  rw [hp'] at hp2; cases hp2
  exact (ct p (List.mem_of_getElem? hp')).of T2 A' hT2 (ok'.le (by lia))
 have L4 := L3.step (L3.f.kept q.2) L3.x
 have q1 := q.1
 rw [Qoy] at q1
 refine ⟨_, T', _, L4.f, q1, fun s5 F => ?_⟩
 have L5 := L4.step F L4.x
 have hsl : (nms rows).length ≤ 100 := by rw [(Qgw rk).length_eq]; lia
 have sP : ∀ x ∈ (nms rows).map Qaq, PyData.strOk x = true := fun x hx => by
  refine eEA (List.mem_map.mp hx) fun r hr ρ5 => ?_
  subst ρ5
  exact (Qfa r (Qnk rk r hr)).2.2
 have self : ∀ xs : List Str, PyData.eqv (Qbb xs) (Qbb xs) = true := fun xs => by rw [Qkj]; exact beq_self_eq_true _
 exact Qiy false L5.f (TeA.cast (TeA.cmp (a1 := .d (Qbb ((nms rows).map Qaq))) (EvA.plain (EvA.name (.pl (((nms rows).map Qaq).map .str)))) (Qnw hTp' (ok.le (by lia) : OkA A (0 + 20)) (Qnk rk) hsl (EvA.plain (EvA.name (.pl ((nms rows).map Qbb))))) (QAc ok (Qfk _ sP) (Qfk _ sP) (Qhk _))) (by rw [self]; rfl)).f (fun e => nomatch e) (fun ζ s₄ F => Qaw (h T' _ _ hT' (L5.step F L5.x)))
end
section
variable {α : Type} {rk : α → Nat}
noncomputable def Qdw (rk:α → Nat)(l:List α)(x:α) : Nat := (l.filter fun a => decide (rk a < rk x)).length
theorem Quk {l:List α}(h:Rise rk l){i:Nat}{a:α}(e:l[i]? = some a)(x:α) : rk a < rk x ↔ i < Qdw rk l x := Qjw h i a e
theorem rise_at {l:List α}(h:Rise rk l){i j:Nat}{a b:α}(ea:l[i]? = some a)(eb:l[j]? = some b)(hij:i < j) : rk a < rk b := by
 obtain ⟨hi, rfl⟩ := List.getElem?_eq_some_iff.mp ea
 obtain ⟨hj, rfl⟩ := List.getElem?_eq_some_iff.mp eb
 exact List.pairwise_iff_getElem.mp h i j hi hj hij
theorem Qyy {l:List α}(h:Rise rk l){x:α}(hx:x ∈ l) : l[Qdw rk l x]? = some x := by
 refine eE (List.mem_iff_getElem?.mp hx) fun j hj => ?_
 have h1 : ¬ j < Qdw rk l x := fun q => absurd ((Quk h hj x).mpr q) (Nat.lt_irrefl _)
 have hjl : j < l.length := (List.getElem?_eq_some_iff.mp hj).1
 rcases Nat.lt_or_ge (Qdw rk l x) j with q | q
 ·have hp : Qdw rk l x < l.length := by lia
  have e := List.getElem?_eq_getElem hp
  have h2 := rise_at h e hj q
  have h3 := (Quk h e x).mp h2
  lia
 ·have : j = Qdw rk l x := by lia
  rw [← this]; exact hj
theorem pos_gt {l:List α}(h:Rise rk l){x:α}(hx:x ∈ l){i:Nat}{a:α}(e:l[i]? = some a) : rk x < rk a ↔ Qdw rk l x < i := by
 constructor
 ·intro q
  have h1 : ¬ i < Qdw rk l x := fun z => by have := (Quk h e x).mpr z; lia
  rcases Nat.lt_or_ge (Qdw rk l x) i with z | z
  ·exact z
  ·have : i = Qdw rk l x := by lia
   rw [this, Qyy h hx] at e; cases e; lia
 ·intro q
  exact rise_at h (Qyy h hx) e q
end
theorem QGw (a:Nat) : ∀ b, (List.range b).filter (fun k => decide (a ≤ k)) = (List.range (b - a)).map fun k => a + k
 | 0 => by simp
 | b + 1 => by
  rw [List.range_succ, List.filter_append, QGw a b]
  by_cases h : a ≤ b
  ·rw [Nat.succ_sub h, List.range_succ, List.map_append, List.map_singleton, Nat.add_sub_cancel' h, List.filter_cons_of_pos (by exact decide_eq_true h), List.filter_nil]
  ·have hb : b < a := Nat.lt_of_not_le h
   rw [Nat.sub_eq_zero_of_le hb, Nat.sub_eq_zero_of_le (Nat.le_of_lt hb), List.filter_cons_of_neg (by simpa using h), List.filter_nil, List.append_nil]
theorem interval (a b:Nat) : ∀ d, (List.range (b + d)).filter (fun k => decide (a ≤ k ∧ k < b)) = (List.range (b - a)).map fun k => a + k
 | 0 => by
  rw [← QGw a b]
  refine List.filter_congr fun k hk => ?_
  have := List.mem_range.mp hk
  rw [decide_eq_decide]; exact ⟨fun q => q.1, fun q => ⟨q, this⟩⟩
 | d + 1 => by
  rw [← Nat.add_assoc, List.range_succ, List.filter_append, interval a b d, List.filter_cons_of_neg (by simp), List.filter_nil, List.append_nil]
theorem Qsk {α:Type}(p:α → Bool)(d:α) : ∀ (l:List α), ((List.range l.length).filter fun k => p (l.getD k d)).length = (l.filter p).length := by
 intro l
 have h : (List.range l.length).map (fun k => l.getD k d) = l := by
  refine List.ext_getElem (by simp) fun i h1 h2 => ?_
  simp [List.getD, List.getElem?_eq_getElem h2]
 have h2 : l.filter p = ((List.range l.length).filter fun k => p (l.getD k d)).map fun k => l.getD k d := by
  conv => lhs; rw [← h, List.filter_map]
  rfl
 rw [h2, List.length_map]
theorem QAv {rows:List (List Str)}(rk:RowsOk rows) : Rise rkS (sgn rows) := Qqy (Qsc rk)
theorem nms_rise {rows:List (List Str)}(rk:RowsOk rows) : Rise rkN (nms rows) := Qqy (Qtq rk)
theorem Qyk {a b:List Str}(ha:a ∈ Qaj)(hb:b ∈ Qaj)(e:Qaq a = Qaq b) : a = b := by
 rw [← Qhv a ha, ← Qhv b hb, e]
theorem Qyv {a b:List Str}(ha:a ∈ Qaj)(hb:b ∈ Qaj) : (Qaq a == Qaq b) = (a == b) := by
 rw [Bool.eq_iff_iff, beq_iff_eq, beq_iff_eq]
 exact ⟨Qyk ha hb, fun e => e ▸ rfl⟩
theorem take_mem : ∀ q ∈ Qaj, ∀ n ∈ List.range 4, 0 < n → q.take n ∈ Qaj := by decide +kernel
theorem take_row {q:List Str}(hq:q ∈ Qaj){n:Nat}(h:0 < n) : q.take n ∈ Qaj := by
 by_cases h4 : n < 4
 ·exact take_mem q hq n (List.mem_range.mpr h4) h
 ·rw [List.take_of_length_le (Nat.le_trans (Qnv hq) (Nat.le_trans (by decide) (Nat.le_of_not_lt h4)))]; exact hq
theorem QIv : ∀ (a b:List Str), QIw a b = a → b.take a.length = a
 | [], _, _ => rfl
 | a :: as, [], h => nomatch h
 | a :: as, b :: bs, h => QGk (comL_cons.symm.trans h) (fun e h => by
  show b :: bs.take as.length = a :: as
  rw [QIv as bs (List.cons.inj h).2, eq_of_beq e]) fun ζ h => nomatch h
theorem parts_nil : Qcc (Qaq []) = [] := by decide +kernel
theorem com_row (r:List Str)(hr:r ∈ Qaj)(q:List Str)(hq:q ∈ Qaj) : (Qaq (comR r q) == Qaq r) = under r q := by
 have inj : ∀ {y : List Str} {k : Nat}, y ∈ Qaj → Qaq (y.take k) = Qaq r → y.take k = r := by
  intro y k hy e
  cases k with
  | zero => exact parts_nil.symm.trans ((congrArg Qcc e).trans (Qhv r hr))
  | succ k => exact Qyk (take_row hy (Nat.succ_pos k)) hr e
 unfold comR
 rcases Nat.lt_trichotomy (rkN r) (rkN q) with z | z | z
 ·rw [decide_eq_false (Nat.not_lt.mpr (Nat.le_of_lt z)), decide_eq_true z, if_neg Bool.false_ne_true, if_pos rfl, Bool.eq_iff_iff, beq_iff_eq]
  unfold under
  rw [beq_iff_eq]
  refine ⟨fun e => eE (Qpa r q) fun k ek => QIv r q (ek.trans (inj hr (ek ▸ e))), fun e => by rw [Qpb r q (by rw [List.take_length, e])]⟩
 ·have := rkN_inj r hr q hq z
  subst this
  rw [decide_eq_false (Nat.lt_irrefl _), if_neg Bool.false_ne_true, Qpb r r rfl, beq_self_eq_true]
  unfold under
  rw [List.take_length, beq_self_eq_true]
 ·rw [decide_eq_true z, decide_eq_false (Nat.not_lt.mpr (Nat.le_of_lt z)), if_pos rfl, if_neg Bool.false_ne_true]
  have hu : under r q = false := by rw [QAq r hr q hq, decide_eq_false (Nat.not_le.mpr z)]; rfl
  rw [hu]
  refine beq_eq_false_iff_ne.mpr fun e => eE (Qpa q r) fun k ek => ?_
  have e2 : q.take r.length = r := (List.prefix_iff_eq_take.mp (inj hq (ek ▸ e) ▸ List.take_prefix k q)).symm
  unfold under at hu
  rw [e2, beq_self_eq_true] at hu
  exact Bool.false_ne_true hu.symm
theorem path_count : ∀ r ∈ Qaj, Txt.count (Qaq r) (Str.ofString "/") = (r.length : Int) := by decide +kernel
theorem under_path {r q:List Str}(hr:r ∈ Qaj)(hq:q ∈ Qaj) : (Qaq (q.take r.length) == Qaq r) = under r q := by
 have hl := QAa r hr
 rw [Qyv (take_mem q hq r.length (List.mem_range.mpr (by lia)) (by lia)) hr]
 rfl
theorem within_eq {rows:List (List Str)}(rk:RowsOk rows){r:List Str}(hr:r ∈ rows) :
  (List.range (nms rows).length).filter (fun k => under r ((nms rows).getD k [])) = (List.range (rows.filter (under r)).length).map fun k => Qdw rkN (nms rows) r + k := by
 have hra := rk.mem r hr
 have hrise := nms_rise rk
 have hrN : r ∈ nms rows := (Qgw rk).symm.subset hr
 have hlen : ((List.range (nms rows).length).filter fun k => under r ((nms rows).getD k [])).length = (rows.filter (under r)).length := by
  rw [Qsk (under r) [] (nms rows)]
  exact ((Qgw rk).filter _).length_eq
 have he : (List.range (nms rows).length).filter (fun k => under r ((nms rows).getD k [])) = (List.range (nms rows).length).filter (fun k => decide (Qdw rkN (nms rows) r ≤ k ∧ k < ((nms rows).filter fun a => decide (rkN a < rkN r + 5 ^ (3 - r.length))).length)) := by
  refine List.filter_congr fun k hk => ?_
  have hk := List.mem_range.mp hk
  have e := List.getElem?_eq_getElem hk
  have eD : (nms rows).getD k [] = (nms rows)[k] := by simp [List.getD, e]
  rw [eD, QAq r hra _ (Qnk rk _ (List.getElem_mem hk)), Bool.eq_iff_iff, Bool.and_eq_true, decide_eq_true_eq, decide_eq_true_eq, decide_eq_true_eq]
  have h1 := Quk hrise e r
  have h2 := Qjw (k := rkN r + 5 ^ (3 - r.length)) hrise k _ e
  rw [← h2]
  constructor
  ·rintro ⟨q1, q2⟩; exact ⟨Nat.le_of_not_lt fun z => absurd (h1.mpr z) (Nat.not_lt.mpr q1), q2⟩
  ·rintro ⟨q1, q2⟩; exact ⟨Nat.le_of_not_lt fun z => absurd (h1.mp z) (Nat.not_lt.mpr q1), q2⟩
 refine eE (Nat.le.dest (List.length_filter_le (fun a => decide (rkN a < rkN r + 5 ^ (3 - r.length))) (nms rows))) fun d hd => ?_
 have hI := interval (Qdw rkN (nms rows) r) ((nms rows).filter fun a => decide (rkN a < rkN r + 5 ^ (3 - r.length))).length d
 rw [hd] at hI
 rw [he, hI, List.length_map, List.length_range] at hlen
 rw [he, hI, hlen]
theorem coll_row {a b:List Str}(ha:a ∈ Qaj)(hb:b ∈ Qaj) : coll (Qaq a) (Qaq b) = b2i (decide (rkS b < rkS a)) - b2i (decide (rkS a < rkS b)) := by
 unfold coll
 rw [decide_eq_decide.mpr (path_lt hb ha), decide_eq_decide.mpr (path_lt ha hb)]
theorem compared_eq {rows:List (List Str)}(rk:RowsOk rows){r:List Str}(hr:r ∈ rows) :
  (sgn rows).map (fun q => coll (Qaq r) (Qaq q)) = List.replicate (Qdw rkS (sgn rows) r) 1 ++ [0] ++ List.replicate ((sgn rows).length - 1 - Qdw rkS (sgn rows) r) (-1) := by
 have hra := rk.mem r hr
 have hrise := QAv rk
 have hrS : r ∈ sgn rows := (Qjk rk).symm.subset hr
 have hp := Qyy hrise hrS
 have hpl : Qdw rkS (sgn rows) r < (sgn rows).length := (List.getElem?_eq_some_iff.mp hp).1
 refine List.ext_getElem ?_ fun i h1 h2 => ?_
 ·simp; lia
 rw [List.length_map] at h1
 have e := List.getElem?_eq_getElem h1
 rw [List.getElem_map, coll_row hra (Qta rk _ (List.getElem_mem h1))]
 have q1 := Quk hrise e r
 have q2 := pos_gt hrise hrS e
 rcases Nat.lt_trichotomy i (Qdw rkS (sgn rows) r) with z | z | z
 ·have l1 := q1.mpr z
  have l2 : ¬ rkS r < rkS (sgn rows)[i] := by lia
  rw [decide_eq_true l1, decide_eq_false l2, List.getElem_append_left (by simp; lia), List.getElem_append_left (by simpa using z), List.getElem_replicate]
  decide
 ·have l1 : ¬ rkS (sgn rows)[i] < rkS r := fun q => by have := q1.mp q; lia
  have l2 : ¬ rkS r < rkS (sgn rows)[i] := fun q => by have := q2.mp q; lia
  rw [decide_eq_false l1, decide_eq_false l2, List.getElem_append_left (by simp; lia), List.getElem_append_right (by simp; lia)]
  rw [b2i_false]; simp
 ·have l1 : ¬ rkS (sgn rows)[i] < rkS r := fun q => by have := q1.mp q; lia
  have l2 := q2.mpr z
  rw [decide_eq_false l1, decide_eq_true l2, List.getElem_append_right (by simp; lia), List.getElem_replicate]
  decide
noncomputable def intD : PyData → Int
 | .int i => i
 | _ => 0
noncomputable def Qiq (xs:List Int) : PyData := .list (xs.map .int)
theorem Qvc : ∀ a b : List Int, PyData.eqvAll (a.map .int) (b.map .int) = (a == b)
 | [], [] => rfl
 | [], _ :: _ => rfl
 | _ :: _, [] => rfl
 | x :: a, y :: b => by
  rw [List.map_cons, List.map_cons, PyData.eqvAll, Qvc a b, PyData.eqv]; rfl
theorem QCb (a b:List Int) : PyData.eqv (Qiq a) (Qiq b) = (a == b) := by
 unfold Qiq
 rw [PyData.eqv, Qvc]
theorem lay_ints : ∀ (xs:List Int), PyData.canLayAll0 (xs.map .int) = true
 | [] => rfl
 | x :: xs => by
  rw [List.map_cons, PyData.canLayAll0, lay_ints xs]; rfl
theorem Qij (xs:List Int) : (Qiq xs).canLay0 = true := by
 have := lay_ints xs
 simpa [Qiq, PyData.canLay0] using this
theorem Qza : ∀ (xs:List Int), PyData.depthAll (xs.map .int) ≤ 2
 | [] => by simp [PyData.depthAll]
 | x :: xs => by
  have := Qza xs
  rw [List.map_cons, PyData.depthAll]
  have : (PyData.int x).depth ≤ 2 := by simp [PyData.depth]
  lia
theorem Qmq (xs:List Int) : (Qiq xs).depth ≤ 64 := by
 have := Qza xs
 simp only [Qiq, PyData.depth]; lia
theorem range_few : ∀ n ∈ List.range 41, Builtin.Range.small 0 (n:Int) 1 = true ∧ Builtin.Range.rangeSize 0 (n:Int) 1 = (n:Int) := by decide +kernel
noncomputable abbrev rangeD (n:Nat) : List PyData := (List.range n).map fun i => .int (0 + (i:Nat) * 1)
section
variable {prog : Program} {w : World} {T : Hp} {A : Around} {E : Value → Shared → Prop} {s₀ s : Shared} {R : Flow → Shared → Prop} {ps : Array Value} {Lc : Addr} {pm : Value} {env : Env} {G : Gam} {O : Own}
theorem EvIt.rangeN {iter:Expr}{n m:Nat}(ok:OkA A m)(hn:n ≤ 40)(h:EvA prog w T A env G iter (.rg 0 (n:Int) 1)) : EvIt prog w T A env G iter (rangeD n) :=
 have h2 := range_few n (List.mem_range.mpr (by lia))
 EvIt.range ok h h2.1 h2.2
noncomputable def wIn (rows:List (List Str))(r:List Str) : List Int := (List.range (rows.filter (under r)).length).map fun k => ((Qdw rkN (nms rows) r + k : Nat) : Int)
noncomputable def cmpD (rows:List (List Str))(r:List Str) : List Int := (sgn rows).map fun q => coll (Qaq r) (Qaq q)
noncomputable abbrev gLoop (script:List Int)(rows:List (List Str))(r:List Str) : Gam := ("path", .d (.str (Qaq r))) :: QGc script rows
noncomputable def pIn (rows:List (List Str))(r:List Str)(d:PyData) : Bool := under r ((nms rows).getD (intD d).toNat [])
theorem within_data {rows:List (List Str)}(rk:RowsOk rows){r:List Str}(hr:r ∈ rows) : (((rangeD (nms rows).length).filter (pIn rows r)).map id) = (wIn rows r).map .int := by
 rw [List.map_id, List.filter_map]
 have e : (List.range (nms rows).length).filter (pIn rows r ∘ fun (i : Nat) => PyData.int (0 + (i : Int) * 1)) = (List.range (nms rows).length).filter fun k => under r ((nms rows).getD k []) := by
  refine List.filter_congr fun k ζ => ?_
  show under r ((nms rows).getD (0 + (k : Int) * 1).toNat []) = _
  rw [show ((0 : Int) + (k : Int) * 1).toNat = k by lia]
 rw [e, within_eq rk hr, List.map_map]
 unfold wIn
 rw [List.map_map]
 refine List.map_congr_left fun k ζ => ?_
 show PyData.int (0 + ((Qdw rkN (nms rows) r + k : Nat) : Int) * 1) = PyData.int ((Qdw rkN (nms rows) r + k : Nat) : Int)
 congr 1; lia
noncomputable def turnB : List Stmt := match Qsw 10 with
 | .For _ _ b _ _ :: _ => b
 | _ => []
theorem nms_get {rows:List (List Str)}{k:Nat}(hk:k < (nms rows).length) : (((nms rows).map Qaq).map PyData.str)[k]? = some (.str (Qaq ((nms rows).getD k []))) := by
 simp [List.getD, List.getElem?_eq_getElem hk]
theorem turn1 {script:List Int}{rows:List (List Str)}{r:List Str}{W:Addr → Prop}{T':Hp}{sb:Shared}(F:Fx W T' sb (Qez Lc pm) (gLoop script rows r) none s)(hT:T'.le Tp){m:Nat}(ok:OkA A (m + 24))(rk:RowsOk rows)(hr:r ∈ rows)
  (h : ∀ s', Fx W T' sb (Qez Lc pm) (("within", .d (Qiq (wIn rows r))) :: gLoop script rows r) none s' → Go prog w A (Qez Lc pm) (turnB.drop 1) R s') : Go prog w A (Qez Lc pm) turnB R s := by
 have hz := Qca
 have hhi := rk.hi
 have hlo := rk.lo
 have hra := rk.mem r hr
 have hnl : (nms rows).length = rows.length := (Qgw rk).length_eq
 have htl : (((nms rows).map Qaq).map PyData.str).length = (nms rows).length := by rw [List.length_map, List.length_map]
 refine Qew (Gf := [("path", .d (.str (Qaq r))), ("told", .pl (((nms rows).map Qaq).map .str))]) [("told", Lc + 1), ("path", Lc + 2)] (pIn rows r) id ok F (EvIt.rangeN (n := (nms rows).length) ok (by lia) (EvA.call (bltn (.type "range") hT) (EvL.cons (EvA.bnd (EvA.call (bltn (.builtin "len") hT) (EvL.cons (EvA.plain (EvA.name (.pl (((nms rows).map Qaq).map .str)))) .nil') (Qbz (by lia))) (by rw [htl])) .nil') Qpx)) (by rw [List.length_map, List.length_range]; lia) (Takes.cons _ (Takes.cons _ .nil)) (fun T2 C d hT2 hd => ?_) (fun T2 C d hT2 hd ζ => ?_) fun s' F' => ?_
 ·refine eEA (List.mem_map.mp hd) fun k hk ρ0 => ?_
  subst ρ0
  have hk := List.mem_range.mp hk
  have hTp2 := hT2.trans hT
  have hq : (nms rows).getD k [] ∈ Qaj := by
   rw [show (nms rows).getD k [] = (nms rows)[k] by simp [List.getD, List.getElem?_eq_getElem hk]]
   exact Qnk rk _ (List.getElem_mem hk)
  have ek : (0 : Int) + (k : Int) * 1 = (k : Int) := by lia
  rw [ek]
  refine TeL.one (TeA.cast (TeA.cmp (Qby (QDv (Qaq r) (Qaq ((nms rows).getD k [])) (common_ok hra hq)) hTp2 ok (glob (.ref 192) hTp2) (EvL.cons (EvA.plain (EvA.list (ds := [.str (Qaq r), .str (Qaq ((nms rows).getD k []))]) (EvL.cons (EvA.name (.d (.str (Qaq r)))) (EvL.cons (EvA.sub Qfv (EvA.plain (EvA.name (.pl (((nms rows).map Qaq).map .str)))) (EvA.name (.d (.int (k : Int)))) (Qdq (by lia) (by lia) (by rw [Int.toNat_natCast]; exact nms_get hk))) .nil')))) .nil')) (EvA.name (.d (.str (Qaq r)))) Qcb) ?_)
  rw [commonD_row hra hq, com_row r hra _ hq]
  unfold pIn
  rw [show (intD (.int (k : Int))).toNat = k from Int.toNat_natCast k]
 ·exact EvA.name (.d d)
 ·rw [within_data rk hr] at F'
  exact h s' F'
end
section
variable {prog : Program} {w : World} {T : Hp} {A : Around} {E : Value → Shared → Prop} {s₀ s : Shared} {R : Flow → Shared → Prop} {ps : Array Value} {Lc : Addr} {pm : Value} {env : Env} {G : Gam} {O : Own}
theorem wIn_len (rows:List (List Str))(r:List Str) : (wIn rows r).length = (rows.filter (under r)).length := by simp [wIn]
theorem comp_ints (f:PyData → PyData)(g:Nat → Int)(n:Nat)(h:∀ k, k < n → f (.int (0 + (k:Int) * 1)) = .int (g k)) : (((rangeD n).filter fun ζ => true).map f) = ((List.range n).map g).map .int := by
 rw [List.filter_eq_self.mpr fun ζ ζ => rfl, List.map_map, List.map_map]
 exact List.map_congr_left fun k hk => h k (List.mem_range.mp hk)
theorem QEz {rows:List (List Str)}{r:List Str} : (((rows.map Qbb).filter fun d => under r (rowD d)).map id).length = (rows.filter (under r)).length := by
 rw [List.map_id, List.filter_map, List.length_map]
 congr 1
 exact List.filter_congr fun q ζ => by show under r (rowD (Qbb q)) = _; rw [Qbw]
set_option maxHeartbeats 1000000 in
theorem turn2 {script:List Int}{rows:List (List Str)}{r:List Str}{W:Addr → Prop}{T':Hp}{sb:Shared}(F:Fx W T' sb (Qez Lc pm) (("within", .d (Qiq (wIn rows r))) :: gLoop script rows r) none s)(hT:T'.le Tp){m:Nat}(ok:OkA A (m + 24))(rk:RowsOk rows)(hr:r ∈ rows)
  (h : ∀ s', Fx W T' sb (Qez Lc pm) (("within", .d (Qiq (wIn rows r))) :: gLoop script rows r) none s' → Go prog w A (Qez Lc pm) (turnB.drop 2) R s') : Go prog w A (Qez Lc pm) (turnB.drop 1) R s := by
 have hz := Qca
 have hhi := rk.hi
 have hlo := rk.lo
 have hra := rk.mem r hr
 have hnl : (nms rows).length = rows.length := (Qgw rk).length_eq
 have htl : (((nms rows).map Qaq).map PyData.str).length = (nms rows).length := by rw [List.length_map, List.length_map]
 have hfl : (rows.filter (under r)).length ≤ rows.length := List.length_filter_le _ _
 have hwl := wIn_len rows r
 have hwl2 : ((wIn rows r).map PyData.int).length = (wIn rows r).length := List.length_map _
 have hrise := nms_rise rk
 have hrN : r ∈ nms rows := (Qgw rk).symm.subset hr
 have hpa := Qyy hrise hrN
 have hpl : Qdw rkN (nms rows) r < (nms rows).length := (List.getElem?_eq_some_iff.mp hpa).1
 have hgetS : ∀ j, j < (nms rows).length → (((nms rows).map Qaq).map PyData.str).getD j .none = .str (Qaq ((nms rows).getD j [])) := fun j hj => by
  rw [List.getD, nms_get hj]; rfl
 have sP : ∀ x ∈ (nms rows).map Qaq, PyData.strOk x = true := fun x hx => by
  refine eEA (List.mem_map.mp hx) fun q hq ρ0 => ?_
  subst ρ0
  exact (Qfa q (Qnk rk q hq)).2.2
 have hgq : ∀ j, j < (nms rows).length → (nms rows).getD j [] ∈ Qaj := fun j hj => by
  rw [show (nms rows).getD j [] = (nms rows)[j] by simp [List.getD, List.getElem?_eq_getElem hj]]
  exact Qnk rk _ (List.getElem_mem hj)
 have selfI : ∀ xs : List Int, PyData.eqv (Qiq xs) (Qiq xs) = true := fun xs => by rw [QCb]; exact beq_self_eq_true _
 refine Qiy false F (TeA.cast (TeA.or (TeA.cmp (EvA.name (.d (Qiq (wIn rows r)))) (a2 := .d (Qiq (wIn rows r))) (EvA.cast (EvA.listComp (Gf := [("path", .d (.str (Qaq r))), ("told", .pl (((nms rows).map Qaq).map .str))]) [("told", Lc + 1), ("path", Lc + 2)] (fun ζ => true) (fun d => .int (((Qdw rkN (nms rows) r : Nat) : Int) + intD d)) ok (EvIt.rangeN (n := (wIn rows r).length) ok (by lia) (EvA.call (bltn (.type "range") hT) (EvL.cons (EvA.bnd (EvA.call (bltn (.builtin "len") hT) (EvL.cons (EvA.name (.d (Qiq (wIn rows r)))) .nil') (Qbz (by lia))) (by rw [hwl2])) .nil') Qpx)) (by rw [List.length_map, List.length_range]; lia) (Takes.cons _ (Takes.cons _ .nil)) (fun T2 C d hT2 hd => TeL.nil) (fun T2 C d hT2 hd ζ => ?_)) ?_) (QAc ok (Qij _) (Qij _) (Qmq _)))
  fun ζ => TeA.or (TeA.cmp (a1 := .d (.int (rows.filter (under r)).length)) (a2 := .d (.int (rows.filter (under r)).length)) (EvA.bnd (EvA.call (bltn (.builtin "len") hT) (EvL.cons (EvA.name (.d (Qiq (wIn rows r)))) .nil') (Qbz (by lia))) (by rw [hwl2, hwl])) (EvA.bnd (EvA.call (bltn (.builtin "len") hT) (EvL.cons (EvA.listComp (Gf := [("path", .d (.str (Qaq r)))]) [("path", Lc + 2)] (fun d => under r (rowD d)) id ok (EvIt.list ok (EvA.plain (EvA.name (.pl (rows.map Qbb))))) (by rw [List.length_map]; lia) (Takes.cons _ .nil) (fun T2 C d hT2 hd => ?_) (fun T2 C d hT2 hd ζ => EvA.name (.d d))) .nil') (Qbz (by rw [QEz]; lia))) (by rw [QEz])) (QAc ok rfl rfl (by simp [PyData.depth]))) fun ζ => TeA.or0) ?_).f (fun e => nomatch e) (fun ζ s₄ F => Qaw (h _ F))
 ·refine eEA (List.mem_map.mp hd) fun k hk ρ1 => ?_
  subst ρ1
  have hTp2 := hT2.trans hT
  have ek : (0 : Int) + (k : Int) * 1 = (k : Int) := by lia
  rw [ek]
  refine EvA.binop (EvA.meth m_index (EvA.name (.pl (((nms rows).map Qaq).map .str))) ofT_list (EvL.cons (EvA.name (.d (.str (Qaq r)))) .nil') (op_index (j := Qdw rkN (nms rows) r) (n := m + 23) ok (by lia) (by lia) (QCj _ sP) (Qrb (Qfa r hra).2.2) (by simp [PyData.depth]) ?_ fun j hj => ?_)) (EvA.name (.d (.int (k : Int)))) Qhw
  ·rw [hgetS _ hpl, show (nms rows).getD (Qdw rkN (nms rows) r) [] = r by simp [List.getD, hpa], PyData.eqv]
   exact beq_self_eq_true _
  ·rw [hgetS _ (by lia), PyData.eqv, Qyv (hgq j (by lia)) hra]
   have e : (nms rows)[j]? = some ((nms rows).getD j []) := by simp [List.getD, List.getElem?_eq_getElem (show j < (nms rows).length by lia)]
   have := (Quk hrise e r).mpr hj
   exact beq_eq_false_iff_ne.mpr fun q => by rw [q] at this; lia
 ·rw [comp_ints _ (fun k => ((Qdw rkN (nms rows) r + k : Nat) : Int)) (wIn rows r).length fun k ζ => by show PyData.int (((Qdw rkN (nms rows) r : Nat) : Int) + (0 + (k : Int) * 1)) = _; congr 1; push_cast; lia]
  rw [hwl]
  rfl
 ·refine eEA (List.mem_map.mp hd) fun q hq ρ2 => ?_
  subst ρ2
  have hqa := rk.mem q hq
  have hTp2 := hT2.trans hT
  have hrl := QAa r hra
  have hn4 : r.length ∈ List.range 4 := List.mem_range.mpr (by lia)
  refine eA (row_take q hqa r.length hn4) fun t1 t2 => ?_
  refine TeL.one (TeA.cast (TeA.cmp (Qby (Qmz (q.take r.length) t1 (by rw [slash1]; lia)) hTp2 ok (glob (.ref 912) hTp2) (EvL.cons (EvA.cast (EvA.plain (EvA.sliceList (EvA.name (.d (.list (q.map .str)))) .none (.some (EvA.bnd (EvA.meth m_count (EvA.name (.d (.str (Qaq r)))) Qgj (EvL.cons EvA.str .nil') op_count) (path_count r hra))) (by rw [List.length_map]; have := Qnv hqa; lia))) (by rw [Qek, ← List.map_take])) .nil')) (EvA.name (.d (.str (Qaq r)))) Qcb) ?_)
  rw [Qbw]
  exact under_path hra hqa
 ·rw [selfI]
  show (!true || (!PyData.eqv (.int _) (.int _) || false)) = false
  rw [Qry, beq_self_eq_true]; rfl
end
section
variable {prog : Program} {w : World} {T : Hp} {A : Around} {E : Value → Shared → Prop} {s₀ s : Shared} {R : Flow → Shared → Prop} {ps : Array Value} {Lc : Addr} {pm : Value} {env : Env} {G : Gam} {O : Own}
theorem lay_rows : ∀ (rs:List (List Str)), (∀ r ∈ rs, r ∈ Qaj) → PyData.canLayAll0 (rs.map Qbb) = true := fun rs h => lay_all Qbb (fun r hr => (Qvk r hr).1) rs h
noncomputable abbrev gTurn3 (script:List Int)(rows:List (List Str))(r:List Str) : Gam := ("place", .d (.int (Qdw rkS (sgn rows) r))) :: ("compared", .d (Qiq (cmpD rows r))) :: ("within", .d (Qiq (wIn rows r))) :: gLoop script rows r
set_option maxHeartbeats 1000000 in
theorem turn3 {script:List Int}{rows:List (List Str)}{r:List Str}{W:Addr → Prop}{T':Hp}{sb:Shared}(F:Fx W T' sb (Qez Lc pm) (("within", .d (Qiq (wIn rows r))) :: gLoop script rows r) none s)(hT:T'.le Tp){m:Nat}(ok:OkA A (m + 24))(rk:RowsOk rows)(hr:r ∈ rows)
  (h : ∀ s', Fx W T' sb (Qez Lc pm) (gTurn3 script rows r) none s' → Go prog w A (Qez Lc pm) (turnB.drop 3) R s') : Go prog w A (Qez Lc pm) (turnB.drop 2) R s := by
 have hz := Qca
 have hhi := rk.hi
 have hlo := rk.lo
 have hra := rk.mem r hr
 refine eAAAA (QAb r hra) fun z1 z2 z3 z4 z5 => ?_
 have hsl : (sgn rows).length = rows.length := (Qjk rk).length_eq
 have hrise := QAv rk
 have hrS : r ∈ sgn rows := (Qjk rk).symm.subset hr
 have hpa := Qyy hrise hrS
 have hpl : Qdw rkS (sgn rows) r < (sgn rows).length := (List.getElem?_eq_some_iff.mp hpa).1
 have hget : ∀ j, j < (sgn rows).length → ((sgn rows).map Qbb).getD j .none = Qbb ((sgn rows).getD j []) := fun j hj => by
  simp [List.getD, List.getElem?_eq_getElem hj]
 have hll := Qnv hra
 refine st_pairW (O := none) (G := ("within", .d (Qiq (wIn rows r))) :: gLoop script rows r) (.d (.int (Qdw rkS (sgn rows) r))) (.d (Qiq (cmpD rows r))) ok (wpAny_mono (EvA.of (T := T') (a := .d (.int (Qdw rkS (sgn rows) r))) (EvA.meth m_index (EvA.name (.pl ((sgn rows).map Qbb))) ofT_list (EvL.cons (EvA.cast (EvA.plain (EvA.sliceList (EvA.meth QCq (EvA.name (.d (.str (Qaq r)))) Qgj (EvL.cons EvA.str .nil') (Qtz (by decide +kernel) (by lia) (by lia))) (.some EvA.int) .none (by rw [List.length_map]; lia))) ?_) .nil') (op_index (d := Qbb r) (j := Qdw rkS (sgn rows) r) (n := m + 23) ok (by rw [List.length_map]; lia) (by rw [List.length_map]; lia) (lay_rows _ (Qta rk)) (Qvk r hra).1 (Qvk r hra).2 ?_ fun j hj => ?_)) _ s F.t F.vw) (fun v1 s1 k1 => wpAny_mono (EvA.of (T := T') (a := .d (Qiq (cmpD rows r))) (EvA.cast (EvA.listComp (Gf := [("path", .d (.str (Qaq r)))]) [("path", Lc + 2)] (fun ζ => true) (fun d => .int (coll (Qaq r) (Qaq (rowD d)))) ok (EvIt.list ok (EvA.plain (EvA.name (.pl ((sgn rows).map Qbb))))) (by rw [List.length_map]; lia) (Takes.cons _ .nil) (fun T2 C d hT2 hd => TeL.nil) (fun T2 C d hT2 hd ζ => ?_)) ?_) _ s1 (F.kept k1.2).t (F.kept k1.2).vw) (fun v2 s2 k2 => ⟨W, T', sb, (F.kept k1.2).kept k2.2, k1.1.kp k2.2.kp.kpx, k2.1, fun s3 F3 => h s3 F3⟩) fun ζ ζ x => x) fun ζ ζ x => x)
 ·rw [QEv r hra]
  have := Qnj ((Str.ofString "" :: r).map PyData.str) 1
  show Dv.d (.list (Qmw ((Str.ofString "" :: r).map PyData.str) (some ((1 : Nat) : Int)) none)) = Dv.d (Qbb r)
  rw [this]; rfl
 ·rw [hget _ hpl, show (sgn rows).getD (Qdw rkS (sgn rows) r) [] = r by simp [List.getD, hpa], Qkj]
  exact beq_self_eq_true _
 ·rw [hget _ (by lia), Qkj]
  have e : (sgn rows)[j]? = some ((sgn rows).getD j []) := by simp [List.getD, List.getElem?_eq_getElem (show j < (sgn rows).length by lia)]
  have := (Quk hrise e r).mpr hj
  exact beq_eq_false_iff_ne.mpr fun q => by rw [q] at this; lia
 ·refine eEA (List.mem_map.mp hd) fun q hq ρ0 => ?_
  subst ρ0
  have hqa := Qta rk q hq
  have hTp2 := hT2.trans hT
  refine eA (Quv q hqa) fun j1 j2 => ?_
  rw [Qbw]
  exact Qby (ct_strcoll (Qaq r) (Qaq q)) hTp2 ok (glob (.ref 51) hTp2) (EvL.cons (EvA.name (.d (.str (Qaq r)))) (EvL.cons (Qby (Qmz q j1 (by lia)) hTp2 ok (glob (.ref 912) hTp2) (EvL.cons (EvA.name (.d (Qbb q))) .nil')) .nil'))
 ·rw [List.filter_eq_self.mpr fun ζ ζ => rfl, List.map_map]
  unfold cmpD Qiq
  rw [List.map_map]
  congr 2
  exact List.map_congr_left fun q ζ => by show PyData.int (coll (Qaq r) (Qaq (rowD (Qbb q)))) = PyData.int (coll (Qaq r) (Qaq q)); rw [Qbw]
theorem turn4 {script:List Int}{rows:List (List Str)}{r:List Str}{W:Addr → Prop}{T':Hp}{sb:Shared}(F:Fx W T' sb (Qez Lc pm) (gTurn3 script rows r) none s)(hT:T'.le Tp){m:Nat}(ok:OkA A (m + 24))(rk:RowsOk rows)(hr:r ∈ rows)
  (h : ∀ s', Fx W T' sb (Qez Lc pm) (QGc script rows) none s' → R .next s') : Go prog w A (Qez Lc pm) (turnB.drop 3) R s := by
 have hz := Qca
 have hhi := rk.hi
 have hra := rk.mem r hr
 have hsl : (sgn rows).length = rows.length := (Qjk rk).length_eq
 have hrise := QAv rk
 have hrS : r ∈ sgn rows := (Qjk rk).symm.subset hr
 have hpl : Qdw rkS (sgn rows) r < (sgn rows).length := (List.getElem?_eq_some_iff.mp (Qyy hrise hrS)).1
 have hcl : ((cmpD rows r).map PyData.int).length = (sgn rows).length := by rw [List.length_map, cmpD, List.length_map]
 have hml : ((sgn rows).map Qbb).length = (sgn rows).length := List.length_map _
 have e1 : ((List.replicate (Qdw rkS (sgn rows) r) (PyData.int 1) ++ [PyData.int 0]) ++ List.replicate ((sgn rows).length - 1 - Qdw rkS (sgn rows) r) (PyData.int (-1))) = (cmpD rows r).map .int := by
  unfold cmpD
  rw [compared_eq rk hr]; simp
 have e2 : (((((sgn rows).map Qbb).length : Nat) : Int) - 1 - ((Qdw rkS (sgn rows) r : Nat) : Int)).toNat = (sgn rows).length - 1 - Qdw rkS (sgn rows) r := by rw [hml, Int.sub_sub]; exact (Int.toNat_sub _ (1 + _)).trans (Nat.sub_sub _ 1 _).symm
 have selfI : ∀ xs : List Int, PyData.eqv (Qiq xs) (Qiq xs) = true := fun xs => by rw [QCb]; exact beq_self_eq_true _
 refine Qiy false F (TeA.cast (TeA.or (TeA.cmp (a2 := .d (Qiq (cmpD rows r))) (EvA.name (.d (Qiq (cmpD rows r)))) (EvA.cast (EvA.plain (EvA.binop (EvA.plain (EvA.binop (EvA.plain (EvA.mulOne (n := ((Qdw rkS (sgn rows) r : Nat) : Int)) EvA.int (EvA.name (.d (.int (Qdw rkS (sgn rows) r)))) (by lia) (by lia))) (EvA.plain (EvA.list (ds := [.int 0]) (EvL.cons EvA.int .nil'))) (Qib ?_))) (EvA.plain (EvA.mulOne (EvA.neg EvA.int) (EvA.binop (EvA.binop (EvA.call (bltn (.builtin "len") hT) (EvL.cons (EvA.plain (EvA.name (.pl ((sgn rows).map Qbb)))) .nil') (Qbz (by lia))) EvA.int Qub) (EvA.name (.d (.int (Qdw rkS (sgn rows) r)))) Qub) (by lia) (by lia))) (Qib ?_))) ?_) (QAc ok (Qij _) (Qij _) (Qmq _)))
  fun ζ => TeA.or (TeA.cmp (a1 := .d (Qiq [])) (a2 := .d (Qiq [])) (EvA.cast (EvA.listComp (Gf := []) [] (fun ζ => false) id ok (EvIt.list ok (EvA.name (.d (Qiq (cmpD rows r))))) (by lia) .nil (fun T2 C d hT2 hd => ?_) (fun T2 C d hT2 hd e => nomatch e)) ?_) (EvA.plain (EvA.list (ds := []) .nil')) (QAc ok (Qij _) (Qij _) (Qmq _))) fun ζ => TeA.or0) ?_).f (fun e => nomatch e) (fun ζ s₄ F => Qaw (Qaw (h _ (F.pick (.cons (.cons (.cons (.cons (.cons (.cons .nil))))))))))
 ·rw [Int.toNat_natCast]; simp; lia
 ·rw [Int.toNat_natCast, e2]; simp; lia
 ·rw [Int.toNat_natCast, e2, e1]; rfl
 ·refine eEA (List.mem_map.mp hd) fun i hi ρ1 => ?_
  subst ρ1
  have hTp2 := hT2.trans hT
  exact TeL.one (TeA.cmp (EvA.call (bltn (.type "type") hTp2) (EvL.cons (EvA.name (.d (.int i))) .nil') Qzy) (bltn (.type "int") hTp2) (Qoa rfl))
 ·rw [List.filter_eq_nil_iff.mpr fun ζ ζ => by decide]; rfl
 ·rw [selfI, selfI]; rfl
theorem law_loop {script:List Int}{rows:List (List Str)}(L:LawAt T s₀ (Qez Lc pm) ps (QGc script rows) none s)(hT:T.le TW){m:Nat}(ok:OkA A (m + 24))(rk:RowsOk rows)
  (h : ∀ s', LawAt T s₀ (Qez Lc pm) ps (QGc script rows) none s' → Go prog w A (Qez Lc pm) (Qsw 11) R s') : Go prog w A (Qez Lc pm) (Qsw 10) R s := by
 have hTp := hT.trans TWp
 refine QEk L.f (EvIt.list ok (EvA.name (.d (Qbb (rows.map Qaq))))) (fun i G' O' => G' = QGc script rows ∧ O' = none) ⟨rfl, rfl⟩ (fun i G' O' h L' ds e => by rw [h.2] at e; cases e) ?_ ?_
 ·intro T₃ W₁ sb i d G' O' sc hT₃ hW hd κ0 F
  refine eA (κ0) fun ρ0 ρ1 => ?_
  subst ρ0
  subst ρ1
  rw [List.getElem?_map] at hd
  refine eEA (Option.map_eq_some_iff.mp hd) fun p hp ρ2 => ?_
  subst ρ2
  rw [List.getElem?_map] at hp
  refine eEA (Option.map_eq_some_iff.mp hp) fun r hr ρ3 => ?_
  subst ρ3
  have hr := List.mem_of_getElem? hr
  have hTp3 := hT₃.trans hTp
  exact turn1 F hTp3 ok rk hr fun s1 F => turn2 F hTp3 ok rk hr fun s2 F => turn3 F hTp3 ok rk hr fun s3 F => turn4 F hTp3 ok rk hr fun s4 F => ⟨_, _, ⟨rfl, rfl⟩, (fun ζ ζ e => nomatch e), F⟩
 ·intro G' O' sb κ1 F
  refine eA (κ1) fun ρ2 ρ3 => ?_
  subst ρ2
  subst ρ3
  exact h sb (L.step F L.x)
end
theorem QDa (elt t1 i1 t2 i2:Expr)(scope:Scope)(pos:Pos)(it acc:Value)(env:Env) :
  compTurn (.ListComp elt [⟨t1, i1, [], 0⟩, ⟨t2, i2, [], 0⟩] scope pos) 0 it acc env = (do
   standAt i1.pos
   match ← pyNext it with
   | none => pure (.done .next)
   | some v =>
    letOwnedTupleGo t1 it v
    assign t1 env v
    let mut ok := true
    for c in ([] : List Expr) do
     if ok then ok ← isTrue c env (eval c env)
    if ok then
     let x ← eval i2 env
     standAt i2.pos
     let x ← foldedSetIterable i2 env x
     let _ ← runOwn (.compStart (.ListComp elt [⟨t1, i1, [], 0⟩, ⟨t2, i2, [], 0⟩] scope pos) 1 (← holding [x] (pyIter x)) acc env) env
    again (.compLoop (.ListComp elt [⟨t1, i1, [], 0⟩, ⟨t2, i2, [], 0⟩] scope pos) 0 it acc env)) := by rfl
theorem QDw (elt t1 i1 t2 i2:Expr)(scope:Scope)(pos:Pos)(it acc:Value)(env:Env) :
  compTurn (.ListComp elt [⟨t1, i1, [], 0⟩, ⟨t2, i2, [], 0⟩] scope pos) 1 it acc env = (do
   standAt i2.pos
   match ← pyNext it with
   | none => pure (.done .next)
   | some v =>
    letOwnedTupleGo t2 it v
    assign t2 env v
    let mut ok := true
    for c in ([] : List Expr) do
     if ok then ok ← isTrue c env (eval c env)
    if ok then
     (do let _ ← call (.builtin "list.append") [acc, ← eval elt env])
    again (.compLoop (.ListComp elt [⟨t1, i1, [], 0⟩, ⟨t2, i2, [], 0⟩] scope pos) 1 it acc env)) := by rfl
section
variable {prog : Program} {w : World} {A : Around} {E : Value → Shared → Prop} {R : Result → Shared → Prop} {s : Shared}
theorem Qxb {elt t1 i1 t2 i2:Expr}{scope:Scope}{pos:Pos}{it acc:Value}{env:Env}
  (h0 : codeAny (model prog w) A (.compLoop (.ListComp elt [⟨t1, i1, [], 0⟩, ⟨t2, i2, [], 0⟩] scope pos) 1 it acc env) R s)
  (h : wpAny (model prog w) A (pyIter it) (fun it' s' => codeAny (model prog w) A (.compLoop (.ListComp elt [⟨t1, i1, [], 0⟩, ⟨t2, i2, [], 0⟩] scope pos) 1 it' acc env) R s')
   (notedBy (model prog w) A env fun x s' => R (.error x) s') s) :
  codeAny (model prog w) A (.compStart (.ListComp elt [⟨t1, i1, [], 0⟩, ⟨t2, i2, [], 0⟩] scope pos) 1 it acc env) R s := by
 refine codeAny_of_tree ?_
 show wpAny _ _ ((compStart (.ListComp elt [⟨t1, i1, [], 0⟩, ⟨t2, i2, [], 0⟩] scope pos) 1 it acc env).onRaise (fun x => do noteFrame x env; standAt theWindowsPlace)) _ _ s
 refine wpAny_notedAt ?_
 unfold compStart
 show wpAny _ _ (ask >>= _) _ _ s
 refine wpAny_bind (wpAny_askSetting (wpAny_ite ?_))
 split
 ·first
   | exact wpAny_bind (wpAny_pure (wpAny_pure (And.intro rfl h0)))
   | exact wpAny_pure (And.intro rfl h0)
 ·first
   | exact wpAny_bind (wpAny_rule (wpAny_bind (wpAny_standAt (wpAny_bind (wpAny_mono h (fun it' s' h' => wpAny_pure (And.intro rfl h')) fun ζ ζ x => x)))))
   | (refine wpAny_bind (wpAny_rule ?_); show wpAny _ _ (standAt i2.pos >>= _) _ _ s; exact wpAny_bind (wpAny_standAt (wpAny_bind (wpAny_mono h (fun it' s' h' => wpAny_pure (And.intro rfl h')) fun ζ ζ x => x))))
theorem loop_two0 {elt t1 i1 t2 i2:Expr}{scope:Scope}{pos:Pos}{it acc:Value}{env:Env}(I:Nat → Shared → Prop)
  (turn : ∀ n s, I n s → wpAny (model prog w) A (pyNext it) (fun r s₁ => match r with
   | none => R (.ok .next) s₁
   | some v => wpAny (model prog w) A (assign t1 env v) (fun ζ s₂ =>
     wpAny (model prog w) A (eval i2 env) (fun xv s₃ => wpAny (model prog w) A (pyIter xv) (fun it' s₄ =>
      codeAny (model prog w) A (.compStart (.ListComp elt [⟨t1, i1, [], 0⟩, ⟨t2, i2, [], 0⟩] scope pos) 1 it' acc env) (fun r s₅ => match r with | .ok _ => ∃ m, m < n ∧ I m s₅ | .error e => False) s₄)
      (notedBy (model prog w) A env fun e s' => R (.error e) s') s₃) (notedBy (model prog w) A env fun e s' => R (.error e) s') s₂) (notedBy (model prog w) A env fun e s' => R (.error e) s') s₁) (notedBy (model prog w) A env fun e s' => R (.error e) s') s)
  (n : Nat) (h : I n s) (ht : autoParam (∀ v, letOwnedTupleGo t1 it v = pure ()) sR) (hs : ∀ x, foldedSetIterable i2 env x = pure x) :
  codeAny (model prog w) A (.compLoop (.ListComp elt [⟨t1, i1, [], 0⟩, ⟨t2, i2, [], 0⟩] scope pos) 0 it acc env) R s := by
 refine codeAny_loop rfl I (fun n s hI => ?_) n h
 show wpAny _ A ((compTurn (.ListComp elt [⟨t1, i1, [], 0⟩, ⟨t2, i2, [], 0⟩] scope pos) 0 it acc env).onRaise (fun x => do noteFrame x env; theTreesLotGoes x)) _ _ s
 refine wpAny_noted ?_
 rw [QDa]
 refine wpAny_bind (wpAny_standAt (wpAny_bind (wpAny_mono (turn n s hI) (fun r s₁ h₁ => ?_) fun ζ ζ h' => h')))
 cases r with
 | none => exact wpAny_pure h₁
 | some v =>
  refine wpAny_bind (wpAny_of_eq (ht v) ?_)
  refine wpAny_bind (wpAny_mono h₁ (fun ζ s₂ h₂ => wpAny_bind (wpAny_mono (wpAny_tests_nil (Q := fun ok s₃ => ok = true ∧ s₃ = s₂) ⟨rfl, rfl⟩) (fun ok s₃ h₃ => ?_) fun ζ ζ h' => h')) fun ζ ζ h' => h')
  refine eA (h₃) fun ρ0 ρ1 => ?_
  subst ρ0
  subst ρ1
  refine wpAny_bind (wpAny_mono h₂ (fun xv s₃ h₃ => ?_) fun ζ ζ h' => h')
  refine wpAny_bind (wpAny_standAt (wpAny_bind (wpAny_of_eq (hs xv) ?_)))
  refine wpAny_bind (wpAny_holding (wpAny_mono h₃ (fun it' s₄ h₄ => ?_) fun ζ ζ h' => h'))
  refine wpAny_bind (wpAny_runOwn (codeAny_mono h₄ fun r s₅ h₅ => ?_))
  cases r with
  | ok f => exact wpAny_pure ⟨rfl, h₅⟩
  | error e => exact h₅.elim
theorem loop_two1 {elt t1 i1 t2 i2:Expr}{scope:Scope}{pos:Pos}{it acc:Value}{env:Env}(I:Nat → Shared → Prop)
  (turn : ∀ n s, I n s → wpAny (model prog w) A (pyNext it) (fun r s₁ => match r with
   | none => R (.ok .next) s₁
   | some v => wpAny (model prog w) A (assign t2 env v) (fun ζ s₂ =>
     wpAny (model prog w) A (eval elt env) (fun x s₄ =>
       wpAny (model prog w) A (call (.builtin "list.append") [acc, x]) (fun ζ s₅ => ∃ m, m < n ∧ I m s₅) (notedBy (model prog w) A env fun e s' => R (.error e) s') s₄) (notedBy (model prog w) A env fun e s' => R (.error e) s') s₂)
     (notedBy (model prog w) A env fun e s' => R (.error e) s') s₁) (notedBy (model prog w) A env fun e s' => R (.error e) s') s)
  (n : Nat) (h : I n s) (ht : autoParam (∀ v, letOwnedTupleGo t2 it v = pure ()) sR) :
  codeAny (model prog w) A (.compLoop (.ListComp elt [⟨t1, i1, [], 0⟩, ⟨t2, i2, [], 0⟩] scope pos) 1 it acc env) R s := by
 refine codeAny_loop rfl I (fun n s hI => ?_) n h
 show wpAny _ A ((compTurn (.ListComp elt [⟨t1, i1, [], 0⟩, ⟨t2, i2, [], 0⟩] scope pos) 1 it acc env).onRaise (fun x => do noteFrame x env; theTreesLotGoes x)) _ _ s
 refine wpAny_noted ?_
 rw [QDw]
 refine wpAny_bind (wpAny_standAt (wpAny_bind (wpAny_mono (turn n s hI) (fun r s₁ h₁ => ?_) fun ζ ζ h' => h')))
 cases r with
 | none => exact wpAny_pure h₁
 | some v =>
  refine wpAny_bind (wpAny_of_eq (ht v) ?_)
  refine wpAny_bind (wpAny_mono h₁ (fun ζ s₂ h₂ => wpAny_bind (wpAny_mono (wpAny_tests_nil (Q := fun ok s₃ => ok = true ∧ s₃ = s₂) ⟨rfl, rfl⟩) (fun ok s₃ h₃ => ?_) fun ζ ζ h' => h')) fun ζ ζ h' => h')
  refine eA (h₃) fun ρ2 ρ3 => ?_
  subst ρ2
  subst ρ3
  exact wpAny_bind (wpAny_bind (wpAny_mono h₂ (fun x s₄ h₄ => wpAny_bind (wpAny_mono h₄ (fun ζ s₅ h₅ => wpAny_pure (wpAny_pure ⟨rfl, h₅⟩)) fun ζ ζ h' => h')) fun ζ ζ h' => h'))
noncomputable def StrsAt (xs:List Str)(vs:List Value) : Prop := ∃ l : List (Str × Tok), vs = strValues l ∧ l.map (·.1) = xs
theorem StrsAt.snoc {xs:List Str}{vs:List Value}{x:Str}{t:Tok}(h:StrsAt xs vs) : StrsAt (xs ++ [x]) (vs ++ [.str x t]) := by
 refine eEA (h) fun l ρ4 ρ5 => ?_
 subst ρ4
 subst ρ5
 exact ⟨l ++ [(x, t)], by simp [strValues], by simp⟩
theorem StrsAt.len {xs:List Str}{vs:List Value}(h:StrsAt xs vs) : vs.length = xs.length := by
 refine eEA (h) fun l ρ6 ρ7 => ?_
 subst ρ6
 subst ρ7
 simp [strValues]
theorem StrsAt.rd {X:Addr → Prop}{h:Heap}{xs:List Str}{vs:List Value}(q:StrsAt xs vs) : RdAll X h (xs.map .str) vs := by
 refine eEA (q) fun l ρ8 ρ9 => ?_
 subst ρ8
 subst ρ9
 exact Qiw l
theorem inner_two {t1 i1 i2:Expr}{x2:Str}{px2 pe pos:Pos}{scope0:Scope}{cenv:Env}{D C I2:Addr}{fp wr:List Addr}{xs ys0:List Str}{P:Nat → Value → Prop}{St:Nat → Heap → Prop}(W2:Walks prog w A I2 fp wr xs.length P St)(hP:∀ i v x, P i v → xs[i]? = some x → ∃ t, v = .str x t)
  (hCf : C ∉ fp) (hDf : D ∉ fp) (hDC : D ≠ C) (hl : cenv.locals = C) (hk : cenv.scope.kind = .function) (hx : cenv.kindOf x2 = some .local) (hd : (x2 == ("__debug__" : Str)) = false) (hsz : ys0.length + xs.length ≤ sizeLine)
  {H0 : Heap} {tk0 : Nat} {vs0 : Array Value} {m0 : Str → Option Value} (st : St 0 H0) (acc : H0.PlainList D vs0) (hy : StrsAt ys0 vs0.toList) (ns : H0.Ns C m0)
  (hR : ∀ H tk m' vs, H.PlainList D vs → StrsAt (ys0 ++ xs) vs.toList → H.Ns C m' → (∀ b o, b ∉ wr → b ≠ D → b ≠ C → H0.get? b = some o → H.get? b = some o) → R (.ok .next) { s with heap := H, toks := tk }) :
  codeAny (model prog w) A (.compLoop (.ListComp (.Name x2 pe) [⟨t1, i1, [], 0⟩, ⟨.Name x2 px2, i2, [], 0⟩] scope0 pos) 1 (.ref I2) (.ref D) cenv) R { s with heap := H0, toks := tk0 } := by
 subst hl
 have hCw : cenv.locals ∉ wr := fun h => hCf (W2.sub _ h)
 have hDw : D ∉ wr := fun h => hDf (W2.sub _ h)
 refine loop_two1 (fun k s' => ∃ i H tk m' vs, s' = { s with heap := H, toks := tk } ∧ i ≤ xs.length ∧ k = xs.length + 1 - i ∧ St i H ∧ H.PlainList D vs ∧ StrsAt (ys0 ++ xs.take i) vs.toList ∧ H.Ns cenv.locals m' ∧ (∀ b o, b ∉ wr → b ≠ D → b ≠ cenv.locals → H0.get? b = some o → H.get? b = some o)) ?_ (xs.length + 1)
  ⟨0, H0, tk0, m0, vs0, rfl, Nat.zero_le _, rfl, st, acc, by simpa using hy, ns, fun ζ ζ ζ ζ ζ e => e⟩ (fun ζ => rfl)
 intro k s' κ0
 refine QDz (κ0) fun i H tk m' vs e5 hi e7 hSt hacc hys hn hkp => ?_
 subst e5
 subst e7
 by_cases hlt : i < xs.length
 ·refine W2.item i _ _ _ hlt hSt fun v h1 tk1 hPv hst1 hk1 => ?_
  have hxi : xs[i]? = some xs[i] := List.getElem?_eq_getElem hlt
  refine eE (hP i v _ hPv hxi) fun t ρ10 => ?_
  subst ρ10
  refine wpAny_assign_Name (wpAny_storeName_local hx (hn.at' fun o e => hk1 _ o hCw e) (fun h2 hn2 hs2 => ?_) (by rw [hk]; rfl))
  refine wpAny_Name (wpAny_loadName_local hk hx hn2 (by simp; rfl) ?_) hd
  have hacc2 : h2.PlainList D vs := hacc.at fun o e => (hs2.2 _ hDC).trans (hk1 _ o hDw e)
  have hst2 : St (i + 1) h2 := W2.frame _ _ _ hst1 fun b hb o e => (hs2.2 b (fun h => hCf (h ▸ hb))).trans e
  have hvl : vs.size ≤ sizeLine := by
   have e1 := hys.len
   have e2 : vs.toList.length = vs.size := by simp
   rw [List.length_append, List.length_take] at e1
   lia
  refine wpAny_list_append_plain (hsz := hvl) hacc2 fun h5 hl5 hs5 => ?_
  refine ⟨xs.length + 1 - (i + 1), Qjj hlt, i + 1, h5, _, _, vs.push (.str xs[i] t), rfl, hlt, rfl, W2.frame _ _ _ hst2 fun b hb o e => (hs5.2 b (fun h => hDf (h ▸ hb))).trans e, hl5, ?_, hn2.sameBut hs5 (Ne.symm hDC), fun b o hb hbD hbC e => (hs5.2 b hbD).trans ((hs2.2 b hbC).trans (hk1 b o hb (hkp b o hb hbD hbC e)))⟩
  rw [List.take_succ_eq_append_getElem hlt, ← List.append_assoc, Array.toList_push]
  exact hys.snoc
 ·have hin : i = xs.length := by lia
  subst hin
  refine W2.done _ _ _ hSt fun h1 tk1 hk1 => ?_
  refine hR h1 tk1 m' vs (hacc.at fun o e => hk1 _ o hDw e) (by simpa using hys) (hn.at' fun o e => hk1 _ o hCw e) fun b o hb hbD hbC e => hk1 b o hb (hkp b o hb hbD hbC e)
end
section
variable {prog : Program} {w : World} {T : Hp} {A : Around} {env : Env} {G : Gam}
theorem Qma {α β:Type}(f:α → List β)(l:List α)(i:Nat)(v:α)(h:l[i]? = some v) : (l.take (i + 1)).flatMap f = (l.take i).flatMap f ++ f v := by
 rw [List.take_add_one, h, List.flatMap_append]
 simp
theorem comp2_core {use:Option (Value → Sem Unit)}{Q:Value → Shared → Prop}{E:Value → Shared → Prop}{s:Shared}{iter iter2:Expr}{x x2:Str}{px px2 pe:Pos}{scope:Scope}{pos:Pos}{xs:List PyData}{Gf:Gam}{n:Nat}(cl:List (Str × Addr))(f:PyData → List Str)(ok:OkA A n)
  (hit : EvIt prog w T A env G iter xs) (hsz : (xs.flatMap f).length ≤ sizeLine) (hG : Takes env scope cl G Gf)
  (he : ∀ T' C d, T'.le T → d ∈ xs → EvIt prog w T' A (compEnvC scope cl C env) ((x, .d d) :: Gf) iter2 ((f d).map .str))
  (hclos : closureFor scope env = pure cl) (hcell : ∀ y ∈ scope.names, y.2 ≠ .cell) (hkind : scope.kind = .function)
  (hnames : ∀ y ∈ scope.names, y.2 = .local → scope.names.lookup y.1 = some .local) (hx : scope.names.lookup x = some .local) (hx2 : scope.names.lookup x2 = some .local) (hd2 : (x2 == ("__debug__" : Str)) = false)
  (hs : ∀ x, foldedSetIterable iter env x = pure x) (hs2 : ∀ C x, foldedSetIterable iter2 (compEnvC scope cl C env) x = pure x)
  (hp : T.p s.heap) (hv : Vw T.X env G s.heap)
  (hfin : ∀ (D C : Addr) (h' : Heap) (tk : Nat) (m' : Str → Option Value) (ys : Array Value), ¬ Qaa s.heap D → ¬ Qaa s.heap C → D ≠ C → h'.Ns C m' → h'.PlainList D ys → RdAll (fun b => T.X b ∨ b = D ∨ b = C) h' ((xs.flatMap f).map .str) ys.toList → Kp s.heap h' →
   compPost (model prog w) A E use Q (.ref D) C (.ok .next) { s with heap := h', toks := tk }) :
  wpAny (model prog w) A (comprehension (.ListComp (.Name x2 pe) [⟨.Name x px, iter, [], 0⟩, ⟨.Name x2 px2, iter2, [], 0⟩] scope pos) scope env (firstIterPos [⟨.Name x px, iter, [], 0⟩, ⟨.Name x2 px2, iter2, [], 0⟩] pos) (newList []) (firstAsync [⟨.Name x px, iter, [], 0⟩, ⟨.Name x2 px2, iter2, [], 0⟩]) (firstIter [⟨.Name x px, iter, [], 0⟩, ⟨.Name x2 px2, iter2, [], 0⟩] env) use) Q E s := by
 refine wpAny_comprehension_free (use := use) rfl hs hclos hkind hnames (wpAny_mono (hit.of E s hp hv) (fun xv s₁ h₁ => wpAny_mono h₁ (fun it s₂ h₂ => ?_) fun ζ ζ e => e) fun ζ ζ e => e)
 refine Qpy (h₂) fun ks I fp wr P St h₁ K => ?_
 obtain ⟨rfl, W, hst, hlv, hfr, hfx, k₁, k₂, hrd⟩ := K
 refine wpAny_newObj_type (wpAny_newFunctionEnv hcell (by intro y hy; simp at hy) (fun H₁ hns₁ hsb₁ => ?_) hkind)
 dsimp only at hns₁ hsb₁ ⊢
 generalize hH2 : s₂.heap.push { cls := .type "list", dict := none, data := .seq ([] : List Value).toArray } = H2 at hns₁ hsb₁ ⊢
 generalize hD : s₂.heap.objs.size = D at *
 generalize hC : H2.objs.size = C at *
 have hCD : C = D + 1 := by rw [← hC, ← hH2, Heap.size_push, hD]
 have hDC : D ≠ C := by lia
 have hDn : ¬ Qaa s₂.heap D := Qax (Nat.le_of_eq hD)
 have hCn : ¬ Qaa s₂.heap C := Qax (by lia)
 have hDf : D ∉ fp := fun hm => hDn (hlv _ _ hst D hm)
 have hCf : C ∉ fp := fun hm => hCn (hlv _ _ hst C hm)
 have hCw : C ∉ wr := fun h => hCf (W.sub _ h)
 have hDw : D ∉ wr := fun h => hDf (W.sub _ h)
 have old : Kp s₂.heap H₁ := fun b o e => hsb₁.extBut b o (fun q => hCn (q ▸ ⟨o, e⟩)) (Heap.get?_push_of_some _ (hH2 ▸ Heap.get?_push_of_some _ e))
 have hacc : H₁.PlainList D #[] := ⟨_, hsb₁.extBut _ _ hDC (Heap.get?_push_of_some _ (hH2 ▸ hD ▸ Heap.get?_push_size _ rfl))⟩
 have hst₁ : St 0 H₁ := W.frame _ _ _ hst fun b ζ o e => old b o e
 let Y : Addr → Prop := fun b => b ∈ wr ∨ b = D ∨ b = C
 have hYn : ∀ b, Y b → ¬ Qaa h₁ b := fun b hb => by
  rcases hb with hb | rfl | rfl
  ·exact hfr b hb
  ·exact fun ⟨o, e⟩ => hDn ⟨o, k₂ _ _ e⟩
  ·exact fun ⟨o, e⟩ => hCn ⟨o, k₂ _ _ e⟩
 have hTle := Hp.push_le T Y
 have hp₁ : T.p h₁ := T.mono _ _ k₁.kpx hp
 let cenv : Env := compEnvC scope cl C env
 have hcl : cenv.locals = C := rfl
 have vw : ∀ H m' i v d, Kp h₁ H → H.Ns C m' → m' x = some v → P i v → xs[i]? = some d → Vw (T.push Y).X cenv ((x, .d d) :: Gf) H := by
  intro H m' i v d kH hn hmx hPv hd y a e
  by_cases hy : y = x
  ·subst hy
   rw [Qak] at e; cases e
   exact ⟨v, .inl ⟨lookup_relabel_local hx, m', hn, hmx⟩, (hrd i v d hPv hd).to kH.kpx fun b hb => hb.imp_right (hYn b)⟩
  ·rw [Qaz hy] at e
   refine Qwb (hG.of y a e) fun q1 q2 q3 q4 => ?_
   refine eEA (hv y a q1) fun u hu ha => ?_
   rcases hu with ⟨hl, _⟩ | ⟨_, c, hc, hi⟩
   ·rw [q2] at hl; cases hl
   ·exact ⟨u, .inr ⟨q3, c, q4.trans hc, hi.keeps (k₁.trans kH)⟩, ha.to (k₁.trans kH).kpx fun b hb => hb.imp_right fun z l => hYn b z (let ⟨o, e⟩ := l; ⟨o, k₁ b o e⟩)⟩
 have loop : ∀ (RR : Result → Shared → Prop) tk₀, (∀ h' tk m' ys, h'.Ns C m' → h'.PlainList D ys → StrsAt (xs.flatMap f) ys.toList → Kp h₁ h' → RR (.ok .next) { s₂ with heap := h', toks := tk }) →
   codeAny (model prog w) A (.compLoop (.ListComp (.Name x2 pe) [⟨.Name x px, iter, [], 0⟩, ⟨.Name x2 px2, iter2, [], 0⟩] scope pos) 0 (.ref I) (.ref D) cenv) RR { s₂ with heap := H₁, toks := tk₀ } := by
  intro RR tk₀ hRR
  refine loop_two0
   (fun k s' => ∃ i H tk m' ys, s' = { s₂ with heap := H, toks := tk } ∧ i ≤ xs.length ∧ k = xs.length + 1 - i ∧ St i H ∧ H.PlainList D ys ∧ H.Ns C m' ∧ StrsAt ((xs.take i).flatMap f) ys.toList ∧ (T.push Y).p H ∧ Kp h₁ H) ?_ (xs.length + 1)
   ⟨0, H₁, tk₀, _, #[], rfl, Nat.zero_le _, rfl, hst₁, hacc, hns₁, ⟨[], rfl, rfl⟩, Hp.push_p hp₁ hYn (k₂.trans old).kpx ?_, k₂.trans old⟩ (fun v => rfl) (hs2 C)
  ·intro k s' κ1
   refine Qmc κ1 fun i H tk m' ys e1 hi e2 hSt hacc' hn' hys hpT hkp => ?_
   subst e1
   subst e2
   have step : ∀ {H H' : Heap}, KpX (T.push Y).X H H' → (T.push Y).p H → (T.push Y).p H' := fun k q => (T.push Y).mono _ _ k q
   by_cases hlt : i < xs.length
   ·have hd : xs[i]? = some xs[i] := List.getElem?_eq_getElem hlt
    have hdm : xs[i] ∈ xs := List.getElem_mem hlt
    refine W.item i _ _ _ hlt hSt fun v h1 tk1 hPv hst1 hk1 => ?_
    have l1 : KpX (T.push Y).X H h1 := ⟨fun b o hb e => hk1 b o (fun hw => hb (.inr (.inl hw))) e, fun b l => by
     by_cases hb : b ∈ wr
     ·exact hlv _ _ hst1 b (W.sub b hb)
     ·exact let ⟨o, e⟩ := l; ⟨o, hk1 b o hb e⟩⟩
    have kp1 : Kp h₁ h1 := fun b o e => hk1 b o (fun hw => hfr b hw ⟨o, e⟩) (hkp b o e)
    refine wpAny_assign_Name (wpAny_storeName_local (lookup_relabel_local hx) (hn'.at' fun o e => hk1 _ o hCw e) (fun h2 hn2 hs2' => ?_) (stq hkind))
    have hn2' : h2.Ns C (fun y => if y = x then some v else m' y) := hn2
    have hs2 : Heap.SameBut C h1 h2 := hs2'
    have l2 : KpX (T.push Y).X h1 h2 := KpX.sameBut (.inr (.inr (.inr rfl))) (Ns.live hn2') hs2
    have kp2 : Kp h₁ h2 := fun b o e => (hs2.2 b (fun q => hCn (q ▸ let e' := k₂ _ _ e; ⟨o, e'⟩))).trans (kp1 b o e)
    have hst2 : St (i + 1) h2 := W.frame _ _ _ hst1 fun b hb o e => (hs2.2 b (fun h => hCf (h ▸ hb))).trans e
    have hacc2 : h2.PlainList D ys := hacc'.at fun o e => (hs2.2 _ hDC).trans (hk1 _ o hDw e)
    have pT2 := step (l1.trans l2) hpT
    have vw2 := vw h2 _ i v xs[i] kp2 hn2' (by simp) hPv hd
    refine wpAny_mono ((he (T.push Y) C xs[i] hTle hdm).of _ { s₂ with heap := h2, toks := _ } pT2 vw2) (fun xv s3 q3 => wpAny_mono q3 (fun it2 s4 q4 => ?_) fun ζ ζ e => e) fun ζ ζ e => e
    refine Qpy (q4) fun k4 I2 fp2 wr2 P2 St2 h₁2 K2 => ?_
    obtain ⟨rfl, W2, hst4, hlv2, hfr2, hfx2, k₁2, k₂2, hrd2⟩ := K2
    rw [List.length_map] at W2
    refine Qfw (k4.of) fun h4 tk4 ρ11 hk4 => ?_
    subst ρ11
    have kp4 : Kp h2 h4 := hk4
    have hDl : Qaa h₁2 D := let ⟨o, e⟩ := (let ⟨n, e⟩ := hacc2; (⟨_, e⟩ : Qaa h2 D)); ⟨o, k₁2 _ _ e⟩
    have hCl : Qaa h₁2 C := let ⟨o, e⟩ := Ns.live hn2'; ⟨o, k₁2 _ _ e⟩
    have hDf2 : D ∉ fp2 := fun h => (hfx2 D h).elim (fun z => hfr2 D z hDl) fun z => z (.inr (.inr (.inl rfl)))
    have hCf2 : C ∉ fp2 := fun h => (hfx2 C h).elim (fun z => hfr2 C z hCl) fun z => z (.inr (.inr (.inr rfl)))
    have hP2 : ∀ j v y, P2 j v → (f xs[i])[j]? = some y → ∃ t, v = .str y t := fun j v y hPj hy => by
     have := hrd2 j v (.str y) hPj (by rw [List.getElem?_map, hy]; rfl)
     exact Rd.str_inv this
    have hlen2 : ((xs.take i).flatMap f).length + (f xs[i]).length ≤ sizeLine := by
     have e1 := Qma f xs i _ hd
     have e2 : (xs.flatMap f).length = ((xs.take (i + 1)).flatMap f).length + ((xs.drop (i + 1)).flatMap f).length := by
      conv => lhs; rw [← List.take_append_drop (i + 1) xs, List.flatMap_append, List.length_append]
     rw [e1, List.length_append] at e2
     lia
    have run : ∀ H0 tk0, St2 0 H0 → Kp h4 H0 → codeAny (model prog w) A (.compLoop (.ListComp (.Name x2 pe) [⟨.Name x px, iter, [], 0⟩, ⟨.Name x2 px2, iter2, [], 0⟩] scope pos) 1 (.ref I2) (.ref D) cenv) (fun r s₅ => match r with | .ok _ => ∃ m, m < xs.length + 1 - i ∧ ∃ i H tk m' ys, s₅ = { s₂ with heap := H, toks := tk } ∧ i ≤ xs.length ∧ m = xs.length + 1 - i ∧ St i H ∧ H.PlainList D ys ∧ H.Ns C m' ∧ StrsAt ((xs.take i).flatMap f) ys.toList ∧ (T.push Y).p H ∧ Kp h₁ H | .error e => False) { s₂ with heap := H0, toks := tk0 } := fun H0 tk0 hst0 hk0 => by
     refine inner_two (cenv := cenv) (x2 := x2) W2 hP2 hCf2 hDf2 hDC rfl hkind (lookup_relabel_local hx2) hd2 hlen2 hst0 (hacc2.at fun o e => hk0 _ o (kp4 _ o e)) hys (hn2'.at' fun o e => hk0 _ o (kp4 _ o e)) fun H5 tk5 m5 vs5 hl5 hy5 hn5 hk5 => ?_
     have kp5 : ∀ b o, b ≠ D → b ≠ C → h2.get? b = some o → H5.get? b = some o := fun b o hbD hbC e => hk5 b o (fun z => hfr2 b z (⟨o, k₁2 _ _ e⟩)) hbD hbC (hk0 _ _ (kp4 _ _ e))
     have l5 : KpX (T.push Y).X h2 H5 := ⟨fun b o hb e => kp5 b o (fun q => hb (.inr (.inr (.inl q)))) (fun q => hb (.inr (.inr (.inr q)))) e, fun b l => by
      by_cases hbD : b = D
      ·exact hbD ▸ (let ⟨n, e⟩ := hl5; ⟨_, e⟩)
      ·by_cases hbC : b = C
       ·exact hbC ▸ Ns.live hn5
       ·exact let ⟨o, e⟩ := l; ⟨o, kp5 b o hbD hbC e⟩⟩
     refine ⟨xs.length + 1 - (i + 1), Qjj hlt, i + 1, H5, tk5, m5, vs5, rfl, hlt, rfl, W.frame _ _ _ hst2 fun b hb o e => kp5 b o (fun q => hDf (q ▸ hb)) (fun q => hCf (q ▸ hb)) e, hl5, hn5, ?_, step l5 pT2, fun b o e => kp5 b o (fun q => hDn (q ▸ let e' := k₂ _ _ e; ⟨o, e'⟩)) (fun q => hCn (q ▸ let e' := k₂ _ _ e; ⟨o, e'⟩)) (kp2 b o e)⟩
     rw [Qma f xs i _ hd]
     exact hy5
    exact Qxb (run h4 tk4 hst4 (Kp.refl _)) (W2.self 0 _ _ _ hst4 (run h4 tk4 hst4 (Kp.refl _)))
   ·have hin : i = xs.length := by lia
    subst hin
    refine W.done _ _ _ hSt fun h1 tk1 hk1 => ?_
    have kp1 : Kp h₁ h1 := fun b o e => hk1 b o (fun hw => hfr b hw ⟨o, e⟩) (hkp b o e)
    exact hRR h1 tk1 m' ys (hn'.at' fun o e => hk1 _ o hCw e) (hacc'.at fun o e => hk1 _ o hDw e) (by simpa using hys) kp1
  ·intro b hb
   rcases hb with hb | rfl | rfl
   ·exact hlv _ _ hst₁ b (W.sub b hb)
   ·exact let ⟨n, e⟩ := hacc; ⟨_, e⟩
   ·exact Ns.live hns₁
 have fin : ∀ h' tk m' ys, h'.Ns C m' → h'.PlainList D ys → StrsAt (xs.flatMap f) ys.toList → Kp h₁ h' →
   compPost (model prog w) A E use Q (.ref D) C (.ok .next) { s₂ with heap := h', toks := tk } := by
  intro h' tk m' ys hn hl hr hk
  have q1 : ¬ Qaa s.heap D := fun l => hDn (ks.kp.kpx (X := T.X) |>.live _ l)
  have q2 : ¬ Qaa s.heap C := fun l => hCn (ks.kp.kpx (X := T.X) |>.live _ l)
  have q4 : Kp s.heap h' := fun b o e => hk b o (k₁ b o e)
  refine Qfw (ks.of) fun h9 t9 e9 k9 => ?_
  subst e9
  exact hfin D C h' tk m' ys q1 q2 hDC hn hl hr.rd q4
 exact codeAny_compStart_list (loop _ _ fin) (W.self 0 _ _ _ hst₁ (loop _ _ fin))
end
section
variable {prog : Program} {w : World} {W : Addr → Prop} {T : Hp} {A : Around} {env : Env} {E : Value → Shared → Prop} {s₀ s : Shared} {G : Gam} {O : Own} {R : Flow → Shared → Prop} {rest : List Stmt}
theorem EvA.listComp2 {iter iter2:Expr}{x x2:Str}{px px2 pe:Pos}{scope:Scope}{pos:Pos}{xs:List PyData}{Gf:Gam}{n:Nat}(cl:List (Str × Addr))(f:PyData → List Str)(ok:OkA A n)
  (hit : EvIt prog w T A env G iter xs) (hsz : (xs.flatMap f).length ≤ sizeLine) (hG : Takes env scope cl G Gf)
  (he : ∀ T' C d, T'.le T → d ∈ xs → EvIt prog w T' A (compEnvC scope cl C env) ((x, .d d) :: Gf) iter2 ((f d).map .str))
  (hclos : autoParam (closureFor scope env = pure cl) sK) (hcell : autoParam (∀ y ∈ scope.names, y.2 ≠ .cell) sD) (hkind : autoParam (scope.kind = .function) sK)
  (hnames : autoParam (∀ y ∈ scope.names, y.2 = .local → scope.names.lookup y.1 = some .local) sD) (hx : autoParam (scope.names.lookup x = some .local) sK) (hx2 : autoParam (scope.names.lookup x2 = some .local) sK) (hd2 : autoParam ((x2 == ("__debug__" : Str)) = false) sK)
  (hs : autoParam (∀ x, foldedSetIterable iter env x = pure x) sK) (hs2 : autoParam (∀ C x, foldedSetIterable iter2 (compEnvC scope cl C env) x = pure x) sK) :
  EvA prog w T A env G (.ListComp (.Name x2 pe) [⟨.Name x px, iter, [], 0⟩, ⟨.Name x2 px2, iter2, [], 0⟩] scope pos) (.d (.list ((xs.flatMap f).map .str))) := ⟨fun E s hp hv => by
 rw [eval_ListComp]
 refine comp2_core (use := none) cl f ok hit hsz hG he hclos hcell hkind hnames hx hx2 hd2 hs hs2 hp hv fun D C h' tk m' ys hD hC hDC hn hl hr hk' => ?_
 refine ⟨m', hn, fun h'' hs'' => ⟨?_, ?_⟩⟩
 ·refine Dv.p.list (fun hz => hD (T.live _ hp D hz)) (hl.at fun o e => (hs''.2 _ hDC).trans e).isList ?_
  exact RdAll.map (fun b o hb e => ⟨fun hx => hb (.inl hx), (hs''.2 b (fun q => hb (.inr (.inr q)))).trans e⟩) _ _ hr
 ·exact Kt.mk' s tk fun b o e => (hs''.2 b (fun q => hC (q ▸ ⟨o, e⟩))).trans (hk' b o e)⟩
end
noncomputable def rulerA : List Int := [1, 2, 127]
noncomputable def rulerB : List Int := [2, 3, 0]
noncomputable def isA (script:List Int) : Bool := (Qqz (script.take 6)).fmod 2 == 0
noncomputable def Qgx (script:List Int) : List Int := if isA script then rulerA else rulerB
noncomputable def Qkb (ruler:List Int)(n:Nat) : List Int := Qra ruler (Qcj ruler) n n []
noncomputable def valA (k:Nat) : Int := if k = 2 then 1 else 2
noncomputable def valB (k:Nat) : Int := if k = 5 then 2 else 3
theorem Qmj {val:Nat → Int}{en:Nat}{last:Option Int}{x:Int}{xs:List Int}{n:Nat}(h1:x ≠ 127)(h2:x ≠ 0)(h:∃ m, n = m + 1 ∧ (val m = x ∧ m + 1 ≠ en) ∧ (0 < m → Qwv val en (some x) xs m)) : Qwv val en last (x :: xs) n := by
 rw [Qjz, if_neg h1, if_neg h2]
 exact h
theorem specA : Qwv valA 1 none rulerA 3 := by
 refine Qmj (by decide) (by decide) ⟨2, rfl, ⟨rfl, by decide⟩, fun ζ => ?_⟩
 refine Qmj (by decide) (by decide) ⟨1, rfl, ⟨rfl, by decide⟩, fun ζ => ?_⟩
 rw [Qjz, if_pos rfl]
theorem specB : Qwv valB 0 none rulerB 6 := by
 refine Qmj (by decide) (by decide) ⟨5, rfl, ⟨rfl, by decide⟩, fun ζ => ?_⟩
 refine Qmj (by decide) (by decide) ⟨4, rfl, ⟨rfl, by decide⟩, fun ζ => ?_⟩
 rw [Qjz, if_neg (by decide), if_pos rfl]
 exact ⟨⟨3, rfl, fun k hk => ⟨if_neg (Nat.ne_of_lt (Nat.lt_trans hk (by decide))), Nat.succ_ne_zero k⟩⟩, by decide⟩
noncomputable def ixOf (sizes:List Int)(n:Nat) : List Nat := ((List.range sizes.length).filter fun k => decide (Qqz (sizes.take k) < (n:Int))).map fun k => (Qqz (sizes.take k)).toNat
noncomputable def sizesT (sizes:List Int)(n:Nat) : Bool := decide (sizes.length ≤ 20) && (List.range sizes.length).all (fun k => decide (0 ≤ Qqz (sizes.take k))) && !(ixOf sizes n).isEmpty && (ixOf sizes n).all (fun i => decide (i < n)) && decide ((ixOf sizes n).length ≤ 20)
theorem cut_A : ∀ n ∈ List.range 14, 7 ≤ n → cutG valA 1 n 3 [] = Qkb rulerA n ∧ QIq valA 1 n 3 [] = true ∧ sizesT (Qkb rulerA n) n = true := by decide +kernel
theorem cut_B : ∀ n ∈ List.range 14, 7 ≤ n → cutG valB 0 n 6 [] = Qkb rulerB n ∧ QIq valB 0 n 6 [] = true ∧ sizesT (Qkb rulerB n) n = true := by decide +kernel
structure RulerOk (ruler : List Int) (n : Nat) : Prop where
 spec : ∃ val en N, Qwv val en none ruler N ∧ QIq val en n N [] = true ∧ N ≤ 1000 ∧ cutG val en n N [] = Qkb ruler n
 ne : ruler ≠ []
 len : ruler.length ≤ 1000
 ne2 : Qcj ruler ≠ []
 pos : ∀ k ∈ Qcj ruler, 1 ≤ k
 t : sizesT (Qkb ruler n) n = true
theorem ruler_ok (script:List Int){n:Nat}(h1:7 ≤ n)(h2:n ≤ 13) : RulerOk (Qgx script) n := by
 unfold Qgx
 have hn : n ∈ List.range 14 := List.mem_range.mpr (by lia)
 cases isA script with
 | true =>
  refine eAA (cut_A n hn h1) fun a b c => ?_
  exact ⟨⟨valA, 1, 3, specA, b, by decide, a⟩, by decide, by decide, by decide, by decide, c⟩
 | false =>
  refine eAA (cut_B n hn h1) fun a b c => ?_
  exact ⟨⟨valB, 0, 6, specB, b, by decide, a⟩, by decide, by decide, by decide, by decide, c⟩
structure SizesOk (sizes : List Int) (n : Nat) : Prop where
 len : sizes.length ≤ 20
 lo : ∀ k, k < sizes.length → 0 ≤ Qqz (sizes.take k)
 ne : ixOf sizes n ≠ []
 lt : ∀ i ∈ ixOf sizes n, i < n
 few : (ixOf sizes n).length ≤ 20
theorem sizesT.ok {sizes:List Int}{n:Nat}(h:sizesT sizes n = true) : SizesOk sizes n := by
 unfold sizesT at h
 simp only [Bool.and_eq_true, decide_eq_true_eq] at h
 refine eA (h) fun ν0 h5 => ?_
 obtain ⟨⟨⟨h1, h2⟩, h3⟩, h4⟩ := ν0
 refine ⟨h1, fun k hk => of_decide_eq_true (List.all_eq_true.mp h2 k (List.mem_range.mpr hk)), fun q => by rw [q] at h3; exact absurd h3 (by decide), fun i hi => of_decide_eq_true (List.all_eq_true.mp h4 i hi), h5⟩
noncomputable def Qkx (rows:List (List Str))(sizes:List Int) : List (List Str) := (ixOf sizes (nms rows).length).map fun i => (nms rows).getD i []
theorem QHk {rows:List (List Str)}(rk:RowsOk rows){sizes:List Int}(sk:SizesOk sizes (nms rows).length) : ∀ r ∈ Qkx rows sizes, r ∈ Qaj := fun r hr => by
 refine eEA (List.mem_map.mp hr) fun i hi ρ1 => ?_
 subst ρ1
 have hlt := sk.lt i hi
 rw [show (nms rows).getD i [] = (nms rows)[i] by simp [List.getD, List.getElem?_eq_getElem hlt]]
 exact Qnk rk _ (List.getElem_mem hlt)
section
variable {prog : Program} {w : World} {T : Hp} {A : Around} {E : Value → Shared → Prop} {s₀ s : Shared} {R : Flow → Shared → Prop} {ps : Array Value} {Lc : Addr} {pm : Value} {env : Env} {G : Gam} {O : Own}
noncomputable abbrev Qzj (script:List Int)(rows:List (List Str)) : Gam := ("ruler", .d (Qiq (Qgx script))) :: QGc script rows
theorem law_ruler {script:List Int}{rows:List (List Str)}(L:LawAt T s₀ (Qez Lc pm) ps (QGc script rows) none s)(hT:T.le TW){m:Nat}(ok:OkA A (m + 24))(hsz:script.length ≤ 100000)
  (h : ∀ s', LawAt T s₀ (Qez Lc pm) ps (Qzj script rows) none s' → Go prog w A (Qez Lc pm) (Qsw 12) R s') : Go prog w A (Qez Lc pm) (Qsw 11) R s := by
 have hTp := hT.trans TWp
 have hsl : (script.map PyData.int).length ≤ sizeLine := by rw [List.length_map]; show script.length ≤ 2 ^ 24; lia
 have e6 : Qmw (script.map PyData.int) none (some 6) = (script.take 6).map .int := by
  have := Qek (script.map PyData.int) 6
  rw [List.map_take]; exact this
 refine eEA (fmod_lt (Qqz (script.take 6)) 2 (by decide)) fun q hq eq => ?_
 have eq' : (Qqz (script.take 6)).fmod 2 = (q : Int) := eq
 refine Qcx (.d (Qiq (Qgx script))) L.f (EvA.sub Qfv (EvA.plain (EvA.list (ds := [Qiq rulerA, Qiq rulerB]) (EvL.cons (EvA.plain (EvA.list (ds := rulerA.map .int) (EvL.cons EvA.int (EvL.cons EvA.int (EvL.cons EvA.int .nil'))))) (EvL.cons (EvA.plain (EvA.list (ds := rulerB.map .int) (EvL.cons EvA.int (EvL.cons EvA.int (EvL.cons EvA.int .nil'))))) .nil')))) (EvA.binop (EvA.call (bltn (.builtin "sum") hTp) (EvL.cons (EvA.cast (EvA.plain (EvA.sliceList (EvA.name (.d (.list (script.map .int)))) .none (.some EvA.int) hsl)) (by rw [e6])) .nil') (QHz (ok.le (by lia) : OkA A (0 + 1)))) EvA.int (Qkc (by decide))) (Qdq (by rw [eq']; lia) (by rw [eq']; lia) ?_)).f fun s' F => h s' (L.step F L.x)
 rw [eq', Int.toNat_natCast]
 unfold Qgx isA
 rw [eq']
 rcases q with _ | _ | q
 ·rfl
 ·rfl
 ·lia
theorem ev_call2W {Q:Value → Shared → Prop}{x:Str}{np pos:Pos}{e1 e2:Expr}{f:Value}{a b:Dv}(hf:EvA prog w T A env G (.Name x np) (.v f))(h1:EvA prog w T A env G e1 a)(h2:EvA prog w T A env G e2 b)(hp:T.p s.heap)(hv:Vw T.X env G s.heap)
  (hkeep : ∀ E s, T.p s.heap → wpAny (model prog w) A (keeperOf f) (fun ζ s' => s' = s) E s)
  (hc : ∀ v u s', Kt s s' → a.p T.X s'.heap v → b.p T.X s'.heap u → wpAny (model prog w) A (call f [v, u]) Q E s')
  (hs1 : autoParam (starEach [e1, e2] env = (false, eval e1 env) :: starEach [e2] env) sK) (hs2 : autoParam (starEach [e2] env = (false, eval e2 env) :: starEach [] env) sK) : wpAny (model prog w) A (eval (.Call (.Name x np) [e1, e2] [] pos) env) Q E s := by
 refine Call_Name rfl (wpAny_mono (hf.of _ s hp hv) (fun f' s₁ k1 => ?_) fun ζ ζ x => x)
 obtain ⟨e, k1⟩ := k1
 have e : f' = f := e
 subst e
 have hL := EvL.cons (pos := pos) h1 (EvL.cons (pos := pos) h2 .nil' hs2) hs1
 refine Qbx hL.noStar (Qcz hL (T.kt hp k1) (hv.kp k1.kp) fun vs s₂ k2 hvs => ?_)
 obtain ⟨v, vs', rfl, hv1, u, us', rfl, hv2, rfl⟩ := hvs
 refine wpAny_mono (hkeep E s₂ (T.kt hp (k1.trans k2))) (fun ζ s₃ e => ?_) fun ζ ζ x => x
 subst e
 exact hc v u _ (k1.trans k2) hv1 hv2
noncomputable abbrev Qrq (script:List Int)(rows:List (List Str)) : Gam := ("sizes", .d (Qiq (Qkb (Qgx script) rows.length))) :: Qzj script rows
theorem law_cut {script:List Int}{rows:List (List Str)}(L:LawAt T s₀ (Qez Lc pm) ps (Qzj script rows) none s)(hT:T.le TW){m:Nat}(ok:OkA A (m + 24))(rk:RowsOk rows)
  (h : ∀ s', LawAt T s₀ (Qez Lc pm) ps (Qrq script rows) none s' → Go prog w A (Qez Lc pm) (Qsw 14) R s') : Go prog w A (Qez Lc pm) (Qsw 12) R s := by
 have hTp := hT.trans TWp
 have hz := Qca
 have hhi := rk.hi
 have hnl : (nms rows).length = rows.length := (Qgw rk).length_eq
 have htl : (((nms rows).map Qaq).map PyData.str).length = rows.length := by rw [List.length_map, List.length_map]; exact hnl
 have RO := ruler_ok script rk.lo rk.hi
 refine Qnb (RO.spec) fun val en N sp cok hN hcut => ?_
 refine Qqj (O := none) (G := Qzj script rows) (.d (Qiq (Qkb (Qgx script) rows.length))) (ev_call2W (T := T) (f := .ref 929) (glob (.ref 929) hTp) (EvA.name (.d (Qiq (Qgx script)))) (EvA.bnd (EvA.call (bltn (.builtin "len") hTp) (EvL.cons (EvA.plain (EvA.name (.pl (((nms rows).map Qaq).map .str)))) .nil') (Qbz (by lia))) (by rw [htl])) L.f.t L.f.vw (fun E s2 hp => ?_) fun v u s₁ k1 hv hu => ?_)
 ·refine eE ((hTp.p _ hp).defs 929 60 (by decide)) fun pm' hfn => ?_
  exact Qev hfn
 have L1 := L.step (L.f.kept k1) L.x
 refine fn_lawCut (m := m) (hT.trans (TWz.trans Tz.leC)) (ok.le (by lia)) sp cok hN L1.f.t hv hu fun r s₂ hr kg => ?_
 rw [hcut] at hr
 refine Qgz (kg.of) fun h' tk gs ρ0 kp kb => ?_
 subst ρ0
 have L2 : LawAt T s₀ (Qez Lc pm) ps (Qzj script rows) none { s₁ with heap := h', toks := tk, gens := gs } := L1.move kp.kpx ⟨h', tk, gs, rfl, kb⟩ (kp _ _ L1.tab)
 refine ⟨_, T, _, L2.f, hr, fun s₃ F => ?_⟩
 have L3 := L2.step F L2.x
 have selfI : ∀ xs : List Int, PyData.eqv (Qiq xs) (Qiq xs) = true := fun xs => by rw [QCb]; exact beq_self_eq_true _
 exact Qiy false L3.f (TeA.cast (TeA.cmp (EvA.name (.d (Qiq (Qkb (Qgx script) rows.length)))) (Qby (r := .d (Qiq (Qkb (Qgx script) rows.length))) (ct_lawSizes (Qgx script) rows.length RO.ne RO.len RO.ne2 RO.pos (by lia)) hTp ok (glob (.ref 922) hTp) (EvL.cons (EvA.name (.d (Qiq (Qgx script)))) (EvL.cons (EvA.bnd (EvA.call (bltn (.builtin "len") hTp) (EvL.cons (EvA.plain (EvA.name (.pl (((nms rows).map Qaq).map .str)))) .nil') (Qbz (by lia))) (by rw [htl])) .nil'))) (QAc ok (Qij _) (Qij _) (Qmq _))) (by rw [selfI]; rfl)).f (fun e => nomatch e) (fun ζ s₄ F => Qaw (h _ (L3.step F L3.x)))
end
noncomputable def pFst (rows:List (List Str))(sizes:List Int)(d:PyData) : Bool := decide (Qqz (sizes.take (intD d).toNat) < ((nms rows).length : Int))
noncomputable def fFst (rows:List (List Str))(sizes:List Int)(d:PyData) : PyData := .str (Qaq ((nms rows).getD (Qqz (sizes.take (intD d).toNat)).toNat []))
theorem first_data (rows:List (List Str))(sizes:List Int) : (((rangeD sizes.length).filter (pFst rows sizes)).map (fFst rows sizes)) = ((Qkx rows sizes).map Qaq).map .str := by
 unfold Qkx ixOf
 rw [List.map_map, List.map_map, List.map_map, List.filter_map, List.map_map]
 have ek : ∀ k : Nat, (intD (.int (0 + (k : Int) * 1))).toNat = k := fun k => by show ((0 : Int) + (k : Int) * 1).toNat = k; lia
 have e : (List.range sizes.length).filter (pFst rows sizes ∘ fun (i : Nat) => PyData.int (0 + (i : Int) * 1)) = (List.range sizes.length).filter fun k => decide (Qqz (sizes.take k) < ((nms rows).length : Int)) := by
  refine List.filter_congr fun k ζ => ?_
  show decide (Qqz (sizes.take (intD (.int (0 + (k : Int) * 1))).toNat) < _) = _
  rw [ek]
 rw [e]
 refine List.map_congr_left fun k ζ => ?_
 show PyData.str (Qaq ((nms rows).getD (Qqz (sizes.take (intD (.int (0 + (k : Int) * 1))).toNat)).toNat [])) = _
 rw [ek]; rfl
noncomputable def Qcq (r:List Str) : List Str := [Qey (Qaq r), Qeq (Qaq r)]
noncomputable def QDc (d:PyData) : List Str := [Qey (strD d), Qeq (strD d)]
theorem Qxc (rs:List (List Str)) : (((rs.map Qaq).map PyData.str).flatMap QDc) = rs.flatMap Qcq := by
 rw [List.map_map, List.flatMap_map]; rfl
theorem flat2 {α β:Type}(g h:α → β) : ∀ (l:List α)(i:Nat)(a:α), l[i]? = some a → (l.flatMap fun a => [g a, h a])[2 * i]? = some (g a) ∧ (l.flatMap fun a => [g a, h a])[2 * i + 1]? = some (h a)
 | [], i, a, e => by simp at e
 | b :: l, 0, a, e => by
  simp at e; subst e
  exact ⟨rfl, rfl⟩
 | b :: l, i + 1, a, e => by
  have ih := flat2 g h l i a (by simpa using e)
  rw [show 2 * (i + 1) = (2 * i) + 1 + 1 by lia]
  exact ⟨ih.1, ih.2⟩
theorem Qva {α β:Type}(g h:α → β) : ∀ (l:List α), (l.flatMap fun a => [g a, h a]).length = 2 * l.length
 | [] => rfl
 | b :: l => by
  have := Qva g h l
  rw [List.flatMap_cons, List.length_append, this]
  simp; lia
theorem range_two : ∀ n ∈ List.range 41, Builtin.Range.small 0 (2 * n : Nat) 2 = true ∧ Builtin.Range.rangeSize 0 (2 * n : Nat) 2 = (n:Int) := by decide +kernel
section
variable {prog : Program} {w : World} {T : Hp} {A : Around} {E : Value → Shared → Prop} {s₀ s : Shared} {R : Flow → Shared → Prop} {ps : Array Value} {Lc : Addr} {pm : Value} {env : Env} {G : Gam} {O : Own}
noncomputable abbrev szL (script:List Int)(rows:List (List Str)) : List Int := Qkb (Qgx script) rows.length
noncomputable abbrev QCw (script:List Int)(rows:List (List Str)) : Gam := ("firsts", .d (Qbb ((Qkx rows (szL script rows)).map Qaq))) :: Qrq script rows
noncomputable abbrev gWords (script:List Int)(rows:List (List Str)) : Gam := ("words", .d (Qbb ((Qkx rows (szL script rows)).flatMap Qcq))) :: QCw script rows
theorem QAk (script:List Int){rows:List (List Str)}(rk:RowsOk rows) : SizesOk (szL script rows) (nms rows).length := by
 have RO := ruler_ok script rk.lo rk.hi
 have hnl : (nms rows).length = rows.length := (Qgw rk).length_eq
 rw [hnl]
 exact sizesT.ok RO.t
theorem law_firsts {script:List Int}{rows:List (List Str)}(L:LawAt T s₀ (Qez Lc pm) ps (Qrq script rows) none s)(hT:T.le TW){m:Nat}(ok:OkA A (m + 24))(rk:RowsOk rows)
  (h : ∀ s', LawAt T s₀ (Qez Lc pm) ps (QCw script rows) none s' → Go prog w A (Qez Lc pm) (Qsw 15) R s') : Go prog w A (Qez Lc pm) (Qsw 14) R s := by
 have hTp := hT.trans TWp
 have hz := Qca
 have hhi := rk.hi
 have sk := QAk script rk
 have hnl : (nms rows).length = rows.length := (Qgw rk).length_eq
 have htl : (((nms rows).map Qaq).map PyData.str).length = (nms rows).length := by rw [List.length_map, List.length_map]
 show Go prog w A (Qez Lc pm) (Qsw 14) R s
 have hsl : ((szL script rows).map PyData.int).length = (szL script rows).length := List.length_map _
 generalize hsz : szL script rows = sizes at *
 have L : LawAt T s₀ (Qez Lc pm) ps (("sizes", .d (Qiq sizes)) :: Qzj script rows) none s := by rw [← hsz]; exact L
 have hlen := sk.len
 have e6 : ∀ k : Nat, Qmw (sizes.map PyData.int) none (some (k : Int)) = (sizes.take k).map .int := fun k => by
  rw [List.map_take]; exact Qek _ _
 refine Qew (Gf := [("sizes", .d (Qiq sizes)), ("told", .pl (((nms rows).map Qaq).map .str))]) [("told", Lc + 1), ("sizes", Lc + 3)] (pFst rows sizes) (fFst rows sizes) ok L.f (EvIt.rangeN (n := sizes.length) ok (by lia) (EvA.call (bltn (.type "range") hTp) (EvL.cons (EvA.bnd (EvA.call (bltn (.builtin "len") hTp) (EvL.cons (EvA.name (.d (Qiq sizes))) .nil') (Qbz (by lia))) (by rw [hsl])) .nil') Qpx)) (by rw [List.length_map, List.length_range]; lia) (Takes.cons _ (Takes.cons _ .nil)) (fun T2 C d hT2 hd => ?_) (fun T2 C d hT2 hd hpd => ?_) fun s' F => ?_
 ·refine eEA (List.mem_map.mp hd) fun k hk ρ0 => ?_
  subst ρ0
  have hTp2 := hT2.trans hTp
  have ek : (0 : Int) + (k : Int) * 1 = (k : Int) := by lia
  rw [ek]
  refine TeL.one (TeA.cast (TeA.cmp (EvA.call (bltn (.builtin "sum") hTp2) (EvL.cons (EvA.cast (EvA.plain (EvA.sliceList (EvA.name (.d (.list (sizes.map .int)))) .none (.some (EvA.name (.d (.int (k : Int))))) (by lia))) (by rw [e6])) .nil') (QHz (ok.le (by lia) : OkA A (0 + 1)))) (EvA.bnd (EvA.call (bltn (.builtin "len") hTp2) (EvL.cons (EvA.plain (EvA.name (.pl (((nms rows).map Qaq).map .str)))) .nil') (Qbz (by lia))) (by rw [htl])) Qow) ?_)
  unfold pFst
  rw [show (intD (.int (k : Int))).toNat = k from Int.toNat_natCast k]
 ·refine eEA (List.mem_map.mp hd) fun k hk ρ1 => ?_
  subst ρ1
  have hk := List.mem_range.mp hk
  have hTp2 := hT2.trans hTp
  have ek : (0 : Int) + (k : Int) * 1 = (k : Int) := by lia
  rw [ek] at hpd ⊢
  unfold pFst at hpd
  rw [show (intD (.int (k : Int))).toNat = k from Int.toNat_natCast k] at hpd
  have hlt := of_decide_eq_true hpd
  have hlo := sk.lo k hk
  unfold fFst
  rw [show (intD (.int (k : Int))).toNat = k from Int.toNat_natCast k]
  refine EvA.sub Qfv (EvA.plain (EvA.name (.pl (((nms rows).map Qaq).map .str)))) (EvA.call (bltn (.builtin "sum") hTp2) (EvL.cons (EvA.cast (EvA.plain (EvA.sliceList (EvA.name (.d (.list (sizes.map .int)))) .none (.some (EvA.name (.d (.int (k : Int))))) (by lia))) (by rw [e6])) .nil') (QHz (ok.le (by lia) : OkA A (0 + 1)))) (Qdq hlo (by lia) (nms_get (by lia)))
 ·rw [first_data] at F
  refine h s' ?_
  have L2 := L.step F L.x
  rw [← hsz] at L2
  exact L2
end
theorem wordsF_fine {r:List Str}(hr:r ∈ Qaj) : ∀ x ∈ Qcq r, WordFine x := fun x hx => by
 rcases List.mem_cons.mp hx with rfl | hx
 ·exact wordT.ok (dir_fine r hr)
 ·rw [List.mem_singleton.mp hx]; exact wordT.ok (base_fine r hr)
noncomputable def joinF (ws:List Str)(d:PyData) : PyData := .str (Qcy (ws.getD (intD d).toNat "") (ws.getD ((intD d).toNat + 1) ""))
noncomputable abbrev rangeD2 (n:Nat) : List PyData := (List.range n).map fun i => .int (0 + (i:Nat) * 2)
theorem joined_data {rs:List (List Str)}(hm:∀ r ∈ rs, r ∈ Qaj) : (((rangeD2 rs.length).filter fun ζ => true).map (joinF (rs.flatMap Qcq))) = (rs.map Qaq).map .str := by
 rw [List.filter_eq_self.mpr fun ζ ζ => rfl]
 refine List.ext_getElem (by simp) fun i h1 h2 => ?_
 have hi : i < rs.length := by simpa using h1
 have e := List.getElem?_eq_getElem hi
 refine eA (flat2 (fun r => Qey (Qaq r)) (fun r => Qeq (Qaq r)) rs i _ e) fun q1 q2 => ?_
 rw [List.getElem_map, List.getElem_map, List.getElem_map, List.getElem_map, List.getElem_range]
 unfold joinF
 rw [show (intD (.int (0 + (i : Int) * 2))).toNat = 2 * i by show ((0 : Int) + (i : Int) * 2).toNat = 2 * i; lia]
 have w1 : (rs.flatMap Qcq).getD (2 * i) "" = Qey (Qaq rs[i]) := by
  show ((rs.flatMap fun r => [Qey (Qaq r), Qeq (Qaq r)])).getD (2 * i) "" = _
  rw [List.getD, q1]; rfl
 have w2 : (rs.flatMap Qcq).getD (2 * i + 1) "" = Qeq (Qaq rs[i]) := by
  show ((rs.flatMap fun r => [Qey (Qaq r), Qeq (Qaq r)])).getD (2 * i + 1) "" = _
  rw [List.getD, q2]; rfl
 rw [w1, w2, (Qfa _ (hm _ (List.getElem_mem hi))).1]
section
variable {prog : Program} {w : World} {T : Hp} {A : Around} {E : Value → Shared → Prop} {s₀ s : Shared} {R : Flow → Shared → Prop} {ps : Array Value} {Lc : Addr} {pm : Value} {env : Env} {G : Gam} {O : Own}
theorem law_words {script:List Int}{rows:List (List Str)}(L:LawAt T s₀ (Qez Lc pm) ps (QCw script rows) none s)(hT:T.le TW){m:Nat}(ok:OkA A (m + 24))(rk:RowsOk rows)
  (h : ∀ s', LawAt T s₀ (Qez Lc pm) ps (gWords script rows) none s' → Go prog w A (Qez Lc pm) (Qsw 16) R s') : Go prog w A (Qez Lc pm) (Qsw 15) R s := by
 have hTp := hT.trans TWp
 have hz := Qca
 have sk := QAk script rk
 have hm := QHk rk sk
 have hfl : (Qkx rows (szL script rows)).length ≤ 20 := by unfold Qkx; rw [List.length_map]; exact sk.few
 have hwl := Qva (fun r => Qey (Qaq r)) (fun r => Qeq (Qaq r)) (Qkx rows (szL script rows))
 have hwl : ((Qkx rows (szL script rows)).flatMap Qcq).length = 2 * (Qkx rows (szL script rows)).length := hwl
 have h' : ∀ s', LawAt T s₀ (Qez Lc pm) ps (("words", .d (.list (((((Qkx rows (szL script rows)).map Qaq).map PyData.str).flatMap QDc).map .str))) :: QCw script rows) none s' → Go prog w A (Qez Lc pm) (Qsw 16) R s' := fun s' L => by
  rw [Qxc] at L
  exact h s' L
 have hsz : ((((Qkx rows (szL script rows)).map Qaq).map PyData.str).flatMap QDc).length ≤ sizeLine := by rw [Qxc, hwl]; lia
 clear h
 generalize hrs : Qkx rows (szL script rows) = rs at *
 have L : LawAt T s₀ (Qez Lc pm) ps (("firsts", .d (Qbb (rs.map Qaq))) :: Qrq script rows) none s := by rw [← hrs]; exact L
 refine Qcx (.d (.list ((((rs.map Qaq).map PyData.str).flatMap QDc).map .str))) L.f (EvA.listComp2 (Gf := []) [] QDc ok (EvIt.list ok (EvA.name (.d (Qbb (rs.map Qaq))))) hsz .nil (fun T2 C d hT2 hd => ?_)).f fun s' F => h' s' ?_
 ·refine eEA (List.mem_map.mp hd) fun p hp ρ0 => ?_
  subst ρ0
  refine eEA (List.mem_map.mp hp) fun r hr ρ1 => ?_
  subst ρ1
  have hra := hm r hr
  have hTp2 := hT2.trans hTp
  have hpl := (Qux r hra).2.2.2.2
  exact EvIt.list ok (EvA.plain (EvA.list (ds := [.str (Qey (Qaq r)), .str (Qeq (Qaq r))]) (EvL.cons (Qby (ct_dirname (Qaq r) (by lia) (mulOk_few slash1 (by have := (Qfa r hra).2.1; lia))) hTp2 ok (glob (.ref 180) hTp2) (EvL.cons (EvA.name (.d (.str (Qaq r)))) .nil')) (EvL.cons (Qby (ct_basename (Qaq r) (by lia)) hTp2 ok (glob (.ref 173) hTp2) (EvL.cons (EvA.name (.d (.str (Qaq r)))) .nil')) .nil'))))
 ·have L2 := L.step F L.x
  show LawAt T s₀ (Qez Lc pm) ps (_ :: ("firsts", .d (Qbb ((Qkx rows (szL script rows)).map Qaq))) :: Qrq script rows) none s'
  rw [hrs]
  exact L2
theorem law_return {script:List Int}{rows:List (List Str)}(L:LawAt T s₀ (Qez Lc pm) ps (gWords script rows) none s)(hT:T.le TW){m:Nat}(ok:OkA A (m + 24))(hfr:A.frames = some [Qez Lc pm])(rk:RowsOk rows)
  (h : ∀ s', LawK s₀ s' → (∃ ps, s'.heap.get? 931 = some (PySem.W.tabObj ps)) → R (.ret (.bool true)) s') : Go prog w A (Qez Lc pm) (Qsw 16) R s := by
 have hTp := hT.trans TWp
 have hz := Qca
 have sk := QAk script rk
 have hm := QHk rk sk
 have hfl : (Qkx rows (szL script rows)).length ≤ 20 := by unfold Qkx; rw [List.length_map]; exact sk.few
 have hfne : Qkx rows (szL script rows) ≠ [] := fun q => sk.ne (by unfold Qkx at q; simpa using q)
 generalize hrs : Qkx rows (szL script rows) = rs at *
 have L : LawAt T s₀ (Qez Lc pm) ps (("words", .d (Qbb (rs.flatMap Qcq))) :: ("firsts", .d (Qbb (rs.map Qaq))) :: Qrq script rows) none s := by rw [← hrs]; exact L
 have hwl : (rs.flatMap Qcq).length = 2 * rs.length := Qva (fun r => Qey (Qaq r)) (fun r => Qeq (Qaq r)) rs
 have hw : ∀ x ∈ rs.flatMap Qcq, WordFine x := fun x hx => by
  refine eEA (List.mem_flatMap.mp hx) fun r hr hx => ?_
  exact wordsF_fine (hm r hr) x hx
 have hpos : 0 < rs.length := List.length_pos_iff.mpr hfne
 have hne : rs.flatMap Qcq ≠ [] := fun q => by rw [q] at hwl; simp at hwl; lia
 have hsp : (Str.ofString " ").length ≤ 1 := by decide +kernel
 have hql : ∀ q ∈ (rs.flatMap Qcq).map Qfy, q.length ≤ 100 := fun q hq => by
  refine eEA (List.mem_map.mp hq) fun x hx' ρ2 => ?_
  subst ρ2
  exact (hw x hx').ql
 have hll : ((rs.flatMap Qcq).map PyData.str).length ≤ sizeLine := by rw [List.length_map, hwl]; lia
 have sW : ∀ x ∈ rs.flatMap Qcq, PyData.strOk x = true := fun x hx => (hw x hx).s
 have sP : ∀ x ∈ rs.map Qaq, PyData.strOk x = true := fun x hx => by
  refine eEA (List.mem_map.mp hx) fun r hr ρ3 => ?_
  subst ρ3
  exact (Qfa r (hm r hr)).2.2
 have self : ∀ xs : List Str, PyData.eqv (Qbb xs) (Qbb xs) = true := fun xs => by rw [Qkj]; exact beq_self_eq_true _
 have h2n := range_two rs.length (List.mem_range.mpr (by lia))
 have hwI : (((rs.flatMap Qcq).map PyData.str).length : Int) = ((2 * rs.length : Nat) : Int) := by rw [List.length_map, hwl]
 refine ⟨wpAny_execs_cons (wpAny_Return_some (wpAny_And2 (wpAny_Compare1 (L.evSplit (m := m + 8) (xs := rs.flatMap Qcq) hT ok hfr hne (by lia) hw ?_ fun v s1 L1 hv => wpAny_mono (EvA.of (T := T) (EvA.name (.d (Qbb (rs.flatMap Qcq)))) _ s1 L1.f.t L1.f.vw) (fun u s2 q => ?_) fun ζ ζ x => x))))⟩
 ·refine EvA.join EvA.str (EvA.cast (EvA.listComp (Gf := []) [] (fun ζ => true) (fun d => .str (Qfy (strD d))) ok (EvIt.list ok (EvA.name (.d (Qbb (rs.flatMap Qcq))))) hll .nil (fun T' C d hT' hd => TeL.nil) (fun T' C d hT' hd ζ => ?_)) ?_) (Qqa hsp (by rw [List.length_map]; lia) hql)
  ·refine eEA (List.mem_map.mp hd) fun x hx ρ4 => ?_
   subst ρ4
   exact Qby (ct_quote x (hw x hx).q) (hT'.trans (hT.trans (TWz.trans Tz.leR))) ok (glob (.ref 900) (hT'.trans hTp)) (EvL.cons (EvA.name (.d (.str x))) .nil')
  ·rw [Qwj (fun d => .str (Qfy (strD d))) Qfy (rs.flatMap Qcq) (fun x ζ => by show PyData.str (Qfy (strD (.str x))) = _; rw [show strD (.str x) = x from rfl])]
 refine eA (q) fun hu k2 => ?_
 have L2 := L1.step (L1.f.kept k2) L1.x
 refine wpAny_mono ((op_eq (prog := prog) (w := w) (T := T) (d1 := Qbb (rs.flatMap Qcq)) (d2 := Qbb (rs.flatMap Qcq)) ok (Qfk _ sW) (Qfk _ sW) (Qhk _)).of _ s2 v u L2.f.t (hv.kp k2.kp.kpx) hu) (fun b s3 q => ?_) fun ζ ζ x => x
 refine eA (q) fun hb k3 => ?_
 rw [self] at hb
 have hb := hb.bool_inv
 subst hb
 have L3 := L2.step (L2.f.kept k3) L2.x
 refine Qty (d := .bool true) (X := T.X) trivial Rd.bool fun tk => ?_
 have L4 := L3.step (L3.f.kept (.tok s3 tk)) L3.x
 refine wpAny_mono (EvA.of (T := T) (a := .d (.bool true)) (EvA.cast (EvA.compare (a1 := .d (Qbb (rs.map Qaq))) (EvA.cast (EvA.listComp (Gf := [("words", .d (Qbb (rs.flatMap Qcq)))]) [("words", Lc + 4)] (fun ζ => true) (joinF (rs.flatMap Qcq)) ok (EvIt.range (n := rs.length) ok (EvA.call (bltn (.type "range") hTp) (EvL.cons EvA.int (EvL.cons (EvA.bnd (EvA.call (bltn (.builtin "len") hTp) (EvL.cons (EvA.name (.d (Qbb (rs.flatMap Qcq)))) .nil') (Qbz hll)) hwI) (EvL.cons EvA.int .nil'))) (fn_range3 (by decide) (by decide))) h2n.1 h2n.2) (by rw [List.length_map, List.length_range]; lia) (Takes.cons _ .nil) (fun T2 C d hT2 hd => TeL.nil) (fun T2 C d hT2 hd ζ => ?_)) ?_) (EvA.name (.d (Qbb (rs.map Qaq)))) (op_eq ok (Qfk _ sP) (Qfk _ sP) (Qhk _))) (by rw [self])) _ _ L4.f.t L4.f.vw) (fun b s5 q => ?_) fun ζ ζ x => x
 ·refine eEA (List.mem_map.mp hd) fun i hi ρ5 => ?_
  subst ρ5
  have hi := List.mem_range.mp hi
  have hTp2 := hT2.trans hTp
  have ei : (0 : Int) + (i : Int) * 2 = ((2 * i : Nat) : Int) := by lia
  have g1 : ∀ j, j < (rs.flatMap Qcq).length → ((rs.flatMap Qcq).map PyData.str)[j]? = some (.str ((rs.flatMap Qcq).getD j "")) := fun j hj => by simp [List.getD, List.getElem?_eq_getElem hj]
  have l1 : ∀ j, j < (rs.flatMap Qcq).length → ((rs.flatMap Qcq).getD j "").length ≤ 100 := fun j hj => by
   rw [show (rs.flatMap Qcq).getD j "" = (rs.flatMap Qcq)[j] by simp [List.getD, List.getElem?_eq_getElem hj]]
   exact (hw _ (List.getElem_mem hj)).l
  have q1 := l1 (2 * i) (by lia)
  have q2 := l1 (2 * i + 1) (by lia)
  unfold joinF
  rw [ei, show (intD (.int ((2 * i : Nat) : Int))).toNat = 2 * i from Int.toNat_natCast _]
  exact Qby (ct_join _ _ (by lia)) hTp2 ok (glob (.ref 159) hTp2) (EvL.cons (EvA.sub Qfv (EvA.name (.d (.list ((rs.flatMap Qcq).map .str)))) (EvA.name (.d (.int ((2 * i : Nat) : Int)))) (Qdq (by lia) (by lia) (by rw [Int.toNat_natCast]; exact g1 _ (by lia)))) (EvL.cons (EvA.sub Qfv (EvA.name (.d (.list ((rs.flatMap Qcq).map .str)))) (EvA.binop (EvA.name (.d (.int ((2 * i : Nat) : Int)))) EvA.int Qhw) (Qdq (by lia) (by lia) (by rw [show ((((2 * i : Nat) : Int)) + 1).toNat = 2 * i + 1 by lia]; exact g1 _ (by lia)))) .nil'))
 ·show Dv.d (.list (((rangeD2 rs.length).filter fun ζ => true).map (joinF (rs.flatMap Qcq)))) = _
  rw [joined_data hm]; rfl
 ·refine eA (q) fun hb k5 => ?_
  have hb := hb.bool_inv
  subst hb
  have L5 := L4.step (L4.f.kept k5) L4.x
  exact h s5 L5.k ⟨_, L5.tab⟩
end
section
variable {prog : Program} {w : World} {T : Hp} {A : Around} {E : Value → Shared → Prop} {s₀ s : Shared} {R : Flow → Shared → Prop} {ps : Array Value} {Lc : Addr} {pm : Value}
theorem law_all {script:List Int}(L:LawAt T s₀ (Qez Lc pm) #[] [("script", .d (.list (script.map .int)))] none s)(hT:T.le TW)(ok:OkA A 30)(hfr:A.frames = some [Qez Lc pm])(hsz:script.length ≤ 100000)
  (h : ∀ s', LawK s₀ s' → (∃ ps, s'.heap.get? 931 = some (PySem.W.tabObj ps)) → R (.ret (.bool true)) s') : Go prog w A (Qez Lc pm) (Qda 61) R s := by
 have rk := rows_ok script
 have ok24 : OkA A (4 + 24) := ok.le (by lia)
 have ok20 : OkA A (4 + 20) := ok.le (by lia)
 have ok22 : OkA A (4 + 22) := ok.le (by lia)
 refine law_p0 L hT (m := 4) (ok.le (by lia)) hsz fun T1 s1 hT1 L1 => ?_
 refine law_texts L1 hT1 ok20 rk fun s2 L2 => ?_
 refine law_read L2 hT1 ok20 hfr rk fun s3 L3 => ?_
 refine law_signs L3 hT1 ok20 rk fun T4 s4 c1 c2 hT4 L4 => ?_
 refine law_if7 L4 hT4 ok22 rk fun s5 L5 => ?_
 refine law_told L5 hT4 ok24 rk fun T6 s6 ps6 hT6 L6 => ?_
 refine law_loop L6 hT6 ok24 rk fun s7 L7 => ?_
 refine law_ruler L7 hT6 ok24 hsz fun s8 L8 => ?_
 refine law_cut L8 hT6 ok24 rk fun s9 L9 => ?_
 refine law_firsts L9 hT6 ok24 rk fun s10 L10 => ?_
 refine law_words L10 hT6 ok24 rk fun s11 L11 => ?_
 exact law_return L11 hT6 ok24 hfr rk h
end
noncomputable abbrev Fr0 := PySem.W.Frag
noncomputable def Qqx (K:Fr0)(a:Addr) : Value := match K.lookup a with
 | some ⟨_, _, .func fd, _⟩ => fd.pyModule
 | _ => .none
noncomputable def codeIn (K:Fr0)(c:Addr)(q:Str) : Bool := PySem.W.codeIn K (.ref c) q
theorem Qjb {α β:Type}{f g:α → β} : ∀ {l:List α}, l.map f = l.map g → ∀ a ∈ l, f a = g a
 | [], _, _, h => nomatch h
 | b :: l, e, a, h => by
  rw [List.map_cons, List.map_cons] at e
  refine eA (List.cons.inj e) fun e1 e2 => ?_
  rcases List.mem_cons.mp h with rfl | h
  ·exact e1
  ·exact Qjb e2 a h
noncomputable def rd1 (d:PyData)(v:Value) : Bool := match d with
 | .int i => (match v with | .int j _ => i == j | _ => false)
 | .none => (match v with | .none => true | _ => false)
 | .bool a => (match v with | .bool b => a == b | _ => false)
 | .str x => (match v with | .str y _ => x == y | _ => false)
 | _ => false
theorem rd1_ok {X:Addr → Prop}{h:Heap}{d:PyData}{v:Value}(e:rd1 d v = true) : Rd X h d v := by
 cases d with
 | int i => cases v with
  | int j t => cases beq_iff_eq.mp e; exact Rd.int
  | _ => cases e
 | none => cases v with
  | none => exact Rd.none
  | _ => cases e
 | bool a => cases v with
  | bool b => cases beq_iff_eq.mp e; exact Rd.bool
  | _ => cases e
 | str x => cases v with
  | str y t => cases beq_iff_eq.mp e; exact Rd.str
  | _ => cases e
 | _ => cases e
noncomputable def rdT : List PyData → List Value → Bool
 | [], vs => vs.isEmpty
 | d :: ds, vs => (match vs with | v :: vs => rd1 d v && rdT ds vs | [] => false)
theorem rdT_ok {X:Addr → Prop}{h:Heap} : ∀ (ds:List PyData)(vs:List Value), rdT ds vs = true → RdAll X h ds vs
 | [], [], _ => .nil
 | d :: ds, v :: vs, e => have e := (Bool.and_eq_true _ _).mp e; .cons (rd1_ok e.1) (rdT_ok ds vs e.2)
 | [], _ :: _, e => nomatch e
 | _ :: _, [], e => nomatch e
noncomputable def dflIn (K:Fr0)(a:Addr)(ds:List PyData) : Bool := match K.lookup a with
 | some o => o.cls == .type "tuple" && (match o.data with | .seq vs _ => rdT ds vs.toList | _ => false)
 | none => false
theorem dfl_of {K:Fr0}{h:Heap}{a:Addr}{ds:List PyData}(X:K.In h)(e:dflIn K a ds = true) : ∃ vs, h.IsTuple a vs ∧ RdAll (fun ζ => False) h ds vs.toList := by
 unfold dflIn at e
 cases hk : K.lookup a with
 | none => rw [hk] at e; cases e
 | some o =>
  rw [hk] at e
  have e := (Bool.and_eq_true _ _).mp e
  have e2 := e.2
  cases hd : o.data with
  | seq vs n => rw [hd] at e2; exact ⟨vs, ⟨o, X _ _ hk, beq_iff_eq.mp e.1, n, hd⟩, rdT_ok _ _ e2⟩
  | _ => rw [hd] at e2; cases e2
theorem code_of {K:Fr0}{h:Heap}{c:Addr}{q:Str}(X:K.In h)(e:codeIn K c q = true) : h.CodeRec (.ref c) q := PySem.W.codeRec_of X e
noncomputable def QCa (fd:FuncData) : Obj := { cls := .type "function", data := .func fd }
theorem fn_of {K:Fr0}{h:Heap}{a c:Addr}{fd:FuncData}(X:K.In h)(e:K.lookup a = some (QCa fd))(ec:fd.code = .ref c)(e2:codeIn K c fd.qualname = true) : FnAt h a fd := ⟨_, X _ _ e, rfl, ec ▸ code_of X e2⟩
theorem Qya {β:Type}{tab:List (Str × Value)}{f:Str → β}{g:Value → β}(e:tab.map (fun p => f p.1) = tab.map fun p => g p.2) : ∀ x v, tab.lookup x = some v → f x = g v := fun x v h => Qjb e (x, v) (mem_of_lookup h)
noncomputable def charT (K:Fr0) : Tok := match PySem.W.nsIn K 3 "CHAR_MAX" with
 | some (some (.int _ t)) => t
 | _ => 0
noncomputable def QGb (K:Fr0) : List (Str × Value) := ("CHAR_MAX", .int 127 (charT K)) :: ("BytesIO", .ref 498) :: glTab
noncomputable def blAll : List (Str × Value) := ("StopIteration", .type "StopIteration") :: blTab
theorem bl_boot : blAll.map (fun p => bootBuiltins p.1) = blAll.map fun p => some p.2 := by kernel_rfl!
noncomputable def Qtj (K:Fr0)(a:Addr) : Array Value := match K.lookup a with
 | some ⟨_, _, .fields vs, _⟩ => vs
 | _ => #[]
noncomputable def seqIn (K:Fr0)(a:Addr) : Array Value := match K.lookup a with
 | some ⟨_, _, .seq vs _, _⟩ => vs
 | _ => #[]
theorem fns_all {K:Fr0}{C:Addr}{fns:List (Str × Addr)}(e:fns.map (fun p => (PySem.W.findIn K (.ref C) p.1, PySem.W.typeIn K (.ref p.2))) = fns.map fun p => (some (some (.ref p.2)), some (.type "function"))) :
  ∀ p ∈ fns, PySem.W.findIn K (.ref C) p.1 = some (some (.ref p.2)) ∧ PySem.W.typeIn K (.ref p.2) = some (.type "function") := fun p hp => Prod.mk.inj (Qjb e p hp)
theorem defs_all {K:Fr0}{tab:List (Nat × Nat)}(e:tab.map (fun p => (K.lookup p.1, (Qdz p.2 (.ref (p.1 - 1)) (Qqx K p.1) .none).code, codeIn K (p.1 - 1) (Qdz p.2 (.ref (p.1 - 1)) (Qqx K p.1) .none).qualname)) = tab.map fun p => (some (QCa (Qdz p.2 (.ref (p.1 - 1)) (Qqx K p.1) .none)), .ref (p.1 - 1), true)) :
  ∀ a i, (a, i) ∈ tab → K.lookup a = some (QCa (Qdz i (.ref (a - 1)) (Qqx K a) .none)) ∧ (Qdz i (.ref (a - 1)) (Qqx K a) .none).code = .ref (a - 1) ∧ codeIn K (a - 1) (Qdz i (.ref (a - 1)) (Qqx K a) .none).qualname = true := fun a i hm => by
 refine eA (Prod.mk.inj (Qjb e (a, i) hm)) fun h1 h2 => ?_
 refine eA (Prod.mk.inj h2) fun h2 h3 => ?_
 exact ⟨h1, h2, h3⟩
theorem meth_all {K:Fr0}{tab:List (Nat × Nat × Nat × Str × Value)}(e:tab.map (fun p => (K.lookup p.1, (fdM p.2.1 p.2.2.1 p.2.2.2.1 (.ref (p.1 - 1)) (Qqx K p.1) p.2.2.2.2).code, codeIn K (p.1 - 1) (fdM p.2.1 p.2.2.1 p.2.2.2.1 (.ref (p.1 - 1)) (Qqx K p.1) p.2.2.2.2).qualname)) = tab.map fun p => (some (QCa (fdM p.2.1 p.2.2.1 p.2.2.2.1 (.ref (p.1 - 1)) (Qqx K p.1) p.2.2.2.2)), .ref (p.1 - 1), true)) :
  ∀ a i j q d, (a, i, j, q, d) ∈ tab → K.lookup a = some (QCa (fdM i j q (.ref (a - 1)) (Qqx K a) d)) ∧ (fdM i j q (.ref (a - 1)) (Qqx K a) d).code = .ref (a - 1) ∧ codeIn K (a - 1) (fdM i j q (.ref (a - 1)) (Qqx K a) d).qualname = true := fun a i j q d hm => by
 refine eA (Prod.mk.inj (Qjb e (a, i, j, q, d) hm)) fun h1 h2 => ?_
 refine eA (Prod.mk.inj h2) fun h2 h3 => ?_
 exact ⟨h1, h2, h3⟩
theorem dfl_all {K:Fr0}{tab:List (Nat × List PyData)}(e:tab.map (fun p => dflIn K p.1 p.2) = tab.map fun ζ => true) : ∀ a ds, (a, ds) ∈ tab → dflIn K a ds = true := fun a ds hm => Qjb (f := fun p : Nat × List PyData => dflIn K p.1 p.2) (g := fun ζ => true) e (a, ds) hm
structure KOk (K : Fr0) : Prop where
 gl : (QGb K).map (fun p => PySem.W.nsIn K 3 p.1) = (QGb K).map fun p => some (some p.2)
 nl : (blAll.map (·.1)).map (fun x => PySem.W.nsIn K 3 x) = (blAll.map (·.1)).map fun ζ => some none
 defs : ∀ a i, (a, i) ∈ Qnc → K.lookup a = some (QCa (Qdz i (.ref (a - 1)) (Qqx K a) .none)) ∧ (Qdz i (.ref (a - 1)) (Qqx K a) .none).code = .ref (a - 1) ∧ codeIn K (a - 1) (Qdz i (.ref (a - 1)) (Qqx K a) .none).qualname = true
 meth : ∀ a i j q d, (a, i, j, q, d) ∈ QBa → K.lookup a = some (QCa (fdM i j q (.ref (a - 1)) (Qqx K a) d)) ∧ (fdM i j q (.ref (a - 1)) (Qqx K a) d).code = .ref (a - 1) ∧ codeIn K (a - 1) (fdM i j q (.ref (a - 1)) (Qqx K a) d).qualname = true
 split : K.lookup 892 = some (QCa (Qdz 52 (.ref 891) (Qqx K 892) (.ref 885))) ∧ (Qdz 52 (.ref 891) (Qqx K 892) (.ref 885)).code = .ref 891 ∧ codeIn K 891 (Qdz 52 (.ref 891) (Qqx K 892) (.ref 885)).qualname = true
 law : K.lookup 934 = some (QCa (Qdz 61 (.ref 933) (Qqx K 934) .none)) ∧ (Qdz 61 (.ref 933) (Qqx K 934) .none).code = .ref 933 ∧ codeIn K 933 (Qdz 61 (.ref 933) (Qqx K 934) .none).qualname = true
 dfl : ∀ a ds, (a, ds) ∈ dflTab → dflIn K a ds = true
 rx1 : K.lookup 893 = some { cls := .type "builtin_function_or_method", data := .fields #[.builtin "re.Pattern.search", .ref 197] }
 rx2 : K.lookup 197 = some { cls := .type "re.Pattern", data := .fields (Qtj K 197) }
 rx3 : (Qtj K 197).getD 6 .none = rawInt 0
 rx4 : (Qtj K 197).getD 5 .none = .ref 196
 rx5 : Builtin.Re.reRawNat ((Qtj K 197).getD 2 .none) = 0
 rx6 : K.lookup 196 = some { cls := .type "tuple", data := .seq (seqIn K 196) }
 rx7 : ((seqIn K 196).map Builtin.Re.reRawOf).map (·.toNat) = Qlj
 code : PySem.W.codeHdIn K 933 931 = true
 hid : K.lookup 931 = none
 sh : ShK K
theorem Qqw {x:Str}{v:Value}{tab:List (Str × Value)} : ((x, v) :: tab).lookup x = some v := by rw [List.lookup_cons]; simp
theorem Qjc {tab:List (Str × Value)}{y:Str}{u:Value}(hy:tab.lookup y = none) : ∀ x v, tab.lookup x = some v → ((y, u) :: tab).lookup x = some v := fun x v e => by
 rw [List.lookup_cons]
 by_cases h : (x == y) = true
 ·have := beq_iff_eq.mp h
  subst this
  rw [hy] at e; cases e
 ·rw [Bool.not_eq_true] at h
  rw [h]; exact e
theorem ns_hide {h:Heap}{a b:Addr}{m:Str → Option Value}(hn:h.Ns a m)(hab:a ≠ b) : (h.hide b).Ns a m := hn.at' fun o e => by rw [Heap.hide_ne _ hab]; exact e
section
variable {K : Fr0} {h : Heap} {p : Program} {loose : List Str} {mean : ExcName → Option Value} {mg mb : Str → Option Value}
theorem KOk.hide (k:KOk K)(X:K.In h) : K.In (h.hide 931) := fun a o e => by
 have ne : a ≠ 931 := fun q => by rw [q, k.hid] at e; cases e
 rw [Heap.hide_ne _ ne]
 exact X a o e
theorem tw_of (k:KOk K)(X:K.In h)(h931:h.get? 931 = some (PySem.W.tabObj #[]))(T:Top p loose mean mg mb h) : TW.p h := by
 have X' := k.hide X
 have G : (h.hide 931).Ns mainGlobals mg := ns_hide T.g (by decide)
 have B : (h.hide 931).Ns builtinsNs mb := ns_hide T.b (by decide)
 have hgl : ∀ x v, (QGb K).lookup x = some v → mg x = some v := fun x v e => PySem.W.mg_of X T.g (Qya (f := PySem.W.nsIn K 3) (g := fun v => some (some v)) k.gl x v e)
 have hnl : ∀ x v, blAll.lookup x = some v → mg x = none := fun x v e => PySem.W.ns_none_of X T.g (Qjb k.nl x (List.mem_map.mpr ⟨(x, v), mem_of_lookup e, rfl⟩))
 have hbl : ∀ x v, blAll.lookup x = some v → mb x = some v := fun x v e => by
  rw [T.builtins x (fun q => by rw [q, show blAll.lookup (Str.ofString "__name__") = none from by kernel_rfl!] at e; cases e)]
  exact Qya (f := bootBuiltins) (g := some) bl_boot x v e
 have tn : ∀ gl bl, (∀ x v, gl.lookup x = some v → (QGb K).lookup x = some v) → (∀ x v, bl.lookup x = some v → blAll.lookup x = some v) → Tn gl bl (h.hide 931) := fun gl bl h1 h2 =>
  ⟨⟨mg, G, fun x v e => hgl x v (h1 x v e), fun x v e => hnl x v (h2 x v e)⟩, ⟨mb, B, fun x v e => hbl x v (h2 x v e)⟩⟩
 have g0 : ∀ x v, glTab.lookup x = some v → (QGb K).lookup x = some v := fun x v e => Qjc (tab := ("BytesIO", .ref 498) :: glTab) (by kernel_rfl!) x v (Qjc (tab := glTab) (by kernel_rfl!) x v e)
 have b0 : ∀ x v, blTab.lookup x = some v → blAll.lookup x = some v := Qjc (by kernel_rfl!)
 have g1 : ∀ x v, ([("BytesIO", .ref 498)] : List (Str × Value)).lookup x = some v → (QGb K).lookup x = some v := fun x v e => by
  rw [List.lookup_cons] at e
  by_cases q : (x == ("BytesIO" : Str)) = true
  ·rw [q] at e; cases e
   obtain rfl := beq_iff_eq.mp q
   exact Qjc (tab := ("BytesIO", .ref 498) :: glTab) (by kernel_rfl!) _ _ Qqw
  ·rw [Bool.not_eq_true] at q
   rw [q] at e; cases e
 have g2 : ∀ x v, ((("CHAR_MAX", .int 127 (charT K)) :: glTab) : List (Str × Value)).lookup x = some v → (QGb K).lookup x = some v := fun x v e => by
  rw [List.lookup_cons] at e
  by_cases q : (x == ("CHAR_MAX" : Str)) = true
  ·rw [q] at e
   unfold QGb
   rw [List.lookup_cons, q]; exact e
  ·rw [Bool.not_eq_true] at q
   rw [q] at e
   exact g0 x v e
 have b1 : ∀ x v, ([("StopIteration", .type "StopIteration")] : List (Str × Value)).lookup x = some v → blAll.lookup x = some v := fun x v e => by
  rw [List.lookup_cons] at e
  unfold blAll
  rw [List.lookup_cons]
  by_cases q : (x == ("StopIteration" : Str)) = true
  ·rw [q] at e ⊢; exact e
  ·rw [Bool.not_eq_true] at q
   rw [q] at e; cases e
 refine eEA (T.nolimit) fun mc hmc hlim => ?_
 have tz : Tzp (h.hide 931) := by
  refine ⟨⟨tn _ _ g0 b0, ⟨mc, ns_hide hmc (by decide), hlim⟩, fun a i hm => ?_⟩, tn _ _ g1 b1, fun a ds hm => dfl_of X' (k.dfl a ds hm), ⟨⟨_, X' _ _ k.rx1, rfl, rfl⟩, ⟨_, _, X' _ _ k.rx2, rfl, rfl, k.rx3, k.rx4, k.rx5⟩, ⟨_, _, _, X' _ _ k.rx6, rfl, k.rx7⟩⟩, ⟨charT K, tn _ _ g2 b0⟩, ⟨K, X', k.sh⟩, fun a i j q d hm => ?_, ?_⟩
  ·refine eAA (k.defs a i hm) fun e1 e2 e3 => ?_
   exact ⟨Qqx K a, fn_of X' e1 e2 e3⟩
  ·refine eAA (k.meth a i j q d hm) fun e1 e2 e3 => ?_
   exact ⟨Qqx K a, fn_of X' e1 e2 e3⟩
  ·refine eAA (k.split) fun e1 e2 e3 => ?_
   exact ⟨Qqx K 892, fn_of X' e1 e2 e3⟩
 obtain ⟨bm, ob, c1, c2, c3, c4, c5, c6⟩ := T.bmain
 have n931 : bm ≠ 931 := fun q => by
  rw [q, h931] at c3; cases c3; cases c4
 have n3 : bm ≠ mainGlobals := fun q => by
  refine Qgz (T.g) fun o es ep e hd ζ => ?_
  rw [q, e] at c3; cases c3; rw [hd] at c6; cases c6
 exact ⟨⟨tz, PySem.W.codeHd_of_K X' k.code, mg, G, bm, ob, c1, c2, n3, n931, by rw [Heap.hide_ne _ n931]; exact c3, c4, c5, c6⟩, ⟨_, h931⟩⟩
end
end Mine
namespace Mine
open PySem PySem.Spec PySem.Calls PyProof.Rows
section
variable {prog : Program} {w : World} {E : Value → Shared → Prop} {s : Shared} {Q : Value → Shared → Prop}
theorem law_call {script:List Int}{pm v:Value}(hf:FnAt s.heap 934 (Qdz 61 (.ref (934 - 1)) pm .none))(ht:TW.p s.heap)(htab:s.heap.get? 931 = some (PySem.W.tabObj #[]))(hv:(Dv.d (.list (script.map .int))).p TW.X s.heap v)(hsz:script.length ≤ 100000)
  (h : ∀ s', LawK s s' → (∃ ps, s'.heap.get? 931 = some (PySem.W.tabObj ps)) → Q (.bool true) s') : wpAny (model prog w) callerA (call (.ref 934) [v]) Q E s := by
 have ok : OkA callerA (30 + 1) := ⟨rfl, by decide, by decide⟩
 refine QHy (T := TW) (W := noW) (body := Qda 61) (names := ["script"]) (as := [.d (.list (script.map .int))]) (n := 30) hf ok (TWp.p _ ht).lim ht (fun b q => q.elim) ⟨v, [], rfl, hv, rfl⟩ (by kernel_rfl!) (by kernel_rfl!) (by decide +kernel) (by kernel_rfl!) rfl (fun z hz => ?_) (by kernel_rfl!) (by kernel_rfl!) (by kernel_rfl!) (fun s₁ F ok' => ?_)
 ·rw [List.mem_singleton.mp hz]; exact .inl (by kernel_rfl!)
 have hT : (TW.push (Qba (callEnvC (Qdz 61 (.ref (934 - 1)) pm .none) s.heap.objs.size 934))).le TW := Hp.push_le _ _
 have hx : (TW.push (Qba (callEnvC (Qdz 61 (.ref (934 - 1)) pm .none) s.heap.objs.size 934))).X 931 := .inl rfl
 generalize TW.push (Qba (callEnvC (Qdz 61 (.ref (934 - 1)) pm .none) s.heap.objs.size 934)) = T at F hT hx
 have hkt : Kp s.heap s₁.heap := fun b o e => F.kt.kp.kp b o (fun q => q) e
 have L : LawAt T s (Qez s.heap.objs.size pm) #[] [("script", .d (.list (script.map .int)))] none s₁ := by
  refine ⟨F.rebase0, ?_, fun b hb => ?_, hx, hkt _ _ htab, ⟨_, htab⟩⟩
  ·refine Qfw (F.kt.of) fun h' tk e k => ?_
   exact ⟨h', tk, s.gens, e, k.wider fun b q => q.elim, fun q => q⟩
  ·rcases hb with rfl | ⟨n, hc⟩ | ⟨ds, e⟩
   ·exact F.lo.resolve_left fun q => q
   ·exact (F.cells n b hc).2.1.resolve_left fun q => q
   ·cases e
 exact law_all L hT ok' rfl hsz fun s' k t => h s' k t
end
open PySem.W in
theorem Qyc {R:WRecords} : ∀ {xs:List WData}, WShape.hasItems R xs .int = true → ∃ is : List Int, xs = is.map .int
 | [], _ => ⟨[], rfl⟩
 | x :: xs, h => by
  have h' : WShape.has R x .int = true ∧ WShape.hasItems R xs .int = true := by simpa [WShape.hasItems] using h
  refine eE (hasW_int h'.1) fun i ρ0 => ?_
  subst ρ0
  refine eE (Qyc h'.2) fun is ρ1 => ?_
  subst ρ1
  exact ⟨i :: is, rfl⟩
open PySem.W in
theorem QGv {R:WRecords}{cl:Str → Option Addr}{X:Addr → Prop}{h:Heap} : ∀ (is:List Int)(vs:List Value)(as:List Addr), ReadsAllW R cl h vs (is.map WData.int) as → RdAll X h (is.map PyData.int) vs
 | [], vs, as, r => by cases r; exact .nil
 | i :: is, vs, as, r => eEEEEAAA (readsAllW_cons_inv r) fun v vs' a1 a2 e ζ r1 r2 => eEA (readsW_int_inv r1) fun t e2 ζ => by
  rw [e, e2]; exact .cons Rd.int (QGv is _ _ r2)
open PySem.W in
theorem read_script {R:WRecords}{cl:Str → Option Addr}{X:Addr → Prop}{h:Heap}{is:List Int}{vals:List Value}{as:List Addr}(r:ReadsAllW R cl h vals [WData.list (is.map WData.int)] as) :
  ∃ (a : Addr) (o : Obj) (vs : Array Value) (n : Nat), vals = [.ref a] ∧ h.get? a = some o ∧ o.cls = .type "list" ∧ o.data = .seq vs n ∧ RdAll X h (is.map PyData.int) vs.toList := by
 refine eEEEEAAA (readsAllW_cons_inv r) fun v vs' a1 a2 e ζ r1 r2 => ?_
 refine eEEEEEAAAAA (readsW_list_open r1) fun l o its n ai e1 ho hc hd ra ζ => ?_
 exact ⟨l, o, its, n, by rw [e, e1, (readsAllW_nil_inv r2).1], ho, hc, hd, QGv is _ _ ra⟩
section
open PySem.W
variable {K : Fr0} {p : Program} {loose : List Str} {XP : (Str → Option Value) → Heap → Prop}
theorem law_walk (w:World)(s₀ s₁:Shared)(mg mb:Str → Option Value)(k:KOk K)(X:K.In s₁.heap)(h931:s₁.heap.get? 931 = some (tabObj #[]))(T:Top p loose (ExcName.means s₀.heap) mg mb s₁.heap)(hlaw:nsIn K 3 "law" = some (some (.ref 934)))
  {a : Addr} (hmg : mg "law" = some (.ref a)) (hg : s₁.gens = #[]) (args : List WData) (vals : List Value) (as : List Addr) (hpre : PySem.Challenge.rw_rt0110_01.row.toRowW.claim.pre args = true) (hrd : ReadsAllW PySem.Challenge.rw_rt0110_01.row.toRowW.records (classAt s₀.heap) s₁.heap vals args as) :
  wpAny (model PySem.Challenge.rw_rt0110_01.row.toRowW.prog w) callerA (call (.ref a) vals) (fun v s' => GoodWG PySem.Challenge.rw_rt0110_01.row.toRowW.claim (classAt s₀.heap) (ExcName.means s₀.heap) args s₁ (.ok (.ret v)) s')
   (fun e s' => GoodWG PySem.Challenge.rw_rt0110_01.row.toRowW.claim (classAt s₀.heap) (ExcName.means s₀.heap) args s₁ (.error e) s') s₁ := by
 cases (mg_of X T.g hlaw).symm.trans hmg
 have ht := tw_of k X h931 T
 have hsh : WShape.hasAll [] args [.list .int] = true := (pre_splitW hpre).1
 have hcond := (pre_splitW hpre).2
 refine Qac (hasAllW_cons hsh) fun d r ρ2 h1 h2 => ?_
 subst ρ2
 obtain rfl := hasAllW_nil h2
 refine eEA (hasW_list h1) fun xs ρ3 h3 => ?_
 subst ρ3
 refine eE (Qyc h3) fun is ρ4 => ?_
 subst ρ4
 have hq := (holds_andW (a := .not (.lt (.lit (.int 63)) (.len (.arg 0)))) (b := .lit (.bool true)) hcond).1
 have hq2 := condW_of hq (by wtm_val)
 have hlen : is.length ≤ 63 := by
  have : (is.length : Int) ≤ 63 := by simpa using hq2
  lia
 refine eAA (k.law) fun e1 e2 e3 => ?_
 have hf : FnAt s₁.heap 934 (Qdz 61 (.ref (934 - 1)) (Qqx K 934) .none) := fn_of X e1 e2 e3
 refine eEEEEA (read_script (X := TW.X) hrd) fun a o vs n e0 q => ?_
 subst e0
 refine Qwb q fun ho hc hd hr => ?_
 have hne : ¬ TW.X a := fun q => by
  have q : a = 931 := q
  rw [q, h931] at ho; cases ho; cases hc
 refine law_call hf ht h931 (v := .ref a) (Dv.p.list hne ⟨o, ho, hc, n, hd⟩ hr) (by lia) fun s' kk kt => ?_
 refine Qgz (kk.of) fun h' tk gs ρ5 kp kg => ?_
 subst ρ5
 refine eE (kt) fun ps hps => ?_
 have tb := TWb ht
 refine ⟨.inl ⟨.bool true, .bool true, [], rfl, fun cls => rfl, .bool true, ?_, fun ζ => ⟨List.nodup_nil, fun a ha => nomatch ha⟩⟩, ⟨fun b o e => ?_, fun b o e => kp.live b ⟨o, e⟩⟩, rfl, kg ?_⟩
 ·exact postW_of (by wrow_shape) (by wtm_val) (by rfl)
 ·by_cases hb : b = 931
  ·subst hb
   rw [h931] at e; cases e
   exact .inr (.inl ⟨(tb.code.tab h931).isCodeTable, rfl, #[], ps, rfl, by rw [Array.empty_append]; exact hps⟩)
  ·exact .inl (kp.kp b o hb e)
 ·rw [hg]; exact fun y hy => absurd hy (Array.not_mem_empty y)
end
end Mine
namespace Mine.hd
def tw12741089750243290036:=Nat
def tw6307454563268704420:=Nat
def tw2867327485932766208:=Nat
def tw4971549296188076032:=Nat
def tw8735263284916673568:=Nat
def tw1800889605409440832:=Nat
def tw546821695630378048:=Nat
def tw4523669819894539328:=Nat
def tw6276725880618359904:=Nat
def tw13155780701260043360:=Nat
def tw17470177872615007328:=Nat
def tw16412773359747925120:=Nat
def tw5292301768408028288:=Nat
def tw10195207025132199040:=Nat
def tw17950676927832955104:=Nat
def tw10458740792067480800:=Nat
def tw17956543221229664512:=Nat
def tw16759147789766475008:=Nat
def tw11595982170579460384:=Nat
def tw10259988299927297344:=Nat
def tw8381844023166312768:=Nat
def tw17387473266821786944:=Nat
def tw10763509664835889504:=Nat
def tw8912348807662434688:=Nat
def tw7023726343779634624:=Nat
def tw9927179837433541088:=Nat
def tw8134915037123179040:=Nat
def tw3911173418732280352:=Nat
def tw15344866539931968096:=Nat
def tw1359830224848277088:=Nat
def tw4494801613693538912:=Nat
def tw4946210868454251104:=Nat
def tw7541792107247259296:=Nat
def tw12070654863422294720:=Nat
def tw16154546982801380032:=Nat
def tw9614397579173300960:=Nat
def tw4730091804998409952:=Nat
def tw16694946328126371552:=Nat
def tw15643275761693703936:=Nat
def tw5715356086224469760:=Nat
def tw10224846074564989696:=Nat
def tw17183224562656869120:=Nat
def tw15278966056882409248:=Nat
def tw3887682987991473952:=Nat
def tw4958948430592982816:=Nat
def tw5983496337302601536:=Nat
def tw16635604280276938560:=Nat
def tw3350930974749635488:=Nat
def tw10026777125879992224:=Nat
def tw14598272352848978880:=Nat
def tw10752148897807903841:=Nat
def tw6636792957720756321:=Nat
def tw7691918140598264929:=Nat
def tw12127338746724423809:=Nat
def tw7610815399733428385:=Nat
def tw10403243965636340961:=Nat
def tw13129650132239662433:=Nat
def tw12629531694177875297:=Nat
def tw16858285156579221889:=Nat
def tw11832316714811090305:=Nat
def tw4111692666942324129:=Nat
def tw7502839427082130881:=Nat
def tw9429285754427346401:=Nat
def tw7512474625130614241:=Nat
def tw15220180469806662145:=Nat
def tw2315301623876862497:=Nat
def tw17336936450418997793:=Nat
def tw4367455430839740993:=Nat
def tw18343703819029505601:=Nat
def tw8773699223549846113:=Nat
def tw13585648185636399713:=Nat
def tw10678649693572172417:=Nat
def tw13330244855972007585:=Nat
def tw2371736936440567457:=Nat
def tw2799716289819351777:=Nat
def tw5343241284826551009:=Nat
def tw16547865195752855329:=Nat
def tw13218659294841961345:=Nat
def tw6046454685291232161:=Nat
def tw8887996145723391905:=Nat
def tw954383436051774369:=Nat
def tw12602439190401603521:=Nat
def tw7914949630228597729:=Nat
def tw2505046432360240130:=Nat
def tw11210553801493137410:=Nat
def tw10905682514733158466:=Nat
def tw5480042469492414594:=Nat
def tw6308581086252854402:=Nat
def tw4210835263042620578:=Nat
def tw6216614200119509154:=Nat
def tw9731375825926819010:=Nat
def tw4272726840584523970:=Nat
def tw13171141561276507362:=Nat
def tw9430268157657104642:=Nat
def tw13919464512627920130:=Nat
def tw12936449754285732098:=Nat
def tw9299316483162031394:=Nat
def tw12337632362937886050:=Nat
def tw3478764184967624034:=Nat
def tw758273949599710562:=Nat
def tw17588044629489971554:=Nat
def tw14725821394091407714:=Nat
def tw11052946933831473538:=Nat
def tw11713075325732132258:=Nat
def tw4355604671862981090:=Nat
def tw7492944070806833698:=Nat
def tw5781342201191254626:=Nat
def tw7031273417212677730:=Nat
def tw5549315172176941698:=Nat
def tw4521580383011477154:=Nat
def tw15064902949301533346:=Nat
def tw4125931394999656194:=Nat
def tw5190246844813560578:=Nat
def tw1448358952932078338:=Nat
def tw7525542149764818722:=Nat
def tw14446474709323646786:=Nat
def tw17088974140843591490:=Nat
def tw9960721518486171458:=Nat
def tw16443024508289211202:=Nat
def tw4581847759332874082:=Nat
def tw16052320808349706082:=Nat
def tw5360435025570183010:=Nat
def tw11194669416261925730:=Nat
def tw10365702040365258594:=Nat
def tw17895171251205151618:=Nat
def tw8450674356893351874:=Nat
def tw18203504233945503714:=Nat
def tw18245042118932799458:=Nat
def tw17994825080979385314:=Nat
def tw8179070454071193570:=Nat
def tw8531993380330477603:=Nat
def tw15618049606547972131:=Nat
def tw5378308252288859171:=Nat
def tw12364972598781006883:=Nat
def tw8228950375871286339:=Nat
def tw6052482589124101219:=Nat
def tw17325209927041812611:=Nat
def tw9048539425550374019:=Nat
def tw5318216170032084099:=Nat
def tw2304311442786299043:=Nat
def tw12704988097186499811:=Nat
def tw16904818350239718627:=Nat
def tw18322514126500204803:=Nat
def tw17130151131035750659:=Nat
def tw15924899543223041283:=Nat
def tw1033889070964956483:=Nat
def tw3229955645248102723:=Nat
def tw2783992281797965187:=Nat
def tw867598499069673859:=Nat
def tw19140548474820995:=Nat
def tw11754176132448286083:=Nat
def tw6411954120941647267:=Nat
def tw4282359134580295075:=Nat
def tw1760603350576429475:=Nat
def tw13368278939475635651:=Nat
def tw17087091549796120035:=Nat
def tw12453114486196615683:=Nat
def tw4878824753759274627:=Nat
def tw3504079246686126755:=Nat
def tw9153386212771759811:=Nat
def tw17002781174329755331:=Nat
def tw11513968764499736323:=Nat
def tw9908193460736022307:=Nat
def tw5138769234217329475:=Nat
def tw2480057099694739299:=Nat
def tw11631947586910100387:=Nat
def tw11629707937479629763:=Nat
def tw519851828213033955:=Nat
def tw17843490464661113860:=Nat
def tw16477043939570097188:=Nat
def tw14859038896228082724:=Nat
def tw6060742912462422084:=Nat
def tw6320253292602491972:=Nat
def tw14896477498954680388:=Nat
def tw8269573656231971908:=Nat
def tw6407587892757256292:=Nat
def tw17696971302532935780:=Nat
def tw8990031805342692484:=Nat
def tw5278057926702712004:=Nat
def tw10841399608879689956:=Nat
def tw457024733287443684:=Nat
def tw10507497572311344420:=Nat
def tw14892549342360969540:=Nat
def tw13855946660403688772:=Nat
def tw9330943631129107780:=Nat
def tw8068729725432388964:=Nat
def tw3132252637357597028:=Nat
def tw3722166409189360004:=Nat
def tw18358800413957953924:=Nat
def tw7676003278276379012:=Nat
def tw3219085151875037572:=Nat
def tw18235699687725533636:=Nat
def tw1445366717492459972:=Nat
def tw11465210709893060100:=Nat
def tw12861998865439983172:=Nat
def tw8493152586797012548:=Nat
def tw10949625832625181284:=Nat
def tw469108185253701220:=Nat
def tw5732804406350252772:=Nat
def tw9990345226319884068:=Nat
def tw17583924267553061668:=Nat
def tw7076163891533521732:=Nat
def tw8684328023851190084:=Nat
def tw22944897461248836:=Nat
def tw18241275227582772068:=Nat
def tw8458067239894703972:=Nat
def tw3789350110615891812:=Nat
def tw6800881396052196260:=Nat
def tw14991384322417631237:=Nat
def tw13931416462566266981:=Nat
def tw13122850982685727845:=Nat
def tw8356816923877370021:=Nat
def tw2729298822523640997:=Nat
def tw8881176148764397765:=Nat
def tw12414669353804360901:=Nat
def tw4074112789689628901:=Nat
def tw12945869327102554373:=Nat
def tw11375277706881905925:=Nat
def tw4292457097857839397:=Nat
def tw6305734824756694309:=Nat
def tw3405361230339686725:=Nat
def tw9702936160620672325:=Nat
def tw11893437276241958245:=Nat
def tw15910714762333108613:=Nat
def tw12399718760709695909:=Nat
def tw4021928978595405253:=Nat
def tw5976792059365374437:=Nat
def tw1847840615245081061:=Nat
def tw7721951785955056133:=Nat
def tw11623594800819314181:=Nat
def tw8293946417935249925:=Nat
def tw10802023610386388517:=Nat
def tw12642813592246648485:=Nat
def tw9842699097658496709:=Nat
def tw15381450162410889989:=Nat
def tw11251137523995926341:=Nat
def tw10031445930688152421:=Nat
def tw6438293893037913957:=Nat
def tw15637593595834871717:=Nat
def tw5505005885091257285:=Nat
def tw9726439670489285605:=Nat
def tw17491280204586788870:=Nat
def tw13475242022060392486:=Nat
def tw2562236817408797766:=Nat
def tw13181700845877081190:=Nat
def tw16692772259055178886:=Nat
def tw5363428345988834438:=Nat
def tw10583446816852156582:=Nat
def tw13466754112058979494:=Nat
def tw5899666649113621702:=Nat
def tw3484992998616243462:=Nat
def tw7628703163842673926:=Nat
def tw8472141830624432390:=Nat
def tw8268277133935991078:=Nat
def tw5516785719162176838:=Nat
def tw16211521421427940678:=Nat
def tw212345690472687942:=Nat
def tw7523672394736509286:=Nat
def tw3673020696563887462:=Nat
def tw13092906067662860646:=Nat
def tw11778180911958503814:=Nat
def tw102014493982917126:=Nat
def tw13066319289922817542:=Nat
def tw8311865607074365958:=Nat
def tw3795277891434052102:=Nat
def tw10424393626065333798:=Nat
def tw2295870552580634182:=Nat
def tw6988595667528144454:=Nat
def tw17258206423299326598:=Nat
def tw11180023125335031430:=Nat
def tw2195365466389143174:=Nat
def tw13903934854276604550:=Nat
def tw1865391376527767206:=Nat
def tw1506431575118746342:=Nat
def tw2315468765258864358:=Nat
def tw8990313861142287110:=Nat
def tw11587034568685482758:=Nat
def tw13893168526513508166:=Nat
def tw7153062008950511462:=Nat
def tw6014424301940151174:=Nat
def tw9386895884608548742:=Nat
def tw8934143017859847078:=Nat
def tw18152756486534528934:=Nat
def tw5978321128707920903:=Nat
def tw5574845727924001799:=Nat
def tw1256466517863071783:=Nat
def tw17101829828953933863:=Nat
def tw15043168886218598503:=Nat
def tw16641143254114907239:=Nat
def tw10844753989422098599:=Nat
def tw15683763237869141255:=Nat
def tw17919194246423945575:=Nat
def tw10819331528351526247:=Nat
def tw17062030032774818151:=Nat
def tw11845739042510646663:=Nat
def tw8977307856219701671:=Nat
def tw16133100035791441351:=Nat
def tw14612060388864693735:=Nat
def tw5635641802508607975:=Nat
def tw12659318050587179527:=Nat
def tw2394040479862359591:=Nat
def tw3109861748172591687:=Nat
def tw18235018827726667335:=Nat
def tw9557236495431379559:=Nat
def tw13280443560766958183:=Nat
def tw12058812876911547015:=Nat
def tw10849272910044215975:=Nat
def tw17969167859971792583:=Nat
def tw7068711184596962023:=Nat
def tw11660266114150955751:=Nat
def tw16246848685605474055:=Nat
def tw8960069828448710407:=Nat
def tw17672654358674132775:=Nat
def tw9600117475790353255:=Nat
def tw7028611270464810887:=Nat
def tw701787995468756871:=Nat
def tw5405509625223553959:=Nat
def tw16138627921320673191:=Nat
def tw13825103770533428167:=Nat
def tw14898422612600400839:=Nat
def tw15001097145646765096:=Nat
def tw4282304852377368616:=Nat
def tw7372000682148998216:=Nat
def tw4091639524402994376:=Nat
def tw11126320352707459272:=Nat
def tw8671608845466749128:=Nat
def tw10286656452748174568:=Nat
def tw13642289790063256904:=Nat
def tw8197050154876552520:=Nat
def tw17570734847185409352:=Nat
def tw16920754564084929960:=Nat
def tw13562760996464443880:=Nat
def tw16914215919094292968:=Nat
def tw12949589719889679912:=Nat
def tw9312999139381119592:=Nat
def tw5464967688985200232:=Nat
def tw18268791191939849864:=Nat
def tw2708950531961675432:=Nat
def tw4642405928176397000:=Nat
def tw4297731678662094536:=Nat
def tw162610821266807592:=Nat
def tw16605896050852369192:=Nat
def tw18252017834820373320:=Nat
def tw4870687313549177768:=Nat
def tw17975533764899295144:=Nat
def tw6627881031435992008:=Nat
def tw7792395482447073224:=Nat
def tw11011131195910976488:=Nat
def tw16376525773666504680:=Nat
def tw3259873300814134281:=Nat
def tw14455951116651862057:=Nat
def tw9850052858527491113:=Nat
def tw189712035060473897:=Nat
def tw7174315439194531881:=Nat
def tw2040990291671593033:=Nat
def tw17066044127408595049:=Nat
def tw12565835363266740329:=Nat
def tw14567429538950270057:=Nat
def tw18166333605607142505:=Nat
def tw18291330726469416073:=Nat
def tw4527685146903026889:=Nat
def tw667654701330200809:=Nat
def tw11841407262063887625:=Nat
def tw8652628183442184457:=Nat
def tw10788059911547816233:=Nat
def tw15733006570335763817:=Nat
def tw9244321171653502345:=Nat
def tw11729958736954745289:=Nat
def tw8479784124755550697:=Nat
def tw1129884963351977449:=Nat
def tw8184699220007379433:=Nat
def tw15054049728407801353:=Nat
def tw137786328141462057:=Nat
def tw12211380539166087753:=Nat
def tw14579804019780415049:=Nat
def tw5009564483982726761:=Nat
def tw567884609423149705:=Nat
def tw17925215291927510665:=Nat
def tw14040608126747316905:=Nat
def tw663384727985864361:=Nat
def tw9627899436633539337:=Nat
def tw10258225898301398825:=Nat
def tw243823211424636713:=Nat
def tw9009610825154827081:=Nat
def tw14817486215969520457:=Nat
def tw2580477087445282633:=Nat
def tw12669576375859063689:=Nat
def tw9566141503761928105:=Nat
def tw14189342980343032745:=Nat
def tw5148922909946612681:=Nat
def tw11407884054146074569:=Nat
def tw18370931923303237609:=Nat
def tw714852897916480489:=Nat
def tw3915529967508079626:=Nat
def tw15042006015671813226:=Nat
def tw6906073325868019850:=Nat
def tw16009884308244765898:=Nat
def tw7120233287515763914:=Nat
def tw10778257442750969130:=Nat
def tw9406673726873002282:=Nat
def tw7626941382939369770:=Nat
def tw16794629799341752650:=Nat
def tw7654286748164834634:=Nat
def tw5416991563250132298:=Nat
def tw4383666589626881386:=Nat
def tw9983995961361265002:=Nat
def tw17447410573909459338:=Nat
def tw9864973744126774698:=Nat
def tw13616292390063288746:=Nat
def tw33583606019346890:=Nat
def tw15337868472472888810:=Nat
def tw242841246431481386:=Nat
def tw15591429051563716170:=Nat
def tw10603584201595350602:=Nat
def tw4360684699965382250:=Nat
def tw10170382586518783626:=Nat
def tw656455966557771466:=Nat
def tw500953250457666378:=Nat
def tw1809687716253123402:=Nat
def tw4975429006339234634:=Nat
def tw4478964076566166474:=Nat
def tw17737187407176874954:=Nat
def tw12112201142124510154:=Nat
def tw11248203148988284874:=Nat
def tw9271970288684553227:=Nat
def tw6769732088879122475:=Nat
def tw5513025101015932971:=Nat
def tw8244733829118024811:=Nat
def tw3443669649825651883:=Nat
def tw9449672872311958731:=Nat
def tw12832683148521936107:=Nat
def tw14776966858535155947:=Nat
def tw18176940659606848779:=Nat
def tw17628472586750557451:=Nat
def tw6449127861642672459:=Nat
def tw17070941380808615275:=Nat
def tw9170477692918782315:=Nat
def tw10030107230732127627:=Nat
def tw15463257786427224491:=Nat
def tw1511243299971373483:=Nat
def tw3196170801527574987:=Nat
def tw1893913032611223051:=Nat
def tw313027258313007627:=Nat
def tw6683769817339685419:=Nat
def tw7534799579077118603:=Nat
def tw9741134391959003819:=Nat
def tw15089522573102190283:=Nat
def tw14333710738500927179:=Nat
def tw5534113831511101195:=Nat
def tw9748044761591592747:=Nat
def tw8727321023445011275:=Nat
def tw2999033326186475339:=Nat
def tw8242931771332617035:=Nat
def tw6196171512934965099:=Nat
def tw8716120427605611371:=Nat
def tw16896567674234606475:=Nat
def tw978945382295711627:=Nat
def tw5306076463120387019:=Nat
def tw7640094616464845771:=Nat
def tw15033227074091944939:=Nat
def tw6264232113106981867:=Nat
def tw12353913968525425643:=Nat
def tw2011083257458950123:=Nat
def tw8931695957890008076:=Nat
def tw4136554803537287180:=Nat
def tw8151903124980380684:=Nat
def tw16870090452748662828:=Nat
def tw1836080755315867724:=Nat
def tw6394381022753523788:=Nat
def tw17780371330241143884:=Nat
def tw13217827037086042188:=Nat
def tw12647368939536790636:=Nat
def tw3922637787740509324:=Nat
def tw1535757262459896012:=Nat
def tw17679848547673146604:=Nat
def tw5667655126489319660:=Nat
def tw7867956165831070988:=Nat
def tw8977460988437922124:=Nat
def tw16299908979028503884:=Nat
def tw12092154237167983948:=Nat
def tw2930668341846507884:=Nat
def tw15856727013471470956:=Nat
def tw5535567543195554156:=Nat
def tw17711083657039698284:=Nat
def tw14454528878903484812:=Nat
def tw6957150274394394060:=Nat
def tw12575139184659369484:=Nat
def tw5873113503399164460:=Nat
def tw15687388767607454252:=Nat
def tw4961882463931974252:=Nat
def tw5130813555471234732:=Nat
def tw5322579261384874668:=Nat
def tw8004679753235328684:=Nat
def tw15923250282426842828:=Nat
def tw17948085552500728524:=Nat
def tw7270182246851987180:=Nat
def tw12588582704262371052:=Nat
def tw9459050058782445324:=Nat
def tw14683707025165767436:=Nat
def tw10292235466723388172:=Nat
def tw6819123309680001836:=Nat
def tw15368132723985388332:=Nat
def tw12023040214023829324:=Nat
def tw16171809288044610508:=Nat
def tw10781468475247234061:=Nat
def tw16558851475291246605:=Nat
def tw6374767894290048045:=Nat
def tw15837987909243819085:=Nat
def tw1409312971732116557:=Nat
def tw5010264101278932077:=Nat
def tw12254263087357419629:=Nat
def tw11775305588321162381:=Nat
def tw4833718069199227053:=Nat
def tw16332348944364537037:=Nat
def tw6877226645827823821:=Nat
def tw1013155817946168525:=Nat
def tw13628142620392400109:=Nat
def tw15074197538484233485:=Nat
def tw14060237666301923597:=Nat
def tw11942693397608355085:=Nat
def tw14743440263598761229:=Nat
def tw13321331477185743149:=Nat
def tw1820180628909398317:=Nat
def tw11415386828835887437:=Nat
def tw16919406825032445293:=Nat
def tw16345102440705955213:=Nat
def tw8457440626546761165:=Nat
def tw17386561741084979693:=Nat
def tw4377701919642642989:=Nat
def tw3404104791013757517:=Nat
def tw16828841361933241965:=Nat
def tw6184208073178115725:=Nat
def tw13172843250190940813:=Nat
def tw5036846961687405229:=Nat
def tw15931116738044738221:=Nat
def tw1617838721645859501:=Nat
def tw12976082216212581069:=Nat
def tw4734902545126651661:=Nat
def tw4068527845204499245:=Nat
def tw17606422857730326317:=Nat
def tw14843932521221968749:=Nat
def tw11249132867342737325:=Nat
def tw10404513684093684653:=Nat
def tw13929354066492186541:=Nat
def tw1088296927520436173:=Nat
def tw16156708551869547534:=Nat
def tw10614716105012338702:=Nat
def tw12175748835895409678:=Nat
def tw11801993109049149486:=Nat
def tw9398405308114057262:=Nat
def tw9262713555522148398:=Nat
def tw14980023328507725902:=Nat
def tw11968265576560266318:=Nat
def tw14078009766183191694:=Nat
def tw14444963742821833902:=Nat
def tw12232750017996463310:=Nat
def tw15384028259256376558:=Nat
def tw17076082267592564974:=Nat
def tw14294001040229213422:=Nat
def tw14914937398881237230:=Nat
def tw5715734110848049390:=Nat
def tw4654797750381630734:=Nat
def tw17989097746536338734:=Nat
def tw17311223219408574766:=Nat
def tw17649441919526076750:=Nat
def tw678209747344391502:=Nat
def tw10203026625882799534:=Nat
def tw5850991567925798318:=Nat
def tw5490696432328200686:=Nat
def tw18338084644071967246:=Nat
def tw185848376630758926:=Nat
def tw12727495553239364174:=Nat
def tw3429492842335990350:=Nat
def tw12952509933414984302:=Nat
def tw3608708970678896270:=Nat
def tw6372862494175223470:=Nat
def tw2839761810297210574:=Nat
def tw5464280966869935822:=Nat
def tw1870067075039425230:=Nat
def tw1781861727890032366:=Nat
def tw9555612238305686254:=Nat
def tw15378359858306647822:=Nat
def tw7754429630099156750:=Nat
def tw3196399650302076718:=Nat
def tw16722109127936396110:=Nat
def tw3787991596828424046:=Nat
def tw2004659784336800654:=Nat
def tw14553816603554493358:=Nat
def tw9345929723534960622:=Nat
def tw12268275109542032366:=Nat
def tw6818987989461384207:=Nat
def tw13363553139645760527:=Nat
def tw11507959949525687343:=Nat
def tw15424705756172794927:=Nat
def tw10331275065770859567:=Nat
def tw1452849714261714991:=Nat
def tw5289708365253275695:=Nat
def tw1736311965527578767:=Nat
def tw15616948245753086127:=Nat
def tw17172931820748874959:=Nat
def tw12676414471582705871:=Nat
def tw3969467460574380271:=Nat
def tw12521463284412890351:=Nat
def tw13606922415975196911:=Nat
def tw17330132731328240911:=Nat
def tw8587404781116728655:=Nat
def tw858883931015391567:=Nat
def tw2845207389951388047:=Nat
def tw12579596248316191183:=Nat
def tw6082411064634330575:=Nat
def tw16158619036321959407:=Nat
def tw15228807520496212463:=Nat
def tw3759623122121258479:=Nat
def tw16149640692961023503:=Nat
def tw11024222330075796079:=Nat
def tw12631932088317031055:=Nat
def tw10012880186880212623:=Nat
def tw11709330566771433103:=Nat
def tw17471934795394947791:=Nat
def tw6990203504111849199:=Nat
def tw17273587926920868623:=Nat
def tw6679266806504041263:=Nat
def tw18095200977026478895:=Nat
def tw2101469004524951375:=Nat
def tw2448992281723591503:=Nat
def tw12331051067403766639:=Nat
def tw9657781627882305391:=Nat
def tw13315533130655954831:=Nat
def tw8879563391730754479:=Nat
def tw16649331688326792143:=Nat
def tw1197925565968671727:=Nat
def tw18421049791903953903:=Nat
def tw10111801491309104144:=Nat
def tw6412770499399676944:=Nat
def tw15427206886491885616:=Nat
def tw8801323125487838256:=Nat
def tw16011055738799735888:=Nat
def tw10947331860392259696:=Nat
def tw1386097877827089520:=Nat
def tw16639802674150441104:=Nat
def tw6669269137521125552:=Nat
def tw15689870831250920624:=Nat
def tw5206456813468324048:=Nat
def tw13944508082162953488:=Nat
def tw7182994202766372144:=Nat
def tw17992175057805443440:=Nat
def tw10643592516055977328:=Nat
def tw10491609206876299696:=Nat
def tw11115866451450875312:=Nat
def tw7891253978561527248:=Nat
def tw940617070666608080:=Nat
def tw16853341256802265648:=Nat
def tw13285133528070534704:=Nat
def tw12995909851351757392:=Nat
def tw3364418463632694928:=Nat
def tw17725755344205882000:=Nat
def tw1712922718373300912:=Nat
def tw14667805832236412624:=Nat
def tw12053362261382060752:=Nat
def tw11224897151958998736:=Nat
def tw13518370688599389936:=Nat
def tw17318795884933167856:=Nat
def tw8351282476255451920:=Nat
def tw11551083187376567056:=Nat
def tw12614811148066621264:=Nat
def tw15595854959937240912:=Nat
def tw7752569895197466512:=Nat
def tw14771890821122382768:=Nat
def tw15279998641719260112:=Nat
def tw16178712458983371728:=Nat
def tw13790719812936386609:=Nat
def tw2422473601153944625:=Nat
def tw13322179722446271537:=Nat
def tw15527848837575444561:=Nat
def tw7094405668315501649:=Nat
def tw17213754286329925777:=Nat
def tw5247051413645994129:=Nat
def tw4768578896829404305:=Nat
def tw12447509897640257713:=Nat
def tw2000490053193787569:=Nat
def tw11638043884434779313:=Nat
def tw15677629932584476913:=Nat
def tw280609765759037681:=Nat
def tw432457690288141553:=Nat
def tw14705683404202351889:=Nat
def tw100483095206116625:=Nat
def tw15946356160694317329:=Nat
def tw6882427118574961969:=Nat
def tw9141302689577602353:=Nat
def tw1939978651307754801:=Nat
def tw17903497710992402801:=Nat
def tw6615107907471364465:=Nat
def tw16634568088961857937:=Nat
def tw13302237318277920145:=Nat
def tw15852365999677673905:=Nat
def tw2598446214317162929:=Nat
def tw7082855905992002993:=Nat
def tw14246236162039180721:=Nat
def tw11034497122203965937:=Nat
def tw13478424178397462001:=Nat
def tw1557243174674812401:=Nat
def tw8015326511298524721:=Nat
def tw13220430256171166289:=Nat
def tw3828038474966422129:=Nat
def tw12113243949977362033:=Nat
def tw908340440784498289:=Nat
def tw1603739661141634737:=Nat
def tw8117029840178788049:=Nat
def tw4990156530697904881:=Nat
def tw3452591251010201329:=Nat
def tw6278647508926252785:=Nat
def tw1208734638264122097:=Nat
def tw956962677268122417:=Nat
def tw8191903926673212241:=Nat
def tw6545403380812914513:=Nat
def tw7317836474542784337:=Nat
def tw16053994301053490033:=Nat
def tw9341642984632610673:=Nat
def tw5716766192118558609:=Nat
def tw13255428261173160881:=Nat
def tw16029623286316568529:=Nat
def tw7399621439246259153:=Nat
def tw6759412095888398321:=Nat
def tw8683856772340465682:=Nat
def tw14586822029978311858:=Nat
def tw16661405048812198066:=Nat
def tw368366308016060594:=Nat
def tw11749099774412794130:=Nat
def tw4432475053497693458:=Nat
def tw8025032847418708242:=Nat
def tw1744074299117110578:=Nat
def tw9641152695372364146:=Nat
def tw15166520500009309586:=Nat
def tw9499510787657705874:=Nat
def tw14772383043592177042:=Nat
def tw15813434630575017362:=Nat
def tw12778418089203562962:=Nat
def tw5366084841770067474:=Nat
def tw3533295568840377906:=Nat
def tw14031261019411111474:=Nat
def tw2167537188350426706:=Nat
def tw17377529257436501650:=Nat
def tw3241458686731973266:=Nat
def tw250903467453971090:=Nat
def tw16257038226119295666:=Nat
def tw7657299143145469618:=Nat
def tw5482205457738058418:=Nat
def tw15963624873386084050:=Nat
def tw8654268224221117138:=Nat
def tw1580110805410547442:=Nat
def tw16160664900817543922:=Nat
def tw10465514089279642386:=Nat
def tw8053944837975664402:=Nat
def tw10525666975642140466:=Nat
def tw6759408015678561074:=Nat
def tw9298403506768410418:=Nat
def tw12629568148972539762:=Nat
def tw2139204274930982770:=Nat
def tw6293948785866598258:=Nat
def tw7296583596125217682:=Nat
def tw14954956809187926962:=Nat
def tw9401516030198245298:=Nat
def tw1097998534492414930:=Nat
def tw439843181053141970:=Nat
def tw15083628210047938546:=Nat
def tw9513423893830186035:=Nat
def tw10601615944963115059:=Nat
def tw561391293025646643:=Nat
def tw4724112764586752083:=Nat
def tw17429513623812275283:=Nat
def tw8538877666451538035:=Nat
def tw6295535725891239091:=Nat
def tw3694398316872202419:=Nat
def tw10806950440038215891:=Nat
def tw9184186324627900627:=Nat
def tw5657824000916062451:=Nat
def tw17454471701868102899:=Nat
def tw5567388512258382067:=Nat
def tw5238241317806426387:=Nat
def tw12590977762386282803:=Nat
def tw16945582573551092051:=Nat
def tw14168552714766633299:=Nat
def tw16502264421070913907:=Nat
def tw16006246977917349235:=Nat
def tw17495340751864218003:=Nat
def tw1382963296337349011:=Nat
def tw16432713993328977331:=Nat
def tw7793673504863384051:=Nat
def tw17034541987677670899:=Nat
def tw1379335367625716243:=Nat
def tw17772917993097084435:=Nat
def tw5363564295841288755:=Nat
def tw11151547217846952531:=Nat
def tw18103342009636024947:=Nat
def tw14984183105004643987:=Nat
def tw5810065557313606291:=Nat
def tw4115565904173853331:=Nat
def tw7815354588672045779:=Nat
def tw16640546478005224243:=Nat
def tw15948780112781908787:=Nat
def tw11852641145169952659:=Nat
def tw15889433306838628275:=Nat
def tw10845626234925267891:=Nat
def tw13409441903868389331:=Nat
def tw8789358453043137523:=Nat
def tw18103420901670897651:=Nat
def tw7185752278333246451:=Nat
def tw4851647983119433812:=Nat
def tw9215163618515126356:=Nat
def tw3913528116038191188:=Nat
def tw2616952524820836436:=Nat
def tw16744898341101239380:=Nat
def tw12487542160262675636:=Nat
def tw13463106324228987060:=Nat
def tw14151535006965253332:=Nat
def tw4367231431732253908:=Nat
def tw15529170255622000948:=Nat
def tw6164396464334811476:=Nat
def tw16795040122137113940:=Nat
def tw7540655947842036084:=Nat
def tw16866669024345736564:=Nat
def tw6547078798241139092:=Nat
def tw10905181550472923540:=Nat
def tw7339039647409124788:=Nat
def tw9976723597467198900:=Nat
def tw15422856539912107476:=Nat
def tw6998783941825042932:=Nat
def tw7366208706002141716:=Nat
def tw10273187271170590260:=Nat
def tw550829659697677876:=Nat
def tw7540741092611519060:=Nat
def tw18293732401869909652:=Nat
def tw17143746779515762356:=Nat
def tw9131607905817354932:=Nat
def tw12243682255763564212:=Nat
def tw10738003575532504788:=Nat
def tw13994979335412520660:=Nat
def tw14439243815434019604:=Nat
def tw10834780440838970164:=Nat
def tw7289601568589263668:=Nat
def tw697623264460660564:=Nat
def tw8600361732997149524:=Nat
def tw6136932545381038964:=Nat
def tw226724450230711188:=Nat
def tw9258712216579463092:=Nat
def tw17542962492245011380:=Nat
def tw5629675986466331604:=Nat
def tw6598312636042714100:=Nat
def tw718029691902183412:=Nat
def tw15625209780758371316:=Nat
def tw3649758429140192277:=Nat
def tw11915594877312485397:=Nat
def tw17234923516513369237:=Nat
def tw15084132493965779093:=Nat
def tw11162318198679636149:=Nat
def tw9496365245306024149:=Nat
def tw12870888531099404533:=Nat
def tw2063697594609225973:=Nat
def tw16227762859984022837:=Nat
def tw13225837485096350037:=Nat
def tw6442067068224118133:=Nat
def tw14440960662653809013:=Nat
def tw11663481321943121269:=Nat
def tw5605480435847508373:=Nat
def tw14106227501169856981:=Nat
def tw14103535550066685397:=Nat
def tw10264135568141901301:=Nat
def tw13347369733751428629:=Nat
def tw2608437505485318709:=Nat
def tw13474097485772985973:=Nat
def tw3571134770919094901:=Nat
def tw12173100003817136821:=Nat
def tw9215827820722605749:=Nat
def tw7494724483528729301:=Nat
def tw2042292140826266357:=Nat
def tw15508949281206285077:=Nat
def tw12459740579856956213:=Nat
def tw13164601040044201813:=Nat
def tw16302227732802510677:=Nat
def tw13609717118414637909:=Nat
def tw5293500477943481205:=Nat
def tw13483081372092288885:=Nat
def tw9427301549700849589:=Nat
def tw3941438180925939637:=Nat
def tw1425423193147277237:=Nat
def tw6820862383352777685:=Nat
def tw10919297434634762262:=Nat
def tw7240586211207864342:=Nat
def tw18439511094173506614:=Nat
def tw8965841893048198262:=Nat
def tw5643178794243155062:=Nat
def tw1811199898794616982:=Nat
def tw7100430431845274806:=Nat
def tw18321552122766947510:=Nat
def tw6291416237084387574:=Nat
def tw8343274005884668182:=Nat
def tw7941745277869089046:=Nat
def tw4126306136578151734:=Nat
def tw1413172679324656950:=Nat
def tw16473244170626142550:=Nat
def tw17930870258028551510:=Nat
def tw16713699803418581334:=Nat
def tw9155422001095189878:=Nat
def tw16536845064214698358:=Nat
def tw3452082135128663414:=Nat
def tw1331487369976884630:=Nat
def tw11814627755841444246:=Nat
def tw15610959940260225430:=Nat
def tw17640862679970642326:=Nat
def tw11213053971927718326:=Nat
def tw7261450039545342454:=Nat
def tw16155205043701107222:=Nat
def tw7752767780024739350:=Nat
def tw17420951861521290806:=Nat
def tw12480425521718506038:=Nat
def tw12131494931117144662:=Nat
def tw7369741819223213686:=Nat
def tw3816877163431070358:=Nat
def tw617508947420966582:=Nat
def tw6819212343860736726:=Nat
def tw1011335219593555734:=Nat
def tw15179676742415161110:=Nat
def tw8428860471423672150:=Nat
def tw7872162285098387286:=Nat
def tw7829580234814923638:=Nat
def tw8770659054964912022:=Nat
def tw3312855554403267510:=Nat
def tw8721321648031231958:=Nat
def tw15367242080415987702:=Nat
def tw6184460063843016694:=Nat
def tw15615537253650120727:=Nat
def tw14623610509376584727:=Nat
def tw11905163887095721015:=Nat
def tw10098268173465320503:=Nat
def tw18406568778348887127:=Nat
def tw14029546391885035639:=Nat
def tw3029179668187146391:=Nat
def tw6506366617586733335:=Nat
def tw16957190012819468567:=Nat
def tw18368451091360184599:=Nat
def tw6709418730364537143:=Nat
def tw1717729237380139383:=Nat
def tw2448417245163862455:=Nat
def tw5283464899586487735:=Nat
def tw10955317050725887447:=Nat
def tw16970440968685349367:=Nat
def tw3442329435671937591:=Nat
def tw13783031573616600631:=Nat
def tw16064382804478563927:=Nat
def tw8044012406986999415:=Nat
def tw14438451200097066615:=Nat
def tw15416985209724490359:=Nat
def tw7292484366425897655:=Nat
def tw12393119488966705847:=Nat
def tw11228292238239915703:=Nat
def tw9631708518359487223:=Nat
def tw13574768056931433239:=Nat
def tw3381375190539634487:=Nat
def tw13468300074154594103:=Nat
def tw11402939732021071671:=Nat
def tw307737655149646647:=Nat
def tw5875755337557543767:=Nat
def tw9073681462420916055:=Nat
def tw10879034167726328663:=Nat
def tw6418103052136555383:=Nat
def tw12598724348716800887:=Nat
def tw2863928172549722007:=Nat
def tw6879831473291441079:=Nat
def tw2134215046882385847:=Nat
def tw11389486352061984695:=Nat
def tw8377043916266704855:=Nat
def tw11136197038861592535:=Nat
def tw2788664435532181463:=Nat
def tw6140570298594658328:=Nat
def tw2951005344575393816:=Nat
def tw7354087734392854552:=Nat
def tw15946388913382835224:=Nat
def tw10654345511274693656:=Nat
def tw9345676750909349944:=Nat
def tw1643121930917553208:=Nat
def tw8803977449572941912:=Nat
def tw9781786331797747800:=Nat
def tw16456969618363192440:=Nat
def tw18300207936620678264:=Nat
def tw5562173858411828344:=Nat
def tw7252557286763528408:=Nat
def tw16255831979728675032:=Nat
def tw262745018181394680:=Nat
def tw17650839729002327288:=Nat
def tw2799067240506288376:=Nat
def tw16441392401534740728:=Nat
def tw18093812233618175256:=Nat
def tw12976186185376257304:=Nat
def tw9627790493946171768:=Nat
def tw2274498078352570744:=Nat
def tw14768889098011018680:=Nat
def tw9983964734214183352:=Nat
def tw15759970867653108152:=Nat
def tw5420774739373220312:=Nat
def tw13866372431405929976:=Nat
def tw26425463804135960:=Nat
def tw2132729158989466136:=Nat
def tw7191455744419660376:=Nat
def tw12769127236821124696:=Nat
def tw15048261121198461528:=Nat
def tw3333446698644548216:=Nat
def tw1584506945513601688:=Nat
def tw11984409736253958808:=Nat
def tw13731112488569404088:=Nat
def tw10727248033764811480:=Nat
def tw8516288146210602744:=Nat
def tw11237167707397388024:=Nat
def tw14135609715661531928:=Nat
def tw18163647496604598072:=Nat
def tw701333769924781912:=Nat
def tw12418435599462062936:=Nat
def tw10778013660560245624:=Nat
def tw13096558090100123544:=Nat
def tw16590289223226319832:=Nat
def tw12994019391074448376:=Nat
def tw15987713032478767096:=Nat
def tw3418235910006150233:=Nat
def tw4788038989552484473:=Nat
def tw732345407407602841:=Nat
def tw1588505670450824345:=Nat
def tw728884934406724761:=Nat
def tw6903541053762270361:=Nat
def tw15213948185873263833:=Nat
def tw5859118754885311737:=Nat
def tw4181196891559700729:=Nat
def tw9467313397243273497:=Nat
def tw2845679848157327705:=Nat
def tw18291419657060728153:=Nat
def tw3536873572635521401:=Nat
def tw14006173549557618073:=Nat
def tw15411387601460861337:=Nat
def tw1222794163293265305:=Nat
def tw11364443708160879001:=Nat
def tw10784824025267889561:=Nat
def tw11399449904127653305:=Nat
def tw11054480109507316185:=Nat
def tw1486704645508227577:=Nat
def tw4916360252006170105:=Nat
def tw11119798521548139033:=Nat
def tw8317466277049474617:=Nat
def tw3953601041324332601:=Nat
def tw12350410155528471161:=Nat
def tw881544763273948857:=Nat
def tw16684818696116721337:=Nat
def tw2658526732547218105:=Nat
def tw16772102934027710169:=Nat
def tw7573478926670427865:=Nat
def tw3940546777539579641:=Nat
def tw17574625026820762457:=Nat
def tw12561155100871721849:=Nat
def tw4424954536736003961:=Nat
def tw17330945745186091897:=Nat
def tw5334465803284312953:=Nat
def tw10200926772931222457:=Nat
def tw10737458330869947321:=Nat
def tw4780371949962762201:=Nat
def tw8081886968326746073:=Nat
def tw6982297934935202809:=Nat
def tw17047115858639842297:=Nat
def tw13047593935725612058:=Nat
def tw16415028865518655546:=Nat
def tw7854228177987924090:=Nat
def tw5902613922787404954:=Nat
def tw15673258824015622330:=Nat
def tw3496965988886986938:=Nat
def tw11953376511379268794:=Nat
def tw14673209030070457562:=Nat
def tw10604169790165778682:=Nat
def tw541196102884509978:=Nat
def tw13753220567063992666:=Nat
def tw10947534242169238906:=Nat
def tw12050417470231563642:=Nat
def tw5592360268479517082:=Nat
def tw17992873397187703194:=Nat
def tw1147470481896660410:=Nat
def tw17278324374586462682:=Nat
def tw6868836192036940282:=Nat
def tw9421340871869096474:=Nat
def tw17784710179527947834:=Nat
def tw1600037746751723098:=Nat
def tw7698358502638924378:=Nat
def tw7526368328331116154:=Nat
def tw2900905267640511130:=Nat
def tw10934634478434655930:=Nat
def tw9478844844750915290:=Nat
def tw5373601922739893978:=Nat
def tw14960593345356199642:=Nat
def tw16157073509204512506:=Nat
def tw7598622570094877466:=Nat
def tw2578790182627478330:=Nat
def tw11232374478483605306:=Nat
def tw11652457597714270106:=Nat
def tw13038990169509382042:=Nat
def tw8273930003744585626:=Nat
def tw16414904818172857274:=Nat
def tw9668070271662314458:=Nat
def tw10283529075043463162:=Nat
def tw12872897951434832890:=Nat
def tw2001351230973187099:=Nat
def tw1936894748134917147:=Nat
def tw1610171440888473627:=Nat
def tw7927469264209771579:=Nat
def tw13372043803930879067:=Nat
def tw14137390275340422267:=Nat
def tw11032806212648032379:=Nat
def tw15103106377680225435:=Nat
def tw5362516397382645915:=Nat
def tw16409295683739894939:=Nat
def tw14353793391729792155:=Nat
def tw11672842613191775419:=Nat
def tw128412058910260475:=Nat
def tw15675198926951892251:=Nat
def tw14478148883734587675:=Nat
def tw11472165163037031739:=Nat
def tw4819202231147424091:=Nat
def tw1191670712832166235:=Nat
def tw6767318904944593275:=Nat
def tw15382363220257267067:=Nat
def tw10450363280022070651:=Nat
def tw2051048951616859547:=Nat
def tw10024716035694756283:=Nat
def tw5220083430330967483:=Nat
def tw13828106393651249627:=Nat
def tw6848782300941138395:=Nat
def tw17491317419825422843:=Nat
def tw5388632664720090651:=Nat
def tw17232729238497989147:=Nat
def tw16007149819294483003:=Nat
def tw14120982254508448379:=Nat
def tw1689377841213677179:=Nat
def tw2068664650715991707:=Nat
def tw518976864732996251:=Nat
def tw9087110039335098043:=Nat
def tw14969688514271112891:=Nat
def tw9719896912496429819:=Nat
def tw8945485805214734075:=Nat
def tw17177331786930743035:=Nat
def tw1792636949448641307:=Nat
def tw4299596416071116603:=Nat
def tw3878383114103592795:=Nat
def tw6965799899956892507:=Nat
def tw3215350286424857435:=Nat
def tw461538923250603899:=Nat
def tw7492773218913965947:=Nat
def tw5189956158058943387:=Nat
def tw11898664097942606779:=Nat
def tw9854592784775465947:=Nat
def tw1582976572388173787:=Nat
def tw16487816990975572028:=Nat
def tw15766875824913328220:=Nat
def tw1118553966540926140:=Nat
def tw17038178572684014812:=Nat
def tw13458954166980676860:=Nat
def tw15634565183472343292:=Nat
def tw11319097763535126812:=Nat
def tw4735155535324382492:=Nat
def tw13365295217650922812:=Nat
def tw395138700845864316:=Nat
def tw2084507788549644732:=Nat
def tw2468469042602058204:=Nat
def tw4817003022231809500:=Nat
def tw15615420239508185596:=Nat
def tw12591134339009171964:=Nat
def tw2887051446865420828:=Nat
def tw7578210074245671484:=Nat
def tw7850187754069100156:=Nat
def tw3451239065008710300:=Nat
def tw17599816209265215132:=Nat
def tw2327210489368252092:=Nat
def tw13262116225945230012:=Nat
def tw2252305205657439004:=Nat
def tw4182648748547736412:=Nat
def tw5118731587858937692:=Nat
def tw13160604113216922460:=Nat
def tw1194904439430580092:=Nat
def tw17335414052712997756:=Nat
def tw1331086792558400476:=Nat
def tw11117797201346649052:=Nat
def tw17986969038992634876:=Nat
def tw18219297243305740317:=Nat
def tw13289513938125300765:=Nat
def tw922143313871775805:=Nat
def tw15199589371867527261:=Nat
def tw15697423400787487869:=Nat
def tw4363365295628954845:=Nat
def tw6199765714743212253:=Nat
def tw15992342658441690333:=Nat
def tw3876449026389394717:=Nat
def tw833173182276230429:=Nat
def tw5433107678231618845:=Nat
def tw17714235663813219645:=Nat
def tw5021546742003373373:=Nat
def tw10102539355485613405:=Nat
def tw2457190517430149469:=Nat
def tw2855845756224970109:=Nat
def tw4478177076189095293:=Nat
def tw6924109203229866365:=Nat
def tw424627922949020093:=Nat
def tw17347436560843906493:=Nat
def tw11636924220087485885:=Nat
def tw9390866547671247325:=Nat
def tw10792051664901133789:=Nat
def tw14462709497994964445:=Nat
def tw503842035214351869:=Nat
def tw5608270528595127837:=Nat
def tw13532847315355080253:=Nat
def tw7763873220885509757:=Nat
def tw3646829019195819677:=Nat
def tw16173144727172801181:=Nat
def tw3704167492566942397:=Nat
def tw13531707123254989501:=Nat
def tw15967140613478806237:=Nat
def tw15578025631644234493:=Nat
def tw845060206244984605:=Nat
def tw13051953538815563581:=Nat
def tw13647732107164738365:=Nat
def tw2489000522355961661:=Nat
def tw8226494294326810461:=Nat
def tw17217394356764393341:=Nat
def tw2004683288701819805:=Nat
def tw15833661619300960221:=Nat
def tw12509009523430927325:=Nat
def tw224026152562611165:=Nat
def tw17317347222371691485:=Nat
def tw16194383521188589630:=Nat
def tw9277588360372424766:=Nat
def tw11631869004601391166:=Nat
def tw7746578258024575070:=Nat
def tw3386092968808520798:=Nat
def tw13840357560478945406:=Nat
def tw9673543361469618366:=Nat
def tw6838551448383532254:=Nat
def tw511748877826530558:=Nat
def tw13565428754273945854:=Nat
def tw16169374299450900766:=Nat
def tw18087722134493236510:=Nat
def tw10835030195340973342:=Nat
def tw4643362625855044894:=Nat
def tw13638418597567726942:=Nat
def tw16259696140248634718:=Nat
def tw4172343393113369950:=Nat
def tw17681399029576232318:=Nat
def tw3419581819265744254:=Nat
def tw8664936974563722654:=Nat
def tw8312999807965096350:=Nat
def tw1810128313956251070:=Nat
def tw17901334829092211166:=Nat
def tw8210421348078903774:=Nat
def tw17739348878880393726:=Nat
def tw13293453174229064190:=Nat
def tw2329189449893159454:=Nat
def tw9533747618267967006:=Nat
def tw3763122126050802206:=Nat
def tw18233516762306594366:=Nat
def tw3480954088277226078:=Nat
def tw9763420282994701918:=Nat
def tw16301592386811335294:=Nat
def tw7510230149288206974:=Nat
def tw17312999752573914782:=Nat
def tw2770886237722202814:=Nat
def tw12744807935193187038:=Nat
def tw18131696352309475102:=Nat
def tw17668637344460488510:=Nat
def tw8047900516022102942:=Nat
def tw14620637471214046174:=Nat
def tw6423634429210846174:=Nat
def tw574300837803046910:=Nat
def tw14955159897011116063:=Nat
def tw6931407450589930559:=Nat
def tw12070051907170230399:=Nat
def tw3530705653197291679:=Nat
def tw6761669909254768831:=Nat
def tw4478166936697009375:=Nat
def tw6902198413751149823:=Nat
def tw7712595579559962911:=Nat
def tw712733125156272447:=Nat
def tw5505332120971382143:=Nat
def tw825126770350376351:=Nat
def tw14328484209623677503:=Nat
def tw13671756088133313087:=Nat
def tw12611767792052310623:=Nat
def tw11283319371284918911:=Nat
def tw16853252838358632063:=Nat
def tw10543509907540572799:=Nat
def tw5245234834050458271:=Nat
def tw442638132926106271:=Nat
def tw13206406409579783871:=Nat
def tw3309697970292668127:=Nat
def tw7006195865600381663:=Nat
def tw4218252797249083135:=Nat
def tw7519716089354478335:=Nat
def tw2595994805191909183:=Nat
def tw9077708301081682751:=Nat
def tw14685462170515437407:=Nat
def tw1728934660973012959:=Nat
def tw10558106933452604415:=Nat
end Mine.hd
namespace Mine
section
open PySem PySem.Spec PySem.Calls PyProof.Rows PySem.W
set_option tactic.hygienic true
set_option Elab.async true
theorem hd : PySem.Challenge.rw_rt0110_01.Holds := by
  w_on; o_law; k_head; (case hw => w_witness2)
  intro w s₀ s₁ mg mb G Y a o pm cd doc dV kV ho hdd hcd hD hmg hg args vals as hpre hlay hrd hwl hlo
  refine law_walk w s₀ s₁ mg mb ?k (km_in_of Y) (km_tabs_of Y 931 (.head _)) G.T (by kernel_rfl!) hmg hg args vals as hpre hrd
  exact { gl := (by kernel_rfl!), nl := (by kernel_rfl!), defs := defs_all (by kernel_rfl!), meth := meth_all (by kernel_rfl!), split := ⟨by kernel_rfl!, by kernel_rfl!, by kernel_rfl!⟩, law := ⟨by kernel_rfl!, by kernel_rfl!, by kernel_rfl!⟩, dfl := dfl_all (by kernel_rfl!), rx1 := (by kernel_rfl!), rx2 := (by kernel_rfl!), rx3 := (by kernel_rfl!), rx4 := (by kernel_rfl!), rx5 := (by kernel_rfl!), rx6 := (by kernel_rfl!), rx7 := (by kernel_rfl!), code := (by kernel_rfl!), hid := (by kernel_rfl!), sh := { lex := ⟨by kernel_rfl!, by kernel_rfl!, by kernel_rfl!, by kernel_rfl!, by kernel_rfl!, Qjb (by kernel_rfl!), fns_all (by kernel_rfl!)⟩, sio := ⟨by kernel_rfl!, by kernel_rfl!, by kernel_rfl!, by kernel_rfl!, by kernel_rfl!, Qjb (by kernel_rfl!), fns_all (by kernel_rfl!)⟩, prop := (by kernel_rfl!), pget := (by kernel_rfl!), ptak := (by kernel_rfl!), prec := ⟨_, by rfl⟩, make := (by kernel_rfl!), keepL := (by kernel_rfl!), lenN := (by kernel_rfl!), hintN := (by kernel_rfl!), cdS := ⟨_, _, _, by rfl, by kernel_rfl!, by kernel_rfl!, by kernel_rfl!⟩, madeS := (by intro S; kernel_rfl!), baseS := (by intro S; kernel_rfl!), madeO := (by intro S; kernel_rfl!), selfS := (by kernel_rfl!), callS := (by kernel_rfl!), typS := (by kernel_rfl!), readsS := (by kernel_rfl!), newS := (by kernel_rfl!), statS := ⟨_, by rfl⟩, bytS := ⟨_, by rfl⟩, objNew := (by kernel_rfl!) } }
end
end Mine
theorem PySem.Challenge.cw_rt0110_01_holds : PySem.Challenge.rw_rt0110_01.Holds :=
 Mine.hd
