import PyProof.Rows.All
import Wide.All
import Open.Line
import Lean
import PySem.Challenge.RW_in0225_01
set_option Elab.async false
set_option compiler.extract_closed false
set_option hygiene false
set_option maxRecDepth 100000
set_option linter.all false
open PySem PySem.W PyProof.Rows PySem.Calls PySem.Spec
namespace Fn.Internal
section
def tacA : Lean.Syntax := (Lean.Unhygienic.run `(Lean.Parser.Tactic.tacticSeq| first | exact Nat.le_refl _ | exact Nat.le_succ _ | lia)).raw
def tacB : Lean.Syntax := (Lean.Unhygienic.run `(Lean.Parser.Tactic.tacticSeq| rfl)).raw
def tacC : Lean.Syntax := (Lean.Unhygienic.run `(Lean.Parser.Tactic.tacticSeq| intro _ _; with_unfolding_all rfl)).raw
def tacD : Lean.Syntax := (Lean.Unhygienic.run `(Lean.Parser.Tactic.tacticSeq| with_unfolding_all rfl)).raw
def tacE : Lean.Syntax := (Lean.Unhygienic.run `(Lean.Parser.Tactic.tacticSeq| intro _; with_unfolding_all rfl)).raw
def tacF : Lean.Syntax := (Lean.Unhygienic.run `(Lean.Parser.Tactic.tacticSeq| decide)).raw
def tacG : Lean.Syntax := (Lean.Unhygienic.run `(Lean.Parser.Tactic.tacticSeq| intros; rfl)).raw
theorem elA {p1 p2 : Prop} {G : Prop} (h : p1 ∧ p2) (k : p1 → p2 → G) : G := k h.1 h.2
theorem elE {A : Sort _} {p1 : A → Prop} {G : Prop} (h : ∃ a, p1 a) (k : ∀ a, p1 a → G) : G := h.elim fun a h => k a h
theorem elAA {p1 p2 p3 : Prop} {G : Prop} (h : p1 ∧ p2 ∧ p3) (k : p1 → p2 → p3 → G) : G := k h.1 h.2.1 h.2.2
theorem elEA {A : Sort _} {p1 p2 : A → Prop} {G : Prop} (h : ∃ a, p1 a ∧ p2 a) (k : ∀ a, p1 a → p2 a → G) : G := h.elim fun a h => k a h.1 h.2
theorem elEE {A B : Sort _} {p1 : A → B → Prop} {G : Prop} (h : ∃ a b, p1 a b) (k : ∀ a b, p1 a b → G) : G := h.elim fun a h => h.elim fun b h => k a b h
theorem elAAA {p1 p2 p3 p4 : Prop} {G : Prop} (h : p1 ∧ p2 ∧ p3 ∧ p4) (k : p1 → p2 → p3 → p4 → G) : G := k h.1 h.2.1 h.2.2.1 h.2.2.2
theorem elAAE {A : Sort _} {p1 p2 : Prop} {p3 : A → Prop} {G : Prop} (h : p1 ∧ p2 ∧ ∃ a, p3 a) (k : p1 → p2 → ∀ a, p3 a → G) : G := h.2.2.elim fun a h1 => k h.1 h.2.1 a h1
theorem elAEA {A : Sort _} {p1 : Prop} {p2 p3 : A → Prop} {G : Prop} (h : p1 ∧ ∃ a, p2 a ∧ p3 a) (k : p1 → ∀ a, p2 a → p3 a → G) : G := h.2.elim fun a h1 => k h.1 a h1.1 h1.2
theorem elEAA {A : Sort _} {p1 p2 p3 : A → Prop} {G : Prop} (h : ∃ a, p1 a ∧ p2 a ∧ p3 a) (k : ∀ a, p1 a → p2 a → p3 a → G) : G := h.elim fun a h => k a h.1 h.2.1 h.2.2
theorem elEAE {A B : Sort _} {p1 : A → Prop} {p2 : A → B → Prop} {G : Prop} (h : ∃ a, p1 a ∧ ∃ b, p2 a b) (k : ∀ a, p1 a → ∀ b, p2 a b → G) : G := h.elim fun a h1 => h1.2.elim fun b h2 => k a h1.1 b h2
theorem elEEA {A B : Sort _} {p1 p2 : A → B → Prop} {G : Prop} (h : ∃ a b, p1 a b ∧ p2 a b) (k : ∀ a b, p1 a b → p2 a b → G) : G := h.elim fun a h => h.elim fun b h => k a b h.1 h.2
theorem elEEE {A B C' : Sort _} {p1 : A → B → C' → Prop} {G : Prop} (h : ∃ a b c, p1 a b c) (k : ∀ a b c, p1 a b c → G) : G := h.elim fun a h => h.elim fun b h => h.elim fun c h => k a b c h
theorem elAAAA {p1 p2 p3 p4 p5 : Prop} {G : Prop} (h : p1 ∧ p2 ∧ p3 ∧ p4 ∧ p5) (k : p1 → p2 → p3 → p4 → p5 → G) : G := k h.1 h.2.1 h.2.2.1 h.2.2.2.1 h.2.2.2.2
theorem elAAAE {A : Sort _} {p1 p2 p3 : Prop} {p4 : A → Prop} {G : Prop} (h : p1 ∧ p2 ∧ p3 ∧ ∃ a, p4 a) (k : p1 → p2 → p3 → ∀ a, p4 a → G) : G := h.2.2.2.elim fun a h1 => k h.1 h.2.1 h.2.2.1 a h1
theorem elAEAA {A : Sort _} {p1 : Prop} {p2 p3 p4 : A → Prop} {G : Prop} (h : p1 ∧ ∃ a, p2 a ∧ p3 a ∧ p4 a) (k : p1 → ∀ a, p2 a → p3 a → p4 a → G) : G := h.2.elim fun a h1 => k h.1 a h1.1 h1.2.1 h1.2.2
theorem elAEEA {A B : Sort _} {p1 : Prop} {p2 p3 : A → B → Prop} {G : Prop} (h : p1 ∧ ∃ a b, p2 a b ∧ p3 a b) (k : p1 → ∀ a b, p2 a b → p3 a b → G) : G := h.2.elim fun a h1 => h1.elim fun b h2 => k h.1 a b h2.1 h2.2
theorem elEAAA {A : Sort _} {p1 p2 p3 p4 : A → Prop} {G : Prop} (h : ∃ a, p1 a ∧ p2 a ∧ p3 a ∧ p4 a) (k : ∀ a, p1 a → p2 a → p3 a → p4 a → G) : G := h.elim fun a h => k a h.1 h.2.1 h.2.2.1 h.2.2.2
theorem elEAAE {A B : Sort _} {p1 p2 : A → Prop} {p3 : A → B → Prop} {G : Prop} (h : ∃ a, p1 a ∧ p2 a ∧ ∃ b, p3 a b) (k : ∀ a, p1 a → p2 a → ∀ b, p3 a b → G) : G := h.elim fun a h1 => h1.2.2.elim fun b h2 => k a h1.1 h1.2.1 b h2
theorem elEAEE {A B C' : Sort _} {p1 : A → Prop} {p2 : A → B → C' → Prop} {G : Prop} (h : ∃ a, p1 a ∧ ∃ b c, p2 a b c) (k : ∀ a, p1 a → ∀ b c, p2 a b c → G) : G := h.elim fun a h1 => h1.2.elim fun b h2 => h2.elim fun c h3 => k a h1.1 b c h3
theorem elEEAA {A B : Sort _} {p1 p2 p3 : A → B → Prop} {G : Prop} (h : ∃ a b, p1 a b ∧ p2 a b ∧ p3 a b) (k : ∀ a b, p1 a b → p2 a b → p3 a b → G) : G := h.elim fun a h => h.elim fun b h => k a b h.1 h.2.1 h.2.2
theorem elEEEA {A B C' : Sort _} {p1 p2 : A → B → C' → Prop} {G : Prop} (h : ∃ a b c, p1 a b c ∧ p2 a b c) (k : ∀ a b c, p1 a b c → p2 a b c → G) : G := h.elim fun a h => h.elim fun b h => h.elim fun c h => k a b c h.1 h.2
theorem elEEEE {A B C' D : Sort _} {p1 : A → B → C' → D → Prop} {G : Prop} (h : ∃ a b c d, p1 a b c d) (k : ∀ a b c d, p1 a b c d → G) : G := h.elim fun a h => h.elim fun b h => h.elim fun c h => h.elim fun d h => k a b c d h
theorem elAAAAA {p1 p2 p3 p4 p5 p6 : Prop} {G : Prop} (h : p1 ∧ p2 ∧ p3 ∧ p4 ∧ p5 ∧ p6) (k : p1 → p2 → p3 → p4 → p5 → p6 → G) : G := k h.1 h.2.1 h.2.2.1 h.2.2.2.1 h.2.2.2.2.1 h.2.2.2.2.2
theorem elAAAEA {A : Sort _} {p1 p2 p3 : Prop} {p4 p5 : A → Prop} {G : Prop} (h : p1 ∧ p2 ∧ p3 ∧ ∃ a, p4 a ∧ p5 a) (k : p1 → p2 → p3 → ∀ a, p4 a → p5 a → G) : G := h.2.2.2.elim fun a h1 => k h.1 h.2.1 h.2.2.1 a h1.1 h1.2
theorem elAEEAA {A B : Sort _} {p1 : Prop} {p2 p3 p4 : A → B → Prop} {G : Prop} (h : p1 ∧ ∃ a b, p2 a b ∧ p3 a b ∧ p4 a b) (k : p1 → ∀ a b, p2 a b → p3 a b → p4 a b → G) : G := h.2.elim fun a h1 => h1.elim fun b h2 => k h.1 a b h2.1 h2.2.1 h2.2.2
theorem elEAAAA {A : Sort _} {p1 p2 p3 p4 p5 : A → Prop} {G : Prop} (h : ∃ a, p1 a ∧ p2 a ∧ p3 a ∧ p4 a ∧ p5 a) (k : ∀ a, p1 a → p2 a → p3 a → p4 a → p5 a → G) : G := h.elim fun a h => k a h.1 h.2.1 h.2.2.1 h.2.2.2.1 h.2.2.2.2
theorem elEEAAA {A B : Sort _} {p1 p2 p3 p4 : A → B → Prop} {G : Prop} (h : ∃ a b, p1 a b ∧ p2 a b ∧ p3 a b ∧ p4 a b) (k : ∀ a b, p1 a b → p2 a b → p3 a b → p4 a b → G) : G := h.elim fun a h => h.elim fun b h => k a b h.1 h.2.1 h.2.2.1 h.2.2.2
theorem elEEEAA {A B C' : Sort _} {p1 p2 p3 : A → B → C' → Prop} {G : Prop} (h : ∃ a b c, p1 a b c ∧ p2 a b c ∧ p3 a b c) (k : ∀ a b c, p1 a b c → p2 a b c → p3 a b c → G) : G := h.elim fun a h => h.elim fun b h => h.elim fun c h => k a b c h.1 h.2.1 h.2.2
theorem elEEEEA {A B C' D : Sort _} {p1 p2 : A → B → C' → D → Prop} {G : Prop} (h : ∃ a b c d, p1 a b c d ∧ p2 a b c d) (k : ∀ a b c d, p1 a b c d → p2 a b c d → G) : G := h.elim fun a h => h.elim fun b h => h.elim fun c h => h.elim fun d h => k a b c d h.1 h.2
theorem elEEEEE {A B C' D E' : Sort _} {p1 : A → B → C' → D → E' → Prop} {G : Prop} (h : ∃ a b c d e, p1 a b c d e) (k : ∀ a b c d e, p1 a b c d e → G) : G := h.elim fun a h => h.elim fun b h => h.elim fun c h => h.elim fun d h => h.elim fun e h => k a b c d e h
theorem elAAAAAA {p1 p2 p3 p4 p5 p6 p7 : Prop} {G : Prop} (h : p1 ∧ p2 ∧ p3 ∧ p4 ∧ p5 ∧ p6 ∧ p7) (k : p1 → p2 → p3 → p4 → p5 → p6 → p7 → G) : G := k h.1 h.2.1 h.2.2.1 h.2.2.2.1 h.2.2.2.2.1 h.2.2.2.2.2.1 h.2.2.2.2.2.2
theorem elAEEAAA {A B : Sort _} {p1 : Prop} {p2 p3 p4 p5 : A → B → Prop} {G : Prop} (h : p1 ∧ ∃ a b, p2 a b ∧ p3 a b ∧ p4 a b ∧ p5 a b) (k : p1 → ∀ a b, p2 a b → p3 a b → p4 a b → p5 a b → G) : G := h.2.elim fun a h1 => h1.elim fun b h2 => k h.1 a b h2.1 h2.2.1 h2.2.2.1 h2.2.2.2
theorem elEAAAAA {A : Sort _} {p1 p2 p3 p4 p5 p6 : A → Prop} {G : Prop} (h : ∃ a, p1 a ∧ p2 a ∧ p3 a ∧ p4 a ∧ p5 a ∧ p6 a) (k : ∀ a, p1 a → p2 a → p3 a → p4 a → p5 a → p6 a → G) : G := h.elim fun a h => k a h.1 h.2.1 h.2.2.1 h.2.2.2.1 h.2.2.2.2.1 h.2.2.2.2.2
theorem elEEEAAA {A B C' : Sort _} {p1 p2 p3 p4 : A → B → C' → Prop} {G : Prop} (h : ∃ a b c, p1 a b c ∧ p2 a b c ∧ p3 a b c ∧ p4 a b c) (k : ∀ a b c, p1 a b c → p2 a b c → p3 a b c → p4 a b c → G) : G := h.elim fun a h => h.elim fun b h => h.elim fun c h => k a b c h.1 h.2.1 h.2.2.1 h.2.2.2
theorem elEEEEAA {A B C' D : Sort _} {p1 p2 p3 : A → B → C' → D → Prop} {G : Prop} (h : ∃ a b c d, p1 a b c d ∧ p2 a b c d ∧ p3 a b c d) (k : ∀ a b c d, p1 a b c d → p2 a b c d → p3 a b c d → G) : G := h.elim fun a h => h.elim fun b h => h.elim fun c h => h.elim fun d h => k a b c d h.1 h.2.1 h.2.2
theorem elEEEEEE {A B C' D E' F : Sort _} {p1 : A → B → C' → D → E' → F → Prop} {G : Prop} (h : ∃ a b c d e f, p1 a b c d e f) (k : ∀ a b c d e f, p1 a b c d e f → G) : G := h.elim fun a h => h.elim fun b h => h.elim fun c h => h.elim fun d h => h.elim fun e h => h.elim fun f h => k a b c d e f h
theorem elAAAAAAA {p1 p2 p3 p4 p5 p6 p7 p8 : Prop} {G : Prop} (h : p1 ∧ p2 ∧ p3 ∧ p4 ∧ p5 ∧ p6 ∧ p7 ∧ p8) (k : p1 → p2 → p3 → p4 → p5 → p6 → p7 → p8 → G) : G := k h.1 h.2.1 h.2.2.1 h.2.2.2.1 h.2.2.2.2.1 h.2.2.2.2.2.1 h.2.2.2.2.2.2.1 h.2.2.2.2.2.2.2
theorem elEEEEEEE {A B C' D E' F G' : Sort _} {p1 : A → B → C' → D → E' → F → G' → Prop} {G : Prop} (h : ∃ a b c d e f g, p1 a b c d e f g) (k : ∀ a b c d e f g, p1 a b c d e f g → G) : G := h.elim fun a h => h.elim fun b h => h.elim fun c h => h.elim fun d h => h.elim fun e h => h.elim fun f h => h.elim fun g h => k a b c d e f g h
theorem elAAAAAAAA {p1 p2 p3 p4 p5 p6 p7 p8 p9 : Prop} {G : Prop} (h : p1 ∧ p2 ∧ p3 ∧ p4 ∧ p5 ∧ p6 ∧ p7 ∧ p8 ∧ p9) (k : p1 → p2 → p3 → p4 → p5 → p6 → p7 → p8 → p9 → G) : G := k h.1 h.2.1 h.2.2.1 h.2.2.2.1 h.2.2.2.2.1 h.2.2.2.2.2.1 h.2.2.2.2.2.2.1 h.2.2.2.2.2.2.2.1 h.2.2.2.2.2.2.2.2
theorem elAAAAAAAAA {p1 p2 p3 p4 p5 p6 p7 p8 p9 p10 : Prop} {G : Prop} (h : p1 ∧ p2 ∧ p3 ∧ p4 ∧ p5 ∧ p6 ∧ p7 ∧ p8 ∧ p9 ∧ p10) (k : p1 → p2 → p3 → p4 → p5 → p6 → p7 → p8 → p9 → p10 → G) : G := k h.1 h.2.1 h.2.2.1 h.2.2.2.1 h.2.2.2.2.1 h.2.2.2.2.2.1 h.2.2.2.2.2.2.1 h.2.2.2.2.2.2.2.1 h.2.2.2.2.2.2.2.2.1 h.2.2.2.2.2.2.2.2.2
theorem elEEEEEEEEE {A B C' D E' F G' I J : Sort _} {p1 : A → B → C' → D → E' → F → G' → I → J → Prop} {G : Prop} (h : ∃ a b c d e f g i j, p1 a b c d e f g i j) (k : ∀ a b c d e f g i j, p1 a b c d e f g i j → G) : G := h.elim fun a h => h.elim fun b h => h.elim fun c h => h.elim fun d h => h.elim fun e h => h.elim fun f h => h.elim fun g h => h.elim fun i h => h.elim fun j h => k a b c d e f g i j h
theorem runs_toks {M : Model} {Γ : PySem.Ctx} {p : Pos} {t : Sem Fin} {fs : List Frame} {s s' : Shared} {e : End} (h : Runs M Γ p t fs s e s') : s.toks ≤ s'.toks := by
  induction h <;> (try simp only [Shared.setGen] at *) <;> omega
theorem wakes_toks {M : Model} {Γ : PySem.Ctx} {p : Pos} {g : Nat} {r : Resume} {s s' : Shared} {res : GenResult} (h : Wakes M Γ p g r s res s') : s.toks ≤ s'.toks := by
  unfold Wakes at h
  split at h
  · exact h.elim
  · split at h
    · (refine elEEAAA h fun e₁ s₁ h1 _ _ z0 => ?_; clear h; subst z0); have := runs_toks h1; exact this
    · obtain ⟨_, rfl⟩ := h; exact Nat.le_refl _
    · obtain ⟨_, rfl⟩ := h; exact Nat.le_refl _
  · (refine elEEAAA h fun e₁ s₁ h1 _ _ z1 => ?_; clear h; subst z1); have := runs_toks h1; exact this
  · obtain ⟨_, rfl⟩ := h; exact Nat.le_refl _
  · obtain ⟨_, rfl⟩ := h; exact Nat.le_refl _
theorem wp_toks {α : Type} {M : Model} {Γ : PySem.Ctx} : ∀ (t : Sem α) (Q : α → Pos → Shared → Prop) (E : Value → Pos → Shared → Prop) (p : Pos) (s : Shared), Sem.wp M Γ t Q E p s →
    Sem.wp M Γ t (fun a p' s' => s.toks ≤ s'.toks ∧ Q a p' s') (fun e p' s' => s.toks ≤ s'.toks ∧ E e p' s') p s := by
  intro t
  induction t with
  | pure a => intro Q E p s h; exact ⟨Nat.le_refl _, h⟩
  | raise e => intro Q E p s h; exact ⟨Nat.le_refl _, h⟩
  | unsupported w => intro Q E p s h; exact h
  | finish e => intro Q E p s h; exact h
  | rule t k ih => intro Q E p s h; exact ih () Q E p s h
  | «at» p' k ih => intro Q E p s h; exact ih () Q E p' s h
  | load a part k ih => intro Q E p s h; (refine elEA h fun o ho h => ?_); exact ⟨o, ho, ih o Q E p s h⟩
  | update a part f k ih => intro Q E p s h; exact ⟨h.1, ih () Q E p _ h.2⟩
  | loadIfAlive a k ih => intro Q E p s h; exact ih _ Q E p s h
  | point l k ih => intro Q E p s h; exact ih () Q E p s h
  | register a k ih => intro Q E p s h; exact h
  | alloc o k ih => intro Q E p s h; exact ih _ Q E p _ h
  | fresh k ih =>
    intro Q E p s h
    refine Sem.wp_mono M Γ _ ?_ ?_ p _ (ih _ Q E p _ h)
    · rintro a p' s' ⟨h1, h2⟩; exact ⟨Nat.le_trans (Nat.le_succ _) h1, h2⟩
    · rintro a p' s' ⟨h1, h2⟩; exact ⟨Nat.le_trans (Nat.le_succ _) h1, h2⟩
  | ask k ih => intro Q E p s h; exact ih _ Q E p s h
  | choose src n k ih => intro Q E p s h; exact ⟨h.1, ih _ Q E p _ h.2⟩
  | os q l k ih => intro Q E p s h; exact ih _ Q E p _ h
  | call c h' g l k ih =>
    intro Q E p s h
    (refine elEEA h fun r s₁ hr h => ?_)
    refine ⟨r, s₁, hr, Sem.wp_mono M Γ _ ?_ ?_ p _ (ih r Q E p s₁ h)⟩
    · rintro a p' s' ⟨h1, h2⟩; exact ⟨Nat.le_trans (runs_toks hr) h1, h2⟩
    · rintro a p' s' ⟨h1, h2⟩; exact ⟨Nat.le_trans (runs_toks hr) h1, h2⟩
  | handled own k ih => intro Q E p s h; exact ih _ Q E p s h
  | newGen c k ih => intro Q E p s h; exact ih _ Q E p _ h
  | genState g k ih => intro Q E p s h; (refine elEA h fun o ho h => ?_); exact ⟨o, ho, ih _ Q E p s h⟩
  | resume g r l k ih =>
    intro Q E p s h
    (refine elEEA h fun r s₁ hr h => ?_)
    refine ⟨r, s₁, hr, Sem.wp_mono M Γ _ ?_ ?_ p _ (ih r Q E p s₁ h)⟩
    · rintro a p' s' ⟨h1, h2⟩; exact ⟨Nat.le_trans (wakes_toks hr) h1, h2⟩
    · rintro a p' s' ⟨h1, h2⟩; exact ⟨Nat.le_trans (wakes_toks hr) h1, h2⟩
  | yield v g l k ih => intro Q E p s h; exact h
  | stack k ih => intro Q E p s h; exact ih _ Q E p s h
  | fork c k ih => intro Q E p s h; exact h
  | thread k ih => intro Q E p s h; exact ih _ Q E p s h
  | await a t d l k ih => intro Q E p s h; exact h
theorem of_toks {α : Type} {M : Model} {A : Around} {t : Sem α} {Q : α → Shared → Prop} {E : Value → Shared → Prop} {s : Shared} (h : wpAny M A t (fun a s' => s.toks ≤ s'.toks → Q a s') (fun e s' => s.toks ≤ s'.toks → E e s') s) : wpAny M A t Q E s := by
  intro Γ p hΓ
  refine Sem.wp_mono M Γ _ ?_ ?_ p _ (wp_toks t _ _ p s (h Γ p hΓ))
  · rintro a p' s' ⟨h1, h2⟩; exact h2 h1
  · rintro a p' s' ⟨h1, h2⟩; exact h2 h1
theorem with_toks {α : Type} {M : Model} {A : Around} {t : Sem α} {Q : α → Shared → Prop} {E : Value → Shared → Prop} {s : Shared} (h : wpAny M A t Q E s) : wpAny M A t (fun a s' => s.toks ≤ s'.toks ∧ Q a s') E s := by
  intro Γ p hΓ
  refine Sem.wp_mono M Γ _ (fun _ _ _ h => h) ?_ p _ (wp_toks t _ _ p s (h Γ p hΓ))
  rintro a p' s' ⟨h1, h2⟩; exact h2
end
section
inductive D where
  | none
  | bool (b : Bool)
  | int (i : Int)
  | str (x : List Nat)
  | tup (ds : List D)
  | lst (ds : List D)
  | cell (k : Nat)
  | meth (k : Nat)
  | raw (v : Value)
noncomputable abbrev FZ := Addr → Option Obj
inductive SeqAt (P : FZ) (c : Value) (v : Value) (Z : List Value → Prop) : Prop
  | mk (a : Addr) (o : Obj) (vs : List Value) (n : Nat) (e : v = .ref a) (h : P a = some o) (hc : o.cls = c) (hd : o.data = .seq (List.toArray vs) n) (z : Z vs) : SeqAt P c v Z
inductive ConsOf (A : Value → Prop) (B : List Value → Prop) (vs : List Value) : Prop
  | mk (v : Value) (vs' : List Value) (e : vs = v :: vs') (a : A v) (b : B vs') : ConsOf A B vs
mutual
noncomputable def DV (P : FZ) (cs : List Addr) : D → Value → Prop
  | .none, v => v = .none
  | .bool b, v => v = .bool b
  | .int i, v => ∃ t, v = .int i t
  | .str x, v => ∃ t, v = .str ⟨x.toArray⟩ t
  | .tup ds, v => SeqAt P (.type "tuple") v fun vs => DVs P cs ds vs
  | .lst ds, v => SeqAt P (.type "list") v fun vs => DVs P cs ds vs
  | .cell k, v => ∃ a, cs[k]? = some a ∧ v = .ref a
  | .meth k, v => ∃ a q o, cs[k]? = some a ∧ v = .ref q ∧ P q = some o ∧ o.cls = .type "builtin_function_or_method" ∧ o.data = .fields #[.builtin "list.append", .ref a]
  | .raw w, v => v = w
noncomputable def DVs (P : FZ) (cs : List Addr) : List D → List Value → Prop
  | [], vs => vs = []
  | d :: ds, vs => ConsOf (fun v => DV P cs d v) (fun vs' => DVs P cs ds vs') vs
end
mutual
noncomputable def NoCell : D → Prop
  | .cell _ => False
  | .meth _ => False
  | .tup ds => NoCells ds
  | .lst ds => NoCells ds
  | _ => True
noncomputable def NoCells : List D → Prop
  | [] => True
  | d :: ds => NoCell d ∧ NoCells ds
end
noncomputable def PLe (P P' : FZ) : Prop := ∀ a o, P a = some o → P' a = some o
noncomputable def CLe (cs cs' : List Addr) : Prop := ∀ (k : Nat) (a : Addr), cs[k]? = some a → cs'[k]? = some a
theorem PLe.refl (P : FZ) : PLe P P := fun _ _ e => e
theorem PLe.trans {P Q R : FZ} (a : PLe P Q) (b : PLe Q R) : PLe P R := fun x o e => b x o (a x o e)
theorem CLe.refl (P : List Addr) : CLe P P := fun _ _ e => e
theorem CLe.trans {P Q R : List Addr} (a : CLe P Q) (b : CLe Q R) : CLe P R := fun x o e => b x o (a x o e)
mutual
theorem DV.mono {P P' : FZ} {cs cs' : List Addr} (hp : PLe P P') (hc : CLe cs cs') : ∀ {d : D} {v : Value}, DV P cs d v → DV P' cs' d v
  | .none, _, h => h
  | .bool _, _, h => h
  | .int _, _, h => h
  | .str _, _, h => h
  | .raw _, _, h => h
  | .tup _, _, ⟨a, o, vs, n, e, ha, h1, h2, h3⟩ => ⟨a, o, vs, n, e, hp _ _ ha, h1, h2, DVs.mono hp hc h3⟩
  | .lst _, _, ⟨a, o, vs, n, e, ha, h1, h2, h3⟩ => ⟨a, o, vs, n, e, hp _ _ ha, h1, h2, DVs.mono hp hc h3⟩
  | .cell _, _, ⟨a, h, e⟩ => ⟨a, hc _ _ h, e⟩
  | .meth _, _, ⟨a, q, o, h, e, hq, r⟩ => ⟨a, q, o, hc _ _ h, e, hp _ _ hq, r⟩
theorem DVs.mono {P P' : FZ} {cs cs' : List Addr} (hp : PLe P P') (hc : CLe cs cs') : ∀ {ds : List D} {vs : List Value}, DVs P cs ds vs → DVs P' cs' ds vs
  | [], _, h => h
  | _ :: _, _, ⟨v, vs', e, h, r⟩ => ⟨v, vs', e, DV.mono hp hc h, DVs.mono hp hc r⟩
end
mutual
theorem DV.noCell {P : FZ} {cs cs' : List Addr} : ∀ {d : D} {v : Value}, NoCell d → DV P cs d v → DV P cs' d v
  | .none, _, _, h => h
  | .bool _, _, _, h => h
  | .int _, _, _, h => h
  | .str _, _, _, h => h
  | .raw _, _, _, h => h
  | .tup _, _, n, ⟨a, o, vs, m, e, ha, h1, h2, h3⟩ => ⟨a, o, vs, m, e, ha, h1, h2, DVs.noCell n h3⟩
  | .lst _, _, n, ⟨a, o, vs, m, e, ha, h1, h2, h3⟩ => ⟨a, o, vs, m, e, ha, h1, h2, DVs.noCell n h3⟩
  | .cell _, _, n, _ => n.elim
  | .meth _, _, n, _ => n.elim
theorem DVs.noCell {P : FZ} {cs cs' : List Addr} : ∀ {ds : List D} {vs : List Value}, NoCells ds → DVs P cs ds vs → DVs P cs' ds vs
  | [], _, _, h => h
  | _ :: _, _, n, ⟨v, vs', e, h, r⟩ => ⟨v, vs', e, DV.noCell n.1 h, DVs.noCell n.2 r⟩
end
theorem noCells_iff : ∀ {ds : List D}, NoCells ds ↔ ∀ d ∈ ds, NoCell d
  | [] => ⟨fun _ _ h => (nomatch h), fun _ => trivial⟩
  | d :: ds => by
    rw [NoCells, noCells_iff (ds := ds)]
    exact ⟨fun h x hx => (List.mem_cons.mp hx).elim (fun e => e ▸ h.1) (h.2 x), fun h => ⟨h d (.head _), fun x hx => h x (.tail _ hx)⟩⟩
theorem negone (n : Nat) : ((-1 : Int) + (n : Int)).toNat = n - 1 := by
  cases n with
  | zero => rfl
  | succ n => exact congrArg Int.toNat ((Int.add_comm _ _).trans (Int.add_neg_cancel_right (n : Int) 1))
theorem len1 {α : Type} {l : List α} (h : l.length = 1) : ∃ a, l = [a] := List.length_eq_one_iff.mp h
theorem len_cons {α : Type} {l : List α} {n : Nat} (h : l.length = n + 1) : ∃ a r, l = a :: r ∧ r.length = n := by
  cases l with
  | nil => cases h
  | cons a r => exact ⟨a, r, rfl, Nat.succ.inj h⟩
theorem len2 {α : Type} {l : List α} (h : l.length = 2) : ∃ a b, l = [a, b] := (len_cons h).elim fun a h => h.elim fun _ h => (len1 h.2).elim fun b e => ⟨a, b, h.1.trans (congrArg _ e)⟩
theorem len3 {α : Type} {l : List α} (h : l.length = 3) : ∃ a b c, l = [a, b, c] := (len_cons h).elim fun a h => h.elim fun _ h => (len2 h.2).elim fun b e => e.elim fun c e => ⟨a, b, c, h.1.trans (congrArg _ e)⟩
theorem map_one {β : Type} {l : List (Str × β)} {x : Str} (h : l.map (·.1) = [x]) : ∃ a, l = [(x, a)] := by
  obtain ⟨⟨y, a⟩, rfl⟩ := len1 (l := l) (by rw [← List.length_map (f := (·.1)), h]; rfl)
  exact ⟨a, congrArg (fun z => [(z, a)]) (List.cons.inj h).1⟩
theorem map_two {β : Type} {l : List (Str × β)} {x y : Str} (h : l.map (·.1) = [x, y]) : ∃ a b, l = [(x, a), (y, b)] := by
  obtain ⟨⟨u, a⟩, ⟨v, b⟩, rfl⟩ := len2 (l := l) (by rw [← List.length_map (f := (·.1)), h]; rfl)
  have h1 : u = x := (List.cons.inj h).1
  have h2 : v = y := (List.cons.inj (List.cons.inj h).2).1
  exact ⟨a, b, by rw [h1, h2]⟩
theorem DVs.length {P : FZ} {cs : List Addr} : ∀ {ds : List D} {vs : List Value}, DVs P cs ds vs → vs.length = ds.length
  | [], _, h => by cases h; rfl
  | _ :: ds, _, ⟨v, vs', e, _, r⟩ => by cases e; simp [DVs.length r]
theorem DVs.append {P : FZ} {cs : List Addr} : ∀ {ds es : List D} {vs ws : List Value}, DVs P cs ds vs → DVs P cs es ws → DVs P cs (ds ++ es) (vs ++ ws)
  | [], _, _, _, h, k => by cases h; exact k
  | _ :: ds, _, _, _, ⟨v, vs', e, h, r⟩, k => by cases e; exact ⟨v, _, rfl, h, DVs.append r k⟩
theorem DVs.get {P : FZ} {cs : List Addr} : ∀ {ds : List D} {vs : List Value} {i : Nat} {d : D}, DVs P cs ds vs → ds[i]? = some d → ∃ v, vs[i]? = some v ∧ DV P cs d v
  | [], _, _, _, _, e => by cases e
  | _ :: _, _, 0, _, ⟨v, _, e, h, _⟩, q => by cases e; cases q; exact ⟨v, rfl, h⟩
  | _ :: _, _, i + 1, _, ⟨_, _, e, _, r⟩, q => by cases e; (refine elEA (DVs.get (i := i) r (by simpa using q)) fun v h1 h2 => ?_); exact ⟨v, by trivial, h2⟩
theorem DVs.get' {P : FZ} {cs : List Addr} : ∀ {ds : List D} {vs : List Value} {i : Nat} {v : Value}, DVs P cs ds vs → vs[i]? = some v → ∃ d, ds[i]? = some d ∧ DV P cs d v
  | [], _, _, _, h, e => by cases h; cases e
  | d :: _, _, 0, _, ⟨v, _, e, h, _⟩, q => by cases e; cases q; exact ⟨d, rfl, h⟩
  | _ :: _, _, i + 1, _, ⟨_, _, e, _, r⟩, q => by cases e; (refine elEA (DVs.get' (i := i) r (by simpa using q)) fun v h1 h2 => ?_); exact ⟨v, by trivial, h2⟩
theorem DVs.take {P : FZ} {cs : List Addr} : ∀ {ds : List D} {vs : List Value} (n : Nat), DVs P cs ds vs → DVs P cs (ds.take n) (vs.take n)
  | [], _, n, h => by cases h; simp [DVs]
  | _ :: _, _, 0, _ => by exact List.nil_append _
  | _ :: _, _, n + 1, ⟨v, vs', e, h, r⟩ => by cases e; exact ⟨v, _, rfl, h, DVs.take n r⟩
theorem DVs.drop {P : FZ} {cs : List Addr} : ∀ {ds : List D} {vs : List Value} (n : Nat), DVs P cs ds vs → DVs P cs (ds.drop n) (vs.drop n)
  | [], _, n, h => by cases h; simp [DVs]
  | _ :: _, _, 0, h => h
  | _ :: _, _, n + 1, ⟨v, vs', e, h, r⟩ => by cases e; exact DVs.drop n r
theorem DVs.set {P : FZ} {cs : List Addr} : ∀ {ds : List D} {vs : List Value} {d : D} {v : Value} (n : Nat), DVs P cs ds vs → DV P cs d v → DVs P cs (ds.set n d) (vs.set n v)
  | [], _, _, _, n, h, _ => by cases h; exact List.nil_append _
  | _ :: _, _, _, _, 0, ⟨v, vs', e, h, r⟩, k => by cases e; exact ⟨_, _, rfl, k, r⟩
  | _ :: _, _, _, _, n + 1, ⟨v, vs', e, h, r⟩, k => by cases e; exact ⟨v, _, rfl, h, DVs.set n r k⟩
theorem DVs.one {P : FZ} {cs : List Addr} {d : D} {v : Value} (h : DV P cs d v) : DVs P cs [d] [v] := ⟨v, [], rfl, h, rfl⟩
theorem DVs.cons {P : FZ} {cs : List Addr} {d : D} {v : Value} {ds : List D} {vs : List Value} (h : DV P cs d v) (r : DVs P cs ds vs) : DVs P cs (d :: ds) (v :: vs) := ⟨v, vs, rfl, h, r⟩
structure Cx where
  prog : Program
  w : World
  hb : Heap
  mg : Str → Option Value
  mb : Str → Option Value
  cT : Addr
  tb : Addr
  os : OsState
  lp : Pos
  gp : Pos
  lq : Str
  gq : Str
noncomputable def CodeOf (P : FZ) (v : Value) (q : Str) : Prop := ∃ c o vs t, v = .ref c ∧ P c = some o ∧ o.data = .fields vs ∧ vs[1]? = some (.str q t)
noncomputable def TabOk (C : Cx) (P : FZ) (h : Heap) : Prop := ∃ ps : Array Value, h.get? C.tb = some { cls := .none, data := .fields ps } ∧ TriplesOk ps.toList ∧
  (∀ v, codeAmong C.lp ps.toList = some v → CodeOf P v C.lq) ∧ (∀ v, codeAmong C.gp ps.toList = some v → CodeOf P v C.gq)
structure Cx.Ok (C : Cx) : Prop where
  g : C.hb.Ns mainGlobals C.mg
  b : C.hb.Ns builtinsNs C.mb
  lim : C.hb.NoLimit
  tb : C.hb.get? C.tb = none
  code : ∃ o vs file tf flags tg inF text tt, C.hb.get? C.cT = some o ∧ o.cls = .type "code" ∧ o.data = .fields vs ∧ vs[11]? = some (.ref C.tb) ∧ vs.getD 18 .none = .str file tf ∧
    vs.getD 7 .none = .int flags tg ∧ vs.getD 9 .none = .bool inF ∧ vs.getD 10 .none = .int text tt ∧ C.cT ≠ C.tb
structure SOk (C : Cx) (P : FZ) (s : Shared) : Prop where
  sub : ∀ a o, P a = some o → s.heap.get? a = some o
  base : ∀ a o, C.hb.get? a = some o → s.heap.get? a = some o
  ptb : P C.tb = none
  tab : TabOk C P s.heap
  gens : AllBare s.gens
  os : s.os = C.os
  pos : 0 < s.toks
noncomputable def Room (A : Around) (n : Nat) : Prop := A.handled = none ∧ A.depth + n < recursionLimit ∧ A.units + 100 * n + 200 < cLine
noncomputable def IsFn (C : Cx) (v : Value) : Prop := ∃ a o fd, v = .ref a ∧ C.hb.get? a = some o ∧ o.data = .func fd
inductive SP (C : Cx) (P : FZ) (s : Shared) (r : D) (v : Value) (s' : Shared) : Prop
  | mk (P' : FZ) (l : PLe P P') (S : SOk C P' s') (hn : ∀ a o, P' a = some o → P a = some o ∨ s.heap.get? a = none) (hk : ∀ a o, a ≠ C.tb → s.heap.get? a = some o → s'.heap.get? a = some o) (z : DV P' [] r v) : SP C P s r v s'
noncomputable def Spec (C : Cx) (n : Nat) (f : Value) (ds : List D) (r : D) : Prop :=
  IsFn C f ∧
  ∀ (A : Around) (s : Shared) (P : FZ) (vs : List Value), Room A n → SOk C P s → DVs P [] ds vs →
    wpAny (model C.prog C.w) A (call f vs) (fun v s' => SP C P s r v s') (fun _ _ => False) s
structure Fx where
  A : Around
  env : Env
  own : List Addr
structure St where
  loc : List (Str × Option D)
  glb : List (Str × D)
  cells : List (Option (List D))
theorem St.of3 {σ : St} {l : List (Str × Option D)} {g : List (Str × D)} {c : List (Option (List D))} (h1 : σ.loc = l) (h2 : σ.glb = g) (h3 : σ.cells = c) : σ = ⟨l, g, c⟩ := by
  subst h1 h2 h3; rfl
theorem Obj.of2 {o : Obj} {c : Value} {d : Data} (h1 : o.cls = c) (h2 : o.data = d) : o = { cls := c, dict := o.dict, data := d, slots := o.slots } := by
  subst h1 h2; rfl
structure Gh where
  P : FZ
  cs : List Addr
noncomputable def GLe (κ : FZ) (g g' : Gh) : Prop := PLe g.P g'.P ∧ CLe g.cs g'.cs ∧ (∀ a o, g'.P a = some o → g.P a = some o ∨ κ a = none) ∧ ∀ a ∈ g'.cs, a ∈ g.cs ∨ κ a = none
theorem GLe.refl (κ : FZ) (g : Gh) : GLe κ g g := ⟨.refl _, .refl _, fun _ _ e => .inl e, fun _ e => .inl e⟩
theorem GLe.trans {κ : FZ} {g g' g'' : Gh} (x : GLe κ g g') (y : GLe κ g' g'') : GLe κ g g'' :=
  ⟨x.1.trans y.1, x.2.1.trans y.2.1, fun a o e => (y.2.2.1 a o e).elim (x.2.2.1 a o) .inr, fun a e => (y.2.2.2 a e).elim (x.2.2.2 a) .inr⟩
noncomputable def StoreAt (Γ : Fx) (h : Heap) (x : Str) : Prop :=
  Γ.env.kindOf x = some .local ∨ (Γ.env.kindOf x = some .cell ∧ ∃ c v, Γ.env.cells.lookup x = some c ∧ c ∈ Γ.own ∧ c ≠ Γ.env.locals ∧ h.IsCell c v ∧ ∀ y c', Γ.env.cells.lookup y = some c' → c' = c → y = x)
noncomputable def Reach (Γ : Fx) (h : Heap) (x : Str) (v : Value) : Prop :=
  (Γ.env.kindOf x = some .local ∧ ∃ m, h.Ns Γ.env.locals m ∧ m x = some v) ∨ (Γ.env.kindOf x = some .cell ∧ ∃ c, Γ.env.cells.lookup x = some c ∧ h.IsCell c (some v))
noncomputable def ROnly (C : Cx) (Γ : Fx) (κ : FZ) (x : Str) (v : Value) : Prop :=
  (Γ.env.kindOf x = some .free ∧ (x == ("__classdict__" : Str)) = false ∧ ∃ c o, Γ.env.cells.lookup x = some c ∧ κ c = some o ∧ o.data = .cell (some v)) ∨
  (Γ.env.kindOf x = some .cell ∧ ∃ c o, Γ.env.cells.lookup x = some c ∧ κ c = some o ∧ o.data = .cell (some v)) ∨
  (Γ.env.kindOf x = some .globalImplicit ∧ (C.mg x = some v ∨ (C.mg x = none ∧ C.mb x = some v)))
structure Fx.Ok (C : Cx) (n : Nat) (Γ : Fx) : Prop where
  room : Room Γ.A n
  kind : Γ.env.scope.kind = .function
  glob : Γ.env.globals = mainGlobals
  blt : Γ.env.builtins = builtinsNs
  here : Γ.env.locals ∈ Γ.own
inductive LiveAt (C : Cx) (Γ : Fx) (κ : FZ) (g : Gh) (h : Heap) (k : Nat) (ds : List D) : Prop
  | mk (a : Addr) (vs : List Value) (h1 : g.cs[k]? = some a) (h2 : g.P a = none) (h3 : κ a = none) (h4 : a ∉ Γ.own) (h5 : a ≠ C.tb) (h6 : PlainL h a (List.toArray vs)) (h7 : DVs g.P g.cs ds vs) (h8 : ∀ j : Nat, g.cs[j]? = some a → j = k) : LiveAt C Γ κ g h k ds
structure Rep (C : Cx) (n : Nat) (Γ : Fx) (κ : FZ) (g : Gh) (σ : St) (s : Shared) : Prop where
  ok : Γ.Ok C n
  sok : SOk C g.P s
  loc : ∀ x od, (x, od) ∈ σ.loc → StoreAt Γ s.heap x ∧ (x == ("__debug__" : Str)) = false ∧ ∀ d, od = some d → ∃ v, Reach Γ s.heap x v ∧ DV g.P g.cs d v
  dup : (σ.loc.map (·.1)).Nodup
  ro : ∀ x d, (x, d) ∈ σ.glb → (x == ("__debug__" : Str)) = false ∧ ∃ v, ROnly C Γ κ x v ∧ DV g.P g.cs d v
  keep : ∀ a o, κ a = some o → s.heap.get? a = some o
  kbase : ∀ a o, C.hb.get? a = some o → κ a = some o
  ktb : κ C.tb = none
  own : ∀ a ∈ Γ.own, g.P a = none ∧ κ a = none ∧ a ≠ C.tb ∧ ∃ o, s.heap.get? a = some o
  ns : ∃ m, s.heap.Ns Γ.env.locals m
  len : σ.cells.length = g.cs.length
  cslt : ∀ a ∈ g.cs, ∃ o, s.heap.get? a = some o
  cstb : C.tb ∉ g.cs
  ownc : ∀ a ∈ g.cs, a ∉ Γ.own
  live : ∀ (k : Nat) ds, σ.cells[k]? = some (some ds) → LiveAt C Γ κ g s.heap k ds
inductive EP (C : Cx) (n : Nat) (Γ : Fx) (κ : FZ) (g : Gh) (σ : St) (Z : Gh → Prop) (s' : Shared) : Prop
  | mk (g' : Gh) (l : GLe κ g g') (R : Rep C n Γ κ g' σ s') (z : Z g') : EP C n Γ κ g σ Z s'
noncomputable def E (C : Cx) (n : Nat) (Γ : Fx) (e : Expr) (σ : St) (d : D) : Prop :=
  ∀ (κ : FZ) (g : Gh) (s : Shared), Rep C n Γ κ g σ s →
    wpAny (model C.prog C.w) Γ.A (eval e Γ.env) (fun v s' => EP C n Γ κ g σ (fun g' => DV g'.P g'.cs d v) s') (fun _ _ => False) s
noncomputable def T (C : Cx) (n : Nat) (Γ : Fx) (e : Expr) (σ : St) (b : Bool) : Prop :=
  ∀ (κ : FZ) (g : Gh) (s : Shared), Rep C n Γ κ g σ s →
    wpAny (model C.prog C.w) Γ.A (isTrue e Γ.env (eval e Γ.env)) (fun b' s' => EP C n Γ κ g σ (fun g' => b' = b) s') (fun _ _ => False) s
noncomputable def Es (C : Cx) (n : Nat) (Γ : Fx) (es : List Expr) (σ : St) (ds : List D) : Prop :=
  ∀ (κ : FZ) (g : Gh) (s : Shared), Rep C n Γ κ g σ s → ∀ pos,
    wpAny (model C.prog C.w) Γ.A (spliced (backTo pos (starEach es Γ.env))) (fun vs s' => EP C n Γ κ g σ (fun g' => DVs g'.P g'.cs ds vs) s') (fun _ _ => False) s
inductive Fl where
  | next | brk | cont
  | ret (d : D)
noncomputable def FlV (g : Gh) : Fl → Flow → Prop
  | .next, f => f = .next
  | .brk, f => f = .brk
  | .cont, f => f = .cont
  | .ret d, f => ∃ v, f = .ret v ∧ DV g.P g.cs d v
inductive XP (C : Cx) (n : Nat) (Γ : Fx) (κ : FZ) (g : Gh) (Q : Fl → St → Prop) (f : Flow) (s' : Shared) : Prop
  | mk (g' : Gh) (σ' : St) (fl : Fl) (l : GLe κ g g') (R : Rep C n Γ κ g' σ' s') (h : FlV g' fl f) (q : Q fl σ') : XP C n Γ κ g Q f s'
noncomputable def X (C : Cx) (n : Nat) (Γ : Fx) (ss : List Stmt) (σ : St) (Q : Fl → St → Prop) : Prop :=
  ∀ (κ : FZ) (g : Gh) (s : Shared), Rep C n Γ κ g σ s →
    wpAny (model C.prog C.w) Γ.A (execs ss Γ.env) (fun f s' => XP C n Γ κ g Q f s') (fun _ _ => False) s
noncomputable def X1 (C : Cx) (n : Nat) (Γ : Fx) (st : Stmt) (σ : St) (Q : Fl → St → Prop) : Prop :=
  ∀ (κ : FZ) (g : Gh) (s : Shared), Rep C n Γ κ g σ s →
    wpAny (model C.prog C.w) Γ.A (exec st Γ.env) (fun f s' => XP C n Γ κ g Q f s') (fun _ _ => False) s
end
section
theorem get_of_lt_none {h : Heap} {a : Addr} (ha : h.objs.size ≤ a) : h.get? a = none := by
  cases e : h.get? a with
  | none => rfl
  | some o => exact absurd (Heap.lt_size e) (Nat.not_lt.mpr ha)
theorem CodeOf.mono {P P' : FZ} {v : Value} {q : Str} (x : CodeOf P v q) (hp : PLe P P') : CodeOf P' v q := by
  (refine elEEEEAA x fun c o vs t e h r => ?_; clear x); exact ⟨c, o, vs, t, e, hp _ _ h, r⟩
theorem TabOk.step {C : Cx} {P P' : FZ} {h h' : Heap} (x : TabOk C P h) (hp : PLe P P') (k : ∀ o, h.get? C.tb = some o → h'.get? C.tb = some o) : TabOk C P' h' := by
  (refine elEAAA x fun ps a b c d => ?_; clear x)
  exact ⟨ps, k _ a, b, fun v e => (c v e).mono hp, fun v e => (d v e).mono hp⟩
variable {C : Cx} {n : Nat} {Γ : Fx} {κ : FZ} {g : Gh} {σ : St} {s s' : Shared} {P' : FZ}
theorem Ns.of_get {h h' : Heap} {L : Addr} {m : Str → Option Value} (x : h.Ns L m) (k : ∀ o, h.get? L = some o → h'.get? L = some o) : h'.Ns L m := by
  (refine elEEEA x fun o es ep ho r => ?_; clear x); exact ⟨o, es, ep, k _ ho, r⟩
theorem IsCell.of_get {h h' : Heap} {c : Addr} {v : Option Value} (x : h.IsCell c v) (k : ∀ o, h.get? c = some o → h'.get? c = some o) : h'.IsCell c v := by
  (refine elEA x fun o ho r => ?_; clear x); exact ⟨o, k _ ho, r⟩
theorem StoreAt.step {h h' : Heap} {x : Str} (S : StoreAt Γ h x) (k : ∀ a ∈ Γ.own, ∀ o, h.get? a = some o → h'.get? a = some o) : StoreAt Γ h' x := by
  rcases S with e | ⟨e, c, v, h1, h2, h3, h4, h5⟩
  · exact .inl e
  · exact .inr ⟨e, c, v, h1, h2, h3, IsCell.of_get h4 (k c h2), h5⟩
theorem Reach.step {h h' : Heap} {x : Str} {v : Value} (S : StoreAt Γ h x) (R : Reach Γ h x v) (hL : Γ.env.locals ∈ Γ.own) (k : ∀ a ∈ Γ.own, ∀ o, h.get? a = some o → h'.get? a = some o) : Reach Γ h' x v := by
  rcases R with ⟨e, m, hm, hv⟩ | ⟨e, c, h1, h2⟩
  · exact .inl ⟨e, m, Ns.of_get hm (k _ hL), hv⟩
  · rcases S with e' | ⟨_, c', v', h1', h2', h3', h4', h5'⟩
    · rw [e'] at e; cases e
    · rw [h1] at h1'; cases h1'
      exact .inr ⟨e, c, h1, IsCell.of_get h2 (k _ h2')⟩
theorem Rep.step (R : Rep C n Γ κ g σ s) (hS : SOk C P' s') (hP : PLe g.P P') (hnew : ∀ a o, P' a = some o → g.P a = some o ∨ s.heap.get? a = none)
    (hk : ∀ a o, ((∃ o', κ a = some o') ∨ a ∈ Γ.own ∨ a ∈ g.cs) → s.heap.get? a = some o → s'.heap.get? a = some o) :
    GLe κ g ⟨P', g.cs⟩ ∧ Rep C n Γ κ ⟨P', g.cs⟩ σ s' := by
  have hc : CLe g.cs g.cs := .refl _
  have hown : ∀ a ∈ Γ.own, ∀ o, s.heap.get? a = some o → s'.heap.get? a = some o := fun a ha o e => hk a o (.inr (.inl ha)) e
  have hkap : ∀ a o, κ a = some o → s'.heap.get? a = some o := fun a o e => hk a o (.inl ⟨o, e⟩) (R.keep a o e)
  refine ⟨⟨hP, hc, fun a o e => (hnew a o e).imp id fun q => ?_, fun _ e => .inl e⟩, ⟨R.ok, hS, fun x od hx => ?_, R.dup, fun x d hx => ?_, hkap, R.kbase, R.ktb, fun a ha => ?_, ?_, R.len, fun a ha => let ⟨o, ho⟩ := R.cslt a ha; ⟨o, hk a o (.inr (.inr ha)) ho⟩, R.cstb, R.ownc, fun k ds e => ?_⟩⟩
  · cases z : κ a with
    | none => rfl
    | some o' => have := R.keep a o' z; rw [q] at this; cases this
  · (refine elAA (R.loc x od hx) fun h1 h2 h3 => ?_)
    refine ⟨h1.step hown, h2, fun d e => ?_⟩
    (refine elEA (h3 d e) fun v hv hd => ?_)
    exact ⟨v, Reach.step h1 hv R.ok.here hown, hd.mono hP hc⟩
  · (refine elAEA (R.ro x d hx) fun h1 v hv hd => ?_)
    exact ⟨h1, v, hv, hd.mono hP hc⟩
  · (refine elAAAE (R.own a ha) fun h1 h2 h3 o h4 => ?_)
    refine ⟨?_, h2, h3, o, hown a ha o h4⟩
    show P' a = none
    cases z : P' a with
    | none => rfl
    | some o' =>
      rcases hnew a o' z with q | q
      · rw [h1] at q; cases q
      · rw [h4] at q; cases q
  · obtain ⟨m, hm⟩ := R.ns
    exact ⟨m, Ns.of_get hm (hown _ R.ok.here)⟩
  · obtain ⟨a, vs, h1, h2, h3, h4, h5, ⟨oo, mm, h6, h6'⟩, h7, h8⟩ := R.live k ds e
    refine ⟨a, vs, h1, ?_, h3, h4, h5, ⟨oo, mm, hk a _ (.inr (.inr (List.mem_of_getElem? h1))) h6, h6'⟩, h7.mono hP hc, h8⟩
    show P' a = none
    cases z : P' a with
    | none => rfl
    | some o' =>
      rcases hnew a o' z with q | q
      · rw [h2] at q; cases q
      · rw [h6] at q; cases q
theorem SOk.heap {P : FZ} (S : SOk C P s) {h' : Heap} {t : Nat} (hp : ∀ a o, P a = some o → h'.get? a = some o) (hb : ∀ a o, C.hb.get? a = some o → h'.get? a = some o)
    (ht : ∀ o, s.heap.get? C.tb = some o → h'.get? C.tb = some o) (hz : autoParam (s.toks ≤ t) tacA) : SOk C P { s with heap := h', toks := t } :=
  ⟨hp, hb, S.ptb, S.tab.step (.refl _) ht, S.gens, S.os, Nat.lt_of_lt_of_le S.pos hz⟩
theorem Rep.more (R : Rep C n Γ κ g σ s) {h' : Heap} {t : Nat} (hk : ∀ a o, s.heap.get? a = some o → h'.get? a = some o) (ht : autoParam (s.toks ≤ t) tacA) : Rep C n Γ κ g σ { s with heap := h', toks := t } :=
  (R.step (P' := g.P) (R.sok.heap (fun a o e => hk a o (R.sok.sub a o e)) (fun a o e => hk a o (R.sok.base a o e)) (fun o e => hk _ o e) ht) (.refl _) (fun _ _ e => .inl e) (fun a o _ e => hk a o e)).2
theorem Rep.toks (R : Rep C n Γ κ g σ s) {t : Nat} (ht : autoParam (s.toks ≤ t) tacA) : Rep C n Γ κ g σ { s with toks := t } := R.more (fun _ _ e => e) ht
theorem Rep.push (R : Rep C n Γ κ g σ s) (o : Obj) {t : Nat} (ht : autoParam (s.toks ≤ t) tacA) : Rep C n Γ κ g σ { s with heap := s.heap.push o, toks := t } :=
  R.more (fun _ _ e => Heap.get?_push_of_some _ e) ht
theorem Rep.but (R : Rep C n Γ κ g σ s) {h' : Heap} {t : Nat} {it : Addr} (h1 : g.P it = none) (h2 : κ it = none) (h3 : it ∉ Γ.own) (h4 : it ∉ g.cs) (h5 : it ≠ C.tb)
    (hk : ∀ a o, a ≠ it → s.heap.get? a = some o → h'.get? a = some o) (ht : autoParam (s.toks ≤ t) tacA) : Rep C n Γ κ g σ { s with heap := h', toks := t } := by
  refine (R.step (P' := g.P) (R.sok.heap (fun a o e => hk a o (fun z => ?_) (R.sok.sub a o e)) (fun a o e => hk a o (fun z => ?_) (R.sok.base a o e)) (fun o e => hk _ o (fun z => h5 z.symm) e) ht) (.refl _) (fun _ _ e => .inl e) (fun a o t e => hk a o (fun z => ?_) e)).2
  · subst z; rw [h1] at e; cases e
  · subst z; have := R.kbase a o e; rw [h2] at this; cases this
  · subst z
    rcases t with ⟨o', q⟩ | q | q
    · rw [h2] at q; cases q
    · exact h3 q
    · exact h4 q
noncomputable def FZ.set (P : FZ) (a : Addr) (o : Obj) : FZ := fun x => if x = a then some o else P x
theorem FZ.set_self (P : FZ) (a : Addr) (o : Obj) : P.set a o a = some o := if_pos rfl
theorem FZ.set_ne (P : FZ) {a b : Addr} (o : Obj) (h : b ≠ a) : P.set a o b = P b := if_neg h
theorem FZ.le_set {P : FZ} {a : Addr} (o : Obj) (h : P a = none) : PLe P (P.set a o) := fun x o' e => by
  rw [FZ.set_ne _ _ fun z => ?_]; exact e
  subst z; rw [h] at e; cases e
theorem Rep.freezeAt (R : Rep C n Γ κ g σ s) {a : Addr} {o : Obj} (ho : s.heap.get? a = some o) (h1 : g.P a = none) (h2 : κ a = none) (h3 : a ∉ Γ.own) (h4 : a ≠ C.tb) (h5 : a ∉ g.cs) :
    GLe κ g ⟨g.P.set a o, g.cs⟩ ∧ Rep C n Γ κ ⟨g.P.set a o, g.cs⟩ σ s := by
  have hp := FZ.le_set o h1
  have hc : CLe g.cs g.cs := .refl _
  refine ⟨⟨hp, .refl _, fun x o' e => ?_, fun _ e => .inl e⟩, ⟨R.ok, ⟨fun x o' e => ?_, R.sok.base, ?_, R.sok.tab.step hp fun _ e => e, R.sok.gens, R.sok.os, R.sok.pos⟩, fun x od hx => ?_, R.dup, fun x d hx => ?_, R.keep, R.kbase, R.ktb, fun x hx => ?_, R.ns, R.len, R.cslt, R.cstb, R.ownc, fun k ds e => ?_⟩⟩
  · replace e : g.P.set a o x = some o' := e
    by_cases z : x = a
    · subst z; exact .inr h2
    · rw [FZ.set_ne _ _ z] at e; exact .inl e
  · replace e : g.P.set a o x = some o' := e
    by_cases z : x = a
    · subst z; rw [FZ.set_self] at e; cases e; exact ho
    · rw [FZ.set_ne _ _ z] at e; exact R.sok.sub x o' e
  · show g.P.set a o C.tb = none
    rw [FZ.set_ne _ _ (Ne.symm h4)]; exact R.sok.ptb
  · (refine elAA (R.loc x od hx) fun q1 q2 q3 => ?_)
    exact ⟨q1, q2, fun d e => let ⟨v, hv, hd⟩ := q3 d e; ⟨v, hv, hd.mono hp hc⟩⟩
  · (refine elAEA (R.ro x d hx) fun q1 v hv hd => ?_)
    exact ⟨q1, v, hv, hd.mono hp hc⟩
  · obtain ⟨q1, q2⟩ := R.own x hx
    have z : x ≠ a := fun z => h3 (z ▸ hx)
    exact ⟨(FZ.set_ne _ _ z).trans q1, q2⟩
  · obtain ⟨b, vs, q1, q2, q3, q4, q5, q6, q7, q8⟩ := R.live k ds e
    have z : b ≠ a := fun z => h5 (z ▸ List.mem_of_getElem? q1)
    exact ⟨b, vs, q1, (FZ.set_ne _ _ z).trans q2, q3, q4, q5, q6, q7.mono hp hc, q8⟩
theorem Rep.fresh (R : Rep C n Γ κ g σ s) {a : Addr} (ha : s.heap.objs.size ≤ a) : g.P a = none ∧ κ a = none ∧ a ∉ Γ.own ∧ a ≠ C.tb ∧ a ∉ g.cs := by
  have hn := get_of_lt_none ha
  refine ⟨?_, ?_, fun q => ?_, fun q => ?_, fun q => ?_⟩
  · cases z : g.P a with
    | none => rfl
    | some o => have := R.sok.sub a o z; rw [hn] at this; cases this
  · cases z : κ a with
    | none => rfl
    | some o => have := R.keep a o z; rw [hn] at this; cases this
  · (refine elAAAE (R.own a q) fun _ _ _ o e => ?_); rw [hn] at e; cases e
  · (refine elEA R.sok.tab fun ps e _ => ?_); rw [← q, hn] at e; cases e
  · obtain ⟨o, e⟩ := R.cslt a q; rw [hn] at e; cases e
theorem Rep.pushF (R : Rep C n Γ κ g σ s) (o : Obj) (hf : autoParam (o.isFreed = false) tacB) {t : Nat} (ht : autoParam (s.toks ≤ t) tacA) :
    GLe κ g ⟨g.P.set s.heap.objs.size o, g.cs⟩ ∧ Rep C n Γ κ ⟨g.P.set s.heap.objs.size o, g.cs⟩ σ { s with heap := s.heap.push o, toks := t } := by
  (refine elAAAA (R.fresh (Nat.le_refl s.heap.objs.size)) fun h1 h2 h3 h4 h5 => ?_)
  exact (R.push o (t := t) ht).freezeAt (Heap.get?_push_size _ hf) h1 h2 h3 h4 h5
theorem Rep.call (R : Rep C n Γ κ g σ s) (hS : SOk C P' s') (hP : PLe g.P P') (hnew : ∀ a o, P' a = some o → g.P a = some o ∨ s.heap.get? a = none)
    (hk : ∀ a o, a ≠ C.tb → s.heap.get? a = some o → s'.heap.get? a = some o) : GLe κ g ⟨P', g.cs⟩ ∧ Rep C n Γ κ ⟨P', g.cs⟩ σ s' := by
  refine R.step hS hP hnew (fun a o t e => hk a o (fun z => ?_) e)
  rcases t with ⟨o', q⟩ | q | q
  · rw [z, R.ktb] at q; cases q
  · exact (R.own a q).2.2.1 z
  · exact R.cstb (z ▸ q)
end
section
theorem thn {α : Type} {M : Model} {A : Around} {m : Sem α} {Q Q' : α → Shared → Prop} {E' : Value → Shared → Prop} {s : Shared} (h : wpAny M A m Q (fun _ _ => False) s)
    (k : ∀ a s', Q a s' → Q' a s') : wpAny M A m Q' E' s := wpAny_mono h k fun _ _ x => x.elim
variable {C : Cx} {n : Nat} {Γ : Fx} {σ : St}
theorem DV.int_ {P : FZ} {cs : List Addr} {i : Int} {t : Tok} : DV P cs (.int i) (.int i t) := ⟨t, rfl⟩
theorem DV.str_ {P : FZ} {cs : List Addr} {x : List Nat} {t : Tok} : DV P cs (.str x) (.str ⟨x.toArray⟩ t) := ⟨t, rfl⟩
theorem DV.str' {P : FZ} {cs : List Addr} {x : Str} {t : Tok} : DV P cs (.str x.cps.toList) (.str x t) := ⟨t, by cases x; simp⟩
theorem DV.strEq {P : FZ} {cs : List Addr} {x : Str} {l : List Nat} {t : Tok} (h : x.cps.toList = l) : DV P cs (.str l) (.str x t) := by subst h; exact DV.str'
theorem E.ro {x : Str} {d : D} {pos : Pos} (H : C.Ok) (h : (x, d) ∈ σ.glb) : E C n Γ (.Name x pos) σ d := by
  intro κ g s R
  (refine elAEA (R.ro x d h) fun hd v hv hD => ?_)
  have fin : EP C n Γ κ g σ (fun g' => DV g'.P g'.cs d v) s := ⟨g, .refl _ _, R, hD⟩
  rcases hv with ⟨hk, hcd, c, o, hc, ho, hod⟩ | ⟨hk, c, o, hc, ho, hod⟩ | ⟨hk, hv⟩
  · exact wpAny_Name (wpAny_loadName_free R.ok.kind hk hc ⟨o, R.keep _ _ ho, hod⟩ fin hcd) hd
  · exact wpAny_Name (wpAny_loadName_cell R.ok.kind hk hc ⟨o, R.keep _ _ ho, hod⟩ fin) hd
  · have hg : s.heap.Ns Γ.env.globals C.mg := by rw [R.ok.glob]; exact H.g.keeps R.sok.base
    have hb : s.heap.Ns Γ.env.builtins C.mb := by rw [R.ok.blt]; exact H.b.keeps R.sok.base
    refine Name_function_global R.ok.kind hk ?_ hd
    rcases hv with hv | ⟨h1, h2⟩
    · exact loadGlobal_global hg hv fin
    · exact loadGlobal_builtin hg h1 hb h2 fin
theorem E.fn {x : Str} {v : Value} {pos : Pos} (H : C.Ok) (hk : Γ.env.kindOf x = some .globalImplicit) (h : C.mg x = some v) (hd : autoParam ((x == ("__debug__" : Str)) = false) tacF) : E C n Γ (.Name x pos) σ (.raw v) := by
  intro κ g s R
  have hg : s.heap.Ns Γ.env.globals C.mg := by rw [R.ok.glob]; exact H.g.keeps R.sok.base
  exact Name_function_global R.ok.kind hk (loadGlobal_global hg h ⟨g, .refl _ _, R, rfl⟩) hd
theorem E.bl {x : Str} {v : Value} {pos : Pos} (H : C.Ok) (hk : Γ.env.kindOf x = some .globalImplicit) (h : C.mg x = none ∧ C.mb x = some v) (hd : autoParam ((x == ("__debug__" : Str)) = false) tacF) : E C n Γ (.Name x pos) σ (.raw v) := by
  intro κ g s R
  have hg : s.heap.Ns Γ.env.globals C.mg := by rw [R.ok.glob]; exact H.g.keeps R.sok.base
  have hb : s.heap.Ns Γ.env.builtins C.mb := by rw [R.ok.blt]; exact H.b.keeps R.sok.base
  exact Name_function_global R.ok.kind hk (loadGlobal_builtin hg h.1 hb h.2 ⟨g, .refl _ _, R, rfl⟩) hd
theorem load_loc {x : Str} {d : D} (h : (x, some d) ∈ σ.loc) {κ : FZ} {g : Gh} {s : Shared} (R : Rep C n Γ κ g σ s) {Q : Value → Shared → Prop} (hQ : ∀ v, DV g.P g.cs d v → Q v s) {E' : Value → Shared → Prop} :
    wpAny (model C.prog C.w) Γ.A (loadName Γ.env x) Q E' s := by
  (refine elAA (R.loc x _ h) fun _ _ h3 => ?_)
  (refine elEA (h3 d rfl) fun v hv hD => ?_)
  rcases hv with ⟨hk, m, hm, hx⟩ | ⟨hk, c, hc, hv⟩
  · exact wpAny_loadName_local R.ok.kind hk hm hx (hQ v hD)
  · exact wpAny_loadName_cell R.ok.kind hk hc hv (hQ v hD)
theorem E.loc {x : Str} {d : D} {pos : Pos} (h : (x, some d) ∈ σ.loc) : E C n Γ (.Name x pos) σ d := by
  intro κ g s R
  exact wpAny_Name (load_loc h R fun v hD => ⟨g, .refl _ _, R, hD⟩) (R.loc x _ h).2.1
theorem E.int {i : Int} {k : Nat} {pos : Pos} : E C n Γ (.Constant (.int i) k pos) σ (.int i) := fun _ g _ R =>
  wpAny_Constant_int ⟨g, .refl _ _, R.toks, DV.int_⟩
theorem E.str {x : Str} {l : List Nat} {k : Nat} {pos : Pos} (h : x.cps.toList = l) : E C n Γ (.Constant (.str x) k pos) σ (.str l) := fun _ g _ R =>
  wpAny_Constant_str ⟨g, .refl _ _, R.toks, DV.strEq h⟩
theorem E.none {k : Nat} {pos : Pos} : E C n Γ (.Constant .none k pos) σ .none := fun _ g _ R => wpAny_Constant_none ⟨g, .refl _ _, R, rfl⟩
theorem E.bool {b : Bool} {k : Nat} {pos : Pos} : E C n Γ (.Constant (.bool b) k pos) σ (.bool b) := fun _ g _ R => wpAny_Constant_bool ⟨g, .refl _ _, R, rfl⟩
noncomputable def Bop (C : Cx) (n : Nat) (Γ : Fx) (m : Value → Value → Sem Value) (σ : St) (a b d : D) : Prop :=
  ∀ (κ : FZ) (g : Gh) (s : Shared) (va vb : Value), Rep C n Γ κ g σ s → DV g.P g.cs a va → DV g.P g.cs b vb →
    wpAny (model C.prog C.w) Γ.A (m va vb) (fun v s' => EP C n Γ κ g σ (fun g' => DV g'.P g'.cs d v) s') (fun _ _ => False) s
theorem two {l r : Expr} {a b d : D} {m : Value → Value → Sem Value} (h1 : E C n Γ l σ a) (h2 : E C n Γ r σ b) (h3 : Bop C n Γ m σ a b d) {κ : FZ} {g : Gh} {s : Shared} (R : Rep C n Γ κ g σ s) :
    wpAny (model C.prog C.w) Γ.A (eval l Γ.env) (fun va s₁ => wpAny (model C.prog C.w) Γ.A (eval r Γ.env) (fun vb s₂ => wpAny (model C.prog C.w) Γ.A (m va vb)
      (fun v s' => EP C n Γ κ g σ (fun g' => DV g'.P g'.cs d v) s') (fun _ _ => False) s₂) (fun _ _ => False) s₁) (fun _ _ => False) s := by
  refine thn (h1 κ g s R) ?_
  rintro va s₁ ⟨g₁, l₁, R₁, D₁⟩
  refine thn (h2 κ g₁ s₁ R₁) ?_
  rintro vb s₂ ⟨g₂, l₂, R₂, D₂⟩
  refine thn (h3 κ g₂ s₂ va vb R₂ (D₁.mono l₂.1 l₂.2.1) D₂) ?_
  rintro v s' ⟨g₃, l₃, R₃, D₃⟩
  exact ⟨g₃, (l₁.trans l₂).trans l₃, R₃, D₃⟩
theorem E.bin {l r : Expr} {op : Operator} {pos : Pos} {a b d : D} (h1 : E C n Γ l σ a) (h2 : E C n Γ r σ b) (h3 : Bop C n Γ (binaryOp op) σ a b d) : E C n Γ (.BinOp l op r pos) σ d :=
  fun _ _ _ R => wpAny_BinOp (two h1 h2 h3 R)
theorem E.cmp {l r : Expr} {op : CmpOp} {pos : Pos} {a b d : D} (h1 : E C n Γ l σ a) (h2 : E C n Γ r σ b) (h3 : Bop C n Γ (compareOp op) σ a b d) (hm : autoParam (behindInMarks op r = false) tacD) :
    E C n Γ (.Compare l [op] [r] pos) σ d := fun _ _ _ R => wpAny_Compare1 (two h1 h2 h3 R) hm
theorem Bop.plain {m : Value → Value → Sem Value} {a b d : D}
    (h : ∀ (A : Around) (s : Shared) (P : FZ) (cs : List Addr) (va vb : Value) (Q : Value → Shared → Prop) (E' : Value → Shared → Prop), A.handled = Option.none → DV P cs a va → DV P cs b vb →
      (∀ v t, DV P cs d v → Q v { s with toks := t }) → wpAny (model C.prog C.w) A (m va vb) Q E' s) : Bop C n Γ m σ a b d :=
  fun κ g s va vb R ha hb => of_toks (h Γ.A s g.P g.cs va vb _ _ R.ok.room.1 ha hb fun v t hd ht => ⟨g, .refl _ _, R.toks ht, hd⟩)
section IntOps
variable {a b : Int}
theorem add_i : Bop C n Γ (binaryOp .Add) σ (.int a) (.int b) (.int (a + b)) := Bop.plain (by
  rintro A s P cs _ _ Q E' _ ⟨t, rfl⟩ ⟨u, rfl⟩ h; with_reducible exact add_int (h _ _ DV.int_))
theorem iadd_i : Bop C n Γ (inplaceOp .Add) σ (.int a) (.int b) (.int (a + b)) := Bop.plain (by
  rintro A s P cs _ _ Q E' _ ⟨t, rfl⟩ ⟨u, rfl⟩ h; with_reducible exact wpAny_iadd_int (h _ _ DV.int_))
theorem sub_i : Bop C n Γ (binaryOp .Sub) σ (.int a) (.int b) (.int (a - b)) := Bop.plain (by
  rintro A s P cs _ _ Q E' _ ⟨t, rfl⟩ ⟨u, rfl⟩ h; with_reducible exact sub_int (h _ _ DV.int_))
theorem mul_i (hm : IntMulOk a b) : Bop C n Γ (binaryOp .Mult) σ (.int a) (.int b) (.int (a * b)) := Bop.plain (by
  rintro A s P cs _ _ Q E' _ ⟨t, rfl⟩ ⟨u, rfl⟩ h; with_reducible exact mul_int (h _ _ DV.int_) hm)
theorem mod_i (hb : b ≠ 0) : Bop C n Γ (binaryOp .Mod) σ (.int a) (.int b) (.int (a.fmod b)) := Bop.plain (by
  rintro A s P cs _ _ Q E' _ ⟨t, rfl⟩ ⟨u, rfl⟩ h; with_reducible exact mod_int hb (h _ _ DV.int_))
theorem div_i (hb : b ≠ 0) (hp : Builtin.divisionGoesByPylong a b = false) : Bop C n Γ (binaryOp .FloorDiv) σ (.int a) (.int b) (.int (a.fdiv b)) := Bop.plain (by
  rintro A s P cs _ _ Q E' _ ⟨t, rfl⟩ ⟨u, rfl⟩ h; with_reducible exact floordiv_int hb (h _ _ DV.int_) (.inl hp))
theorem pow_i (hn : 0 ≤ b) (hsz : (Builtin.Int.intBits a : Int) * b ≤ 2 ^ 27) : Bop C n Γ (binaryOp .Pow) σ (.int a) (.int b) (.int (a ^ b.toNat)) := Bop.plain (by
  rintro A s P cs _ _ Q E' _ ⟨t, rfl⟩ ⟨u, rfl⟩ h; with_reducible exact pow_int hn hsz (h _ _ DV.int_))
theorem lt_i : Bop C n Γ (compareOp .Lt) σ (.int a) (.int b) (.bool (decide (a < b))) := Bop.plain (by
  rintro A s P cs _ _ Q E' _ ⟨t, rfl⟩ ⟨u, rfl⟩ h; (with_reducible refine lt_int ?_); exact h _ s.toks rfl)
theorem le_i : Bop C n Γ (compareOp .LtE) σ (.int a) (.int b) (.bool (decide (a ≤ b))) := Bop.plain (by
  rintro A s P cs _ _ Q E' _ ⟨t, rfl⟩ ⟨u, rfl⟩ h; (with_reducible refine le_int ?_); exact h _ s.toks rfl)
theorem gt_i : Bop C n Γ (compareOp .Gt) σ (.int a) (.int b) (.bool (decide (b < a))) := Bop.plain (by
  rintro A s P cs _ _ Q E' _ ⟨t, rfl⟩ ⟨u, rfl⟩ h; (with_reducible refine gt_int ?_); exact h _ s.toks rfl)
theorem ge_i : Bop C n Γ (compareOp .GtE) σ (.int a) (.int b) (.bool (decide (b ≤ a))) := Bop.plain (by
  rintro A s P cs _ _ Q E' _ ⟨t, rfl⟩ ⟨u, rfl⟩ h; (with_reducible refine ge_int ?_); exact h _ s.toks rfl)
theorem eq_i : Bop C n Γ (compareOp .Eq) σ (.int a) (.int b) (.bool (decide (a = b))) := Bop.plain (by
  rintro A s P cs _ _ Q E' _ ⟨t, rfl⟩ ⟨u, rfl⟩ h; (with_reducible refine eq_int ?_); exact h (.bool (a == b)) s.toks (by rw [show (a == b) = decide (a = b) from rfl]; rfl))
theorem ne_i : Bop C n Γ (compareOp .NotEq) σ (.int a) (.int b) (.bool (!decide (a = b))) := Bop.plain (by
  rintro A s P cs _ _ Q E' _ ⟨t, rfl⟩ ⟨u, rfl⟩ h; (with_reducible refine ne_int ?_); exact h _ s.toks rfl)
end IntOps
section StrOps
variable {x y : List Nat}
theorem str_append (x y : List Nat) : (⟨x.toArray⟩ : Str) ++ ⟨y.toArray⟩ = ⟨(x ++ y).toArray⟩ := by
  show Str.append _ _ = _
  unfold Str.append
  simp
theorem str_len (x : List Nat) : (⟨x.toArray⟩ : Str).length = x.length := by unfold Str.length; rfl
theorem str_inj {x y : List Nat} : (⟨x.toArray⟩ : Str) = ⟨y.toArray⟩ ↔ x = y := by
  constructor
  · intro h; injection h with h; injection h
  · rintro rfl; rfl
theorem add_s (h : x.length + y.length ≤ sizeLine) : Bop C n Γ (binaryOp .Add) σ (.str x) (.str y) (.str (x ++ y)) := Bop.plain (by
  rintro A s P cs _ _ Q E' _ ⟨t, rfl⟩ ⟨u, rfl⟩ k; with_reducible refine add_str ?_ ?_
  · exact fun t' tk => k _ _ ⟨t', by rw [str_append]⟩
  · rw [str_len, str_len]; exact h)
theorem iadd_s (h : x.length + y.length ≤ sizeLine) : Bop C n Γ (inplaceOp .Add) σ (.str x) (.str y) (.str (x ++ y)) := Bop.plain (by
  rintro A s P cs _ _ Q E' _ ⟨t, rfl⟩ ⟨u, rfl⟩ k; with_reducible refine iadd_str ?_ ?_
  · exact fun t' tk => k _ _ ⟨t', by rw [str_append]⟩
  · rw [str_len, str_len]; exact h)
theorem eq_s : Bop C n Γ (compareOp .Eq) σ (.str x) (.str y) (.bool (decide (x = y))) := Bop.plain (by
  rintro A s P cs _ _ Q E' _ ⟨t, rfl⟩ ⟨u, rfl⟩ h
  with_reducible refine eq_str (h _ s.toks ?_)
  show Value.bool _ = .bool _
  congr 1
  by_cases e : x = y
  · subst e; simp
  · simp [e])
theorem ne_s : Bop C n Γ (compareOp .NotEq) σ (.str x) (.str y) (.bool (!decide (x = y))) := Bop.plain (by
  rintro A s P cs _ _ Q E' _ ⟨t, rfl⟩ ⟨u, rfl⟩ h
  with_reducible refine ne_str (h _ s.toks ?_)
  show Value.bool _ = .bool _
  congr 1
  by_cases e : x = y
  · subst e; simp
  · simp_all)
theorem le_s : Bop C n Γ (compareOp .LtE) σ (.str x) (.str y) (.bool (!decide (y < x))) := Bop.plain (by
  rintro A s P cs _ _ Q E' _ ⟨t, rfl⟩ ⟨u, rfl⟩ h
  with_reducible refine _root_.PySem.P.le_str ?_
  exact h _ s.toks rfl)
theorem gt_s : Bop C n Γ (compareOp .Gt) σ (.str x) (.str y) (.bool (decide (y < x))) := Bop.plain (by
  rintro A s P cs _ _ Q E' _ ⟨t, rfl⟩ ⟨u, rfl⟩ h
  with_reducible refine _root_.PySem.P.gt_str ?_
  exact h _ s.toks rfl)
noncomputable def subB (y x : List Nat) : Bool := !(Builtin.Str.occurrences ⟨x.toArray⟩ ⟨y.toArray⟩ 0 x.length 1).isEmpty
theorem in_s : Bop C n Γ (compareOp .In) σ (.str y) (.str x) (.bool (subB y x)) := Bop.plain (by
  rintro A s P cs _ _ Q E' _ ⟨t, rfl⟩ ⟨u, rfl⟩ h
  with_reducible refine in_str (h _ s.toks ?_)
  rw [str_len]; rfl)
theorem notIn_s : Bop C n Γ (compareOp .NotIn) σ (.str y) (.str x) (.bool (!subB y x)) := Bop.plain (by
  rintro A s P cs _ _ Q E' _ ⟨t, rfl⟩ ⟨u, rfl⟩ h
  with_reducible refine notIn_str (h _ s.toks ?_)
  rw [str_len]; rfl)
end StrOps
inductive Seqd (σ : St) : D → List D → Prop
  | lst (ds : List D) : Seqd σ (.lst ds) ds
  | cell (k : Nat) (ds : List D) : σ.cells[k]? = some (some ds) → Seqd σ (.cell k) ds
theorem Seqd.isList {d : D} {ds : List D} {κ : FZ} {g : Gh} {s : Shared} {v : Value} (S : Seqd σ d ds) (R : Rep C n Γ κ g σ s) (h : DV g.P g.cs d v) :
    ∃ a vs, v = .ref a ∧ s.heap.IsList a (List.toArray vs) ∧ DVs g.P g.cs ds vs := by
  cases S with
  | lst =>
    obtain ⟨a, o, vs, m, e, ho, hc, hd, r⟩ := h
    exact ⟨a, vs, e, ⟨o, R.sok.sub _ _ ho, hc, m, hd⟩, r⟩
  | cell k ds hk =>
    (refine elEA h fun a ha e => ?_; clear h)
    obtain ⟨a', vs, q1, _, _, _, _, q6, q7, _⟩ := R.live k ds hk
    rw [ha] at q1; cases q1
    exact ⟨a, vs, e, q6.isList, q7⟩
noncomputable def Tr (C : Cx) (n : Nat) (Γ : Fx) (σ : St) (d : D) (b : Bool) : Prop :=
  ∀ (κ : FZ) (g : Gh) (s : Shared) (v : Value), Rep C n Γ κ g σ s → DV g.P g.cs d v →
    wpAny (model C.prog C.w) Γ.A (truthy v) (fun b' s' => EP C n Γ κ g σ (fun g' => b' = b) s') (fun _ _ => False) s
theorem Tr.bool {b : Bool} : Tr C n Γ σ (.bool b) b := by
  rintro κ g s _ R rfl; exact wpAny_truthy_bool ⟨g, .refl _ _, R, rfl⟩
theorem Tr.str {x : List Nat} (h : x.length < 9223372036854775808) : Tr C n Γ σ (.str x) (!x.isEmpty) := by
  rintro κ g s _ R ⟨t, rfl⟩
  refine SBL.truthy (by rw [str_len]; exact Int.ofNat_lt.mpr (by assumption)) ⟨g, .refl _ _, R.toks, ?_⟩
  rw [str_len]
  cases x with
  | nil => rfl
  | cons a x => simp [bne]; norm_cast
theorem Tr.seq {d : D} {ds : List D} (S : Seqd σ d ds) (h : ds.length < 9223372036854775808) : Tr C n Γ σ d (!ds.isEmpty) := by
  intro κ g s v R hv
  (refine elEEAA (S.isList R hv) fun a vs z0 hl hd => ?_; subst z0)
  have hn : vs.length = ds.length := hd.length
  refine wpAny_truthy_list hl (by rw [List.size_toArray, hn]; exact Int.ofNat_lt.mpr (by assumption)) ?_
  refine ⟨g, .refl _ _, R.toks, ?_⟩
  cases vs <;> cases ds <;> trivial
theorem T.not {e : Expr} {pos : Pos} {b : Bool} (h : T C n Γ e σ b) : T C n Γ (.UnaryOp .Not e pos) σ (!b) := by
  intro κ g s R
  refine isTrue_not (thn (h κ g s R) ?_)
  rintro c s' ⟨g', l, R', rfl⟩
  exact ⟨g', l, R', rfl⟩
theorem T.val {e : Expr} {d : D} {b : Bool} (h : E C n Γ e σ d) (t : Tr C n Γ σ d b)
    (he : autoParam (∀ env whole, isTrue e env whole = (do let v ← whole; standAt e.pos; holding [v] (truthy v))) tacC) : T C n Γ e σ b := by
  intro κ g s R
  refine isTrue_plain (thn (h κ g s R) ?_) (he _ _)
  rintro v s' ⟨g', l, R', hd⟩
  refine thn (t κ g' s' v R' hd) ?_
  rintro b' s'' ⟨g'', l', R'', e'⟩
  exact ⟨g'', l.trans l', R'', e'⟩
theorem T.cmp {l r : Expr} {op : CmpOp} {pos : Pos} {a b : D} {c : Bool} (h1 : E C n Γ l σ a) (h2 : E C n Γ r σ b) (h3 : Bop C n Γ (compareOp op) σ a b (.bool c)) (hm : autoParam (behindInMarks op r = false) tacD) :
    T C n Γ (.Compare l [op] [r] pos) σ c := by
  intro κ g s R
  refine wpAny_isTrue_Compare1 ?_ hm
  refine thn (h1 κ g s R) ?_
  rintro va s₁ ⟨g₁, l₁, R₁, D₁⟩
  refine thn (h2 κ g₁ s₁ R₁) ?_
  rintro vb s₂ ⟨g₂, l₂, R₂, D₂⟩
  refine thn (h3 κ g₂ s₂ va vb R₂ (D₁.mono l₂.1 l₂.2.1) D₂) ?_
  rintro v s' ⟨g₃, l₃, R₃, rfl⟩
  exact wpAny_truthy_bool ⟨g₃, (l₁.trans l₂).trans l₃, R₃, rfl⟩
theorem T.chain {l r₁ r₂ : Expr} {op₁ op₂ : CmpOp} {pos : Pos} {a b c : D} {p q : Bool} (h1 : E C n Γ l σ a) (h2 : E C n Γ r₁ σ b) (h3 : Bop C n Γ (compareOp op₁) σ a b (.bool p))
    (h4 : E C n Γ r₂ σ c) (h5 : Bop C n Γ (compareOp op₂) σ b c (.bool q)) (hm : autoParam (lastMarks [op₁, op₂] [r₁, r₂] = false) tacD) :
    T C n Γ (.Compare l [op₁, op₂] [r₁, r₂] pos) σ (p && q) := by
  intro κ g s R
  refine isTrue_chain ?_ hm
  refine thn (h1 κ g s R) ?_
  rintro va s₁ ⟨g₁, l₁, R₁, D₁⟩
  refine test_link ?_
  refine thn (h2 κ g₁ s₁ R₁) ?_
  rintro vb s₂ ⟨g₂, l₂, R₂, D₂⟩
  refine thn (h3 κ g₂ s₂ va vb R₂ (D₁.mono l₂.1 l₂.2.1) D₂) ?_
  rintro v s' ⟨g₃, l₃, R₃, rfl⟩
  refine wpAny_truthy_bool ?_
  cases p with
  | false => exact ⟨g₃, (l₁.trans l₂).trans l₃, R₃, rfl⟩
  | true =>
    simp only [if_true]
    refine test_last ?_
    refine thn (h4 κ g₃ _ R₃) ?_
    rintro vc s₄ ⟨g₄, l₄, R₄, D₄⟩
    refine thn (h5 κ g₄ s₄ vb vc R₄ (D₂.mono (l₃.1.trans l₄.1) (l₃.2.1.trans l₄.2.1)) D₄) ?_
    rintro v s' ⟨g₅, l₅, R₅, rfl⟩
    exact wpAny_truthy_bool ⟨g₅, ((l₁.trans l₂).trans l₃).trans (l₄.trans l₅), R₅, by rfl⟩
theorem T.and_nil {pos : Pos} : T C n Γ (.BoolOp .And [] pos) σ true := fun κ g s R => isTrue_and_nil ⟨g, .refl _ _, R, rfl⟩
theorem T.or_nil {pos : Pos} : T C n Γ (.BoolOp .Or [] pos) σ false := fun κ g s R => isTrue_or_nil ⟨g, .refl _ _, R, rfl⟩
theorem T.and {x : Expr} {rest : List Expr} {pos : Pos} {p q : Bool} (h : T C n Γ x σ p) (h' : p = true → T C n Γ (.BoolOp .And rest pos) σ q) : T C n Γ (.BoolOp .And (x :: rest) pos) σ (p && q) := by
  intro κ g s R
  refine isTrue_and (thn (h κ g s R) ?_)
  rintro c s' ⟨g', l, R', rfl⟩
  cases c with
  | false => exact ⟨g', l, R', rfl⟩
  | true =>
    simp only [if_true]
    refine thn (h' rfl κ g' s' R') ?_
    rintro c s'' ⟨g'', l', R'', e⟩
    exact ⟨g'', l.trans l', R'', by trivial⟩
theorem T.or {x : Expr} {rest : List Expr} {pos : Pos} {p q : Bool} (h : T C n Γ x σ p) (h' : p = false → T C n Γ (.BoolOp .Or rest pos) σ q) : T C n Γ (.BoolOp .Or (x :: rest) pos) σ (p || q) := by
  intro κ g s R
  refine isTrue_or (thn (h κ g s R) ?_)
  rintro c s' ⟨g', l, R', rfl⟩
  cases c with
  | true => exact ⟨g', l, R', rfl⟩
  | false =>
    simp only [Bool.false_eq_true, if_false]
    refine thn (h' rfl κ g' s' R') ?_
    rintro c s'' ⟨g'', l', R'', e⟩
    exact ⟨g'', l.trans l', R'', by trivial⟩
theorem T.eq {e : Expr} {b b' : Bool} (h : T C n Γ e σ b) (hb : b = b') : T C n Γ e σ b' := hb ▸ h
theorem E.eq {e : Expr} {b b' : D} (h : E C n Γ e σ b) (hb : b = b') : E C n Γ e σ b' := hb ▸ h
theorem E.ifx {t x y : Expr} {pos : Pos} {b : Bool} {d : D} (h : T C n Γ t σ b) (h1 : b = true → E C n Γ x σ d) (h2 : b = false → E C n Γ y σ d) : E C n Γ (.IfExp t x y pos) σ d := by
  intro κ g s R
  refine IfExp_ (thn (h κ g s R) ?_)
  rintro c s' ⟨g', l, R', rfl⟩
  cases c with
  | true =>
    refine thn (h1 rfl κ g' s' R') ?_
    rintro v s'' ⟨g'', l', R'', hd⟩
    exact ⟨g'', l.trans l', R'', hd⟩
  | false =>
    refine thn (h2 rfl κ g' s' R') ?_
    rintro v s'' ⟨g'', l', R'', hd⟩
    exact ⟨g'', l.trans l', R'', hd⟩
theorem E.not {e : Expr} {pos : Pos} {d : D} {b : Bool} (h : E C n Γ e σ d) (t : Tr C n Γ σ d b) : E C n Γ (.UnaryOp .Not e pos) σ (.bool (!b)) := by
  intro κ g s R
  refine UnaryOp_ (thn (h κ g s R) ?_)
  rintro v s' ⟨g', l, R', hd⟩
  refine not_of (thn (t κ g' s' v R' hd) ?_)
  rintro c s'' ⟨g'', l', R'', rfl⟩
  exact ⟨g'', l.trans l', R'', rfl⟩
theorem E.neg {e : Expr} {pos : Pos} {i : Int} (h : E C n Γ e σ (.int i)) : E C n Γ (.UnaryOp .USub e pos) σ (.int (-i)) := by
  intro κ g s R
  refine UnaryOp_ (thn (h κ g s R) ?_)
  rintro v s' ⟨g', l, R', t, rfl⟩
  with_reducible refine neg_int ?_
  exact ⟨g', l, R'.toks, DV.int_⟩
theorem E.bool1 {op : BoolOp} {e : Expr} {pos : Pos} {d : D} (h : E C n Γ e σ d) : E C n Γ (.BoolOp op [e] pos) σ d := fun κ g s R => BoolOp_one (h κ g s R)
theorem E.and {e₁ e₂ : Expr} {rest : List Expr} {pos : Pos} {p q : Bool} (h : E C n Γ e₁ σ (.bool p)) (h' : p = true → E C n Γ (.BoolOp .And (e₂ :: rest) pos) σ (.bool q)) :
    E C n Γ (.BoolOp .And (e₁ :: e₂ :: rest) pos) σ (.bool (p && q)) := by
  intro κ g s R
  refine BoolOp_and (thn (h κ g s R) ?_)
  rintro v s' ⟨g', l, R', rfl⟩
  refine wpAny_truthy_bool ?_
  cases p with
  | false => exact ⟨g', l, R', rfl⟩
  | true =>
    simp only [if_true]
    refine thn (h' rfl κ g' s' R') ?_
    rintro c s'' ⟨g'', l', R'', e⟩
    exact ⟨g'', l.trans l', R'', by trivial⟩
theorem E.or {e₁ e₂ : Expr} {rest : List Expr} {pos : Pos} {d d' : D} {p : Bool} (h : E C n Γ e₁ σ d) (t : Tr C n Γ σ d p) (h1 : p = true → d = d') (h2 : p = false → E C n Γ (.BoolOp .Or (e₂ :: rest) pos) σ d') :
    E C n Γ (.BoolOp .Or (e₁ :: e₂ :: rest) pos) σ d' := by
  intro κ g s R
  refine BoolOp_or (thn (h κ g s R) ?_)
  rintro v s' ⟨g', l, R', hd⟩
  refine thn (t κ g' s' v R' hd) ?_
  rintro b s'' ⟨g'', l', R'', rfl⟩
  cases b with
  | true => exact ⟨g'', l.trans l', R'', h1 rfl ▸ hd.mono l'.1 l'.2.1⟩
  | false =>
    simp only [Bool.false_eq_true, if_false]
    refine thn (h2 rfl κ g'' s'' R'') ?_
    rintro v s₃ ⟨g₃, l₃, R₃, e⟩
    exact ⟨g₃, (l.trans l').trans l₃, R₃, e⟩
theorem Es.nil : Es C n Γ [] σ [] := fun κ g s R pos => wpAny_items_nil ⟨g, .refl _ _, R, rfl⟩
theorem Es.cons {e : Expr} {rest : List Expr} {d : D} {ds : List D} (h : E C n Γ e σ d) (h' : Es C n Γ rest σ ds) (he : autoParam (∀ env, starEach (e :: rest) env = (false, eval e env) :: starEach rest env) tacE) :
    Es C n Γ (e :: rest) σ (d :: ds) := by
  intro κ g s R pos
  refine wpAny_items_cons (thn (h κ g s R) ?_) (he _)
  rintro v s' ⟨g', l, R', hd⟩
  refine thn (h' κ g' s' R' pos) ?_
  rintro vs s'' ⟨g'', l', R'', hds⟩
  exact ⟨g'', l.trans l', R'', .cons (hd.mono l'.1 l'.2.1) hds⟩
theorem E.tuple {es : List Expr} {k : Nat} {pos : Pos} {ds : List D} (h : Es C n Γ es σ ds) (hsz : ds.length ≤ sizeLine) : E C n Γ (.Tuple es k pos) σ (.tup ds) := by
  intro κ g s R
  refine wpAny_Tuple (thn (h κ g s R pos) ?_)
  rintro vs s' ⟨g', l, R', hd⟩
  refine ⟨by rw [hd.length]; exact hsz, ?_⟩
  obtain ⟨l2, R2⟩ := R'.pushF { cls := .type "tuple", data := .seq (List.toArray vs) } rfl (t := s'.toks)
  exact ⟨_, l.trans l2, R2, _, _, vs, 0, rfl, FZ.set_self _ _ _, rfl, rfl, hd.mono l2.1 l2.2.1⟩
theorem E.list {es : List Expr} {pos : Pos} {ds : List D} (h : Es C n Γ es σ ds) (hsz : ds.length ≤ sizeLine) : E C n Γ (.List es pos) σ (.lst ds) := by
  intro κ g s R
  refine wpAny_List (thn (h κ g s R pos) ?_)
  rintro vs s' ⟨g', l, R', hd⟩
  refine ⟨by rw [hd.length]; exact hsz, ?_⟩
  obtain ⟨l2, R2⟩ := R'.pushF { cls := .type "list", data := .seq (List.toArray vs) } rfl (t := s'.toks)
  exact ⟨_, l.trans l2, R2, _, _, vs, 0, rfl, FZ.set_self _ _ _, rfl, rfl, hd.mono l2.1 l2.2.1⟩
theorem seqIndex_of {i : Int} {k : Nat} (h : -(k : Int) ≤ i) (h2 : i < k) : seqIndex? i k = some (if i < 0 then i + k else i).toNat := by
  unfold seqIndex?
  dsimp only
  rw [if_pos]
  by_cases hneg : i < 0
  · simp only [hneg, if_true, Bool.and_eq_true, decide_eq_true_eq]; lia
  · simp only [hneg, if_false, Bool.and_eq_true, decide_eq_true_eq]; simp_all
noncomputable def Sub (C : Cx) (n : Nat) (Γ : Fx) (σ : St) (slice : Expr) (a b d : D) : Prop :=
  ∀ value, Bop C n Γ (fun o i => subscriptTail value slice o i) σ a b d
theorem E.sub {value slice : Expr} {pos : Pos} {a b d : D} (h1 : E C n Γ value σ a) (h2 : E C n Γ slice σ b) (h3 : Sub C n Γ σ slice a b d) : E C n Γ (.Subscript value slice pos) σ d :=
  fun κ g s R => Subscript_ (two h1 h2 (h3 value) R)
noncomputable abbrev NoSlice (slice : Expr) : Prop := ∀ o i, subscripted slice false o i = operate [o, i] (getItem o i)
theorem Sub.str {slice : Expr} {x : List Nat} {i : Int} {c : Nat} (hi : -(x.length : Int) ≤ i) (hf : x.length < 9223372036854775808) (hc : x[(if i < 0 then i + x.length else i).toNat]? = some c) (hi2 : i < x.length)
    (hs : autoParam (NoSlice slice) tacC) : Sub C n Γ σ slice (.str x) (.int i) (.str [c]) := fun value => Bop.plain (by
  rintro A s P cs _ _ Q E' _ ⟨t, rfl⟩ ⟨u, rfl⟩ h
  refine tail_any (typeIs_str s _ t) slot_str_getitem.lookup (getItem_str (c := c) ?_ ?_ (h _ _ ⟨_, rfl⟩)) (hs _ _)
  · simp only [Bool.or_eq_false_iff, decide_eq_false_iff_not]; lia
  · rw [str_len]
    have e := seqIndex_of hi hi2
    rw [e]
    simpa using hc)
end
section
variable {C : Cx} {n : Nat} {Γ : Fx} {σ : St}
noncomputable def Blt (C : Cx) (n : Nat) (Γ : Fx) (σ : St) (f : Value) (ds : List D) (d : D) : Prop :=
  ∀ (κ : FZ) (g : Gh) (s : Shared) (vs : List Value), Rep C n Γ κ g σ s → DVs g.P g.cs ds vs →
    wpAny (model C.prog C.w) Γ.A (call f vs) (fun v s' => EP C n Γ κ g σ (fun g' => DV g'.P g'.cs d v) s') (fun _ _ => False) s
noncomputable def isStarred : Expr → Bool | .Starred _ _ => true | _ => false
noncomputable def noStar (es : List Expr) : Bool := es.all fun e => !isStarred e
theorem noStar_cons {e : Expr} {r : List Expr} (h : noStar (e :: r) = true) : (∀ env, starEach (e :: r) env = (false, eval e env) :: starEach r env) ∧ noStar r = true := by
  cases e <;> first | exact ⟨fun _ => rfl, h⟩ | exact absurd h Bool.false_ne_true
theorem noStar_any : ∀ {es : List Expr} {pos : Pos} {env : Env}, noStar es = true → (backTo pos (starEach es env)).any (·.1) = false
  | [], _, _, _ => rfl
  | e :: r, pos, env, h => by
    obtain ⟨h1, h2⟩ := noStar_cons h
    rw [h1]
    show (false || (backTo pos (starEach r env)).any (·.1)) = false
    rw [noStar_any h2]; rfl
theorem evalArgs_es {f : Value} {es : List Expr} {pos : Pos} {env : Env} {M : Model} {A : Around} {E' : Value → Shared → Prop} {s : Shared} {Q : Args → Shared → Prop} (hs : noStar es = true)
    (h : wpAny M A (spliced (backTo pos (starEach es env))) (fun vs s' => Q ⟨vs, []⟩ s') E' s) : wpAny M A (evalArgs f true (backTo pos (starEach es env)) []) Q E' s := by
  cases es with
  | nil =>
    intro Γ' p hΓ
    exact PyProof.Rows.evalArgs_none (E := E') (h Γ' p hΓ) Γ' p hΓ
  | cons e r =>
    obtain ⟨h1, h2⟩ := noStar_cons hs
    rw [h1] at h ⊢
    exact evalArgs_plain h
theorem E.callB {x : Str} {p pos : Pos} {args : List Expr} {id : String} {ds : List D} {d : D} (hf : E C n Γ (.Name x p) σ (.raw (.builtin id))) (ha : Es C n Γ args σ ds) (hb : Blt C n Γ σ (.builtin id) ds d) (hs : autoParam (noStar args = true) tacD) :
    E C n Γ (.Call (.Name x p) args [] pos) σ d := by
  intro κ g s R
  show wpAny _ _ (do callWith pos (← eval (.Name x p) Γ.env) [] (backTo pos (starEach args Γ.env)) []) _ _ s
  refine wpAny_bind (thn (hf κ g s R) ?_)
  rintro v s₁ ⟨g₁, l₁, R₁, rfl⟩
  refine callWith_builtin (noStar_any hs) (evalArgs_es hs (thn (ha κ g₁ s₁ R₁ pos) ?_))
  rintro vs s₂ ⟨g₂, l₂, R₂, hd⟩
  refine thn (hb κ g₂ s₂ vs R₂ hd) ?_
  rintro v s₃ ⟨g₃, l₃, R₃, hd⟩
  exact ⟨g₃, (l₁.trans l₂).trans l₃, R₃, hd⟩
theorem Room.le {A : Around} {m k : Nat} (h : Room A k) (hm : m ≤ k) : Room A m := ⟨h.1, by have := h.2.1; lia, by have := h.2.2; lia⟩
theorem Spec.use {m : Nat} {f : Value} {ds : List D} {d : D} (hS : Spec C m f ds d) (hm : m ≤ n) (hn : NoCells ds) (hr : NoCell d) : Blt C n Γ σ f ds d := by
  intro κ g s vs R hd
  refine thn (hS.2 Γ.A s g.P vs (R.ok.room.le hm) R.sok (hd.noCell hn)) ?_
  rintro v s' ⟨P', h1, h2, h3, h4, h5⟩
  obtain ⟨l, R'⟩ := R.call h2 h1 h3 h4
  exact ⟨_, l, R', h5.noCell hr⟩
theorem E.callF {m : Nat} {x : Str} {p pos : Pos} {args : List Expr} {f : Value} {ds : List D} {d : D} (H : C.Ok) (hf : E C n Γ (.Name x p) σ (.raw f)) (ha : Es C n Γ args σ ds) (hS : Spec C m f ds d) (hm : m ≤ n) (hn : NoCells ds) (hr : NoCell d)
    (hs : autoParam (noStar args = true) tacD) : E C n Γ (.Call (.Name x p) args [] pos) σ d := by
  intro κ g s R
  show wpAny _ _ (do callWith pos (← eval (.Name x p) Γ.env) [] (backTo pos (starEach args Γ.env)) []) _ _ s
  refine wpAny_bind (thn (hf κ g s R) ?_)
  rintro v s₁ ⟨g₁, l₁, R₁, rfl⟩
  (refine elEEEAA (id hS.1) fun a o fd z0 ho hd => ?_; subst z0)
  refine callWith_function (o := o) (fd := fd) (evalArgs_es hs (thn (ha κ g₁ s₁ R₁ pos) ?_))
  rintro vs s₂ ⟨g₂, l₂, R₂, hds⟩
  refine ⟨⟨R₂.sok.base _ _ ho, hd⟩, ?_⟩
  refine thn (hS.use hm hn hr κ g₂ s₂ vs R₂ hds) ?_
  rintro v s₃ ⟨g₃, l₃, R₃, hd⟩
  exact ⟨g₃, (l₁.trans l₂).trans l₃, R₃, hd⟩
theorem Blt.plain {f : Value} {ds : List D} {d : D}
    (h : ∀ (A : Around) (s : Shared) (PP : FZ) (cs : List Addr) (vs : List Value) (Q : Value → Shared → Prop) (E' : Value → Shared → Prop), A.handled = Option.none → DVs PP cs ds vs →
      (∀ v t, DV PP cs d v → Q v { s with toks := t }) → wpAny (model C.prog C.w) A (call f vs) Q E' s) : Blt C n Γ σ f ds d :=
  fun κ g s vs R ha => of_toks (h Γ.A s g.P g.cs vs _ _ R.ok.room.1 ha fun v t hd ht => ⟨g, .refl _ _, R.toks ht, hd⟩)
theorem DVs.nil_iff {P : FZ} {cs : List Addr} {vs : List Value} (h : DVs P cs [] vs) : vs = [] := h
theorem len_s {x : List Nat} (h : x.length < 9223372036854775808) : Blt C n Γ σ (.builtin "len") [.str x] (.int x.length) := Blt.plain (by
  rintro A s PP cs _ Q E' _ ⟨v, vs, rfl, ⟨t, rfl⟩, rfl⟩ k
  refine len_str (by rw [str_len]; lia) ?_
  rw [str_len]; exact k _ _ DV.int_)
theorem len_l {d : D} {ds : List D} (S : Seqd σ d ds) (h : ds.length < 9223372036854775808) : Blt C n Γ σ (.builtin "len") [d] (.int ds.length) := by
  rintro κ g s _ R ⟨v, vs, rfl, hv, rfl⟩
  (refine elEEAA (S.isList R hv) fun a us z1 hl hd => ?_; subst z1)
  have e := hd.length
  refine PyProof.Rows.len_list hl (by rw [List.size_toArray, e]; exact Int.ofNat_lt.mpr (by assumption)) ?_
  rw [List.size_toArray, e]
  exact ⟨g, .refl _ _, R.toks, DV.int_⟩
theorem ord_c {c : Nat} : Blt C n Γ σ (.builtin "ord") [.str [c]] (.int c) := Blt.plain (by
  rintro A s PP cs _ Q E' _ ⟨v, vs, rfl, ⟨t, rfl⟩, rfl⟩ k
  exact _root_.PySem.P.ord_of_char (c := c) (k _ _ DV.int_))
theorem chr_c {i : Int} {c : Nat} (h0 : i = c) (h1 : c ≤ 1114111) : Blt C n Γ σ (.builtin "chr") [.int i] (.str [c]) := Blt.plain (by
  rintro A s PP cs _ Q E' _ ⟨v, vs, rfl, ⟨t, rfl⟩, rfl⟩ k
  subst h0
  exact chr_of_range (by exact Int.natCast_nonneg _) (by exact Int.ofNat_le.mpr (by assumption)) (k _ _ ⟨s.toks, rfl⟩))
theorem E.meth {o : Expr} {name : Str} {apos pos : Pos} {args : List Expr} {id : String} {d r : D} {ds : List D} (ho : E C n Γ o σ d) (ha : Es C n Γ args σ ds)
    (hg : ∀ (M : Model) (A : Around) (E' : Value → Shared → Prop) (s : Shared) (PP : FZ) (cs : List Addr) (v : Value) (pl : Sem Bool) (Q : Value × List Value → Shared → Prop), DV PP cs d v → Q (.builtin id, [v]) s → wpAny M A (getMethod v name pl) Q E' s)
    (hb : Blt C n Γ σ (.builtin id) (d :: ds) r)
    (he : ∀ env, ∃ pl, eval (.Call (.Attribute o name apos) args [] pos) env = (do
      let ov ← eval o env
      standAt apos.atName
      let (f, first) ← holding [ov] (getMethod ov name pl)
      callWith pos f first (backTo pos (starEach args env)) []) := by intro _; exact ⟨_, by with_unfolding_all rfl⟩) (hs : autoParam (noStar args = true) tacD) :
    E C n Γ (.Call (.Attribute o name apos) args [] pos) σ r := by
  intro κ g s R
  obtain ⟨pl, he⟩ := he Γ.env
  refine MethodCall_ (thn (ho κ g s R) ?_) he
  rintro v s₁ ⟨g₁, l₁, R₁, hd⟩
  refine hg _ _ _ _ g₁.P g₁.cs v _ _ hd ?_
  refine callWith_builtin (noStar_any hs) (evalArgs_es hs (thn (ha κ g₁ s₁ R₁ pos) ?_))
  rintro vs s₂ ⟨g₂, l₂, R₂, hds⟩
  refine thn (hb κ g₂ s₂ (v :: vs) R₂ (.cons (hd.mono l₂.1 l₂.2.1) hds)) ?_
  rintro v s₃ ⟨g₃, l₃, R₃, hd⟩
  exact ⟨g₃, (l₁.trans l₂).trans l₃, R₃, hd⟩
section
variable {x y z : List Nat} {M : Model} {A : Around} {E' : Value → Shared → Prop} {s : Shared} {PP : FZ} {cs : List Addr} {v : Value} {pl : Sem Bool} {Q : Value × List Value → Shared → Prop}
theorem gm_startswith (h : DV PP cs (.str x) v) (q : Q (.builtin "str.startswith", [v]) s) : wpAny M A (getMethod v "startswith" pl) Q E' s := by obtain ⟨t, rfl⟩ := h; with_reducible exact GM.startswith q
theorem gm_endswith (h : DV PP cs (.str x) v) (q : Q (.builtin "str.endswith", [v]) s) : wpAny M A (getMethod v "endswith" pl) Q E' s := by obtain ⟨t, rfl⟩ := h; with_reducible exact GM.endswith q
theorem gm_find (h : DV PP cs (.str x) v) (q : Q (.builtin "str.find", [v]) s) : wpAny M A (getMethod v "find" pl) Q E' s := by obtain ⟨t, rfl⟩ := h; with_reducible exact GM.find q
theorem gm_replace (h : DV PP cs (.str x) v) (q : Q (.builtin "str.replace", [v]) s) : wpAny M A (getMethod v "replace" pl) Q E' s := by obtain ⟨t, rfl⟩ := h; with_reducible exact GM.replace q
theorem gm_join (h : DV PP cs (.str x) v) (q : Q (.builtin "str.join", [v]) s) : wpAny M A (getMethod v "join" pl) Q E' s := by obtain ⟨t, rfl⟩ := h; with_reducible exact GM.join q
end
end
section
variable {C : Cx} {n : Nat} {Γ : Fx} {σ : St}
mutual
noncomputable def toPy : D → PyData
  | .int i => .int i
  | .str x => .str ⟨x.toArray⟩
  | .tup ds => .tuple (toPys ds)
  | .lst ds => .list (toPys ds)
  | _ => .none
noncomputable def toPys : List D → List PyData
  | [] => []
  | d :: ds => toPy d :: toPys ds
end
noncomputable def Cp (x : List Nat) : Prop := ∀ c ∈ x, c < 1114112
noncomputable def Pl : Nat → D → Prop
  | _, .int _ => True
  | _, .str x => Cp x
  | k + 1, .tup ds => ∀ d ∈ ds, Pl k d
  | k + 1, .lst ds => ∀ d ∈ ds, Pl k d
  | _, _ => False
mutual
theorem reads_of {P : FZ} {cs : List Addr} {h : Heap} (hp : ∀ a o, P a = some o → h.get? a = some o) : ∀ {d : D} {v : Value} {k : Nat}, Pl k d → DV P cs d v → ∃ as, Reads h v (toPy d) as
  | .int i, _, _, _, ⟨t, e⟩ => by subst e; exact ⟨_, Reads.int i t⟩
  | .str x, _, _, _, ⟨t, e⟩ => by subst e; exact ⟨_, Reads.str _ t⟩
  | .tup ds, _, k + 1, hk, ⟨a, o, vs, m, e, ha, h1, h2, h3⟩ => by
    subst e
    obtain ⟨as, q⟩ := reads_all hp (k := k) hk h3
    rw [toPy]
    exact ⟨_, reads_tuple_at (hp _ _ ha) h1 h2 (by omega)⟩
  | .lst ds, _, k + 1, hk, ⟨a, o, vs, m, e, ha, h1, h2, h3⟩ => by
    subst e
    obtain ⟨as, q⟩ := reads_all hp (k := k) hk h3
    rw [toPy]
    exact ⟨_, reads_list_at (hp _ _ ha) h1 h2 (by omega)⟩
  | .tup _, _, 0, hk, _ => hk.elim
  | .lst _, _, 0, hk, _ => hk.elim
  | .none, _, k, hk, _ => by cases k <;> exact hk.elim
  | .bool _, _, k, hk, _ => by cases k <;> exact hk.elim
  | .cell _, _, k, hk, _ => by cases k <;> exact hk.elim
  | .meth _, _, k, hk, _ => by cases k <;> exact hk.elim
  | .raw _, _, k, hk, _ => by cases k <;> exact hk.elim
theorem reads_all {P : FZ} {cs : List Addr} {h : Heap} (hp : ∀ a o, P a = some o → h.get? a = some o) : ∀ {ds : List D} {vs : List Value} {k : Nat}, (∀ d ∈ ds, Pl k d) → DVs P cs ds vs → ∃ as, ReadsAll h vs (toPys ds) as
  | [], _, _, _, e => by cases e; exact ⟨_, ReadsAll.nil⟩
  | d :: ds, _, k, hk, ⟨v, vs, e, h1, h2⟩ => by
    subst e
    obtain ⟨as, q⟩ := reads_of hp (hk d (.head _)) h1
    obtain ⟨bs, r⟩ := reads_all hp (fun x hx => hk x (.tail _ hx)) h2
    rw [toPys]
    exact ⟨_, ReadsAll.cons q r⟩
end
theorem eqvs_iff {k : Nat} (ih : ∀ d e : D, Pl k d → Pl k e → (PyData.eqv (toPy d) (toPy e) = true ↔ d = e)) :
    ∀ ds es : List D, (∀ d ∈ ds, Pl k d) → (∀ d ∈ es, Pl k d) → (PyData.eqvAll (toPys ds) (toPys es) = true ↔ ds = es)
  | [], [], _, _ => by decide
  | [], _ :: _, _, _ => by simp [toPys, PyData.eqvAll]
  | _ :: _, [], _, _ => by simp [toPys, PyData.eqvAll]
  | d :: ds, e :: es, h1, h2 => by
    simp only [toPys, PyData.eqvAll, Bool.and_eq_true, List.cons.injEq]
    rw [ih d e (h1 d (.head _)) (h2 e (.head _)), eqvs_iff ih ds es (fun x hx => h1 x (.tail _ hx)) (fun x hx => h2 x (.tail _ hx))]
theorem eqv_iff : ∀ (k : Nat) (d e : D), Pl k d → Pl k e → (PyData.eqv (toPy d) (toPy e) = true ↔ d = e)
  | k, d, e, h1, h2 => by
    induction k generalizing d e with
    | zero => cases d <;> cases e <;> first | exact h1.elim | exact h2.elim | simp [toPy, PyData.eqv]
    | succ k ih =>
      cases d <;> cases e <;> first
        | exact h1.elim
        | exact h2.elim
        | (simp only [toPy, PyData.eqv]; rw [eqvs_iff ih _ _ h1 h2]; simp)
        | simp [toPy, PyData.eqv]
mutual
theorem py_ok : ∀ {d : D} {k : Nat}, Pl k d → (toPy d).canLay0 = true ∧ (toPy d).depth ≤ k
  | .int i, k, _ => by simp [toPy, PyData.canLay0, PyData.depth]
  | .str x, k, h => by
    have h : Cp x := by cases k <;> exact h
    simp only [toPy, PyData.canLay0, PyData.depth, PyData.strOk]
    refine ⟨?_, Nat.zero_le _⟩
    simpa [Cp] using h
  | .tup ds, k + 1, h => by
    obtain ⟨h1, h2⟩ := py_oks (k := k) (ds := ds) h
    simp only [toPy, PyData.canLay0, PyData.depth]
    exact ⟨h1, by exact Nat.succ_le_succ (by assumption)⟩
  | .lst ds, k + 1, h => by
    obtain ⟨h1, h2⟩ := py_oks (k := k) (ds := ds) h
    simp only [toPy, PyData.canLay0, PyData.depth]
    exact ⟨h1, by exact Nat.succ_le_succ (by assumption)⟩
  | .tup _, 0, hk => hk.elim
  | .lst _, 0, hk => hk.elim
  | .none, k, hk => by cases k <;> exact hk.elim
  | .bool _, k, hk => by cases k <;> exact hk.elim
  | .cell _, k, hk => by cases k <;> exact hk.elim
  | .meth _, k, hk => by cases k <;> exact hk.elim
  | .raw _, k, hk => by cases k <;> exact hk.elim
theorem py_oks : ∀ {ds : List D} {k : Nat}, (∀ d ∈ ds, Pl k d) → PyData.canLayAll0 (toPys ds) = true ∧ PyData.depthAll (toPys ds) ≤ k
  | [], k, _ => by simp [toPys, PyData.canLayAll0, PyData.depthAll]
  | d :: ds, k, h => by
    obtain ⟨h1, h2⟩ := py_ok (h d (.head _))
    obtain ⟨h3, h4⟩ := py_oks (fun x hx => h x (.tail _ hx))
    simp only [toPys, PyData.canLayAll0, PyData.depthAll, h1, h3]
    exact ⟨rfl, by lia⟩
end
theorem any_iff {k : Nat} : ∀ (ds : List D) (d : D), (∀ e ∈ ds, Pl k e) → Pl k d → ((toPys ds).any (fun y => PyData.eqv y (toPy d)) = true ↔ d ∈ ds)
  | [], d, _, _ => by simp [toPys]
  | e :: ds, d, h, hd => by
    simp only [toPys, List.any_cons, Bool.or_eq_true, any_iff ds d (fun x hx => h x (.tail _ hx)) hd, eqv_iff k e d (h e (.head _)) hd, List.mem_cons]
    constructor
    · rintro (x | x)
      · exact .inl x.symm
      · exact .inr x
    · rintro (x | x)
      · exact .inl x.symm
      · exact .inr x
theorem units_of {κ : FZ} {g : Gh} {s : Shared} (R : Rep C n Γ κ g σ s) {k : Nat} (hk : k ≤ 100) : Γ.A.units + k < cLine := by
  have := R.ok.room.2.2; lia
theorem shaped_of {d : D} {k : Nat} (hk : k ≤ 8) (h : Pl k d) : SeqAt.shaped (toPy d) = true := by
  obtain ⟨h1, h2⟩ := py_ok h
  unfold SeqAt.shaped
  rw [h1, Bool.true_and]
  exact decide_eq_true (by exact Nat.le_trans (Nat.le_trans (by assumption) (by assumption)) (by decide))
theorem bool_of {b c : Bool} {p : Prop} (h1 : b = true ↔ p) (h2 : c = true ↔ p) : b = c := by
  cases b <;> cases c <;> simp_all
theorem eq_pl {k : Nat} {a b : D} {c : Bool} (hk : k ≤ 8) (ha : Pl k a) (hb : Pl k b) (hc : c = true ↔ a = b) : Bop C n Γ (compareOp .Eq) σ a b (.bool c) := by
  intro κ g s va vb R h1 h2
  obtain ⟨as, r1⟩ := reads_of R.sok.sub ha h1
  obtain ⟨bs, r2⟩ := reads_of R.sok.sub hb h2
  with_reducible refine eq_dataH r1 r2 (shaped_of hk ha) (shaped_of hk hb) (units_of R (by decide)) ?_
  exact ⟨g, .refl _ _, R, congrArg Value.bool (bool_of (eqv_iff k a b ha hb) hc)⟩
theorem ne_pl {k : Nat} {a b : D} {c : Bool} (hk : k ≤ 8) (ha : Pl k a) (hb : Pl k b) (hc : c = true ↔ a = b) : Bop C n Γ (compareOp .NotEq) σ a b (.bool (!c)) := by
  intro κ g s va vb R h1 h2
  obtain ⟨as, r1⟩ := reads_of R.sok.sub ha h1
  obtain ⟨bs, r2⟩ := reads_of R.sok.sub hb h2
  with_reducible refine ne_dataH r1 r2 (shaped_of hk ha) (shaped_of hk hb) (units_of R (by decide)) ?_
  exact ⟨g, .refl _ _, R, congrArg Value.bool (congrArg not (bool_of (eqv_iff k a b ha hb) hc))⟩
theorem in_lst {k : Nat} {d : D} {ds : List D} {c : Bool} (hk : k ≤ 8) (ha : ∀ e ∈ ds, Pl k e) (hb : Pl k d) (hc : c = true ↔ d ∈ ds) : Bop C n Γ (compareOp .In) σ d (.lst ds) (.bool c) := by
  intro κ g s va vb R h1 h2
  obtain ⟨as, r1⟩ := reads_of R.sok.sub hb h1
  obtain ⟨bs, r2⟩ := reads_of R.sok.sub (k := k + 1) (d := .lst ds) ha h2
  rw [toPy] at r2
  with_reducible refine SeqAt.in_list_reads r2 r1 (py_oks ha).1 (py_ok hb).1 ?_ ?_
  · have := Nat.min_le_right (PyData.depthAll (toPys ds)) (toPy d).depth
    have := (py_ok hb).2
    have := units_of R (k := 100) (by decide)
    lia
  · exact ⟨g, .refl _ _, R, congrArg Value.bool (bool_of (any_iff ds d ha hb) hc)⟩
theorem notIn_lst {k : Nat} {d : D} {ds : List D} {c : Bool} (hk : k ≤ 8) (ha : ∀ e ∈ ds, Pl k e) (hb : Pl k d) (hc : c = true ↔ d ∈ ds) : Bop C n Γ (compareOp .NotIn) σ d (.lst ds) (.bool (!c)) := by
  intro κ g s va vb R h1 h2
  obtain ⟨as, r1⟩ := reads_of R.sok.sub hb h1
  obtain ⟨bs, r2⟩ := reads_of R.sok.sub (k := k + 1) (d := .lst ds) ha h2
  rw [toPy] at r2
  with_reducible refine SeqAt.notIn_list_reads r2 r1 (py_oks ha).1 (py_ok hb).1 ?_ ?_
  · have := Nat.min_le_right (PyData.depthAll (toPys ds)) (toPy d).depth
    have := (py_ok hb).2
    have := units_of R (k := 100) (by decide)
    lia
  · exact ⟨g, .refl _ _, R, congrArg Value.bool (congrArg not (bool_of (any_iff ds d ha hb) hc))⟩
theorem in_tup {k : Nat} {d : D} {ds : List D} {c : Bool} (hk : k ≤ 8) (ha : ∀ e ∈ ds, Pl k e) (hb : Pl k d) (hc : c = true ↔ d ∈ ds) : Bop C n Γ (compareOp .In) σ d (.tup ds) (.bool c) := by
  intro κ g s va vb R h1 h2
  obtain ⟨as, r1⟩ := reads_of R.sok.sub hb h1
  obtain ⟨bs, r2⟩ := reads_of R.sok.sub (k := k + 1) (d := .tup ds) ha h2
  rw [toPy] at r2
  with_reducible refine SeqAt.in_tuple_reads r2 r1 (py_oks ha).1 (py_ok hb).1 ?_ ?_
  · have := Nat.min_le_right (PyData.depthAll (toPys ds)) (toPy d).depth
    have := (py_ok hb).2
    have := units_of R (k := 100) (by decide)
    lia
  · exact ⟨g, .refl _ _, R, congrArg Value.bool (bool_of (any_iff ds d ha hb) hc)⟩
theorem notIn_tup {k : Nat} {d : D} {ds : List D} {c : Bool} (hk : k ≤ 8) (ha : ∀ e ∈ ds, Pl k e) (hb : Pl k d) (hc : c = true ↔ d ∈ ds) : Bop C n Γ (compareOp .NotIn) σ d (.tup ds) (.bool (!c)) := by
  intro κ g s va vb R h1 h2
  obtain ⟨as, r1⟩ := reads_of R.sok.sub hb h1
  obtain ⟨bs, r2⟩ := reads_of R.sok.sub (k := k + 1) (d := .tup ds) ha h2
  rw [toPy] at r2
  with_reducible refine SeqAt.notIn_tuple_reads r2 r1 (py_oks ha).1 (py_ok hb).1 ?_ ?_
  · have := Nat.min_le_right (PyData.depthAll (toPys ds)) (toPy d).depth
    have := (py_ok hb).2
    have := units_of R (k := 100) (by decide)
    lia
  · exact ⟨g, .refl _ _, R, congrArg Value.bool (congrArg not (bool_of (any_iff ds d ha hb) hc))⟩
theorem is_none_b {d : D} {c : Bool} (h : ∀ v PP cs, DV PP cs d v → (v == Value.none) = c) : Bop C n Γ (compareOp .Is) σ d .none (.bool c) := by
  rintro κ g s va vb R h1 rfl
  with_reducible refine is_none ?_
  exact ⟨g, .refl _ _, R, congrArg Value.bool (h _ _ _ h1)⟩
theorem isNot_none_b {d : D} {c : Bool} (h : ∀ v PP cs, DV PP cs d v → (v == Value.none) = c) : Bop C n Γ (compareOp .IsNot) σ d .none (.bool (!c)) := by
  rintro κ g s va vb R h1 rfl
  with_reducible refine isNot_none ?_
  exact ⟨g, .refl _ _, R, congrArg Value.bool (congrArg not (h _ _ _ h1))⟩
theorem tup_not_none {ds : List D} : ∀ v PP cs, DV PP cs (.tup ds) v → (v == Value.none) = false := by
  rintro v PP cs ⟨a, o, vs, m, rfl, _⟩; rfl
theorem none_is_none : ∀ v PP cs, DV PP cs .none v → (v == Value.none) = true := by
  rintro v PP cs rfl; rfl
end
section
variable {C : Cx} {n : Nat} {Γ : Fx} {σ : St}
theorem fresh_frozen {κ : FZ} {g : Gh} {s : Shared} (R : Rep C n Γ κ g σ s) {h' : Heap} {t : Nat} {a : Addr} {o : Obj} (ht : s.toks ≤ t) (hk : ∀ b o, s.heap.get? b = some o → h'.get? b = some o) (ha : s.heap.objs.size ≤ a) (ho : h'.get? a = some o) :
    GLe κ g ⟨g.P.set a o, g.cs⟩ ∧ Rep C n Γ κ ⟨g.P.set a o, g.cs⟩ σ { s with heap := h', toks := t } := by
  (refine elAAAA (R.fresh ha) fun h1 h2 h3 h4 h5 => ?_)
  exact (R.more (t := t) hk ht).freezeAt ho h1 h2 h3 h4 h5
theorem DV.newList {P : FZ} {cs : List Addr} {a : Addr} {vs : List Value} {ds : List D} {m : Nat} {o : Obj} (ho : o = { cls := .type "list", data := .seq (List.toArray vs) m }) (hn : P a = none) (h : DVs P cs ds vs) : DV (P.set a o) cs (.lst ds) (.ref a) := by
  subst ho
  exact ⟨a, _, vs, m, rfl, FZ.set_self _ _ _, rfl, rfl, h.mono (FZ.le_set _ hn) (.refl _)⟩
theorem add_l {a b : D} {ds es : List D} (Sa : Seqd σ a ds) (Sb : Seqd σ b es) (hsz : ds.length + es.length ≤ sizeLine) : Bop C n Γ (binaryOp .Add) σ a b (.lst (ds ++ es)) := by
  intro κ g s va vb R h1 h2
  (refine elEEAA (Sa.isList R h1) fun x vs z0 hl hd => ?_; subst z0)
  (refine elEEAA (Sb.isList R h2) fun y ws z1 hl2 hd2 => ?_; subst z1)
  (refine elEAAE (id hl) fun o ho hc m hdd => ?_)
  (refine elEAAE (id hl2) fun o2 ho2 hc2 m2 hdd2 => ?_)
  have ho := ho.trans (congrArg some (Obj.of2 hc hdd))
  have ho2 := ho2.trans (congrArg some (Obj.of2 hc2 hdd2))
  have e : vs.toArray ++ ws.toArray = (vs ++ ws).toArray := by simp
  have t1 : s.TypeIs (.ref x) "list" := ⟨_, ho, rfl⟩
  have t2 : s.TypeIs (.ref y) "list" := ⟨_, ho2, rfl⟩
  refine concat_meets t1 t2 noFill_list_add seq_list_add PySem.F.slot_list_add PySem.F.entry_list_add (PySem.F.args_list_add_2 _ _)
    (list_addW x y vs.toArray ws.toArray m m2 o.dict o2.dict o.slots o2.slots ?_) ?_
  · rw [List.size_toArray, List.size_toArray, hd.length, hd2.length]; exact hsz
  · refine ⟨ho, ho2, ?_⟩
    rw [e]
    obtain ⟨l, R'⟩ := R.pushF { cls := .type "list", data := .seq (vs ++ ws).toArray } rfl (t := s.toks)
    exact ⟨_, l, R', DV.newList rfl (R.fresh (Nat.le_refl _)).1 (hd.append hd2)⟩
theorem StrsAre.of {P : FZ} {cs : List Addr} : ∀ {xs : List (List Nat)} {vs : List Value}, DVs P cs (xs.map .str) vs → StrsAre vs (xs.map fun x => ⟨x.toArray⟩)
  | [], _, h => by cases h; exact .nil
  | x :: xs, _, ⟨v, vs, e, ⟨t, e'⟩, r⟩ => by subst e e'; exact .cons _ t (StrsAre.of r)
theorem StrsAre.back {P : FZ} {cs : List Addr} : ∀ {ys : List Str} {vs : List Value}, StrsAre vs ys → DVs P cs (ys.map fun y => .str y.cps.toList) vs
  | [], _, h => by cases h; rfl
  | y :: ys, _, .cons _ t r => ⟨_, _, rfl, DV.str', StrsAre.back r⟩
theorem sorted_l {a : D} {xs ys : List (List Nat)} (hS : Seqd σ a (xs.map .str)) (h64 : xs.length < 64) (hu : ∀ zs : List Str, zs.Perm (xs.map fun x => ⟨x.toArray⟩) → sortedS zs = true → zs.map (·.cps.toList) = ys) :
    Blt C n Γ σ (.builtin "sorted") [a] (.lst (ys.map .str)) := by
  rintro κ g s _ R ⟨v, vs, rfl, hv, rfl⟩
  (refine elEEAA (hS.isList R hv) fun x us z4 hl hd => ?_; subst z4)
  have hS := StrsAre.of hd
  have hlen : us.length = xs.length := by have := hd.length; simpa using this
  with_reducible refine sorted_strs hl hS (by rw [hlen]; exact h64) ?_
  intro out ss' a1 a2 a3
  obtain ⟨e, he⟩ := sortedAll_at s.heap us out
  obtain ⟨l, R'⟩ := fresh_frozen R (t := s.toks) (Nat.le_refl _) (fun _ _ => sortedAll_old) (Nat.le_succ _) he
  refine ⟨_, l, R', DV.newList (vs := out.toList) (m := e) ?_ (R.fresh (Nat.le_succ _)).1 ?_⟩
  · rfl
  · rw [← hu ss' a2 a3, List.map_map]
    exact StrsAre.back a1
theorem sub_tup {slice : Expr} {ds : List D} {i : Int} {d : D} (h0 : 0 ≤ i) (hd : ds[i.toNat]? = some d) (hf : ds.length < 9223372036854775808) (hs : autoParam (NoSlice slice) tacC) : Sub C n Γ σ slice (.tup ds) (.int i) d := by
  rintro value κ g s va vb R ⟨a, o, vs, m, rfl, ho, hc, hdd, hds⟩ ⟨t, rfl⟩
  have ht : IsTup s.heap a vs.toArray := ⟨o, R.sok.sub _ _ ho, hc, m, hdd⟩
  (refine elEA (hds.get hd) fun v hv hD => ?_)
  have hlt : i.toNat < ds.length := (List.getElem?_eq_some_iff.mp hd).1
  have hlen := hds.length
  with_reducible refine item_tupleT (j := i.toNat) ht (by lia) (by lia) ?_ hv ?_ (hs _ _)
  · rw [seqIndex_of (by lia) (by simp_all), if_neg (by simp_all)]
  · exact ⟨g, .refl _ _, R, hD⟩
theorem sub_lst {slice : Expr} {a d : D} {ds : List D} {i : Int} (S : Seqd σ a ds) (h0 : 0 ≤ i) (hd : ds[i.toNat]? = some d) (hf : ds.length < 9223372036854775808) (hs : autoParam (NoSlice slice) tacC) : Sub C n Γ σ slice a (.int i) d := by
  rintro value κ g s va vb R hva ⟨t, rfl⟩
  (refine elEEAA (S.isList R hva) fun x vs z5 hl hds => ?_; subst z5)
  (refine elEA (hds.get hd) fun v hv hD => ?_)
  have hlt : i.toNat < ds.length := (List.getElem?_eq_some_iff.mp hd).1
  with_reducible refine tail_any hl.typeIs slot_list_getitem.lookup ?_ (hs _ _)
  with_reducible refine wpAny_getItem_list (x := v) hl h0 (by lia) ?_ ?_
  · simpa using hv
  · exact ⟨g, .refl _ _, R, hD⟩
theorem sub_lst_neg {slice : Expr} {a d : D} {ds : List D} {i : Int} (S : Seqd σ a ds) (h0 : i < 0) (h1 : -(ds.length : Int) ≤ i) (hd : ds[(i + ds.length).toNat]? = some d) (hf : ds.length < 9223372036854775808) (hs : autoParam (NoSlice slice) tacC) :
    Sub C n Γ σ slice a (.int i) d := by
  rintro value κ g s va vb R hva ⟨t, rfl⟩
  (refine elEEAA (S.isList R hva) fun x vs z6 hl hds => ?_; subst z6)
  (refine elEA (hds.get hd) fun v hv hD => ?_)
  have hlen := hds.length
  with_reducible refine tail_any hl.typeIs slot_list_getitem.lookup ?_ (hs _ _)
  with_reducible refine wpAny_getItem_list_neg (x := v) hl h0 ?_ (by lia) ?_ ?_
  · rw [List.size_toArray, hlen]; exact h1
  · rw [List.size_toArray, hlen]; simpa using hv
  · exact ⟨g, .refl _ _, R, hD⟩
noncomputable def cut {α : Type} (x : List α) (lo hi : Option Int) : List α := (x.drop (lo.elim 0 (clipAt x.length))).take (hi.elim x.length (clipAt x.length) - lo.elim 0 (clipAt x.length))
noncomputable def Part (C : Cx) (n : Nat) (Γ : Fx) (σ : St) (e : Option Expr) (p : Option Int) : Prop :=
  ∀ (κ : FZ) (g : Gh) (s : Shared), Rep C n Γ κ g σ s → wpAny (model C.prog C.w) Γ.A (valueOrNone (evalOpt e Γ.env)) (fun v s' => EP C n Γ κ g σ (fun g' => IsPart v p) s') (fun _ _ => False) s
theorem Part.none : Part C n Γ σ .none .none := fun κ g s R => wpAny_pure (a := Value.none) ⟨g, .refl _ _, R, .none⟩
theorem Part.some {e : Expr} {i : Int} (h : E C n Γ e σ (.int i)) : Part C n Γ σ (.some e) (.some i) := by
  intro κ g s R
  refine thn (h κ g s R) ?_
  rintro v s' ⟨g', l, R', t, rfl⟩
  exact ⟨g', l, R', .int _ _⟩
noncomputable def Cut (C : Cx) (n : Nat) (Γ : Fx) (σ : St) (a : D) (lo hi : Option Int) (d : D) : Prop :=
  ∀ (κ : FZ) (g : Gh) (s : Shared) (o vl vu : Value) (value slice : Expr), Rep C n Γ κ g σ s → DV g.P g.cs a o → IsPart vl lo → IsPart vu hi → (∀ o i, subscripted slice false o i = operate [i, o] (getItem o i)) →
    wpAny (model C.prog C.w) Γ.A (subscriptTail value slice o (.ref s.heap.objs.size)) (fun v s' => EP C n Γ κ g σ (fun g' => DV g'.P g'.cs d v) s') (fun _ _ => False)
      { s with heap := s.heap.push { cls := .type "slice", data := .fields #[vl, vu, .none] } }
theorem E.cut {value : Expr} {lower upper : Option Expr} {p pos : Pos} {a d : D} {lo hi : Option Int} (h : E C n Γ value σ a) (h1 : Part C n Γ σ lower lo) (h2 : Part C n Γ σ upper hi) (h3 : Cut C n Γ σ a lo hi d) :
    E C n Γ (.Subscript value (.Slice lower upper .none p) pos) σ d := by
  intro κ g s R
  with_reducible refine Subscript_ ?_
  refine thn (h κ g s R) ?_
  rintro o s₁ ⟨g₁, l₁, R₁, D₁⟩
  show wpAny _ _ (do
    let l ← valueOrNone (evalOpt lower Γ.env)
    let u ← holding [l] (valueOrNone (evalOpt upper Γ.env))
    let s ← holding [l, u] (valueOrNone (evalOpt .none Γ.env))
    newFields "slice" [l, u, s]) _ _ s₁
  refine wpAny_bind (thn (h1 κ g₁ s₁ R₁) ?_)
  rintro vl s₂ ⟨g₂, l₂, R₂, P₂⟩
  refine wpAny_bind (wpAny_holding (thn (h2 κ g₂ s₂ R₂) ?_))
  rintro vu s₃ ⟨g₃, l₃, R₃, P₃⟩
  refine wpAny_bind (wpAny_holding (wpAny_pure (a := Value.none) (wpAny_newObj_type ?_)))
  refine thn (h3 κ g₃ s₃ o vl vu value (.Slice lower upper .none p) R₃ (D₁.mono (l₂.1.trans l₃.1) (l₂.2.1.trans l₃.2.1)) P₂ P₃ (fun _ _ => rfl)) ?_
  rintro v s₄ ⟨g₄, l₄, R₄, D₄⟩
  exact ⟨g₄, ((l₁.trans l₂).trans l₃).trans l₄, R₄, D₄⟩
theorem DVs.cut {P : FZ} {cs : List Addr} {ds : List D} {vs : List Value} (h : DVs P cs ds vs) (lo hi : Option Int) : DVs P cs (Fn.Internal.cut ds lo hi) (slicePick vs.toArray lo hi .none).toList := by
  rw [slicePick_plain]
  simp only [List.size_toArray, h.length]
  exact (h.drop _).take _
theorem Cut.lst {a : D} {ds : List D} {lo hi : Option Int} (S : Seqd σ a ds) (hsz : ds.length ≤ sizeLine) : Cut C n Γ σ a lo hi (.lst (Fn.Internal.cut ds lo hi)) := by
  intro κ g s o vl vu value slice R hD pl pu hs
  (refine elEEAA (S.isList R hD) fun x vs z7 hl hd => ?_; subst z7)
  have hl' := hl.push { cls := .type "slice", data := .fields #[vl, vu, .none] }
  with_reducible refine tail_any (Heap.IsList.typeIs (s := { s with heap := s.heap.push { cls := .type "slice", data := .fields #[vl, vu, .none] } }) hl') list_getitem_lookup ?_ (hs _ _)
  with_reducible refine wpAny_getItem_list_slice hl' (Heap.IsSliceOf.new ..) pl pu .none (by simp) ?_ (by rw [List.size_toArray, hd.length]; exact hsz)
  have R1 := R.push { cls := .type "slice", data := .fields #[vl, vu, .none] } (t := s.toks)
  obtain ⟨l, R'⟩ := R1.pushF { cls := .type "list", data := .seq (slicePick vs.toArray lo hi .none) } rfl (t := s.toks)
  exact ⟨_, l, R', DV.newList (vs := (slicePick vs.toArray lo hi .none).toList) (m := 0) rfl (R1.fresh (Nat.le_refl _)).1 (hd.cut lo hi)⟩
theorem strIdx (lo hi : Option Int) (k : Nat) : Builtin.Str.strSliceIndices lo hi 1 k = sliceRange (lo.elim 0 (clipAt k) : Nat) (hi.elim k (clipAt k) : Nat) 1 := by
  unfold Builtin.Str.strSliceIndices
  cases lo <;> cases hi <;> simp [clipAt_cast]
theorem Cut.str {x : List Nat} {lo hi : Option Int} (hsz : x.length ≤ sizeLine) : Cut C n Γ σ (.str x) lo hi (.str (Fn.Internal.cut x lo hi)) := by
  rintro κ g s _ vl vu value slice R ⟨t, rfl⟩ pl pu hs
  have R1 := R.push { cls := .type "slice", data := .fields #[vl, vu, .none] } (t := s.toks)
  have hp : ∃ l : Option (Int × Tok), vl = partValue l ∧ l.map (·.1) = lo := by
    cases pl with
    | none => exact ⟨.none, rfl, rfl⟩
    | int i t => exact ⟨.some (i, t), rfl, rfl⟩
  have hq : ∃ l : Option (Int × Tok), vu = partValue l ∧ l.map (·.1) = hi := by
    cases pu with
    | none => exact ⟨.none, rfl, rfl⟩
    | int i t => exact ⟨.some (i, t), rfl, rfl⟩
  (refine elEA hp fun ql z8 z9 => ?_; clear hp; subst z8; subst z9)
  (refine elEA hq fun qu z10 z11 => ?_; clear hq; subst z10; subst z11)
  with_reducible refine tail_any (typeIs_str _ _ t) slot_str_getitem.lookup ?_ (hs _ _)
  have hsl : (s.heap.push { cls := .type "slice", data := .fields #[partValue ql, partValue qu, .none] }).IsSlice s.heap.objs.size ql qu .none := ⟨_, Heap.get?_push_size _ rfl, rfl, rfl⟩
  refine wpAny_getItem_str_slice hsl rfl ?_
  have key : ((slicePicked ⟨x.toArray⟩ ql qu .none).filterMap ((⟨x.toArray⟩ : Str).cps[·]?)) = Fn.Internal.cut x (ql.map (·.1)) (qu.map (·.1)) := by
    show ((Builtin.Str.strSliceIndices (ql.map (·.1)) (qu.map (·.1)) 1 (⟨x.toArray⟩ : Str).length).filterMap _) = _
    rw [str_len, strIdx, sliceRange_one, pick_run]
    rfl
  unfold sliceMade
  split
  · rename_i hc
    refine ⟨g, .refl _ _, R1, t, ?_⟩
    congr 2
    have hl : (slicePicked ⟨x.toArray⟩ ql qu .none).length = x.length := by
      have := (Bool.and_eq_true_iff.mp hc).2
      rw [str_len] at this
      exact beq_iff_eq.mp this
    have hb : ∀ i ∈ slicePicked ⟨x.toArray⟩ ql qu .none, i < x.length := by
      intro i hi
      have hi : i ∈ Builtin.Str.strSliceIndices (ql.map (·.1)) (qu.map (·.1)) 1 (⟨x.toArray⟩ : Str).length := hi
      rw [str_len, strIdx, sliceRange_one] at hi
      simp only [List.mem_map, List.mem_range] at hi
      (refine elEA hi fun j hj z12 => ?_; clear hi; subst z12)
      have : ∀ (o : Option Int), (o.elim x.length (clipAt x.length)) ≤ x.length := by
        intro o; cases o with
        | none => exact Nat.le_refl _
        | some i => have := clipAt_cast x.length i; simp only [Option.elim]; omega
      have := this (qu.map (·.1))
      lia
    have hlen : (Fn.Internal.cut x (ql.map (·.1)) (qu.map (·.1))).length = x.length := by
      rw [← key, ← hl]
      generalize slicePicked ⟨x.toArray⟩ ql qu .none = L at hb
      induction L with
      | nil => rfl
      | cons a L ih =>
        have : (⟨x.toArray⟩ : Str).cps[a]? = some x[a]! := by
          have := hb a (.head _)
          simp [this]
        rw [List.filterMap_cons_some this, List.length_cons, List.length_cons, ih fun i hi => hb i (.tail _ hi)]
    have hx : x = Fn.Internal.cut x (ql.map (·.1)) (qu.map (·.1)) := by
      unfold Fn.Internal.cut at hlen ⊢
      generalize (ql.map (·.1)).elim 0 (clipAt x.length) = A at hlen ⊢
      generalize (qu.map (·.1)).elim x.length (clipAt x.length) = B at hlen ⊢
      simp only [List.length_take, List.length_drop] at hlen
      by_cases h0 : x.length = 0
      · have : x = [] := List.length_eq_zero_iff.mp h0
        subst this; simp
      · have hA : A = 0 := by lia
        subst hA
        rw [List.drop_zero, List.take_of_length_le (by lia)]
    rw [← hx]
  · refine ⟨?_, ?_⟩
    · show (Array.size _) ≤ _
      rw [List.size_toArray, key]
      refine Nat.le_trans ?_ hsz
      unfold Fn.Internal.cut
      simp only [List.length_take, List.length_drop]
      lia
    · refine ⟨g, .refl _ _, R1.toks, s.toks, ?_⟩
      rw [key]
end
section
variable {C : Cx} {n : Nat} {Γ : Fx} {σ : St}
open PySem.Builtin.Str (occurrences subAt)
theorem starts_s {x y : List Nat} : Blt C n Γ σ (.builtin "str.startswith") [.str x, .str y] (.bool (decide (y <+: x))) := Blt.plain (by
  rintro A s PP cs _ Q E' _ ⟨v, vs, rfl, ⟨t, rfl⟩, v2, vs2, rfl, ⟨u, rfl⟩, rfl⟩ k
  with_reducible refine SC.startswith ?_
  refine k _ s.toks ?_
  show Value.bool _ = .bool _
  congr 1
  unfold Txt.startswith
  rw [StrLaws.subAt_eq, str_len, str_len]
  rw [Bool.eq_iff_iff, decide_eq_true_eq, Bool.and_eq_true, decide_eq_true_eq, beq_iff_eq]
  simp only [List.drop_zero, List.prefix_iff_eq_take]
  constructor
  · rintro ⟨h, e⟩; exact e.symm
  · intro e
    refine ⟨?_, e.symm⟩
    have := congrArg List.length e
    simp only [List.length_take] at this
    lia)
theorem ends_s {x y : List Nat} : Blt C n Γ σ (.builtin "str.endswith") [.str x, .str y] (.bool (decide (y <:+ x))) := Blt.plain (by
  rintro A s PP cs _ Q E' _ ⟨v, vs, rfl, ⟨t, rfl⟩, v2, vs2, rfl, ⟨u, rfl⟩, rfl⟩ k
  with_reducible refine SC.endswith ?_
  refine k _ s.toks ?_
  show Value.bool _ = .bool _
  congr 1
  unfold Txt.endswith
  rw [StrLaws.subAt_eq, str_len, str_len]
  rw [Bool.eq_iff_iff, decide_eq_true_eq, Bool.and_eq_true, decide_eq_true_eq, beq_iff_eq]
  simp only [List.suffix_iff_eq_drop]
  constructor
  · rintro ⟨h, e⟩
    rw [List.take_of_length_le (by simp; simp_all)] at e
    exact e.symm
  · intro e
    have hl : y.length ≤ x.length := by
      have := congrArg List.length e
      simp only [List.length_drop] at this
      lia
    refine ⟨by lia, ?_⟩
    rw [List.take_of_length_le (by simp; lia)]
    exact e.symm)
theorem subB_iff {y x : List Nat} : subB y x = true ↔ y <:+: x := by
  unfold subB
  have h := StrLaws.found_iff (⟨x.toArray⟩ : Str) ⟨y.toArray⟩
  rw [str_len, str_len] at h
  rw [h]
  constructor
  · (intro z0; refine elEA z0 fun i h1 h2 => ?_; clear z0)
    rw [StrLaws.subAt_eq, str_len, beq_iff_eq] at h2
    simp only at h2
    refine ⟨x.take i, x.drop (i + y.length), ?_⟩
    have e : y ++ List.drop y.length (List.drop i x) = List.drop i x := by
      conv => lhs; lhs; rw [← h2]
      exact List.take_append_drop _ _
    rw [List.append_assoc, ← List.drop_drop, e, List.take_append_drop]
  · (intro z1; refine elEE z1 fun a b z2 => ?_; clear z1; subst z2)
    refine ⟨a.length, by simp, ?_⟩
    rw [StrLaws.subAt_eq, str_len, beq_iff_eq]
    simp
noncomputable def Found (c : Nat) (x : List Nat) (lo hi : Nat) (r : Int) : Prop :=
  (r = -1 ∧ ∀ i, lo ≤ i → i < hi → x[i]? ≠ some c) ∨ ∃ k : Nat, r = k ∧ lo ≤ k ∧ k < hi ∧ x[k]? = some c ∧ ∀ i, lo ≤ i → i < k → x[i]? ≠ some c
theorem at_c (x : List Nat) (c hi i : Nat) (hh : hi ≤ x.length) : StrLaws.At ⟨x.toArray⟩ ⟨#[c]⟩ hi i ↔ i < hi ∧ x[i]? = some c := by
  unfold StrLaws.At
  have h1 := StrLaws.subAt_one ⟨x.toArray⟩ c i
  have e1 : (⟨#[c]⟩ : Str).length = 1 := rfl
  have e2 : (⟨x.toArray⟩ : Str).length = x.length := str_len x
  rw [e1, e2] at h1
  rw [e1]
  constructor
  · rintro ⟨a, b⟩; exact ⟨by trivial, h1.mp ⟨by exact Nat.lt_of_lt_of_le (by assumption) (by assumption), b⟩⟩
  · rintro ⟨a, b⟩; exact ⟨by trivial, (h1.mpr b).2⟩
theorem occ_found {c : Nat} {x : List Nat} {lo hi : Nat} {r : Int} (hh : hi ≤ x.length) (h : Found c x lo hi r) : (match occurrences ⟨x.toArray⟩ ⟨#[c]⟩ lo hi 1 with | k :: _ => (k : Int) | [] => -1) = r := by
  rw [StrLaws.occ_eq]
  rcases StrLaws.occ_first ⟨x.toArray⟩ ⟨#[c]⟩ hi 1 (Nat.le_refl _) (List.range' lo (hi + 1 - lo)) lo (fun i hi => (List.mem_range'_1.mp hi).1) with ⟨h0, hn⟩ | ⟨pre, a, post, e, h0, ha, hn⟩
  · rw [h0]
    rcases h with ⟨rfl, _⟩ | ⟨k, rfl, h1, h2, h3, _⟩
    · rfl
    · exact absurd ((at_c x c hi k hh).mpr ⟨h2, h3⟩) (hn k (List.mem_range'_1.mpr ⟨h1, by lia⟩))
  · have ha' := (at_c x c hi a hh).mp ha
    have hmem : a ∈ List.range' lo (hi + 1 - lo) := by rw [e]; simp
    have hlo := (List.mem_range'_1.mp hmem).1
    have hpre : ∀ i, lo ≤ i → i < a → i ∈ pre := by
      intro i h1 h2
      have hs : (List.range' lo (hi + 1 - lo)).Pairwise (· < ·) := List.pairwise_lt_range'
      have hm : i ∈ List.range' lo (hi + 1 - lo) := List.mem_range'_1.mpr ⟨h1, by lia⟩
      rw [e] at hs hm
      rcases List.mem_append.mp hm with q | q
      · exact q
      · rcases List.mem_cons.mp q with q | q
        · simp_all
        · have := (List.pairwise_append.mp hs).2.1
          have := (List.pairwise_cons.mp this).1 i q
          lia
    have hfirst : ∀ i, lo ≤ i → i < a → x[i]? ≠ some c := fun i h1 h2 q => hn i (hpre i h1 h2) ((at_c x c hi i hh).mpr ⟨by lia, q⟩)
    generalize (forIn (List.range' lo (hi + 1 - lo)) (#[], lo) (StrLaws.occBody ⟨x.toArray⟩ ⟨#[c]⟩ hi 1)).run.fst = L at h0 ⊢
    obtain ⟨L⟩ := L
    cases L with
    | nil => trivial
    | cons b L =>
      simp at h0
      subst h0
      rcases h with ⟨rfl, q⟩ | ⟨k, rfl, h1, h2, h3, h4⟩
      · exact absurd ha'.2 (q b hlo ha'.1)
      · show (b : Int) = k
        have : ¬ b < k := fun z => h4 b hlo z ha'.2
        have : ¬ k < b := fun z => hfirst k h1 z h3
        lia
theorem gives_find4 (x y : Str) (i j : Int) (t u v w : Tok) : Gives (Builtin.«str.find» ⟨[.str x t, .str y u, .int i v, .int j w], []⟩)
    (.int (match occurrences x y (fromIndex x.length i) (min (fromIndex x.length j) x.length) 1 with | k :: _ => (k : Int) | [] => -1)) := by
  show Gives (match occurrences x y (fromIndex x.length i) (min (fromIndex x.length j) x.length) 1 with | k :: _ => retInt k | [] => (do rule "str.find.not-found"; retInt (-1))) _
  cases occurrences x y (fromIndex x.length i) (min (fromIndex x.length j) x.length) 1 with
  | nil => exact .rule (.of_eq rfl)
  | cons k _ => exact .of_eq rfl
theorem find4 {x : List Nat} {c : Nat} {i j r : Int} (h0 : 0 ≤ i) (h1 : 0 ≤ j) (h2 : j ≤ x.length) (h : Found c x i.toNat j.toNat r) : Blt C n Γ σ (.builtin "str.find") [.str x, .str [c], .int i, .int j] (.int r) := Blt.plain (by
  rintro A s PP cs _ Q E' _ ⟨v, vs, rfl, ⟨t, rfl⟩, v2, vs2, rfl, ⟨u, rfl⟩, v3, vs3, rfl, ⟨w3, rfl⟩, v4, vs4, rfl, ⟨w4, rfl⟩, rfl⟩ k
  refine call_gives F.slot_str_find (typeIs_str _ _ _) F.entry_str_find (F.args_str_find_4 _ _ _ _) (gives_find4 _ _ i j t u w3 w4) ?_
  have e1 : fromIndex (⟨x.toArray⟩ : Str).length i = i.toNat := by unfold fromIndex; rw [if_neg (by simp_all)]; congr 1; lia
  have e2 : fromIndex (⟨x.toArray⟩ : Str).length j = j.toNat := by unfold fromIndex; rw [if_neg (by simp_all)]; congr 1; lia
  have e3 : min j.toNat (⟨x.toArray⟩ : Str).length = j.toNat := by rw [str_len]; simp_all
  have := occ_found (by simp_all) h
  rw [e1, e2, e3, this]
  exact k _ _ DV.int_)
end
section
variable {C : Cx} {n : Nat} {Γ : Fx} {σ : St}
inductive Upd (x : Str) (od : Option D) : List (Str × Option D) → List (Str × Option D) → Prop
  | here {o l} : Upd x od ((x, o) :: l) ((x, od) :: l)
  | there {p l l'} : Upd x od l l' → Upd x od (p :: l) (p :: l')
section
variable {x : Str} {od : Option D}
theorem Upd.names : ∀ {l l' : List (Str × Option D)}, Upd x od l l' → l'.map (·.1) = l.map (·.1)
  | _, _, .here => rfl
  | _, _, .there h => by simp [h.names]
theorem Upd.has : ∀ {l l' : List (Str × Option D)}, Upd x od l l' → ∃ o, (x, o) ∈ l
  | _, _, .here => ⟨_, .head _⟩
  | _, _, .there h => let ⟨o, q⟩ := h.has; ⟨o, .tail _ q⟩
theorem Upd.mem : ∀ {l l' : List (Str × Option D)}, Upd x od l l' → (l.map (·.1)).Nodup → ∀ {y : Str} {o : Option D}, (y, o) ∈ l' → (y = x ∧ o = od) ∨ ((y, o) ∈ l ∧ y ≠ x)
  | _, _, .here, hn, y, o, hm => by
    rw [List.map_cons, List.nodup_cons] at hn
    rcases List.mem_cons.mp hm with e | e
    · cases e; exact .inl ⟨rfl, rfl⟩
    · refine .inr ⟨.tail _ e, fun z => hn.1 ?_⟩
      subst z
      exact List.mem_map.mpr ⟨_, e, rfl⟩
  | (p :: l), _, .there h, hn, y, o, hm => by
    rw [List.map_cons, List.nodup_cons] at hn
    rcases List.mem_cons.mp hm with e | e
    · subst e
      refine .inr ⟨.head _, fun z => hn.1 ?_⟩
      obtain ⟨o', q⟩ := h.has
      exact z ▸ List.mem_map.mpr ⟨_, q, rfl⟩
    · rcases h.mem hn.2 e with q | ⟨q, r⟩
      · exact .inl q
      · exact .inr ⟨.tail _ q, r⟩
end
theorem Ns.uniq {h : Heap} {a : Addr} {m m' : Str → Option Value} (x : h.Ns a m) (y : h.Ns a m') : m = m' := by
  (refine elEEEAAA x fun o es ep ho hd _ hm => ?_; clear x)
  (refine elEEEAAA y fun o' es' ep' ho' hd' _ hm' => ?_; clear y)
  rw [ho] at ho'; cases ho'
  rw [hd] at hd'; cases hd'
  funext z
  rw [← hm, ← hm']
theorem Rep.own1 {κ : FZ} {g : Gh} {s : Shared} (R : Rep C n Γ κ g σ s) {b : Addr} (hb : b ∈ Γ.own) {h' : Heap} {t : Nat} (ht : s.toks ≤ t) (hk : ∀ a o, a ≠ b → s.heap.get? a = some o → h'.get? a = some o)
    (hb' : ∃ o, h'.get? b = some o) (hns : ∃ m, h'.Ns Γ.env.locals m) {l' : List (Str × Option D)} (hdup : (l'.map (·.1)).Nodup)
    (hloc : ∀ x od, (x, od) ∈ l' → StoreAt Γ h' x ∧ (x == ("__debug__" : Str)) = false ∧ ∀ d, od = some d → ∃ v, Reach Γ h' x v ∧ DV g.P g.cs d v) :
    Rep C n Γ κ g ⟨l', σ.glb, σ.cells⟩ { s with heap := h', toks := t } := by
  (refine elAAA (R.own b hb) fun b1 b2 b3 b4 => ?_)
  have nP : ∀ a o, g.P a = some o → a ≠ b := fun a o e z => by subst z; rw [b1] at e; cases e
  have nK : ∀ a o, κ a = some o → a ≠ b := fun a o e z => by subst z; rw [b2] at e; cases e
  have bcs : b ∉ g.cs := fun q => by
    obtain ⟨k, hk'⟩ := List.mem_iff_getElem?.mp q
    cases hc : σ.cells[k]? with
    | none =>
      have := R.len
      rw [List.getElem?_eq_none_iff] at hc
      have := (List.getElem?_eq_some_iff.mp hk').1
      lia
    | some oc => exact R.ownc b q hb
  refine ⟨R.ok, R.sok.heap (fun a o e => hk a o (nP a o e) (R.sok.sub a o e)) (fun a o e => hk a o (nK a o (R.kbase a o e)) (R.sok.base a o e)) (fun o e => hk _ o (fun z => b3 z.symm) e) ht,
    hloc, hdup, R.ro, fun a o e => hk a o (nK a o e) (R.keep a o e), R.kbase, R.ktb, fun a ha => ?_, hns, R.len, fun a ha => ?_, R.cstb, R.ownc, fun k ds e => ?_⟩
  · (refine elAAAE (R.own a ha) fun h1 h2 h3 o h4 => ?_)
    refine ⟨h1, h2, h3, ?_⟩
    by_cases z : a = b
    · subst z; exact hb'
    · exact ⟨o, hk a o z h4⟩
  · obtain ⟨o, ho⟩ := R.cslt a ha
    exact ⟨o, hk a o (fun z => bcs (z ▸ ha)) ho⟩
  · obtain ⟨a, vs, h1, h2, h3, h4, h5, ⟨oo, mm, h6, h6'⟩, h7, h8⟩ := R.live k ds e
    exact ⟨a, vs, h1, h2, h3, h4, h5, ⟨oo, mm, hk a _ (fun z => h4 (z ▸ hb)) h6, h6'⟩, h7, h8⟩
theorem store {κ : FZ} {g : Gh} {s : Shared} {x : Str} {d : D} {v : Value} {l' : List (Str × Option D)} (R : Rep C n Γ κ g σ s) (hD : DV g.P g.cs d v) (U : Upd x (some d) σ.loc l') {Q : Unit → Shared → Prop} {E' : Value → Shared → Prop}
    (k : ∀ s', Rep C n Γ κ g ⟨l', σ.glb, σ.cells⟩ s' → Q () s') : wpAny (model C.prog C.w) Γ.A (storeName Γ.env x v) Q E' s := by
  obtain ⟨o, ho⟩ := U.has
  (refine elAA (R.loc x o ho) fun hS hdb _ => ?_)
  have hdup : (l'.map (·.1)).Nodup := by rw [U.names]; exact R.dup
  obtain ⟨m, hm⟩ := R.ns
  rcases hS with hl | ⟨hc, c, v₀, h1, h2, h3, h4, h5⟩
  · refine wpAny_storeName_local hl hm (fun h' hn' hs' => k _ ?_) (by rw [R.ok.kind]; rfl)
    have hk : ∀ a o, a ≠ Γ.env.locals → s.heap.get? a = some o → h'.get? a = some o := fun a o ha e => hs'.extBut a o ha e
    refine R.own1 R.ok.here (Nat.le_succ _) hk ?_ ⟨_, hn'⟩ hdup fun y oy hy => ?_
    · (refine elEEEA hn' fun o _ _ e _ => ?_; clear hn'); exact ⟨o, e⟩
    · rcases U.mem R.dup hy with ⟨rfl, rfl⟩ | ⟨hy, hne⟩
      · refine ⟨.inl hl, hdb, fun d' e => ?_⟩
        cases e
        exact ⟨v, .inl ⟨hl, _, hn', by simp⟩, hD⟩
      · (refine elAA (R.loc y oy hy) fun q1 q2 q3 => ?_)
        refine ⟨?_, q2, fun d' e => ?_⟩
        · rcases q1 with q | ⟨q, c, w, r1, r2, r3, r4, r5⟩
          · exact .inl q
          · exact .inr ⟨q, c, w, r1, r2, r3, IsCell.of_get r4 (hk c · r3), r5⟩
        · (refine elEA (q3 d' e) fun u hu hD' => ?_)
          refine ⟨u, ?_, hD'⟩
          rcases hu with ⟨r1, m', r2, r3⟩ | ⟨r1, c, r2, r3⟩
          · refine .inl ⟨r1, _, hn', ?_⟩
            rw [Ns.uniq hm r2]; simpa [hne] using r3
          · refine .inr ⟨r1, c, r2, ?_⟩
            rcases q1 with q | ⟨q, c', w, z1, z2, z3, z4, z5⟩
            · rw [q] at r1; cases r1
            · rw [r2] at z1; cases z1
              exact IsCell.of_get r3 (hk c · z3)
  · refine wpAny_storeName_cell R.ok.kind hc h1 h4 (fun h' hn' hs' => k _ ?_)
    have hk : ∀ a o, a ≠ c → s.heap.get? a = some o → h'.get? a = some o := fun a o ha e => hs'.extBut a o ha e
    have hm' : h'.Ns Γ.env.locals m := Ns.of_get hm (hk _ · (Ne.symm h3))
    refine R.own1 h2 (Nat.le_refl _) hk ?_ ⟨m, hm'⟩ hdup fun y oy hy => ?_
    · (refine elEA hn' fun o e _ => ?_; clear hn'); exact ⟨o, e⟩
    · rcases U.mem R.dup hy with ⟨rfl, rfl⟩ | ⟨hy, hne⟩
      · refine ⟨.inr ⟨hc, c, some v, h1, h2, h3, hn', h5⟩, hdb, fun d' e => ?_⟩
        cases e
        exact ⟨v, .inr ⟨hc, c, h1, hn'⟩, hD⟩
      · (refine elAA (R.loc y oy hy) fun q1 q2 q3 => ?_)
        have cne : ∀ c', Γ.env.cells.lookup y = some c' → c' ≠ c := fun c' e z => hne (h5 y c' e z)
        refine ⟨?_, q2, fun d' e => ?_⟩
        · rcases q1 with q | ⟨q, c', w, r1, r2, r3, r4, r5⟩
          · exact .inl q
          · exact .inr ⟨q, c', w, r1, r2, r3, IsCell.of_get r4 (hk c' · (cne c' r1)), r5⟩
        · (refine elEA (q3 d' e) fun u hu hD' => ?_)
          refine ⟨u, ?_, hD'⟩
          rcases hu with ⟨r1, m', r2, r3⟩ | ⟨r1, c', r2, r3⟩
          · exact .inl ⟨r1, m', Ns.of_get r2 (hk _ · (Ne.symm h3)), r3⟩
          · exact .inr ⟨r1, c', r2, IsCell.of_get r3 (hk c' · (cne c' r2))⟩
noncomputable def Then (Γ : Fx) (C : Cx) (n : Nat) (rest : List Stmt) (Q : Fl → St → Prop) : Fl → St → Prop
  | .next, σ => X C n Γ rest σ Q
  | fl, σ => Q fl σ
variable {Q : Fl → St → Prop}
theorem X.nil (h : Q .next σ) : X C n Γ [] σ Q := fun κ g s R => wpAny_execs_nil ⟨g, σ, .next, .refl _ _, R, rfl, h⟩
theorem X.cons {st : Stmt} {rest : List Stmt} (h : X1 C n Γ st σ (Then Γ C n rest Q)) : X C n Γ (st :: rest) σ Q := by
  intro κ g s R
  refine wpAny_execs_cons (thn (h κ g s R) ?_)
  rintro f s' ⟨g', σ', fl, l, R', hf, hq⟩
  cases fl with
  | next =>
    cases hf
    refine thn (hq κ g' s' R') ?_
    rintro f s'' ⟨g'', σ'', fl, l', R'', hf, hq⟩
    exact ⟨g'', σ'', fl, l.trans l', R'', hf, hq⟩
  | brk => cases hf; exact ⟨g', σ', .brk, l, R', rfl, hq⟩
  | cont => cases hf; exact ⟨g', σ', .cont, l, R', rfl, hq⟩
  | ret d => (refine elEA hf fun v z0 hv => ?_; clear hf; subst z0); exact ⟨g', σ', .ret d, l, R', ⟨v, rfl, hv⟩, hq⟩
theorem X.mono {Q' : Fl → St → Prop} {ss : List Stmt} (h : X C n Γ ss σ Q) (k : ∀ fl σ', Q fl σ' → Q' fl σ') : X C n Γ ss σ Q' := by
  intro κ g s R
  refine thn (h κ g s R) ?_
  rintro f s' ⟨g', σ', fl, l, R', hf, hq⟩
  exact ⟨g', σ', fl, l, R', hf, k _ _ hq⟩
theorem X1.mono {Q' : Fl → St → Prop} {ss : Stmt} (h : X1 C n Γ ss σ Q) (k : ∀ fl σ', Q fl σ' → Q' fl σ') : X1 C n Γ ss σ Q' := by
  intro κ g s R
  refine thn (h κ g s R) ?_
  rintro f s' ⟨g', σ', fl, l, R', hf, hq⟩
  exact ⟨g', σ', fl, l, R', hf, k _ _ hq⟩
theorem X1.assign {x : Str} {p pos : Pos} {e : Expr} {d : D} {l' : List (Str × Option D)} (h : E C n Γ e σ d) (U : Upd x (some d) σ.loc l') (q : Q .next ⟨l', σ.glb, σ.cells⟩)
    (hs : autoParam (swapsWith e (some (.Name x p)) pos.line Γ.env = pure false) tacB) : X1 C n Γ (.Assign [.Name x p] e pos) σ Q := by
  intro κ g s R
  refine wpAny_Assign_Name (thn (h κ g s R) ?_) hs
  rintro v s' ⟨g', l, R', hd⟩
  exact store R' hd U fun s'' R'' => ⟨g', _, .next, l, R'', rfl, q⟩
theorem X1.if {t : Expr} {body orelse : List Stmt} {pos : Pos} {b : Bool} (h : T C n Γ t σ b) (h1 : b = true → X C n Γ body σ Q) (h2 : b = false → X C n Γ orelse σ Q) : X1 C n Γ (.If t body orelse pos) σ Q := by
  intro κ g s R
  refine wpAny_If (thn (h κ g s R) ?_)
  rintro c s' ⟨g', l, R', rfl⟩
  have fin : ∀ ss, X C n Γ ss σ Q → wpAny (model C.prog C.w) Γ.A (execs ss Γ.env) (fun f s' => XP C n Γ κ g Q f s') (fun _ _ => False) s' := by
    intro ss hx
    refine thn (hx κ g' s' R') ?_
    rintro f s'' ⟨g'', σ'', fl, l', R'', hf, hq⟩
    exact ⟨g'', σ'', fl, l.trans l', R'', hf, hq⟩
  cases c with
  | true => exact fin _ (h1 rfl)
  | false => exact fin _ (h2 rfl)
theorem X1.ret {e : Expr} {pos : Pos} {d : D} (h : E C n Γ e σ d) (q : Q (.ret d) σ) : X1 C n Γ (.Return (some e) pos) σ Q := by
  intro κ g s R
  refine wpAny_Return_some (thn (h κ g s R) ?_)
  rintro v s' ⟨g', l, R', hd⟩
  exact ⟨g', σ, .ret d, l, R', ⟨v, rfl, hd⟩, q⟩
theorem X1.brk {pos : Pos} (q : Q .brk σ) : X1 C n Γ (.Break pos) σ Q := fun κ g s R => wpAny_Break ⟨g, σ, .brk, .refl _ _, R, rfl, q⟩
theorem X1.assert {t : Expr} {m : Option Expr} {pos : Pos} (h : T C n Γ t σ true) (q : Q .next σ) : X1 C n Γ (.Assert t m pos) σ Q := by
  intro κ g s R
  refine wpAny_Assert_holds (thn (h κ g s R) ?_)
  rintro c s' ⟨g', l, R', rfl⟩
  exact ⟨rfl, g', σ, .next, l, R', rfl, q⟩
theorem X1.aug {x : Str} {p pos : Pos} {op : Operator} {e : Expr} {a b d : D} {l' : List (Str × Option D)} (ha : (x, some a) ∈ σ.loc) (h : E C n Γ e σ b) (ho : Bop C n Γ (inplaceOp op) σ a b d) (U : Upd x (some d) σ.loc l')
    (q : Q .next ⟨l', σ.glb, σ.cells⟩) : X1 C n Γ (.AugAssign (.Name x p) op e pos) σ Q := by
  intro κ g s R
  refine wpAny_AugAssign_Name (load_loc ha R fun v hv => thn (h κ g s R) ?_)
  rintro u s' ⟨g', l, R', hu⟩
  refine thn (ho κ g' s' v u R' (hv.mono l.1 l.2.1) hu) ?_
  rintro r s'' ⟨g'', l', R'', hr⟩
  exact store R'' hr U fun s₃ R₃ => ⟨g'', _, .next, l.trans l', R₃, rfl, q⟩
noncomputable abbrev LoopQ (K : St → Prop) (Q : Fl → St → Prop) (fl : Fl) (σ : St) : Prop := match fl with | .next | .cont => K σ | .brk => Q .next σ | .ret d => Q (.ret d) σ
theorem X1.while {t : Expr} {body : List Stmt} {pos : Pos} (I : Nat → St → Prop) {k₀ : Nat} (h0 : I k₀ σ)
    (turn : ∀ k σ', I k σ' → ∃ b, T C n Γ t σ' b ∧ (b = true → X C n Γ body σ' (LoopQ (fun σ'' => ∃ m, m < k ∧ I m σ'') Q)) ∧ (b = false → Q .next σ')) :
    X1 C n Γ (.While t body [] pos) σ Q := by
  intro κ g s R
  refine wpAny_While (codeAny_whileLoop (fun k s' => ∃ g' σ', GLe κ g g' ∧ Rep C n Γ κ g' σ' s' ∧ I k σ') ?_ k₀ ⟨g, σ, .refl _ _, R, h0⟩)
  (intro k s' z1; refine elEEAA z1 fun g' σ' l R' hI => ?_; clear z1)
  (refine elEAA (turn k σ' hI) fun b hT hb1 hb2 => ?_)
  refine thn (hT κ g' s' R') ?_
  rintro c s'' ⟨g'', l', R'', rfl⟩
  cases c with
  | false => exact wpAny_execs_nil ⟨g'', σ', .next, l.trans l', R'', rfl, hb2 rfl⟩
  | true =>
    refine thn (hb1 rfl κ g'' s'' R'') ?_
    rintro f s₃ ⟨g₃, σ₃, fl, l₃, R₃, hf, hq⟩
    cases fl with
    | next => cases hf; (refine elEA hq fun m hm hI => ?_; clear hq); exact ⟨m, hm, g₃, σ₃, (l.trans l').trans l₃, R₃, hI⟩
    | cont => cases hf; (refine elEA hq fun m hm hI => ?_; clear hq); exact ⟨m, hm, g₃, σ₃, (l.trans l').trans l₃, R₃, hI⟩
    | brk => cases hf; exact ⟨g₃, σ₃, .next, (l.trans l').trans l₃, R₃, rfl, hq⟩
    | ret d => (refine elEA hf fun v z2 hv => ?_; clear hf; subst z2); exact ⟨g₃, σ₃, .ret d, (l.trans l').trans l₃, R₃, ⟨v, rfl, hv⟩, hq⟩
end
section
variable {C : Cx} {n : Nat} {Γ : Fx} {σ : St} {Q : Fl → St → Prop}
mutual
noncomputable def D.sub (k : Nat) (e : D) : D → D
  | .cell j => if j = k then e else .cell j
  | .tup ds => .tup (D.subs k e ds)
  | .lst ds => .lst (D.subs k e ds)
  | .meth j => if j = k then .none else .meth j
  | .none => .none
  | .bool b => .bool b
  | .int i => .int i
  | .str x => .str x
  | .raw v => .raw v
noncomputable def D.subs (k : Nat) (e : D) : List D → List D
  | [] => []
  | d :: ds => D.sub k e d :: D.subs k e ds
end
theorem D.subs_map (k : Nat) (e : D) : ∀ ds : List D, D.subs k e ds = ds.map (D.sub k e)
  | [] => rfl
  | d :: ds => by rw [D.subs, D.subs_map k e ds]; rfl
mutual
noncomputable def NoMeth : D → Prop
  | .meth _ => False
  | .tup ds => NoMeths ds
  | .lst ds => NoMeths ds
  | _ => True
noncomputable def NoMeths : List D → Prop
  | [] => True
  | d :: ds => NoMeth d ∧ NoMeths ds
end
mutual
theorem NoCell.sub {k : Nat} {e : D} : ∀ {d : D}, NoCell d → D.sub k e d = d
  | .none, _ | .bool _, _ | .int _, _ | .str _, _ | .raw _, _ => by simp [D.sub]
  | .tup ds, h => by rw [D.sub, NoCells.subs h]
  | .lst ds, h => by rw [D.sub, NoCells.subs h]
  | .cell _, h => h.elim
  | .meth _, h => h.elim
theorem NoCells.subs {k : Nat} {e : D} : ∀ {ds : List D}, NoCells ds → D.subs k e ds = ds
  | [], _ => rfl
  | d :: ds, h => by rw [D.subs, NoCell.sub h.1, NoCells.subs h.2]
end
mutual
theorem NoMeth.of : ∀ {d : D}, NoCell d → NoMeth d
  | .none, _ | .bool _, _ | .int _, _ | .str _, _ | .raw _, _ => trivial
  | .tup ds, h => NoMeths.of (ds := ds) h
  | .lst ds, h => NoMeths.of (ds := ds) h
  | .cell _, h => h.elim
  | .meth _, h => h.elim
theorem NoMeths.of : ∀ {ds : List D}, NoCells ds → NoMeths ds
  | [], _ => trivial
  | d :: ds, h => ⟨NoMeth.of h.1, NoMeths.of h.2⟩
end
mutual
theorem DV.sub {P : FZ} {cs : List Addr} {k : Nat} {e : D} {a : Addr} (hk : cs[k]? = some a) (he : DV P cs e (.ref a)) : ∀ {d : D} {v : Value}, NoMeth d → DV P cs d v → DV P cs (D.sub k e d) v
  | .none, _, _, h | .bool _, _, _, h | .int _, _, _, h | .str _, _, _, h | .raw _, _, _, h => by trivial
  | .tup ds, _, n, ⟨b, o, vs, m, e', ha, h1, h2, h3⟩ => by rw [D.sub]; exact ⟨b, o, vs, m, e', ha, h1, h2, DVs.sub hk he n h3⟩
  | .lst ds, _, n, ⟨b, o, vs, m, e', ha, h1, h2, h3⟩ => by rw [D.sub]; exact ⟨b, o, vs, m, e', ha, h1, h2, DVs.sub hk he n h3⟩
  | .cell j, v, _, h => by
    rw [D.sub]
    split
    · rename_i z; subst z
      (refine elEA h fun b hb e' => ?_; clear h)
      rw [hk] at hb; cases hb; subst e'
      exact he
    · exact h
  | .meth j, v, n, h => n.elim
theorem DVs.sub {P : FZ} {cs : List Addr} {k : Nat} {e : D} {a : Addr} (hk : cs[k]? = some a) (he : DV P cs e (.ref a)) : ∀ {ds : List D} {vs : List Value}, NoMeths ds → DVs P cs ds vs → DVs P cs (D.subs k e ds) vs
  | [], _, _, h => h
  | _ :: _, _, n, ⟨v, vs', e', h, r⟩ => ⟨v, vs', e', DV.sub hk he n.1 h, DVs.sub hk he n.2 r⟩
end
noncomputable def frzL (k : Nat) (e : D) (l : List (Str × Option D)) : List (Str × Option D) := l.map fun p => (p.1, match p.2 with | some (.meth j) => if j = k then none else some (.meth j) | o => o.map (D.sub k e))
noncomputable def St.frz (σ : St) (k : Nat) (ds : List D) : St := ⟨frzL k (.lst ds) σ.loc, σ.glb, (σ.cells.map (·.map (D.subs k (.lst ds)))).set k none⟩
noncomputable def Plainσ (σ : St) : Prop := (∀ p ∈ σ.loc, ∀ d, p.2 = some d → NoMeth d ∨ ∃ j, d = .meth j) ∧ (∀ ds, some ds ∈ σ.cells → NoMeths ds)
theorem Rep.freezeCell {κ : FZ} {g : Gh} {s : Shared} (R : Rep C n Γ κ g σ s) {k : Nat} {ds : List D} (hk : σ.cells[k]? = some (some ds)) (hp : Plainσ σ) :
    ∃ g', GLe κ g g' ∧ Rep C n Γ κ g' (σ.frz k ds) s ∧ ∀ a, g.cs[k]? = some a → DV g'.P g'.cs (.lst ds) (.ref a) := by
  obtain ⟨a, vs, h1, h2, h3, h4, h5, ⟨o, m, h6, hc, hdi, hda⟩, h7, h8⟩ := R.live k ds hk
  have hP := FZ.le_set o h2
  have hC : CLe g.cs g.cs := .refl _
  have hL : DV (g.P.set a o) g.cs (.lst ds) (.ref a) := ⟨a, o, vs, m, rfl, FZ.set_self _ _ _, hc, hda, h7.mono hP hC⟩
  have sb : ∀ {d v}, NoMeth d → DV g.P g.cs d v → DV (g.P.set a o) g.cs (D.sub k (.lst ds) d) v := fun nm h => DV.sub h1 hL nm (h.mono hP hC)
  refine ⟨⟨g.P.set a o, g.cs⟩, ⟨hP, hC, fun x o' e => ?_, fun _ e => .inl e⟩, ⟨R.ok, ⟨fun x o' e => ?_, R.sok.base, ?_, R.sok.tab.step hP fun _ e => e, R.sok.gens, R.sok.os, R.sok.pos⟩, fun x od hx => ?_, ?_, fun x d hx => ?_, R.keep, R.kbase, R.ktb, fun x hx => ?_, R.ns, ?_, R.cslt, R.cstb, R.ownc, fun j es e => ?_⟩, fun a' e => by rw [h1] at e; cases e; exact hL⟩
  · replace e : g.P.set a o x = some o' := e
    by_cases z : x = a
    · subst z; exact .inr h3
    · rw [FZ.set_ne _ _ z] at e; exact .inl e
  · replace e : g.P.set a o x = some o' := e
    by_cases z : x = a
    · subst z; rw [FZ.set_self] at e; cases e; exact h6
    · rw [FZ.set_ne _ _ z] at e; exact R.sok.sub x o' e
  · show g.P.set a o C.tb = none
    rw [FZ.set_ne _ _ (Ne.symm h5)]; exact R.sok.ptb
  · (refine elEA (List.mem_map.mp (show (x, od) ∈ frzL k (.lst ds) σ.loc from hx)) fun z0 hy e => ?_; obtain ⟨y, oy⟩ := z0)
    (refine elAA (R.loc y oy hy) fun q1 q2 q3 => ?_)
    simp only [Prod.mk.injEq] at e
    obtain ⟨rfl, e⟩ := e
    refine ⟨q1, q2, fun d ed => ?_⟩
    subst ed
    cases oy with
    | none => cases e
    | some d₀ =>
      (refine elEA (q3 d₀ rfl) fun v hv hd => ?_)
      refine ⟨v, hv, ?_⟩
      rcases hp.1 _ hy d₀ rfl with nm | ⟨j, rfl⟩
      · have : d = D.sub k (.lst ds) d₀ := by
          cases d₀ <;> first | exact nm.elim | (simp only [Option.map_some, Option.some.injEq] at e; exact e.symm)
        rw [this]; exact sb nm hd
      · simp only at e
        split at e
        · cases e
        · cases e; exact hd.mono hP hC
  · show ((frzL k (.lst ds) σ.loc).map (·.1)).Nodup
    have : (frzL k (.lst ds) σ.loc).map (·.1) = σ.loc.map (·.1) := by exact List.map_map ..
    rw [this]; exact R.dup
  · (refine elAEA (R.ro x d hx) fun q1 v hv hd => ?_)
    exact ⟨q1, v, hv, hd.mono hP hC⟩
  · obtain ⟨q1, q2⟩ := R.own x hx
    have z : x ≠ a := fun z => h4 (z ▸ hx)
    exact ⟨(FZ.set_ne _ _ z).trans q1, q2⟩
  · show List.length _ = _
    rw [← R.len]; simp [St.frz]
  · have e : ((σ.cells.map (·.map (D.subs k (.lst ds)))).set k none)[j]? = some (some es) := e
    rw [List.getElem?_set] at e
    split at e
    · split at e <;> simp at e
    · rename_i hjk
      rw [List.getElem?_map] at e
      cases hj : σ.cells[j]? with
      | none => rw [hj] at e; cases e
      | some oc =>
        cases oc with
        | none => rw [hj] at e; cases e
        | some fs =>
          rw [hj] at e
          simp only [Option.map_some, Option.some.injEq] at e
          subst e
          obtain ⟨b, ws, q1, q2, q3, q4, q5, q6, q7, q8⟩ := R.live j fs hj
          have z : b ≠ a := fun z => hjk (q8 k (z ▸ h1))
          exact ⟨b, ws, q1, (FZ.set_ne _ _ z).trans q2, q3, q4, q5, q6, DVs.sub h1 hL (hp.2 fs (List.mem_of_getElem? hj)) (q7.mono hP hC), q8⟩
theorem X.freeze {k : Nat} {ds : List D} {ss : List Stmt} (hk : σ.cells[k]? = some (some ds)) (hp : Plainσ σ) (h : X C n Γ ss (σ.frz k ds) Q) : X C n Γ ss σ Q := by
  intro κ g s R
  (refine elEAA (R.freezeCell hk hp) fun g₁ l₁ R₁ _ => ?_)
  refine thn (h κ g₁ s R₁) ?_
  rintro f s' ⟨g', σ', fl, l, R', hf, hq⟩
  exact ⟨g', σ', fl, l₁.trans l, R', hf, hq⟩
theorem Rep.addCell {κ : FZ} {g : Gh} {s : Shared} (R : Rep C n Γ κ g σ s) {a : Addr} {vs : List Value} {ds : List D} (h1 : g.P a = none) (h2 : κ a = none) (h3 : a ∉ Γ.own) (h4 : a ≠ C.tb) (h5 : a ∉ g.cs)
    (hl : PlainL s.heap a (List.toArray vs)) (hd : DVs g.P g.cs ds vs) : GLe κ g ⟨g.P, g.cs ++ [a]⟩ ∧ Rep C n Γ κ ⟨g.P, g.cs ++ [a]⟩ ⟨σ.loc, σ.glb, σ.cells ++ [some ds]⟩ s := by
  have hP : PLe g.P g.P := .refl _
  have hC : CLe g.cs (g.cs ++ [a]) := fun k b e => by rw [List.getElem?_append_left (List.getElem?_eq_some_iff.mp e).1]; exact e
  refine ⟨⟨hP, hC, fun _ _ e => .inl e, fun x hx => ?_⟩, ⟨R.ok, R.sok, fun x od hx => ?_, R.dup, fun x d hx => ?_, R.keep, R.kbase, R.ktb, R.own, R.ns, ?_, fun x hx => ?_, ?_, fun x hx => ?_, fun k es e => ?_⟩⟩
  · rcases List.mem_append.mp hx with q | q
    · exact .inl q
    · cases List.mem_singleton.mp q; exact .inr h2
  · (refine elAA (R.loc x od hx) fun q1 q2 q3 => ?_)
    exact ⟨q1, q2, fun d e => let ⟨v, hv, hd⟩ := q3 d e; ⟨v, hv, hd.mono hP hC⟩⟩
  · (refine elAEA (R.ro x d hx) fun q1 v hv hd => ?_)
    exact ⟨q1, v, hv, hd.mono hP hC⟩
  · show List.length (_ ++ _) = List.length (_ ++ _)
    rw [List.length_append, List.length_append, R.len]; rfl
  · rcases List.mem_append.mp hx with q | q
    · exact R.cslt x q
    · cases List.mem_singleton.mp q
      (refine elEEA hl fun o m e _ => ?_; clear hl); exact ⟨o, e⟩
  · intro q
    rcases List.mem_append.mp q with q | q
    · exact R.cstb q
    · exact h4 (List.mem_singleton.mp q).symm
  · rcases List.mem_append.mp hx with q | q
    · exact R.ownc x q
    · cases List.mem_singleton.mp q; exact h3
  · have e : (σ.cells ++ [some ds])[k]? = some (some es) := e
    by_cases hk : k < σ.cells.length
    · rw [List.getElem?_append_left hk] at e
      obtain ⟨b, ws, q1, q2, q3, q4, q5, q6, q7, q8⟩ := R.live k es e
      refine ⟨b, ws, hC _ _ q1, q2, q3, q4, q5, q6, q7.mono hP hC, fun j hj => ?_⟩
      have hj : (g.cs ++ [a])[j]? = some b := hj
      by_cases z : j < g.cs.length
      · rw [List.getElem?_append_left z] at hj; exact q8 j hj
      · have : j = g.cs.length := by have := (List.getElem?_eq_some_iff.mp hj).1; simp at this; lia
        subst this
        simp at hj
        exact absurd (List.mem_of_getElem? q1) (hj ▸ h5)
    · have hk' : k = σ.cells.length := by have := (List.getElem?_eq_some_iff.mp e).1; simp at this; lia
      subst hk'
      simp at e
      subst e
      refine ⟨a, vs, ?_, h1, h2, h3, h4, hl, hd.mono hP hC, fun j hj => ?_⟩
      · rw [R.len]; simp
      · have hj : (g.cs ++ [a])[j]? = some a := hj
        by_cases z : j < g.cs.length
        · rw [List.getElem?_append_left z] at hj; exact absurd (List.mem_of_getElem? hj) h5
        · have := (List.getElem?_eq_some_iff.mp hj).1; simp at this; have := R.len; lia
theorem Rep.setCell {κ : FZ} {g : Gh} {s : Shared} (R : Rep C n Γ κ g σ s) {k : Nat} {a : Addr} {old es : List D} {ws : List Value} (hk : σ.cells[k]? = some (some old)) (ha : g.cs[k]? = some a) {h' : Heap} {t : Nat} (ht : s.toks ≤ t)
    (hb : ∀ b o, b ≠ a → s.heap.get? b = some o → h'.get? b = some o) (hl : PlainL h' a (List.toArray ws)) (hd : DVs g.P g.cs es ws) : Rep C n Γ κ g ⟨σ.loc, σ.glb, σ.cells.set k (some es)⟩ { s with heap := h', toks := t } := by
  obtain ⟨a', vs, h1, h2, h3, h4, h5, h6, h7, h8⟩ := R.live k old hk
  rw [ha] at h1; cases h1
  have nP : ∀ b o, g.P b = some o → b ≠ a := fun b o e z => by subst z; rw [h2] at e; cases e
  have nK : ∀ b o, κ b = some o → b ≠ a := fun b o e z => by subst z; rw [h3] at e; cases e
  have hown : ∀ b ∈ Γ.own, ∀ o, s.heap.get? b = some o → h'.get? b = some o := fun b hb' o e => hb b o (fun z => h4 (z ▸ hb')) e
  refine ⟨R.ok, R.sok.heap (fun b o e => hb b o (nP b o e) (R.sok.sub b o e)) (fun b o e => hb b o (nK b o (R.kbase b o e)) (R.sok.base b o e)) (fun o e => hb _ o (fun z => h5 z.symm) e) ht,
    fun x od hx => ?_, R.dup, R.ro, fun b o e => hb b o (nK b o e) (R.keep b o e), R.kbase, R.ktb, fun b hb' => ?_, ?_, ?_, fun b hb' => ?_, R.cstb, R.ownc, fun j fs e => ?_⟩
  · (refine elAA (R.loc x od hx) fun q1 q2 q3 => ?_)
    refine ⟨q1.step hown, q2, fun d e => ?_⟩
    (refine elEA (q3 d e) fun v hv hd => ?_)
    exact ⟨v, Reach.step q1 hv R.ok.here hown, hd⟩
  · (refine elAAAE (R.own b hb') fun q1 q2 q3 o q4 => ?_)
    exact ⟨q1, q2, q3, o, hown b hb' o q4⟩
  · obtain ⟨m, hm⟩ := R.ns
    exact ⟨m, Ns.of_get hm (hown _ R.ok.here)⟩
  · show List.length (List.set _ _ _) = _
    rw [List.length_set]; exact R.len
  · obtain ⟨o, ho⟩ := R.cslt b hb'
    by_cases z : b = a
    · subst z; (refine elEEA hl fun o m e _ => ?_; clear hl); exact ⟨o, e⟩
    · exact ⟨o, hb b o z ho⟩
  · replace e : (σ.cells.set k (some es))[j]? = some (some fs) := e
    by_cases z : k = j
    · subst z
      have hlt := (List.getElem?_eq_some_iff.mp hk).1
      rw [List.getElem?_set_self hlt] at e
      cases e
      exact ⟨a, ws, ha, h2, h3, h4, h5, hl, hd, h8⟩
    · rw [List.getElem?_set_ne z] at e
      obtain ⟨b, us, q1, q2, q3, q4, q5, ⟨oo, mm, q6, q6'⟩, q7, q8⟩ := R.live j fs e
      have z : b ≠ a := fun w => z (q8 k (w ▸ ha))
      exact ⟨b, us, q1, q2, q3, q4, q5, ⟨oo, mm, hb b _ z q6, q6'⟩, q7, q8⟩
end
section
variable {C : Cx} {n : Nat} {Γ : Fx} {σ σ' : St} {Q : Fl → St → Prop}
noncomputable def Asg (C : Cx) (n : Nat) (Γ : Fx) (t : Expr) (d : D) (σ σ' : St) : Prop :=
  ∀ (κ : FZ) (g : Gh) (s : Shared) (v : Value), Rep C n Γ κ g σ s → DV g.P g.cs d v →
    wpAny (model C.prog C.w) Γ.A (assign t Γ.env v) (fun _ s' => ∃ g', GLe κ g g' ∧ Rep C n Γ κ g' σ' s') (fun _ _ => False) s
noncomputable def Asgs (C : Cx) (n : Nat) (Γ : Fx) (ts : List Expr) (ds : List D) (σ σ' : St) : Prop :=
  ∀ (κ : FZ) (g : Gh) (s : Shared) (vs : List Value), Rep C n Γ κ g σ s → DVs g.P g.cs ds vs →
    wpAny (model C.prog C.w) Γ.A (assignInOrder ((assignEach ts Γ.env).map (·.2)) vs) (fun _ s' => ∃ g', GLe κ g g' ∧ Rep C n Γ κ g' σ' s') (fun _ _ => False) s
theorem Asg.name {x : Str} {p : Pos} {d : D} {l' : List (Str × Option D)} (U : Upd x (some d) σ.loc l') : Asg C n Γ (.Name x p) d σ ⟨l', σ.glb, σ.cells⟩ :=
  fun κ g s v R hd => PyProof.Rows.assign_Name (store R hd U fun s' R' => ⟨g, .refl _ _, R'⟩)
theorem Asgs.nil : Asgs C n Γ [] [] σ σ := fun κ g s vs R hd => by cases hd; exact assignInOrder_nil ⟨g, .refl _ _, R⟩
theorem Asgs.cons {t : Expr} {ts : List Expr} {d : D} {ds : List D} {σ₁ : St} (h : Asg C n Γ t d σ σ₁) (hr : Asgs C n Γ ts ds σ₁ σ') (he : autoParam (∀ env, assignEach (t :: ts) env = (false, assign t env) :: assignEach ts env) tacE) :
    Asgs C n Γ (t :: ts) (d :: ds) σ σ' := by
  rintro κ g s _ R ⟨v, vs, rfl, hv, hvs⟩
  rw [he]
  show wpAny _ _ (do holding vs (assign t Γ.env v); assignInOrder ((assignEach ts Γ.env).map (·.2)) vs) _ _ s
  refine wpAny_bind (wpAny_holding (thn (h κ g s v R hv) ?_))
  (intro _ s' z0; refine elEA z0 fun g' l R' => ?_; clear z0)
  refine thn (hr κ g' s' vs R' (hvs.mono l.1 l.2.1)) ?_
  (intro _ s'' z1; refine elEA z1 fun g'' l' R'' => ?_; clear z1)
  exact ⟨g'', l.trans l', R''⟩
theorem star_each : ∀ {ts : List Expr} {env : Env}, noStar ts = true → (assignEach ts env).length = ts.length ∧ (assignEach ts env).findIdx? (·.1) = none ∧ (assignEach ts env).any (·.1) = false
  | [], _, _ => ⟨rfl, rfl, rfl⟩
  | e :: r, env, h => by
    obtain ⟨h1, h2⟩ := noStar_cons h
    have ih := star_each (ts := r) (env := env) h2
    have : assignEach (e :: r) env = (false, assign e env) :: assignEach r env := by cases e <;> first | rfl | exact absurd h Bool.false_ne_true
    rw [this]
    refine ⟨by simp [ih.1], by simp [List.findIdx?_cons, ih.2.1], by grind⟩
theorem Asg.tuple {ts : List Expr} {k : Nat} {p : Pos} {ds : List D} (h : Asgs C n Γ ts ds σ σ') (hn : autoParam (ts.length = ds.length) tacD) (hs : autoParam (noStar ts = true) tacD) : Asg C n Γ (.Tuple ts k p) (.tup ds) σ σ' := by
  rintro κ g s _ R ⟨a, o, vs, m, rfl, ha, hc, hd, hvs⟩
  (refine elAA (star_each (env := Γ.env) hs) fun e1 e2 _ => ?_)
  refine assign_Tuple_tuple (items := vs.toArray) R.ok.room.1 ⟨o, R.sok.sub _ _ ha, hc, m, hd⟩ (by rw [e1, hn, List.size_toArray, hvs.length]) e2 fun h' he => ?_
  refine h κ g _ _ (Rep.more (t := s.toks) R fun b o e => he b o (Nat.ne_of_lt (Heap.lt_size e)) e) hvs
theorem X1.assignT {ts : List Expr} {k : Nat} {p pos : Pos} {e : Expr} {d : D} (h : E C n Γ e σ d) (ha : Asg C n Γ (.Tuple ts k p) d σ σ') (q : Q .next σ')
    (hs : autoParam (swapsWithSole [.Tuple ts k p] e pos.line Γ.env = pure false) tacD) (hw : autoParam (swappedStores [.Tuple ts k p] e Γ.env = pure none) tacD) : X1 C n Γ (.Assign [.Tuple ts k p] e pos) σ Q := by
  intro κ g s R
  refine PyProof.Rows.Assign_Tuple (thn (h κ g s R) ?_) hs hw
  rintro v s' ⟨g', l, R', hd⟩
  refine thn (ha κ g' s' v R' hd) ?_
  (intro _ s'' z2; refine elEA z2 fun g'' l' R'' => ?_; clear z2)
  exact ⟨g'', σ', .next, l.trans l', R'', rfl, q⟩
theorem X1.assignSwap2 {x y : Str} {px py : Pos} {k : Nat} {p pos : Pos} {e : Expr} {d₁ d₂ : D} {l₁ l₂ : List (Str × Option D)} (h : E C n Γ e σ (.tup [d₁, d₂])) (U1 : Upd y (some d₂) σ.loc l₁) (U2 : Upd x (some d₁) l₁ l₂) (q : Q .next ⟨l₂, σ.glb, σ.cells⟩)
    (hw : swappedStores [.Tuple [.Name x px, .Name y py] k p] e Γ.env = pure (some [x, y]))
    (hs : autoParam (swapsWithSole [.Tuple [.Name x px, .Name y py] k p] e pos.line Γ.env = pure false) tacD) : X1 C n Γ (.Assign [.Tuple [.Name x px, .Name y py] k p] e pos) σ Q := by
  intro κ g s R
  refine PyProof.Rows.Assign_Tuple_swapped (names := [x, y]) (thn (h κ g s R) ?_) hs hw
  rintro _ s' ⟨g', l, R', ⟨a, o, _, m, rfl, ha, hc, hd, v, _, rfl, hv, w, _, rfl, hw', rfl⟩⟩
  refine unpackItems_tuple (items := [v, w].toArray) R'.ok.room.1 ⟨o, R'.sok.sub _ _ ha, hc, m, hd⟩ fun h' he => ?_
  have R₁ := Rep.more (t := s'.toks) R' (h' := h') fun b o e => he b o (Nat.ne_of_lt (Heap.lt_size e)) e
  show wpAny _ _ (do holding [v] (bindName Γ.env y w); assignInOrder [bindName Γ.env x] [v]) _ _ _
  refine wpAny_bind (wpAny_holding (wpAny_bindName (store R₁ hw' U1 fun s₂ R₂ => ?_)))
  show wpAny _ _ (do holding [] (bindName Γ.env x v); assignInOrder [] []) _ _ _
  refine wpAny_bind (wpAny_holding (wpAny_bindName (store R₂ hv U2 fun s₃ R₃ => ?_)))
  exact wpAny_pure ⟨g', _, .next, l, R₃, rfl, q⟩
theorem E.newCell {κ : FZ} {g : Gh} {s : Shared} {es : List Expr} {pos : Pos} {ds : List D} (h : Es C n Γ es σ ds) (hsz : ds.length ≤ sizeLine) (R : Rep C n Γ κ g σ s) :
    wpAny (model C.prog C.w) Γ.A (eval (.List es pos) Γ.env) (fun v s' => EP C n Γ κ g ⟨σ.loc, σ.glb, σ.cells ++ [some ds]⟩ (fun g' => DV g'.P g'.cs (.cell σ.cells.length) v) s') (fun _ _ => False) s := by
  refine wpAny_List (thn (h κ g s R pos) ?_)
  rintro vs s' ⟨g', l, R', hd⟩
  refine ⟨by rw [hd.length]; exact hsz, ?_⟩
  (refine elAAAA (R'.fresh (Nat.le_refl s'.heap.objs.size)) fun h1 h2 h3 h4 h5 => ?_)
  obtain ⟨l2, R2⟩ := (R'.push { cls := .type "list", data := .seq (List.toArray vs) } (t := s'.toks)).addCell (ds := ds) h1 h2 h3 h4 h5 ⟨_, _, Heap.get?_push_size _ rfl, rfl, rfl, rfl⟩ hd
  refine ⟨_, l.trans l2, R2, s'.heap.objs.size, ?_, rfl⟩
  show (g'.cs ++ [_])[σ.cells.length]? = _
  rw [R'.len]; simp
theorem X1.newCell {x : Str} {p p' pos : Pos} {es : List Expr} {ds : List D} {l' : List (Str × Option D)} (h : Es C n Γ es σ ds) (hsz : ds.length ≤ sizeLine) (U : Upd x (some (.cell σ.cells.length)) σ.loc l') (q : Q .next ⟨l', σ.glb, σ.cells ++ [some ds]⟩) :
    X1 C n Γ (.Assign [.Name x p] (.List es p') pos) σ Q := by
  intro κ g s R
  refine wpAny_Assign_Name (thn (E.newCell h hsz R) ?_) rfl
  rintro v s' ⟨g', l, R', hd⟩
  exact store (σ := ⟨σ.loc, σ.glb, σ.cells ++ [some ds]⟩) R' hd U fun s'' R'' => ⟨g', _, .next, l, R'', rfl, q⟩
theorem append_cell {κ : FZ} {g : Gh} {s : Shared} {k : Nat} {ds : List D} {d : D} {v w : Value} (R : Rep C n Γ κ g σ s) (hk : σ.cells[k]? = some (some ds)) (hv : DV g.P g.cs (.cell k) v) (hw : DV g.P g.cs d w) (hsz : ds.length ≤ sizeLine)
    {Q' : Value → Shared → Prop} {E' : Value → Shared → Prop} (q : ∀ s', Rep C n Γ κ g ⟨σ.loc, σ.glb, σ.cells.set k (some (ds ++ [d]))⟩ s' → Q' .none s') : wpAny (model C.prog C.w) Γ.A (call (.builtin "list.append") [v, w]) Q' E' s := by
  (refine elEA hv fun a ha z3 => ?_; clear hv; subst z3)
  obtain ⟨a', vs, h1, _, _, _, _, hl, hd, _⟩ := R.live k ds hk
  rw [ha] at h1; cases h1
  refine list_append_plainL hl (fun h' hl' hs' => q _ ?_) (by rw [List.size_toArray, hd.length]; exact hsz)
  exact R.setCell (ws := vs ++ [w]) hk ha (Nat.le_refl _) (fun b o hb e => hs'.extBut b o hb e) (by simpa using hl') (hd.append (.one hw))
theorem X1.append {o e : Expr} {apos pos p : Pos} {k : Nat} {ds : List D} {d : D} (ho : E C n Γ o σ (.cell k)) (he : E C n Γ e σ d) (hk : σ.cells[k]? = some (some ds)) (hsz : ds.length ≤ sizeLine) (q : Q .next ⟨σ.loc, σ.glb, σ.cells.set k (some (ds ++ [d]))⟩)
    (hs : autoParam (starEach [e] Γ.env = [(false, eval e Γ.env)]) tacD)
    (hm : ∃ pl, eval (.Call (.Attribute o "append" apos) [e] [] pos) Γ.env = (do
      let ov ← eval o Γ.env
      standAt apos.atName
      let (f, first) ← holding [ov] (getMethod ov "append" pl)
      callWith pos f first (backTo pos (starEach [e] Γ.env)) []) := by exact ⟨_, by with_unfolding_all rfl⟩) :
    X1 C n Γ (.Expr (.Call (.Attribute o "append" apos) [e] [] pos) p) σ Q := by
  intro κ g s R
  obtain ⟨pl, hm⟩ := hm
  have hi : interactive Γ.env = false := by unfold interactive; rw [R.ok.kind]; rfl
  refine wpAny_Expr_any (MethodCall_ (thn (ho κ g s R) ?_) hm) hi rfl
  rintro v s₁ ⟨g₁, l₁, R₁, hv⟩
  (refine elEA (id hv) fun a ha z4 => ?_; subst z4)
  obtain ⟨a', vs, h1, _, _, _, _, ⟨oo, mm, hoo, hc, hdi, hda⟩, _, _⟩ := R₁.live k ds hk
  rw [ha] at h1; cases h1
  refine getMethod_list_append hoo hc hdi ?_
  refine callWith_builtin (by rw [hs]; rfl) ?_
  rw [hs]
  refine Calls.evalArgs_plain (Calls.spliced_cons (thn (he κ g₁ s₁ R₁) ?_))
  rintro w s₂ ⟨g₂, l₂, R₂, hw⟩
  refine Calls.spliced_nil ?_
  exact append_cell R₂ hk (hv.mono l₂.1 l₂.2.1) hw hsz fun s' R' => ⟨g₂, _, .next, l₁.trans l₂, R', rfl, q⟩
end
section
variable {C : Cx} {n : Nat} {Γ : Fx} {σ σ' : St} {Q : Fl → St → Prop}
inductive ItemP (P : FZ) (cs wr : List Addr) (S' : Heap → Prop) (d : D) (v : Value) (s s₂ : Shared) : Prop
  | mk (h' : Heap) (t : Tok) (P' : FZ) (e : s₂ = { s with heap := h', toks := t }) (ht : s.toks ≤ t) (hP : PLe P P') (hn : ∀ b o, P' b = some o → P b = some o ∨ s.heap.get? b = none) (hs : ∀ b o, P' b = some o → P b = none → h'.get? b = some o)
    (hD : DV P' cs d v) (hS : S' h') (hk : ∀ b o, b ∉ wr → s.heap.get? b = some o → h'.get? b = some o) : ItemP P cs wr S' d v s s₂
noncomputable def Nxt (tgt : Expr) (I : Addr) (M : Model) (A : Around) (P : FZ) (cs wr : List Addr) (S : Nat → Heap → Prop) (i : Nat) (d : D) (s : Shared) : Prop :=
  wpAny M A (pyNext (.ref I)) (fun r s₁ => ∃ v, r = some v ∧ wpAny M A (letOwnedTupleGo tgt (.ref I) v) (fun _ s₂ => ItemP P cs wr (S (i + 1)) d v s s₂) (fun _ _ => False) s₁) (fun _ _ => False) s
structure Wk (M : Model) (A : Around) (tgt : Expr) (I : Addr) (P₀ : FZ) (cs : List Addr) (ds : List D) (wr : List Addr) (S : Nat → Heap → Prop) : Prop where
  there : ∀ i h, S i h → ∀ b ∈ wr, ∃ o, h.get? b = some o ∧ ∀ v, o.data ≠ .cell v
  frame : ∀ i h h', S i h → (∀ b ∈ wr, ∀ o, h.get? b = some o → h'.get? b = some o) → (∀ b o, P₀ b = some o → h'.get? b = some o) → S i h'
  self : ∀ i (s : Shared) (Q : Value → Shared → Prop) (E : Value → Shared → Prop), S i s.heap → Q (.ref I) s → wpAny M A (pyIter (.ref I)) Q E s
  item : ∀ i d (s : Shared) (P : FZ), ds[i]? = some d → S i s.heap → PLe P₀ P → (∀ b o, P b = some o → s.heap.get? b = some o) → (∀ b ∈ wr, P b = none) → Nxt tgt I M A P cs wr S i d s
  done : ∀ (s : Shared), S ds.length s.heap → wpAny M A (pyNext (.ref I)) (fun r s' => r = none ∧ ∃ h' t, s' = { s with heap := h', toks := t } ∧ s.toks ≤ t ∧ ∀ b o, b ∉ wr → s.heap.get? b = some o → h'.get? b = some o) (fun _ _ => False) s
noncomputable def Lets (tgt : Expr) (ds : List D) : Prop := (∀ it v, letOwnedTupleGo tgt it v = pure ()) ∨ ((∃ es k p, tgt = .Tuple es k p) ∧ ∀ d ∈ ds, ∃ fs, d = .tup fs)
theorem Wk.list {A : Around} (hh : A.handled = none) {tgt : Expr} {P₀ : FZ} {cs : List Addr} {ds : List D} {I ax : Addr} {o : Obj} {vs : List Value} {m : Nat} (hL : Lets tgt ds) (ha : P₀ ax = some o) (hc : o.cls = .type "list") (hd : o.data = .seq (List.toArray vs) m)
    (hv : DVs P₀ cs ds vs) (hI : P₀ I = none) : Wk (model C.prog C.w) A tgt I P₀ cs ds [I] (fun i h => h.IsListIter I ax i ∧ h.IsList ax (List.toArray vs)) where
  there := fun i h ⟨⟨o, ho, _, hd⟩, _⟩ b hb => by
    cases List.mem_singleton.mp hb
    exact ⟨o, ho, fun v e => by rw [hd] at e; cases e⟩
  frame := fun i h h' ⟨h1, h2⟩ k1 k2 => ⟨h1.at (k1 I (.head _)), ⟨o, k2 _ _ ha, hc, m, hd⟩⟩
  self := fun i s Q E ⟨h1, _⟩ q => wpAny_pyIter_listiter h1 q
  item := fun i d s P hi ⟨h1, h2⟩ hP hs hw => by
    (refine elEA (hv.get hi) fun v hvi hD => ?_)
    refine wpAny_pyNext_list_item h1 h2 (x := v) (by simpa using hvi) fun h' hit' hs' => ⟨v, rfl, ?_⟩
    have hax : ax ≠ I := fun z => by subst z; rw [ha] at hI; cases hI
    have fin : ∀ s₂, s₂ = { s with heap := h' } → ItemP P cs [I] (fun h'' => h''.IsListIter I ax (i + 1) ∧ h''.IsList ax (List.toArray vs)) d v s s₂ :=
      fun s₂ e => ⟨h', s.toks, P, e, Nat.le_refl _, .refl _, fun _ _ e => .inl e, fun _ _ e e' => (by rw [e'] at e; cases e), hD.mono hP (.refl _), ⟨hit', h2.extBut hs'.extBut hax⟩, fun b o hb e => hs'.extBut b o (fun z => hb (by simp [z])) e⟩
    rcases hL with hl | ⟨⟨es, k, p, rfl⟩, hl⟩
    · rw [hl]; exact wpAny_pure (fin _ rfl)
    · obtain ⟨fs, rfl⟩ := hl d (List.mem_of_getElem? hi)
      obtain ⟨T, _, _, _, rfl, _⟩ := hD
      exact wpAny_letOwnedTupleGo_listiter hit' (fin _ rfl)
  done := fun s ⟨h1, h2⟩ => wpAny_pyNext_list_end hh h1 h2 (by simp [hv.length]) fun h' he' => ⟨rfl, h', s.toks, rfl, Nat.le_refl _, fun b o hb e => he' b o (fun z => hb (by simp [z])) e⟩
theorem Wk.of_walks {A : Around} {tgt : Expr} {P₀ : FZ} {cs : List Addr} {ds : List D} {I : Addr} {Pv : Nat → Value → Prop} {S : Nat → Heap → Prop} (W : Walks C.prog C.w A I [I] [I] ds.length Pv S) (hL : ∀ it v, letOwnedTupleGo tgt it v = pure ())
    (hS : ∀ i h, S i h → ∃ o, h.get? I = some o ∧ ∀ v, o.data ≠ .cell v) (hv : ∀ i d v, ds[i]? = some d → Pv i v → ∀ P cs, DV P cs d v) : Wk (model C.prog C.w) A tgt I P₀ cs ds [I] S where
  there := fun i h hs b hb => by cases List.mem_singleton.mp hb; exact hS i h hs
  frame := fun i h h' hs k1 _ => W.frame i h h' hs k1
  self := fun i s Q E hs q => W.self i s Q E hs q
  item := fun i d s P hi hs hP hsub hw => by
    refine of_toks (W.item i s _ _ (List.getElem?_eq_some_iff.mp hi).1 hs fun v h' tk hpv hs' hk htk => ⟨v, rfl, ?_⟩)
    rw [hL]
    exact wpAny_pure ⟨h', tk, P, rfl, htk, .refl _, fun _ _ e => .inl e, fun _ _ e e' => (by rw [e'] at e; cases e), hv i d v hi hpv _ _, hs', hk⟩
  done := fun s hs => of_toks (W.done s _ _ hs fun h' tk hk htk => ⟨rfl, h', tk, rfl, htk, hk⟩)
theorem Wk.enum {A : Around} (hh : A.handled = none) {es : List Expr} {k : Nat} {p : Pos} {P₀ : FZ} {cs : List Addr} {ds : List D} {e it ax : Addr} {o : Obj} {vs : List Value} {m : Nat} (ha : P₀ ax = some o) (hc : o.cls = .type "list") (hd : o.data = .seq (List.toArray vs) m)
    (hv : DVs P₀ cs ds vs) (he : P₀ e = none) (hi : P₀ it = none) (hne : e ≠ it) : Wk (model C.prog C.w) A (.Tuple es k p) e P₀ cs (ds.mapIdx fun i d => .tup [.int i, d]) [e, it]
      (fun i h => (∃ old, IsEnum h e it i old) ∧ h.IsListIter it ax i ∧ h.IsList ax (List.toArray vs)) where
  there := fun i h ⟨⟨old, h1⟩, ⟨o, h2, _, h3⟩, _⟩ b hb => by
    rcases List.mem_cons.mp hb with rfl | hb
    · exact ⟨_, h1, fun v e => by cases e⟩
    · cases List.mem_singleton.mp hb
      exact ⟨_, h2, fun v e => by rw [h3] at e; cases e⟩
  frame := fun i h h' ⟨⟨old, h1⟩, h2, h3⟩ k1 k2 => ⟨⟨old, k1 e (.head _) _ h1⟩, h2.at (k1 it (.tail _ (.head _))), ⟨o, k2 _ _ ha, hc, m, hd⟩⟩
  self := fun i s Q E ⟨⟨old, h1⟩, _⟩ q => wpAny_pyIter_enum h1 q
  item := fun i d s P hg hS hP hsub hw => by
    have hle : ax ≠ e := fun z => by subst z; rw [ha] at he; cases he
    have hli : ax ≠ it := fun z => by subst z; rw [ha] at hi; cases hi
    have W := WalksT.enumerate (prog := C.prog) (w := C.w) hh e it ax hne hle hli (List.toArray vs)
    rw [List.getElem?_mapIdx] at hg
    cases hd' : ds[i]? with
    | none => rw [hd'] at hg; cases hg
    | some d₀ =>
      rw [hd'] at hg
      cases hg
      (refine elEA (hv.get hd') fun v hvi hD => ?_)
      have hlt : i < (List.toArray vs).size := by simpa using (List.getElem?_eq_some_iff.mp hvi).1
      refine of_toks (W.item i s _ _ hlt hS fun T vals h' tk hpt hT hIT hM hk htk => ⟨_, rfl, ?_⟩)
      refine W.go _ _ _ i T _ _ _ hM fun h'' hS'' hk'' => ?_
      (refine elEEA hpt fun t x hx z0 => ?_; clear hpt; subst z0)
      have hx : vs[i]? = some x := by simpa using hx
      rw [hvi] at hx; cases hx
      (refine elEAAE hIT fun oT hoT hcT nT hdT => ?_; clear hIT)
      have hTw : T ∉ [e, it] := W.apart i T _ hM
      have hPT : P T = none := by
        cases z : P T with
        | none => rfl
        | some o => have := hsub T o z; rw [get_of_lt_none hT] at this; cases this
      refine ⟨h'', tk, P.set T oT, rfl, htk, FZ.le_set _ hPT, fun b o' q => ?_, fun b o' q q' => ?_, ⟨T, oT, [.int i t, v], nT, rfl, FZ.set_self _ _ _, hcT, hdT, DVs.cons ⟨t, rfl⟩ (.one ?_)⟩, hS'', fun b o' hb q => hk'' b o' hb (hk b o' hb q)⟩
      · by_cases z : b = T
        · subst z; exact .inr (get_of_lt_none hT)
        · rw [FZ.set_ne _ _ z] at q; exact .inl q
      · by_cases z : b = T
        · subst z; rw [FZ.set_self] at q; cases q; exact hk'' _ _ hTw hoT
        · rw [FZ.set_ne _ _ z, q'] at q; cases q
      · exact hD.mono (fun x o' q => FZ.le_set _ hPT x o' (hP x o' q)) (.refl _)
  done := fun s ⟨⟨old, h1⟩, h2, h3⟩ => by
    have hl : (ds.mapIdx fun i d => D.tup [.int i, d]).length = ds.length := by simp
    rw [hl] at h1 h2
    exact wpAny_pyNext_enum_end hh h1 h2 h3 (by simp [hv.length]) fun h' hx => ⟨rfl, h', s.toks, rfl, Nat.le_refl _, fun b o hb q => hx b o (fun z => hb (by simp [z])) q⟩
noncomputable def onH (κ : FZ) (wr : List Addr) (h : Heap) : FZ := fun b => if b ∈ wr then h.get? b else κ b
structure Un (C : Cx) (Γ : Fx) (κ : FZ) (g : Gh) (b : Addr) : Prop where
  P : g.P b = none
  K : κ b = none
  own : b ∉ Γ.own
  tb : b ≠ C.tb
  cs : b ∉ g.cs
theorem Rep.onK {κ : FZ} {g : Gh} {s : Shared} {wr : List Addr} (R : Rep C n Γ κ g σ s) (U : ∀ b ∈ wr, Un C Γ κ g b) : Rep C n Γ (onH κ wr s.heap) g σ s := by
  have hle : ∀ a o, κ a = some o → onH κ wr s.heap a = some o := fun a o e => by
    unfold onH; rw [if_neg]; exact e
    intro hb; rw [(U a hb).K] at e; cases e
  have hno : ∀ a, a ∉ wr → κ a = none → onH κ wr s.heap a = none := fun a ha e => by unfold onH; rw [if_neg ha]; exact e
  refine ⟨R.ok, R.sok, R.loc, R.dup, fun x d hx => ?_, fun a o e => ?_, fun a o e => hle a o (R.kbase a o e), hno _ (fun z => (U _ z).tb rfl) R.ktb, fun a ha => ?_, R.ns, R.len, R.cslt, R.cstb, R.ownc, fun k ds e => ?_⟩
  · (refine elAEA (R.ro x d hx) fun q1 v hv hd => ?_)
    refine ⟨q1, v, ?_, hd⟩
    rcases hv with ⟨a1, a2, c, o, a3, a4, a5⟩ | ⟨a1, c, o, a3, a4, a5⟩ | h
    · exact .inl ⟨a1, a2, c, o, a3, hle _ _ a4, a5⟩
    · exact .inr (.inl ⟨a1, c, o, a3, hle _ _ a4, a5⟩)
    · exact .inr (.inr h)
  · unfold onH at e
    split at e
    · exact e
    · exact R.keep a o e
  · (refine elAA (R.own a ha) fun q1 q2 q3 => ?_)
    exact ⟨q1, hno a (fun z => (U a z).own ha) q2, q3⟩
  · obtain ⟨a, vs, q1, q2, q3, q4, q5, q6, q7, q8⟩ := R.live k ds e
    exact ⟨a, vs, q1, q2, hno a (fun z => (U a z).cs (List.mem_of_getElem? q1)) q3, q4, q5, q6, q7, q8⟩
theorem Rep.offK {κ : FZ} {g₀ g : Gh} {s s₀ : Shared} {wr : List Addr} {h₀ : Heap} {σ₀ : St} (R : Rep C n Γ (onH κ wr h₀) g σ s) (R₀ : Rep C n Γ κ g₀ σ₀ s₀) (U : ∀ b ∈ wr, Un C Γ κ g₀ b)
    (hw : ∀ b ∈ wr, ∃ o, h₀.get? b = some o ∧ ∀ v, o.data ≠ .cell v) : Rep C n Γ κ g σ s := by
  have hle : ∀ a o, κ a = some o → onH κ wr h₀ a = some o := fun a o e => by
    unfold onH; rw [if_neg]; exact e
    intro hb; rw [(U a hb).K] at e; cases e
  have hno : ∀ a, onH κ wr h₀ a = none → κ a = none := fun a e => by
    unfold onH at e; split at e
    · rename_i hb; exact (U a hb).K
    · exact e
  have hcell : ∀ c o v, onH κ wr h₀ c = some o → o.data = .cell v → κ c = some o := fun c o v e ed => by
    unfold onH at e; split at e
    · rename_i hb; (refine elEA (hw c hb) fun o' ho' hc => ?_)
      rw [ho'] at e; cases e; exact absurd ed (hc _)
    · exact e
  refine ⟨R.ok, R.sok, R.loc, R.dup, fun x d hx => ?_, fun a o e => R.keep a o (hle a o e), R₀.kbase, R₀.ktb, fun a ha => ?_, R.ns, R.len, R.cslt, R.cstb, R.ownc, fun k ds e => ?_⟩
  · (refine elAEA (R.ro x d hx) fun q1 v hv hd => ?_)
    refine ⟨q1, v, ?_, hd⟩
    rcases hv with ⟨a1, a2, c, o, a3, a4, a5⟩ | ⟨a1, c, o, a3, a4, a5⟩ | h
    · exact .inl ⟨a1, a2, c, o, a3, hcell _ _ _ a4 a5, a5⟩
    · exact .inr (.inl ⟨a1, c, o, a3, hcell _ _ _ a4 a5, a5⟩)
    · exact .inr (.inr h)
  · (refine elAA (R.own a ha) fun q1 q2 q3 => ?_)
    exact ⟨q1, hno a q2, q3⟩
  · obtain ⟨a, vs, q1, q2, q3, q4, q5, q6, q7, q8⟩ := R.live k ds e
    exact ⟨a, vs, q1, q2, hno a q3, q4, q5, q6, q7, q8⟩
theorem GLe.off {κ : FZ} {g g' : Gh} {wr : List Addr} {h₀ : Heap} (U : ∀ b ∈ wr, κ b = none) (l : GLe (onH κ wr h₀) g g') : GLe κ g g' := by
  have hno : ∀ a, onH κ wr h₀ a = none → κ a = none := fun a e => by
    unfold onH at e; split at e
    · rename_i hb; exact U a hb
    · exact e
  exact ⟨l.1, l.2.1, fun a o e => (l.2.2.1 a o e).imp id (hno a), fun a e => (l.2.2.2 a e).imp id (hno a)⟩
theorem Un.on {κ : FZ} {g g' : Gh} {wr : List Addr} {h₀ : Heap} {b : Addr} (U : Un C Γ κ g b) (hb : b ∈ wr) (hw : ∃ o, h₀.get? b = some o) (l : GLe (onH κ wr h₀) g g') : Un C Γ κ g' b := by
  obtain ⟨o, ho⟩ := hw
  have hk : onH κ wr h₀ b = some o := by unfold onH; rw [if_pos hb]; exact ho
  refine ⟨?_, U.K, U.own, U.tb, fun q => ?_⟩
  · cases z : g'.P b with
    | none => rfl
    | some o' =>
      rcases l.2.2.1 b o' z with q | q
      · rw [U.P] at q; cases q
      · rw [hk] at q; cases q
  · rcases l.2.2.2 b q with q | q
    · exact U.cs q
    · rw [hk] at q; cases q
theorem Rep.butL {κ : FZ} {g : Gh} {s : Shared} {wr : List Addr} (R : Rep C n Γ κ g σ s) (U : ∀ b ∈ wr, Un C Γ κ g b) {P' : FZ} {h' : Heap} {t : Nat} (ht : s.toks ≤ t) (hP : PLe g.P P') (hn : ∀ b o, P' b = some o → g.P b = some o ∨ s.heap.get? b = none)
    (hs : ∀ b o, P' b = some o → g.P b = none → h'.get? b = some o) (hk : ∀ b o, b ∉ wr → s.heap.get? b = some o → h'.get? b = some o) : GLe κ g ⟨P', g.cs⟩ ∧ Rep C n Γ κ ⟨P', g.cs⟩ σ { s with heap := h', toks := t } := by
  have nP : ∀ a o, g.P a = some o → a ∉ wr := fun a o e z => by rw [(U a z).P] at e; cases e
  have nK : ∀ a o, κ a = some o → a ∉ wr := fun a o e z => by rw [(U a z).K] at e; cases e
  have ntb : C.tb ∉ wr := fun z => (U _ z).tb rfl
  refine R.step ⟨fun a o e => ?_, fun a o e => hk a o (nK a o (R.kbase a o e)) (R.sok.base a o e), ?_, R.sok.tab.step hP fun o e => hk _ o ntb e, R.sok.gens, R.sok.os, Nat.lt_of_lt_of_le R.sok.pos ht⟩ hP hn (fun a o q e => hk a o (fun z => ?_) e)
  · cases z : g.P a with
    | none => exact hs a o e z
    | some o' => have := hP a o' z; rw [e] at this; cases this; exact hk a o (nP a o z) (R.sok.sub a o z)
  · cases z : P' C.tb with
    | none => rfl
    | some o =>
      rcases hn _ o z with q | q
      · rw [R.sok.ptb] at q; cases q
      · (refine elEA R.sok.tab fun ps e _ => ?_); rw [e] at q; cases q
  · rcases q with ⟨o', q⟩ | q | q
    · exact nK a o' q z
    · exact (U a z).own q
    · exact (U a z).cs q
end
section
variable {C : Cx} {n : Nat} {Γ : Fx} {σ σ' : St} {Q : Fl → St → Prop}
inductive SrcP (C : Cx) (n : Nat) (Γ : Fx) (κ : FZ) (g : Gh) (σ : St) (tgt : Expr) (ds : List D) (it : Value) (s₂ : Shared) : Prop
  | mk (g' : Gh) (I : Addr) (wr : List Addr) (S : Nat → Heap → Prop) (e : it = .ref I) (l : GLe κ g g') (R : Rep C n Γ κ g' σ s₂) (W : ∀ A', A'.handled = none → Wk (model C.prog C.w) A' tgt I g'.P g'.cs ds wr S)
    (hS : S 0 s₂.heap) (U : ∀ b ∈ wr, Un C Γ κ g' b) : SrcP C n Γ κ g σ tgt ds it s₂
inductive ForI (C : Cx) (n : Nat) (Γ : Fx) (κ : FZ) (g g' : Gh) (I : Nat → St → Prop) (S : Nat → Heap → Prop) (wr : List Addr) (N k : Nat) (s' : Shared) : Prop
  | mk (i : Nat) (g₁ : Gh) (σ₁ : St) (e : k = N - i) (hi : i ≤ N) (l : GLe κ g g₁) (R : Rep C n Γ κ g₁ σ₁ s') (hI : I i σ₁) (hS : S i s'.heap) (hP : PLe g'.P g₁.P) (hC : CLe g'.cs g₁.cs) (U : ∀ b ∈ wr, Un C Γ κ g₁ b) : ForI C n Γ κ g g' I S wr N k s'
noncomputable def Src (C : Cx) (n : Nat) (Γ : Fx) (σ : St) (tgt e : Expr) (ds : List D) : Prop :=
  ∀ (κ : FZ) (g : Gh) (s : Shared), Rep C n Γ κ g σ s → wpAny (model C.prog C.w) Γ.A (eval e Γ.env) (fun x s₁ => wpAny (model C.prog C.w) Γ.A (pyIter x) (fun it s₂ => SrcP C n Γ κ g σ tgt ds it s₂) (fun _ _ => False) s₁) (fun _ _ => False) s
theorem Src.list {tgt e : Expr} {ds : List D} (h : E C n Γ e σ (.lst ds)) (hL : Lets tgt ds) : Src C n Γ σ tgt e ds := by
  intro κ g s R
  refine thn (h κ g s R) ?_
  rintro _ s' ⟨g', l, R', ax, o, vs, m, rfl, ha, hc, hd, hv⟩
  have hl : s'.heap.IsList ax (List.toArray vs) := ⟨o, R'.sok.sub _ _ ha, hc, m, hd⟩
  refine wpAny_pyIter_list hl ?_
  (refine elAAAA (R'.fresh (Nat.le_refl s'.heap.objs.size)) fun u1 u2 u3 u4 u5 => ?_)
  refine ⟨g', s'.heap.objs.size, [s'.heap.objs.size], _, rfl, l, R'.push _ (t := s'.toks), fun A' hA => Wk.list hA hL ha hc hd hv u1, ⟨⟨_, Heap.get?_push_size _ rfl, rfl, rfl⟩, hl.push _⟩, fun b hb => ?_⟩
  cases List.mem_singleton.mp hb
  exact ⟨u1, u2, u3, u4, u5⟩
theorem Src.str {tgt e : Expr} {x : List Nat} (h : E C n Γ e σ (.str x)) (hL : autoParam (∀ it v, letOwnedTupleGo tgt it v = pure ()) tacC) : Src C n Γ σ tgt e (x.map fun c => .str [c]) := by
  intro κ g s R
  refine thn (h κ g s R) ?_
  rintro _ s' ⟨g', l, R', t, rfl⟩
  (refine elAAAA (R'.fresh (Nat.le_refl s'.heap.objs.size)) fun u1 u2 u3 u4 u5 => ?_)
  have U : ∀ b ∈ [s'.heap.objs.size], Un C Γ κ g' b := fun b hb => by cases List.mem_singleton.mp hb; exact ⟨u1, u2, u3, u4, u5⟩
  have hv : ∀ i (d : D) v, (x.map fun c => D.str [c])[i]? = some d → SignAt ⟨x.toArray⟩ i v → ∀ P cs, DV P cs d v := by
    (intro i d v hd z0 P cs; refine elEEA z0 fun c u hc z1 => ?_; clear z0; subst z1)
    rw [List.getElem?_map] at hd
    have hc : x[i]? = some c := by simpa using hc
    rw [hc] at hd; cases hd
    exact ⟨u, rfl⟩
  have hlen : (⟨x.toArray⟩ : Str).cps.size = (x.map fun c => D.str [c]).length := by simp
  cases ha : (⟨x.toArray⟩ : Str).cps.all (· < 128) with
  | false =>
    refine wpAny_pyIter_wide ha ⟨g', _, _, _, rfl, l, R'.push _ (t := s'.toks), fun A' hA => Wk.of_walks (hlen ▸ Walks.strWide hA _ ⟨x.toArray⟩ t) hL ?_ hv, ⟨_, Heap.get?_push_size _ rfl, rfl, rfl⟩, U⟩
    (intro i h z2; refine elEAA z2 fun o ho _ hd => ?_; clear z2)
    exact ⟨o, ho, fun v e => by rw [hd] at e; cases e⟩
  | true =>
    refine wpAny_pyIter_ascii ha ⟨g', _, _, _, rfl, l, R'.push _ (t := s'.toks), fun A' hA => Wk.of_walks (hlen ▸ Walks.strAscii hA _ ⟨x.toArray⟩ t) hL ?_ hv, ⟨_, Heap.get?_push_size _ rfl, rfl, rfl⟩, U⟩
    (intro i h z3; refine elEAA z3 fun o ho _ hd => ?_; clear z3)
    exact ⟨o, ho, fun v e => by rw [hd] at e; cases e⟩
theorem callTy {x : Str} {p pos : Pos} {args : List Expr} {T : String} {ds : List D} (hf : E C n Γ (.Name x p) σ (.raw (.type T))) (ha : Es C n Γ args σ ds) (hs : noStar args = true) {κ : FZ} {g : Gh} {s : Shared} (R : Rep C n Γ κ g σ s) {Q' : Value → Shared → Prop} {E' : Value → Shared → Prop}
    (q : ∀ g' s' vs, GLe κ g g' → Rep C n Γ κ g' σ s' → DVs g'.P g'.cs ds vs → wpAny (model C.prog C.w) Γ.A (call (.type T) vs) Q' E' s') : wpAny (model C.prog C.w) Γ.A (eval (.Call (.Name x p) args [] pos) Γ.env) Q' E' s := by
  show wpAny _ _ (do callWith pos (← eval (.Name x p) Γ.env) [] (backTo pos (starEach args Γ.env)) []) _ _ s
  refine wpAny_bind (thn (hf κ g s R) ?_)
  rintro v s₁ ⟨g₁, l₁, R₁, rfl⟩
  refine PySem.callWith_type (noStar_any hs) (evalArgs_es hs (thn (ha κ g₁ s₁ R₁ pos) ?_))
  rintro vs s₂ ⟨g₂, l₂, R₂, hd⟩
  exact q g₂ s₂ vs (l₁.trans l₂) R₂ hd
theorem Src.ranged {tgt : Expr} {κ : FZ} {g : Gh} {s : Shared} {r : Addr} {a b c : Int} {t u v : Tok} (R : Rep C n Γ κ g σ s) (hr : IsRange s.heap r a b c t u v) (hsm : Builtin.Range.small a b c = true) {k : Nat} (hk : (Builtin.Range.rangeSize a b c) = k)
    (hL : ∀ it v, letOwnedTupleGo tgt it v = pure ()) : wpAny (model C.prog C.w) Γ.A (pyIter (.ref r)) (fun it s₂ => SrcP C n Γ κ g σ tgt ((List.range k).map fun (i : Nat) => D.int (a + i * c)) it s₂) (fun _ _ => False) s := by
  refine wpAny_pyIter_range hr hsm ?_
  (refine elAAAA (R.fresh (Nat.le_refl s.heap.objs.size)) fun u1 u2 u3 u4 u5 => ?_)
  have U : ∀ b ∈ [s.heap.objs.size], Un C Γ κ g b := fun b hb => by cases List.mem_singleton.mp hb; exact ⟨u1, u2, u3, u4, u5⟩
  refine ⟨g, s.heap.objs.size, [s.heap.objs.size], fun i h => IsRangeIter h s.heap.objs.size (a + (i : Nat) * c) ((k : Int) - (i : Nat)) c, rfl, .refl _ _, R.push _ (t := s.toks), fun A' hA => Wk.of_walks (ds := (List.range k).map fun (i : Nat) => D.int (a + i * c)) (Pv := fun i v => ∃ t, v = .int (a + i * c) t) ?_ hL ?_ ?_, ?_, U⟩
  · have := Walks.range (prog := C.prog) (w := C.w) hA s.heap.objs.size a c k
    simpa using this
  · intro i h hh
    exact ⟨_, hh, fun v e => by cases e⟩
  · rintro i d v hd ⟨t, rfl⟩ P cs
    rw [List.getElem?_map] at hd
    cases hi : (List.range k)[i]? with
    | none => rw [hi] at hd; cases hd
    | some j =>
      rw [hi] at hd
      have : j = i := by
        have := List.getElem?_eq_some_iff.mp hi
        obtain ⟨h1, h2⟩ := this
        simpa using h2.symm
      subst this
      cases hd
      exact ⟨t, rfl⟩
  · show IsRangeIter _ _ _ _ _
    have := Heap.get?_push_size s.heap (o := { cls := .type "range_iterator", data := .fields #[rawInt a, rawInt (Builtin.Range.rangeSize a b c), rawInt c] }) rfl
    rw [hk] at this ⊢
    simpa [IsRangeIter] using this
theorem Src.range1 {tgt : Expr} {x : Str} {p pos : Pos} {e : Expr} {k : Nat} (hf : E C n Γ (.Name x p) σ (.raw (.type "range"))) (ha : Es C n Γ [e] σ [.int k]) (hk : (k : Int) < 2 ^ 62) (hs : autoParam (noStar [e] = true) tacD)
    (hL : autoParam (∀ it v, letOwnedTupleGo tgt it v = pure ()) tacC) : Src C n Γ σ tgt (.Call (.Name x p) [e] [] pos) ((List.range k).map fun (i : Nat) => .int i) := by
  intro κ g s R
  refine callTy hf ha hs R ?_
  rintro g' s' _ l R' ⟨v, _, rfl, ⟨t, rfl⟩, rfl⟩
  refine call_range_1 ?_
  have R₁ := R'.push { cls := .type "range", data := .fields #[.int 0 s'.toks, .int k t, .int 1 (s'.toks + 1)] } (t := s'.toks + 1 + 1)
  refine thn (Src.ranged (tgt := tgt) (k := k) R₁ (IsRange.new ..) (small_one (by decide) (by decide) (by exact Int.natCast_nonneg _) hk) (by rw [rangeSize_one]; split <;> simp_all) hL) ?_
  rintro it s₂ ⟨g₂, I, wr, S, e1, l2, R2, W, hS, U⟩
  refine ⟨g₂, I, wr, S, e1, l.trans l2, R2, fun A' hA => ?_, hS, U⟩
  have := W A' hA
  simpa using this
theorem Src.range2 {tgt : Expr} {x : Str} {p pos : Pos} {e e2 : Expr} {a b : Int} {k : Nat} (hf : E C n Γ (.Name x p) σ (.raw (.type "range"))) (ha : Es C n Γ [e, e2] σ [.int a, .int b]) (h1 : -(2 ^ 62) ≤ a) (h2 : a < 2 ^ 62) (h3 : -(2 ^ 62) ≤ b) (h4 : b < 2 ^ 62) (hk : (k : Int) = if a < b then b - a else 0)
    (hs : autoParam (noStar [e, e2] = true) tacD)
    (hL : autoParam (∀ it v, letOwnedTupleGo tgt it v = pure ()) tacC) : Src C n Γ σ tgt (.Call (.Name x p) [e, e2] [] pos) ((List.range k).map fun (i : Nat) => .int (a + i)) := by
  intro κ g s R
  refine callTy hf ha hs R ?_
  rintro g' s' _ l R' ⟨v, _, rfl, ⟨t, rfl⟩, w, _, rfl, ⟨u, rfl⟩, rfl⟩
  refine call_range_2 ?_
  have R₁ := R'.push { cls := .type "range", data := .fields #[.int a t, .int b u, .int 1 s'.toks] } (t := s'.toks + 1)
  refine thn (Src.ranged (tgt := tgt) (k := k) R₁ (IsRange.new ..) (small_one h1 h2 h3 h4) (by rw [rangeSize_one, hk]) hL) ?_
  rintro it s₂ ⟨g₂, I, wr, S, e1, l2, R2, W, hS, U⟩
  refine ⟨g₂, I, wr, S, e1, l.trans l2, R2, fun A' hA => ?_, hS, U⟩
  have := W A' hA
  simpa using this
theorem Src.enum {es : List Expr} {kk : Nat} {pp : Pos} {x : Str} {p pos : Pos} {e : Expr} {ds : List D} (hf : E C n Γ (.Name x p) σ (.raw (.type "enumerate"))) (ha : Es C n Γ [e] σ [.lst ds]) (hs : autoParam (noStar [e] = true) tacD) :
    Src C n Γ σ (.Tuple es kk pp) (.Call (.Name x p) [e] [] pos) (ds.mapIdx fun i d => .tup [.int i, d]) := by
  intro κ g s R
  refine callTy hf ha hs R ?_
  rintro g' s' _ l R' ⟨v, _, rfl, ⟨ax, o, vs, m, rfl, ha, hc, hd, hv⟩, rfl⟩
  have hl : s'.heap.IsList ax (List.toArray vs) := ⟨o, R'.sok.sub _ _ ha, hc, m, hd⟩
  refine call_enumerate_list hl fun h' he hit hsz hk => wpAny_pyIter_enum he ?_
  (refine elAAAA (R'.fresh (Nat.le_refl s'.heap.objs.size)) fun u1 u2 u3 u4 u5 => ?_)
  (refine elAAAA (R'.fresh (Nat.le_succ s'.heap.objs.size)) fun v1 v2 v3 v4 v5 => ?_)
  have R2 := R'.more (t := s'.toks) (h' := h') hk
  refine ⟨g', _, _, _, rfl, l, R2, fun A' hA => Wk.enum (it := s'.heap.objs.size) hA ha hc hd hv v1 u1 (Nat.succ_ne_self _), ⟨⟨_, he⟩, hit, hl.at (hk _)⟩, fun b hb => ?_⟩
  rcases List.mem_cons.mp hb with rfl | hb
  · exact ⟨v1, v2, v3, v4, v5⟩
  · cases List.mem_singleton.mp hb; exact ⟨u1, u2, u3, u4, u5⟩
theorem X1.for {tgt iter : Expr} {body : List Stmt} {pos : Pos} {ds : List D} (hsrc : Src C n Γ σ tgt iter ds) (I : Nat → St → Prop) (h0 : I 0 σ)
    (turn : ∀ i d σ', ds[i]? = some d → I i σ' → ∃ σ'', Asg C n Γ tgt d σ' σ'' ∧ X C n Γ body σ'' (LoopQ (I (i + 1)) Q))
    (fin : ∀ σ', I ds.length σ' → Q .next σ') (hs : autoParam (∀ x, foldedSetIterable iter Γ.env x = pure x) tacE) : X1 C n Γ (.For tgt iter body [] pos) σ Q := by
  intro κ g s R
  refine wpAny_For (thn (hsrc κ g s R) ?_) hs
  intro x s₁ h₁
  refine thn h₁ ?_
  rintro _ s₂ ⟨g', it, wr, S, rfl, l, R', W, hS, U⟩
  have W := W Γ.A R.ok.room.1
  refine codeAny_forLoop_any (fun k s' => ForI C n Γ κ g g' I S wr ds.length k s') ?_ (ds.length - 0) ⟨0, g', σ, rfl, Nat.zero_le _, l, R', h0, hS, .refl _, .refl _, U⟩
  rintro k s₃ ⟨i, g₁, σ₁, rfl, hi, l₁, R₁, hI, hS₁, hP₁, hC₁, U₁⟩
  by_cases hlt : i < ds.length
  · have hd : ds[i]? = some ds[i] := List.getElem?_eq_getElem hlt
    refine thn (W.item i _ s₃ g₁.P hd hS₁ hP₁ R₁.sok.sub fun b hb => (U₁ b hb).P) ?_
    (intro _ s₄ z4; refine elEA z4 fun v z5 hgo => ?_; clear z4; subst z5)
    refine thn hgo ?_
    rintro _ _ ⟨h', t, P', rfl, ht, hPP, hnew, hsub, hD, hS₂, hk⟩
    obtain ⟨l₂, R₂⟩ := R₁.butL U₁ ht hPP hnew hsub hk
    have U₂ : ∀ b ∈ wr, Un C Γ κ ⟨P', g₁.cs⟩ b := fun b hb => by
      refine ⟨?_, (U₁ b hb).K, (U₁ b hb).own, (U₁ b hb).tb, (U₁ b hb).cs⟩
      show P' b = none
      cases z : P' b with
      | none => rfl
      | some o =>
        rcases hnew b o z with q | q
        · rw [(U₁ b hb).P] at q; cases q
        · (refine elEA (W.there _ _ hS₁ b hb) fun o' ho' _ => ?_); rw [ho'] at q; cases q
    have hthere := W.there _ _ hS₂
    (refine elEA (turn i _ σ₁ hd hI) fun σ₂ hA hX => ?_)
    have R₃ := R₂.onK U₂
    refine thn (hA _ _ _ v R₃ ((hD.mono (.refl _) hC₁))) ?_
    (intro _ s₅ z6; refine elEA z6 fun g₅ l₅ R₅ => ?_; clear z6)
    refine thn (hX _ g₅ s₅ R₅) ?_
    rintro f s₆ ⟨g₆, σ₆, fl, l₆, R₆, hf, hq⟩
    have l₇ := l₅.trans l₆
    have l₈ := l₇.off fun b hb => (U₂ b hb).K
    have R₇ := R₆.offK R₂ U₂ hthere
    have lall := (l₁.trans l₂).trans l₈
    have U₃ : ∀ b ∈ wr, Un C Γ κ g₆ b := fun b hb => (U₂ b hb).on hb (let ⟨o, ho, _⟩ := hthere b hb; ⟨o, ho⟩) l₇
    have hS₃ : S (i + 1) s₆.heap := W.frame _ _ _ hS₂ (fun b hb o e => R₆.keep b o (by unfold onH; rw [if_pos hb]; exact e)) (fun b o e => R₆.sok.sub b o (l₇.1 b o (hPP b o (hP₁ b o e))))
    have again : ∀ i', i' = i + 1 → I i' σ₆ → ∃ m, m < ds.length - i ∧ ForI C n Γ κ g g' I S wr ds.length m s₆ := by
      rintro _ rfl hI'
      exact ⟨ds.length - (i + 1), by grind, i + 1, g₆, σ₆, rfl, hlt, lall, R₇, hI', hS₃, (hP₁.trans hPP).trans l₇.1, hC₁.trans l₇.2.1, U₃⟩
    cases fl with
    | next => cases hf; exact again _ rfl hq
    | cont => cases hf; exact again _ rfl hq
    | brk => cases hf; exact ⟨g₆, σ₆, .next, lall, R₇, rfl, hq⟩
    | ret d => (refine elEA hf fun v z7 hv => ?_; clear hf; subst z7); exact ⟨g₆, σ₆, .ret d, lall, R₇, ⟨v, rfl, hv⟩, hq⟩
  · have : i = ds.length := by exact Nat.le_antisymm (by assumption) (Nat.le_of_not_lt (by assumption))
    subst this
    refine thn (W.done s₃ hS₁) ?_
    (intro _ _ z8; refine elAEEAA z8 fun z9 h' t z10 ht hk => ?_; clear z8; subst z9; subst z10)
    obtain ⟨l₂, R₂⟩ := R₁.butL U₁ ht (.refl _) (fun _ _ e => .inl e) (fun _ _ e e' => (by rw [e'] at e; cases e)) hk
    exact wpAny_execs_nil ⟨_, σ₁, .next, l₁.trans l₂, R₂, rfl, fin _ hI⟩
theorem X.hide {ss : List Stmt} (h : ∀ Q' : Fl → St → Prop, (∀ fl σ', Q fl σ' → Q' fl σ') → X C n Γ ss σ Q') : X C n Γ ss σ Q := h Q fun _ _ h => h
inductive Turn (C : Cx) (n : Nat) (Γ : Fx) (t : Expr) (body : List Stmt) (σ : St) (K : St → Prop) (Q : Fl → St → Prop) : Prop
  | mk (b : Bool) (hT : T C n Γ t σ b) (yes : b = true → X C n Γ body σ (LoopQ K Q)) (no : b = false → Q .next σ) : Turn C n Γ t body σ K Q
inductive ForT (C : Cx) (n : Nat) (Γ : Fx) (tgt : Expr) (body : List Stmt) (d : D) (σ : St) (K : St → Prop) (Q : Fl → St → Prop) : Prop
  | mk (σ' : St) (hA : Asg C n Γ tgt d σ σ') (hX : X C n Γ body σ' (LoopQ K Q)) : ForT C n Γ tgt body d σ K Q
theorem X1.whileH {t : Expr} {body : List Stmt} {pos : Pos} (I : Nat → St → Prop) {k₀ : Nat} (h0 : I k₀ σ)
    (turn : ∀ k σ', I k σ' → ∀ (K : St → Prop) (Q' : Fl → St → Prop), (∀ m σ'', m < k → I m σ'' → K σ'') → (∀ fl σ'', Q fl σ'' → Q' fl σ'') → Turn C n Γ t body σ' K Q') :
    X1 C n Γ (.While t body [] pos) σ Q :=
  X1.while I h0 fun k σ' hI => match turn k σ' hI (fun σ'' => ∃ m, m < k ∧ I m σ'') Q (fun m _ h1 h2 => ⟨m, h1, h2⟩) (fun _ _ h => h) with | .mk b hT yes no => ⟨b, hT, yes, no⟩
theorem X1.forH {tgt iter : Expr} {body : List Stmt} {pos : Pos} {ds : List D} (hsrc : Src C n Γ σ tgt iter ds) (I : Nat → St → Prop) (h0 : I 0 σ)
    (turn : ∀ i d σ', ds[i]? = some d → I i σ' → ∀ (K : St → Prop) (Q' : Fl → St → Prop), (∀ σ'', I (i + 1) σ'' → K σ'') → (∀ fl σ'', Q fl σ'' → Q' fl σ'') → ForT C n Γ tgt body d σ' K Q')
    (fin : ∀ σ', I ds.length σ' → ∀ Q' : Fl → St → Prop, (∀ fl σ'', Q fl σ'' → Q' fl σ'') → Q' .next σ') (hs : autoParam (∀ x, foldedSetIterable iter Γ.env x = pure x) tacE) : X1 C n Γ (.For tgt iter body [] pos) σ Q :=
  X1.for hsrc I h0 (fun i d σ' hd hI => match turn i d σ' hd hI (I (i + 1)) Q (fun _ h => h) (fun _ _ h => h) with | .mk σ' hA hX => ⟨σ', hA, hX⟩) (fun σ' hI => fin σ' hI Q fun _ _ h => h) hs
end
section
variable {C : Cx} {n : Nat} {Γ : Fx} {σ σ' : St} {Q : Fl → St → Prop}
noncomputable def freeNames (scope : Scope) : List Str := (scope.names.filter (·.2 == .free)).map (·.1)
noncomputable def closOf (scope : Scope) (env : Env) : List (Str × Addr) := ((freeNames scope).map fun y => (y, (env.cells.lookup y).getD 0)).reverse
theorem closureFor_eq {scope : Scope} {env : Env} (h : ∀ y ∈ freeNames scope, ∃ c, env.cells.lookup y = some c) : closureFor scope env = pure (closOf scope env) := by
  unfold closureFor closOf
  unfold freeNames at h ⊢
  generalize scope.names = ns at h
  suffices H : ∀ (acc : List (Str × Addr)), (forIn ns acc fun x (cs : List (Str × Addr)) => if x.2 == NameKind.free then do let a ← cellOf env x.1; pure (ForInStep.yield ((x.1, a) :: cs)) else pure (ForInStep.yield cs)) =
      (pure ((((ns.filter (·.2 == .free)).map (·.1)).map fun y => (y, (env.cells.lookup y).getD 0)).reverse ++ acc) : Sem (List (Str × Addr))) by
    have := H []
    rw [List.append_nil] at this
    first
      | exact this
      | (simp only [bind_pure_comp] at this ⊢; exact this)
      | (simpa using this)
  induction ns with
  | nil => intro acc; rfl
  | cons x ns ih =>
    intro acc
    have ih := ih fun y hy => h y (by
      simp only [List.filter_cons]
      split
      · exact List.mem_cons_of_mem _ hy
      · exact hy)
    rw [List.forIn_cons]
    cases hx : x.2 == NameKind.free with
    | true =>
      obtain ⟨c, hc⟩ := h x.1 (by simp [List.filter_cons, hx])
      have e : cellOf env x.1 = pure c := by unfold cellOf; rw [hc]
      simp only [if_true, e, pure_bind]
      rw [ih]
      simp [List.filter_cons, hx, hc]
    | false =>
      simp only [Bool.false_eq_true, if_false, pure_bind]
      rw [ih]
      simp [List.filter_cons, hx]
theorem lookup_pairs {f : Str → Addr} : ∀ {ys : List Str} {y : Str}, y ∈ ys → (ys.map fun y => (y, f y)).lookup y = some (f y)
  | z :: ys, y, h => by
    rw [List.map_cons, List.lookup_cons]
    cases e : y == z with
    | true => have := eq_of_beq e; subst this; rfl
    | false =>
      rcases List.mem_cons.mp h with q | q
      · subst q; simp at e
      · exact lookup_pairs q
theorem closOf_lookup {scope : Scope} {env : Env} {y : Str} {c : Addr} (hy : y ∈ freeNames scope) (hc : env.cells.lookup y = some c) : (closOf scope env).lookup y = some c := by
  unfold closOf
  rw [← List.map_reverse, lookup_pairs (List.mem_reverse.mpr hy), hc]; rfl
theorem lookup_mem {y : Str} {k : NameKind} : ∀ {ns : List (Str × NameKind)}, ns.lookup y = some k → (y, k) ∈ ns
  | (z, j) :: ns, h => by
    rw [List.lookup_cons] at h
    cases e : y == z with
    | true => rw [e] at h; cases h; have := eq_of_beq e; subst this; exact .head _
    | false => rw [e] at h; exact .tail _ (lookup_mem h)
theorem mem_freeNames {scope : Scope} {y : Str} (h : scope.names.lookup y = some .free) : y ∈ freeNames scope :=
  List.mem_map.mpr ⟨_, List.mem_filter.mpr ⟨lookup_mem h, rfl⟩, rfl⟩
theorem lookup_relabel {scope : Scope} {env : Env} {y : Str} {k : NameKind} (h : scope.names.lookup y = some k) :
    (relabel scope env).names.lookup y = some (if (k == .free && env.scope.kind == .function && env.kindOf y == some .cell) then .cell else k) := by
  unfold relabel
  dsimp only
  revert h
  generalize scope.names = ns
  induction ns with
  | nil => intro h; cases h
  | cons p ns ih =>
    intro h
    obtain ⟨z, j⟩ := p
    rw [List.lookup_cons] at h
    rw [List.map_cons]
    dsimp only
    cases e : y == z with
    | true =>
      rw [e] at h; cases h
      have := eq_of_beq e; subst this
      split <;> simp [List.lookup_cons]
    | false =>
      rw [e] at h
      split <;> simp only [List.lookup_cons, e] <;> exact ih h
noncomputable def Tests (C : Cx) (n : Nat) (Γ : Fx) (ifs : List Expr) (σ : St) (b : Bool) : Prop :=
  ∀ (κ : FZ) (g : Gh) (s : Shared), Rep C n Γ κ g σ s →
    wpAny (model C.prog C.w) Γ.A (forIn ifs true fun c r => if r = true then do let ok ← isTrue c Γ.env (eval c Γ.env); pure (ForInStep.yield ok) else pure (ForInStep.yield r))
      (fun ok s' => EP C n Γ κ g σ (fun g' => ok = b) s') (fun _ _ => False) s
theorem Tests.nil : Tests C n Γ [] σ true := fun κ g s R => wpAny_pure ⟨g, .refl _ _, R, rfl⟩
theorem Tests.one {c : Expr} {b : Bool} (h : T C n Γ c σ b) : Tests C n Γ [c] σ b := fun κ g s R => wpAny_tests_one (h κ g s R)
section
variable {prog : Program} {w : World} {A : Around} {s : Shared} {R : Result → Shared → Prop}
noncomputable def TurnLast (M : Model) (A : Around) (R : Result → Shared → Prop) (elt target : Expr) (ifs : List Expr) (it acc : Value) (env : Env) (I : Nat → Shared → Prop) : Prop :=
  ∀ n s, I n s → wpAny M A (pyNext it) (fun r s₁ => match r with
      | none => R (.ok .next) s₁
      | some v => wpAny M A (letOwnedTupleGo target it v) (fun _ s₁' => wpAny M A (assign target env v) (fun _ s₂ =>
          wpAny M A (forIn ifs true fun c r => if r = true then do let ok ← isTrue c env (eval c env); pure (ForInStep.yield ok) else pure (ForInStep.yield r)) (fun ok s₃ =>
            if ok = true then wpAny M A (eval elt env) (fun x s₄ => wpAny M A (call (.builtin "list.append") [acc, x]) (fun _ s₅ => ∃ m, m < n ∧ I m s₅) (fun _ _ => False) s₄) (fun _ _ => False) s₃
            else ∃ m, m < n ∧ I m s₃) (fun _ _ => False) s₂) (fun _ _ => False) s₁') (fun _ _ => False) s₁) (fun _ _ => False) s
noncomputable def lastTree (target iter elt : Expr) (ifs : List Expr) (it acc : Value) (env : Env) (c : Code) : Sem Fin := do
  standAt iter.pos
  match ← pyNext it with
  | none => pure (.done .next)
  | some v =>
    letOwnedTupleGo target it v
    assign target env v
    let mut ok := true
    for c in ifs do
      if ok then ok ← isTrue c env (eval c env)
    if ok then
      (do let _ ← call (.builtin "list.append") [acc, ← eval elt env] : Sem Unit)
    again c
theorem last_core {target iter elt : Expr} {ifs : List Expr} {it acc : Value} {env : Env} {c : Code} {E' : Value → Shared → Prop} {I : Nat → Shared → Prop} {n : Nat} (turn : TurnLast (model prog w) A R elt target ifs it acc env I) (hI : I n s) :
    wpAny (model prog w) A (lastTree target iter elt ifs it acc env c) (fun fin s' => match fin with | .done f => R (.ok f) s' | .again c' => c' = c ∧ ∃ m, m < n ∧ I m s') E' s := by
  refine wpAny_bind (wpAny_standAt (wpAny_bind (thn (turn n s hI) (fun r s₁ h₁ => ?_))))
  cases r with
  | none => exact wpAny_pure h₁
  | some v =>
    refine wpAny_bind (thn h₁ (fun _ s₁' h₁' => ?_))
    refine wpAny_bind (thn h₁' (fun _ s₂ h₂ => wpAny_bind (thn h₂ (fun ok s₃ h₃ => ?_))))
    cases ok with
    | false => exact wpAny_pure ⟨rfl, h₃⟩
    | true =>
      exact wpAny_bind (wpAny_bind (thn h₃ (fun x s₄ h₄ => wpAny_bind (thn h₄ (fun _ s₅ h₅ => wpAny_pure (wpAny_pure ⟨rfl, h₅⟩))))))
theorem compLoop_one {elt target iter : Expr} {ifs : List Expr} {scope : Scope} {pos : Pos} {it acc : Value} {env : Env} (I : Nat → Shared → Prop) (turn : TurnLast (model prog w) A R elt target ifs it acc env I)
    (n : Nat) (h : I n s) : codeAny (model prog w) A (.compLoop (.ListComp elt [⟨target, iter, ifs, 0⟩] scope pos) 0 it acc env) R s := by
  refine codeAny_loop rfl I (fun n s hI => ?_) n h
  show wpAny _ A ((compTurn (.ListComp elt [⟨target, iter, ifs, 0⟩] scope pos) 0 it acc env).onRaise (fun x => do noteFrame x env; theTreesLotGoes x)) _ _ s
  refine wpAny_noted ?_
  have ht : compTurn (.ListComp elt [⟨target, iter, ifs, 0⟩] scope pos) 0 it acc env = lastTree target iter elt ifs it acc env (.compLoop (.ListComp elt [⟨target, iter, ifs, 0⟩] scope pos) 0 it acc env) := by rfl
  rw [ht]
  exact last_core turn hI
theorem compLoop_second {elt target iter t₀ i₀ : Expr} {ifs : List Expr} {scope : Scope} {pos : Pos} {it acc : Value} {env : Env} (I : Nat → Shared → Prop) (turn : TurnLast (model prog w) A R elt target ifs it acc env I)
    (n : Nat) (h : I n s) : codeAny (model prog w) A (.compLoop (.ListComp elt [⟨t₀, i₀, [], 0⟩, ⟨target, iter, ifs, 0⟩] scope pos) 1 it acc env) R s := by
  refine codeAny_loop rfl I (fun n s hI => ?_) n h
  show wpAny _ A ((compTurn (.ListComp elt [⟨t₀, i₀, [], 0⟩, ⟨target, iter, ifs, 0⟩] scope pos) 1 it acc env).onRaise (fun x => do noteFrame x env; theTreesLotGoes x)) _ _ s
  refine wpAny_noted ?_
  have ht : compTurn (.ListComp elt [⟨t₀, i₀, [], 0⟩, ⟨target, iter, ifs, 0⟩] scope pos) 1 it acc env = lastTree target iter elt ifs it acc env (.compLoop (.ListComp elt [⟨t₀, i₀, [], 0⟩, ⟨target, iter, ifs, 0⟩] scope pos) 1 it acc env) := by rfl
  rw [ht]
  exact last_core turn hI
theorem compLoop_first {elt target iter t₁ i₁ : Expr} {ifs : List Expr} {scope : Scope} {pos : Pos} {it acc : Value} {env : Env} (I : Nat → Shared → Prop)
    (turn : ∀ n s, I n s → wpAny (model prog w) A (pyNext it) (fun r s₁ => match r with
      | none => R (.ok .next) s₁
      | some v => wpAny (model prog w) A (letOwnedTupleGo target it v) (fun _ s₁' => wpAny (model prog w) A (assign target env v) (fun _ s₂ =>
          wpAny (model prog w) A (eval i₁ env) (fun x s₃ => wpAny (model prog w) A (pyIter x) (fun it₁ s₄ =>
            codeAny (model prog w) A (.compStart (.ListComp elt [⟨target, iter, [], 0⟩, ⟨t₁, i₁, ifs, 0⟩] scope pos) 1 it₁ acc env) (fun r s₅ => r = .ok .next ∧ ∃ m, m < n ∧ I m s₅) s₄) (fun _ _ => False) s₃) (fun _ _ => False) s₂)
            (fun _ _ => False) s₁') (fun _ _ => False) s₁) (fun _ _ => False) s)
    (n : Nat) (h : I n s) (hs : ∀ x, foldedSetIterable i₁ env x = pure x) : codeAny (model prog w) A (.compLoop (.ListComp elt [⟨target, iter, [], 0⟩, ⟨t₁, i₁, ifs, 0⟩] scope pos) 0 it acc env) R s := by
  refine codeAny_loop rfl I (fun n s hI => ?_) n h
  show wpAny _ A ((compTurn (.ListComp elt [⟨target, iter, [], 0⟩, ⟨t₁, i₁, ifs, 0⟩] scope pos) 0 it acc env).onRaise (fun x => do noteFrame x env; theTreesLotGoes x)) _ _ s
  refine wpAny_noted ?_
  have ht : compTurn (.ListComp elt [⟨target, iter, [], 0⟩, ⟨t₁, i₁, ifs, 0⟩] scope pos) 0 it acc env = (do
      standAt iter.pos
      match ← pyNext it with
      | none => pure (.done .next)
      | some v =>
        letOwnedTupleGo target it v
        assign target env v
        let x ← eval i₁ env
        standAt i₁.pos
        let x ← foldedSetIterable i₁ env x
        let _ ← runOwn (.compStart (.ListComp elt [⟨target, iter, [], 0⟩, ⟨t₁, i₁, ifs, 0⟩] scope pos) 1 (← holding [x] (pyIter x)) acc env) env
        again (.compLoop (.ListComp elt [⟨target, iter, [], 0⟩, ⟨t₁, i₁, ifs, 0⟩] scope pos) 0 it acc env)) := by rfl
  rw [ht]
  refine wpAny_bind (wpAny_standAt (wpAny_bind (thn (turn n s hI) (fun r s₁ h₁ => ?_))))
  cases r with
  | none => exact wpAny_pure h₁
  | some v =>
    refine wpAny_bind (thn h₁ (fun _ s₁' h₁' => ?_))
    refine wpAny_bind (thn h₁' (fun _ s₂ h₂ => wpAny_bind (thn h₂ (fun x s₃ h₃ => ?_))))
    refine wpAny_bind (wpAny_standAt (wpAny_bind (wpAny_of_eq (hs x) ?_)))
    refine wpAny_bind (wpAny_holding (thn h₃ (fun it₁ s₄ h₄ => ?_)))
    refine wpAny_bind (wpAny_runOwn (codeAny_mono h₄ fun r s₅ hr => ?_))
    obtain ⟨rfl, hr⟩ := hr
    exact wpAny_pure ⟨rfl, hr⟩
theorem compStart_second {elt t₀ i₀ t₁ i₁ : Expr} {ifs : List Expr} {scope pos it acc env}
    (h0 : codeAny (model prog w) A (.compLoop (.ListComp elt [⟨t₀, i₀, [], 0⟩, ⟨t₁, i₁, ifs, 0⟩] scope pos) 1 it acc env) R s)
    (h : wpAny (model prog w) A (pyIter it) (fun it' s' => codeAny (model prog w) A (.compLoop (.ListComp elt [⟨t₀, i₀, [], 0⟩, ⟨t₁, i₁, ifs, 0⟩] scope pos) 1 it' acc env) R s') (fun _ _ => False) s) :
    codeAny (model prog w) A (.compStart (.ListComp elt [⟨t₀, i₀, [], 0⟩, ⟨t₁, i₁, ifs, 0⟩] scope pos) 1 it acc env) R s := by
  refine codeAny_of_tree ?_
  show wpAny _ _ ((compStart (.ListComp elt [⟨t₀, i₀, [], 0⟩, ⟨t₁, i₁, ifs, 0⟩] scope pos) 1 it acc env).onRaise (fun x => do noteFrame x env; standAt theWindowsPlace)) _ _ s
  refine wpAny_notedAt ?_
  show wpAny _ _ (ask >>= _) _ _ s
  refine wpAny_bind (wpAny_askSetting (wpAny_ite ?_))
  split
  · first
      | exact wpAny_bind (wpAny_pure (wpAny_pure (And.intro rfl h0)))
      | exact wpAny_pure (And.intro rfl h0)
  · have h := thn (Q' := fun it' s' => codeAny (model prog w) A (.compLoop (.ListComp elt [⟨t₀, i₀, [], 0⟩, ⟨t₁, i₁, ifs, 0⟩] scope pos) 1 it' acc env) R s') (E' := notedBy (model prog w) A env fun x s' => R (.error x) s') h (fun _ _ q => q)
    first
      | exact wpAny_bind (wpAny_rule (wpAny_bind (wpAny_standAt (wpAny_bind (wpAny_mono h (fun it' s' h' => wpAny_pure (And.intro rfl h')) fun _ _ x => x)))))
      | (refine wpAny_bind (wpAny_rule ?_); show wpAny _ _ (standAt i₁.pos >>= _) _ _ s; exact wpAny_bind (wpAny_standAt (wpAny_bind (wpAny_mono h (fun it' s' h' => wpAny_pure (And.intro rfl h')) fun _ _ x => x))))
end
end
section
variable {C : Cx} {n : Nat} {Γ : Fx} {σ σ' : St} {Q : Fl → St → Prop}
structure LI (C : Cx) (n : Nat) (Γ : Fx) (κ : FZ) (g : Gh) (ds : List D) (wr : List Addr) (S : Nat → Heap → Prop) (Inv : Nat → St → Prop) (i : Nat) (g₁ : Gh) (σ₁ : St) (s : Shared) : Prop where
  le : i ≤ ds.length
  l : GLe κ g g₁
  R : Rep C n Γ κ g₁ σ₁ s
  I : Inv i σ₁
  S : S i s.heap
  U : ∀ b ∈ wr, Un C Γ κ g₁ b
noncomputable def LIs (C : Cx) (n : Nat) (Γ : Fx) (κ : FZ) (g : Gh) (ds : List D) (wr : List Addr) (S : Nat → Heap → Prop) (Inv : Nat → St → Prop) (k : Nat) (s : Shared) : Prop :=
  ∃ i g₁ σ₁, k = ds.length - i ∧ LI C n Γ κ g ds wr S Inv i g₁ σ₁ s
inductive NextP (C : Cx) (n : Nat) (Γ : Fx) (κ : FZ) (g : Gh) (ds : List D) (wr : List Addr) (S : Nat → Heap → Prop) (Inv : Nat → St → Prop) (i : Nat) (d : D) (v : Value) (σ₁ : St) (s₂ : Shared) : Prop
  | mk (κ' : FZ) (g₂ : Gh) (R : Rep C n Γ κ' g₂ σ₁ s₂) (hD : DV g₂.P g₂.cs d v) (hc : CLe g.cs g₂.cs)
    (back : ∀ g₃ σ₃ s₃, GLe κ' g₂ g₃ → Rep C n Γ κ' g₃ σ₃ s₃ → Inv (i + 1) σ₃ → ∃ m, m < ds.length - i ∧ LIs C n Γ κ g ds wr S Inv m s₃) : NextP C n Γ κ g ds wr S Inv i d v σ₁ s₂
theorem LI.next {κ : FZ} {g g₁ : Gh} {σ₁ : St} {ds : List D} {wr : List Addr} {S : Nat → Heap → Prop} {Inv : Nat → St → Prop} {tgt : Expr} {I : Addr} {i : Nat} {d : D} {s : Shared} (W : Wk (model C.prog C.w) Γ.A tgt I g.P g.cs ds wr S)
    (h : LI C n Γ κ g ds wr S Inv i g₁ σ₁ s) (hd : ds[i]? = some d) :
    wpAny (model C.prog C.w) Γ.A (pyNext (.ref I)) (fun r s₁ => ∃ v, r = some v ∧ wpAny (model C.prog C.w) Γ.A (letOwnedTupleGo tgt (.ref I) v) (fun _ s₂ => NextP C n Γ κ g ds wr S Inv i d v σ₁ s₂) (fun _ _ => False) s₁) (fun _ _ => False) s := by
  obtain ⟨hi, l₁, R₁, hI, hS₁, U₁⟩ := h
  have hlt := (List.getElem?_eq_some_iff.mp hd).1
  refine thn (W.item i _ s g₁.P hd hS₁ l₁.1 R₁.sok.sub fun b hb => (U₁ b hb).P) ?_
  (intro _ s₄ z0; refine elEA z0 fun v z1 hgo => ?_; clear z0; subst z1)
  refine ⟨v, rfl, thn hgo ?_⟩
  rintro _ _ ⟨h', t, P', rfl, ht, hPP, hnew, hsub, hD, hS₂, hk⟩
  obtain ⟨l₂, R₂⟩ := R₁.butL U₁ ht hPP hnew hsub hk
  have U₂ : ∀ b ∈ wr, Un C Γ κ ⟨P', g₁.cs⟩ b := fun b hb => by
    refine ⟨?_, (U₁ b hb).K, (U₁ b hb).own, (U₁ b hb).tb, (U₁ b hb).cs⟩
    show P' b = none
    cases z : P' b with
    | none => rfl
    | some o =>
      rcases hnew b o z with q | q
      · rw [(U₁ b hb).P] at q; cases q
      · (refine elEA (W.there _ _ hS₁ b hb) fun o' ho' _ => ?_); rw [ho'] at q; cases q
  have hthere := W.there _ _ hS₂
  refine ⟨onH κ wr h', ⟨P', g₁.cs⟩, R₂.onK U₂, hD.mono (.refl _) l₁.2.1, l₁.2.1, fun g₆ σ₆ s₆ l₇ R₆ hI' => ?_⟩
  have l₈ := l₇.off fun b hb => (U₂ b hb).K
  refine ⟨ds.length - (i + 1), by grind, i + 1, g₆, σ₆, rfl, hlt, (l₁.trans l₂).trans l₈, R₆.offK R₂ U₂ hthere, hI', ?_, fun b hb => (U₂ b hb).on hb (let ⟨o, ho, _⟩ := hthere b hb; ⟨o, ho⟩) l₇⟩
  exact W.frame _ _ _ hS₂ (fun b hb o e => R₆.keep b o (by unfold onH; rw [if_pos hb]; exact e)) (fun b o e => R₆.sok.sub b o (l₇.1 b o (hPP b o (l₁.1 b o e))))
theorem LI.end {κ : FZ} {g g₁ : Gh} {σ₁ : St} {ds : List D} {wr : List Addr} {S : Nat → Heap → Prop} {Inv : Nat → St → Prop} {tgt : Expr} {I : Addr} {i : Nat} {s : Shared} (W : Wk (model C.prog C.w) Γ.A tgt I g.P g.cs ds wr S)
    (h : LI C n Γ κ g ds wr S Inv i g₁ σ₁ s) (hd : ds[i]? = none) : wpAny (model C.prog C.w) Γ.A (pyNext (.ref I)) (fun r s' => r = none ∧ ∃ g' , GLe κ g g' ∧ Rep C n Γ κ g' σ₁ s' ∧ Inv ds.length σ₁) (fun _ _ => False) s := by
  obtain ⟨hi, l₁, R₁, hI, hS₁, U₁⟩ := h
  have : i = ds.length := by have := List.getElem?_eq_none_iff.mp hd; exact Nat.le_antisymm (by assumption) (by assumption)
  subst this
  refine thn (W.done s hS₁) ?_
  (intro _ _ z2; refine elAEEAA z2 fun z3 h' t z4 ht hk => ?_; clear z2; subst z3; subst z4)
  obtain ⟨l₂, R₂⟩ := R₁.butL U₁ ht (.refl _) (fun _ _ e => .inl e) (fun _ _ e e' => (by rw [e'] at e; cases e)) hk
  exact ⟨rfl, _, l₁.trans l₂, R₂, hI⟩
noncomputable def CC (C : Cx) (n : Nat) (Γ : Fx) (κ : FZ) (g : Gh) (P : St → Prop) (r : Result) (s' : Shared) : Prop := r = .ok .next ∧ ∃ g' σ', GLe κ g g' ∧ Rep C n Γ κ g' σ' s' ∧ P σ'
noncomputable def Emit (C : Cx) (n : Nat) (Γ : Fx) (elt : Expr) (σ : St) (P : St → Prop) : Prop :=
  ∃ r rs, E C n Γ elt σ r ∧ σ.cells[0]? = some (some rs) ∧ rs.length ≤ sizeLine ∧ P ⟨σ.loc, σ.glb, σ.cells.set 0 (some (rs ++ [r]))⟩
theorem turnLast {κ : FZ} {g : Gh} {ds : List D} {wr : List Addr} {S : Nat → Heap → Prop} {Inv : Nat → St → Prop} {tgt elt : Expr} {ifs : List Expr} {I Da : Addr} (W : Wk (model C.prog C.w) Γ.A tgt I g.P g.cs ds wr S) (hDa : g.cs[0]? = some Da)
    (turn : ∀ i d σ', ds[i]? = some d → Inv i σ' → ∃ σ'' b, Asg C n Γ tgt d σ' σ'' ∧ Tests C n Γ ifs σ'' b ∧ (b = true → Emit C n Γ elt σ'' (Inv (i + 1))) ∧ (b = false → Inv (i + 1) σ'')) :
    TurnLast (model C.prog C.w) Γ.A (CC C n Γ κ g (Inv ds.length)) elt tgt ifs (.ref I) (.ref Da) Γ.env (LIs C n Γ κ g ds wr S Inv) := by
  (intro k s z5; refine elEEEA z5 fun i g₁ σ₁ z6 h => ?_; clear z5; subst z6)
  cases hd : ds[i]? with
  | none =>
    refine thn (h.end W hd) ?_
    (intro _ s' z7; refine elAEAA z7 fun z8 g' l R hI => ?_; clear z7; subst z8)
    exact ⟨rfl, g', σ₁, l, R, hI⟩
  | some d =>
    refine thn (h.next W hd) ?_
    (intro _ s₁ z9; refine elEA z9 fun v z10 h₁ => ?_; clear z9; subst z10)
    refine thn h₁ ?_
    rintro _ s₂ ⟨κ', g₂, R₂, hD, hc, back⟩
    (refine elEEAAA (turn i d σ₁ hd h.I) fun σ₂ b hA hT hE hN => ?_)
    refine thn (hA κ' g₂ s₂ v R₂ hD) ?_
    (intro _ s₃ z11; refine elEA z11 fun g₃ l₃ R₃ => ?_; clear z11)
    refine thn (hT κ' g₃ s₃ R₃) ?_
    rintro _ s₄ ⟨g₄, l₄, R₄, rfl⟩
    rename_i ok
    cases ok with
    | false => exact back g₄ σ₂ s₄ (l₃.trans l₄) R₄ (hN rfl)
    | true =>
      (refine elEEAAA (hE rfl) fun r rs hr hcell hsz hP => ?_)
      refine thn (hr κ' g₄ s₄ R₄) ?_
      rintro x s₅ ⟨g₅, l₅, R₅, hx⟩
      have lall := (l₃.trans l₄).trans l₅
      have hcell' : DV g₅.P g₅.cs (.cell 0) (.ref Da) := ⟨Da, lall.2.1 _ _ (hc _ _ hDa), rfl⟩
      exact append_cell R₅ hcell hcell' hx hsz fun s' R' => back g₅ _ s' lall R' hP
theorem turnFirst {κ : FZ} {g : Gh} {ds : List D} {wr : List Addr} {S : Nat → Heap → Prop} {Inv : Nat → St → Prop} {tgt t₁ i₁ elt iter : Expr} {ifs : List Expr} {scope : Scope} {pos : Pos} {I Da : Addr} (W : Wk (model C.prog C.w) Γ.A tgt I g.P g.cs ds wr S) (hDa : g.cs[0]? = some Da)
    (turn : ∀ i d σ', ds[i]? = some d → Inv i σ' → ∃ σ'' ds₁, Asg C n Γ tgt d σ' σ'' ∧ Src C n Γ σ'' t₁ i₁ ds₁ ∧ ∃ Inv₁ : Nat → St → Prop, Inv₁ 0 σ'' ∧
      (∀ i d σ', ds₁[i]? = some d → Inv₁ i σ' → ∃ σ'' b, Asg C n Γ t₁ d σ' σ'' ∧ Tests C n Γ ifs σ'' b ∧ (b = true → Emit C n Γ elt σ'' (Inv₁ (i + 1))) ∧ (b = false → Inv₁ (i + 1) σ'')) ∧ ∀ σ', Inv₁ ds₁.length σ' → Inv (i + 1) σ') :
    ∀ k s, LIs C n Γ κ g ds wr S Inv k s → wpAny (model C.prog C.w) Γ.A (pyNext (.ref I)) (fun r s₁ => match r with
      | none => CC C n Γ κ g (Inv ds.length) (.ok .next) s₁
      | some v => wpAny (model C.prog C.w) Γ.A (letOwnedTupleGo tgt (.ref I) v) (fun _ s₁' => wpAny (model C.prog C.w) Γ.A (assign tgt Γ.env v) (fun _ s₂ =>
          wpAny (model C.prog C.w) Γ.A (eval i₁ Γ.env) (fun x s₃ => wpAny (model C.prog C.w) Γ.A (pyIter x) (fun it₁ s₄ =>
            codeAny (model C.prog C.w) Γ.A (.compStart (.ListComp elt [⟨tgt, iter, [], 0⟩, ⟨t₁, i₁, ifs, 0⟩] scope pos) 1 it₁ (.ref Da) Γ.env) (fun r s₅ => r = .ok .next ∧ ∃ m, m < k ∧ LIs C n Γ κ g ds wr S Inv m s₅) s₄) (fun _ _ => False) s₃) (fun _ _ => False) s₂)
            (fun _ _ => False) s₁') (fun _ _ => False) s₁) (fun _ _ => False) s := by
  (intro k s z12; refine elEEEA z12 fun i g₁ σ₁ z13 h => ?_; clear z12; subst z13)
  cases hd : ds[i]? with
  | none =>
    refine thn (h.end W hd) ?_
    (intro _ s' z14; refine elAEAA z14 fun z15 g' l R hI => ?_; clear z14; subst z15)
    exact ⟨rfl, g', σ₁, l, R, hI⟩
  | some d =>
    refine thn (h.next W hd) ?_
    (intro _ s₁ z16; refine elEA z16 fun v z17 h₁ => ?_; clear z16; subst z17)
    refine thn h₁ ?_
    rintro _ s₂ ⟨κ', g₂, R₂, hD, hc, back⟩
    (refine elEE (turn i d σ₁ hd h.I) fun σ₂ ds₁ z18 => ?_; refine elAA z18 fun hA hsrc z19 => ?_; clear z18; refine elE z19 fun Inv₁ z20 => ?_; clear z19; refine elAA z20 fun h0 hturn hfin => ?_; clear z20)
    refine thn (hA κ' g₂ s₂ v R₂ hD) ?_
    (intro _ s₃ z21; refine elEA z21 fun g₃ l₃ R₃ => ?_; clear z21)
    refine thn (hsrc κ' g₃ s₃ R₃) ?_
    intro x s₄ hx
    refine thn hx ?_
    rintro _ s₅ ⟨g₅, I₁, wr₁, S₁, rfl, l₅, R₅, W₁, hS₁, U₁⟩
    have W₁ := W₁ Γ.A R₅.ok.room.1
    have hDa' : g₅.cs[0]? = some Da := l₅.2.1 _ _ (l₃.2.1 _ _ (hc _ _ hDa))
    have loop := compLoop_second (t₀ := tgt) (i₀ := iter) (scope := scope) (pos := pos) (iter := i₁) _ (turnLast (κ := κ') (g := g₅) W₁ hDa' hturn) (ds₁.length - 0) (s := s₅) ⟨0, g₅, σ₂, rfl, Nat.zero_le _, .refl _ _, R₅, h0, hS₁, U₁⟩
    have loop := codeAny_mono loop (R' := fun r s₅ => r = .ok .next ∧ ∃ m, m < ds.length - i ∧ LIs C n Γ κ g ds wr S Inv m s₅) (by
      (intro r s₆ z22; refine elAEEAA z22 fun z23 g₆ σ₆ l₆ R₆ hI₆ => ?_; clear z22; subst z23)
      exact ⟨rfl, back g₆ σ₆ s₆ ((l₃.trans l₅).trans l₆) R₆ (hfin _ hI₆)⟩)
    exact compStart_second loop (W₁.self 0 _ _ _ hS₁ loop)
end
section
variable {C : Cx} {n : Nat} {Γ Γ' : Fx} {σ σ' : St} {Q : Fl → St → Prop}
structure Inner (Γ : Fx) (scope : Scope) (Γ' : Fx) : Prop where
  A : Γ'.A = Γ.A
  kind : ∀ y k, scope.names.lookup y = some k → k ≠ .free → Γ'.env.kindOf y = some k
  free : ∀ y, scope.names.lookup y = some .free → Γ.env.kindOf y = some .cell → Γ'.env.kindOf y = some .cell
noncomputable def cfx (Γ : Fx) (scope : Scope) (L : Addr) : Fx := ⟨Γ.A, compEnvC scope (closOf scope Γ.env) L Γ.env, [L]⟩
theorem cfx_inner {scope : Scope} {L : Addr} (hk : Γ.env.scope.kind = .function) : Inner Γ scope (cfx Γ scope L) := by
  refine ⟨rfl, fun y k h hne => ?_, fun y h hc => ?_⟩
  · show (relabel scope Γ.env).names.lookup y = _
    rw [lookup_relabel h]
    have : (k == NameKind.free) = false := by exact decide_eq_false (by assumption)
    rw [this]; rfl
  · show (relabel scope Γ.env).names.lookup y = _
    rw [lookup_relabel h, hk, hc]; rfl
noncomputable def Capd (Γ : Fx) (scope : Scope) (σ : St) (p : Str × D) : Prop :=
  scope.names.lookup p.1 = some .free ∧ Γ.env.kindOf p.1 = some .cell ∧ NoCell p.2 ∧ ((p.1, some p.2) ∈ σ.loc ∨ p ∈ σ.glb)
noncomputable def Closed (Γ : Fx) (scope : Scope) : Prop := ∀ y ∈ freeNames scope, ∃ c, Γ.env.cells.lookup y = some c
theorem comp_enter {κ : FZ} {g : Gh} {s : Shared} {scope : Scope} {L Da : Addr} {locs : List Str} {gl : List (Str × D)} (R : Rep C n Γ κ g σ s) (hk : scope.kind = .function)
    (hlocs : ∀ x ∈ locs, scope.names.lookup x = some .local ∧ (x == ("__debug__" : Str)) = false) (hdup : locs.Nodup) (hgl : ∀ p ∈ gl, Capd Γ scope σ p)
    (uL : Un C Γ κ g L) (uD : Un C Γ κ g Da) (hLD : Da ≠ L) {m : Str → Option Value} (hL : s.heap.Ns L m) (hD : PlainL s.heap Da #[]) :
    Rep C n (cfx Γ scope L) (onH κ (Γ.own ++ g.cs) s.heap) ⟨g.P, [Da]⟩ ⟨locs.map (·, none), gl, [some []]⟩ s := by
  have hle : ∀ a o, κ a = some o → onH κ (Γ.own ++ g.cs) s.heap a = some o := fun a o e => by
    unfold onH; split
    · exact R.keep a o e
    · exact e
  have hno : ∀ a, a ∉ Γ.own → a ∉ g.cs → κ a = none → onH κ (Γ.own ++ g.cs) s.heap a = none := fun a h1 h2 h3 => by
    unfold onH; rw [if_neg (by simp [h1, h2])]; exact h3
  have hcell : ∀ c o, c ∈ Γ.own → s.heap.get? c = some o → onH κ (Γ.own ++ g.cs) s.heap c = some o := fun c o hc ho => by
    unfold onH; rw [if_pos (by exact List.mem_append_left _ (by assumption))]; exact ho
  have hin := cfx_inner (scope := scope) (L := L) R.ok.kind
  refine ⟨⟨R.ok.room, ?_, R.ok.glob, R.ok.blt, by exact List.mem_cons_self⟩, R.sok, fun x od hx => ?_, by simpa [Function.comp_def] using hdup, fun x d hx => ?_, fun a o e => ?_, fun a o e => hle a o (R.kbase a o e), ?_, fun a ha => ?_, ⟨m, hL⟩, rfl, fun a ha => ?_, ?_, fun a ha => ?_, fun k ds e => ?_⟩
  · trivial
  · (refine elEA (List.mem_map.mp hx) fun y hy e => ?_)
    cases e
    obtain ⟨q1, q2⟩ := hlocs _ hy
    exact ⟨.inl (hin.kind _ _ q1 (by decide)), q2, fun d e => by cases e⟩
  · (refine elAAA (hgl _ hx) fun q1 q2 q3 q4 => ?_)
    have hlk : ∀ c, Γ.env.cells.lookup x = some c → (cfx Γ scope L).env.cells.lookup x = some c := fun c hc => closOf_lookup (mem_freeNames q1) hc
    rcases q4 with q4 | q4
    · (refine elAA (R.loc x _ q4) fun r1 r2 r3 => ?_)
      (refine elEA (r3 d rfl) fun v hv hd => ?_)
      refine ⟨r2, v, .inr (.inl ⟨hin.free x q1 q2, ?_⟩), hd.noCell q3⟩
      rcases r1 with r1 | ⟨_, c, w, z1, z2, _⟩
      · rw [show Γ.env.kindOf x = some .cell from q2] at r1; cases r1
      · rcases hv with ⟨r1', _⟩ | ⟨_, c', z1', o, z2', z3'⟩
        · rw [show Γ.env.kindOf x = some .cell from q2] at r1'; cases r1'
        · rw [z1] at z1'; cases z1'
          exact ⟨c, o, hlk c z1, hcell c o z2 z2', z3'⟩
    · (refine elAEA (R.ro x d q4) fun r2 v hv hd => ?_)
      refine ⟨r2, v, .inr (.inl ⟨hin.free x q1 q2, ?_⟩), hd.noCell q3⟩
      rcases hv with ⟨a1, _⟩ | ⟨_, c, o, a3, a4, a5⟩ | ⟨a1, _⟩
      · rw [show Γ.env.kindOf x = some .cell from q2] at a1; cases a1
      · exact ⟨c, o, hlk c a3, hle _ _ a4, a5⟩
      · rw [show Γ.env.kindOf x = some .cell from q2] at a1; cases a1
  · unfold onH at e; split at e
    · exact e
    · exact R.keep a o e
  · exact hno _ (fun q => (R.own _ q).2.2.1 rfl) R.cstb R.ktb
  · have ha : a ∈ [L] := ha
    cases List.mem_singleton.mp ha
    (refine elEEEA hL fun o _ _ ho _ => ?_; clear hL)
    exact ⟨uL.P, hno _ uL.own uL.cs uL.K, uL.tb, o, ho⟩
  · cases List.mem_singleton.mp ha
    (refine elEEA hD fun o _ ho _ => ?_; clear hD)
    exact ⟨o, ho⟩
  · intro q; exact uD.tb (List.mem_singleton.mp q).symm
  · cases List.mem_singleton.mp ha
    intro q
    have q : Da ∈ [L] := q
    exact hLD (List.mem_singleton.mp q)
  · match k, e with
    | 0, e =>
      cases e
      refine ⟨Da, [], rfl, uD.P, hno _ uD.own uD.cs uD.K, fun q => hLD (List.mem_singleton.mp (show Da ∈ [L] from q)), uD.tb, hD, rfl, fun j hj => ?_⟩
      match j, hj with
      | 0, _ => rfl
      | _ + 1, hj => cases hj
    | _ + 1, e => cases e
theorem comp_exit {κ : FZ} {g g' : Gh} {s s' : Shared} {scope : Scope} {L Da : Addr} {σ' : St} (R : Rep C n Γ κ g σ s) (l : GLe (onH κ (Γ.own ++ g.cs) s.heap) ⟨g.P, [Da]⟩ g') (R' : Rep C n (cfx Γ scope L) (onH κ (Γ.own ++ g.cs) s.heap) g' σ' s')
    {h' : Heap} (hs : Heap.SameBut L s'.heap h') : GLe κ g ⟨g'.P, g.cs⟩ ∧ Rep C n Γ κ ⟨g'.P, g.cs⟩ σ { s' with heap := h' } := by
  have hon : ∀ a o, s.heap.get? a = some o → ((∃ o', κ a = some o') ∨ a ∈ Γ.own ∨ a ∈ g.cs) → onH κ (Γ.own ++ g.cs) s.heap a = some o := fun a o ho h => by
    unfold onH; split
    · exact ho
    · rename_i hn
      rcases h with ⟨o', h⟩ | h | h
      · have := R.keep a o' h; rw [ho] at this; cases this; exact h
      · exact absurd (by exact List.mem_append_left _ (by assumption)) hn
      · exact absurd (by exact List.mem_append_right _ (by assumption)) hn
  have hL := R'.own L (by exact List.mem_cons_self)
  have hnew : ∀ a o, g'.P a = some o → g.P a = some o ∨ (κ a = none ∧ a ∉ Γ.own ∧ a ∉ g.cs) := fun a o e => by
    refine (l.2.2.1 a o e).imp id fun q => ?_
    have h1 : a ∉ Γ.own := fun z => by
      (refine elAAAE (R.own a z) fun _ _ _ o' ho' => ?_)
      rw [hon a o' ho' (.inr (.inl z))] at q; cases q
    have h2 : a ∉ g.cs := fun z => by
      obtain ⟨o', ho'⟩ := R.cslt a z
      rw [hon a o' ho' (.inr (.inr z))] at q; cases q
    refine ⟨?_, h1, h2⟩
    unfold onH at q; rw [if_neg (by simp [h1, h2])] at q; exact q
  have hk : ∀ a o, ((∃ o', κ a = some o') ∨ a ∈ Γ.own ∨ a ∈ g.cs) → s.heap.get? a = some o → h'.get? a = some o := fun a o q e => by
    have e1 := hon a o e q
    have hne : a ≠ L := fun z => by subst z; rw [hL.2.1] at e1; cases e1
    exact hs.extBut a o hne (R'.keep a o e1)
  have hS : SOk C g'.P { s' with heap := h' } := R'.sok.heap (t := s'.toks) (fun a o e => hs.extBut a o (fun z => by subst z; rw [hL.1] at e; cases e) (R'.sok.sub a o e))
    (fun a o e => hs.extBut a o (fun z => by subst z; have := R'.kbase a o e; rw [hL.2.1] at this; cases this) (R'.sok.base a o e)) (fun o e => hs.extBut _ o (fun z => hL.2.2.1 z.symm) e)
  have hP : PLe g.P g'.P := l.1
  have hc : CLe g.cs g.cs := .refl _
  have hown : ∀ a ∈ Γ.own, ∀ o, s.heap.get? a = some o → h'.get? a = some o := fun a ha o e => hk a o (.inr (.inl ha)) e
  refine ⟨⟨hP, hc, fun a o e => (hnew a o e).imp id fun q => q.1, fun _ e => .inl e⟩, ⟨R.ok, hS, fun x od hx => ?_, R.dup, fun x d hx => ?_, fun a o e => hk a o (.inl ⟨o, e⟩) (R.keep a o e), R.kbase, R.ktb, fun a ha => ?_, ?_, R.len, fun a ha => let ⟨o, ho⟩ := R.cslt a ha; ⟨o, hk a o (.inr (.inr ha)) ho⟩, R.cstb, R.ownc, fun k ds e => ?_⟩⟩
  · (refine elAA (R.loc x od hx) fun h1 h2 h3 => ?_)
    refine ⟨h1.step hown, h2, fun d e => ?_⟩
    (refine elEA (h3 d e) fun v hv hd => ?_)
    exact ⟨v, Reach.step h1 hv R.ok.here hown, hd.mono hP hc⟩
  · (refine elAEA (R.ro x d hx) fun h1 v hv hd => ?_)
    exact ⟨h1, v, hv, hd.mono hP hc⟩
  · (refine elAAAE (R.own a ha) fun h1 h2 h3 o h4 => ?_)
    refine ⟨?_, h2, h3, o, hown a ha o h4⟩
    show g'.P a = none
    cases z : g'.P a with
    | none => rfl
    | some o' =>
      rcases hnew a o' z with q | q
      · rw [h1] at q; cases q
      · exact absurd ha q.2.1
  · obtain ⟨m, hm⟩ := R.ns
    exact ⟨m, Ns.of_get hm (hown _ R.ok.here)⟩
  · obtain ⟨a, vs, h1, h2, h3, h4, h5, ⟨oo, mm, h6, h6'⟩, h7, h8⟩ := R.live k ds e
    refine ⟨a, vs, h1, ?_, h3, h4, h5, ⟨oo, mm, hk a _ (.inr (.inr (List.mem_of_getElem? h1))) h6, h6'⟩, h7.mono hP hc, h8⟩
    show g'.P a = none
    cases z : g'.P a with
    | none => rfl
    | some o' =>
      rcases hnew a o' z with q | q
      · rw [h2] at q; cases q
      · exact absurd (List.mem_of_getElem? h1) q.2.2
end
section
variable {C : Cx} {n : Nat} {Γ Γ' : Fx} {σ σ' : St} {Q : Fl → St → Prop}
theorem Wk.noCell {M : Model} {A : Around} {tgt : Expr} {I : Addr} {P₀ : FZ} {cs cs' : List Addr} {ds : List D} {wr : List Addr} {S : Nat → Heap → Prop} (W : Wk M A tgt I P₀ cs ds wr S) (h : ∀ d ∈ ds, NoCell d) : Wk M A tgt I P₀ cs' ds wr S where
  there := W.there
  frame := W.frame
  self := W.self
  item := fun i d s P hi hS hP hs hw => by
    refine thn (W.item i d s P hi hS hP hs hw) ?_
    (intro r s₁ z0; refine elEA z0 fun v z1 hg => ?_; clear z0; subst z1)
    refine ⟨v, rfl, thn hg ?_⟩
    rintro _ s₂ ⟨h', t, P', e1, e2, e3, e4, e5, e6, e7, e8⟩
    exact ⟨h', t, P', e1, e2, e3, e4, e5, e6.noCell (h d (List.mem_of_getElem? hi)), e7, e8⟩
  done := W.done
noncomputable def CRun (C : Cx) (n : Nat) (Γ : Fx) (e : Expr) (scope : Scope) (tgt : Expr) (ds : List D) (locs : List Str) (gl : List (Str × D)) (out : List D) : Prop :=
  ∀ (L : Addr) (κ : FZ) (g : Gh) (s : Shared) (I Da : Addr) (wr : List Addr) (S : Nat → Heap → Prop), Inner Γ scope (cfx Γ scope L) → Rep C n (cfx Γ scope L) κ g ⟨locs.map (·, none), gl, [some []]⟩ s → g.cs[0]? = some Da →
    Wk (model C.prog C.w) Γ.A tgt I g.P g.cs ds wr S → S 0 s.heap → (∀ b ∈ wr, Un C (cfx Γ scope L) κ g b) →
    codeAny (model C.prog C.w) Γ.A (.compStart e 0 (.ref I) (.ref Da) (cfx Γ scope L).env) (CC C n (cfx Γ scope L) κ g (fun σ' => σ'.cells = [some out] ∧ Plainσ σ')) s
structure CSt (C : Cx) (n : Nat) (Γ : Fx) (scope : Scope) (σ : St) (locs : List Str) (gl : List (Str × D)) (ds out : List D) : Prop where
  kind : scope.kind = .function
  names : ∀ x ∈ scope.names, x.2 ≠ .cell ∧ (x.2 = .local → scope.names.lookup x.1 = some .local)
  closed : Closed Γ scope
  locsOk : ∀ x ∈ locs, scope.names.lookup x = some .local ∧ (x == ("__debug__" : Str)) = false
  dup : locs.Nodup
  cap : ∀ p ∈ gl, Capd Γ scope σ p
  dsOk : ∀ d ∈ ds, NoCell d
  outOk : NoCells out
theorem comp_block {κ : FZ} {g : Gh} {s : Shared} {e tgt : Expr} {scope : Scope} {I : Addr} {wr : List Addr} {S : Nat → Heap → Prop} {locs : List Str} {gl : List (Str × D)} {ds out : List D} (R : Rep C n Γ κ g σ s) (H : CSt C n Γ scope σ locs gl ds out)
    (hrun : CRun C n Γ e scope tgt ds locs gl out) (W : Wk (model C.prog C.w) Γ.A tgt I g.P g.cs ds wr S) (hS : S 0 s.heap) (hU : ∀ b ∈ wr, Un C Γ κ g b) {Z : Value → Addr → Result → Shared → Prop}
    (fin : ∀ L a s' (g' : Gh), GLe κ g ⟨g'.P, g.cs⟩ → DV g'.P g.cs (.lst out) (.ref a) → (∃ m, s'.heap.Ns L m) → (Un C Γ κ ⟨g'.P, g.cs⟩ L) → (∀ h', Heap.SameBut L s'.heap h' → Rep C n Γ κ ⟨g'.P, g.cs⟩ σ { s' with heap := h' }) → Z (.ref a) L (.ok .next) s') :
    wpAny (model C.prog C.w) Γ.A (newList []) (fun acc s₃ => wpAny (model C.prog C.w) Γ.A (newFunctionEnv scope Γ.env.globals (closOf scope Γ.env) [] Γ.env.qual none .none (some Γ.env)) (fun cenv s₄ =>
      codeAny (model C.prog C.w) Γ.A (.compStart e 0 (.ref I) acc { cenv with scope := relabel scope Γ.env }) (Z acc cenv.locals) s₄) (fun _ _ => False) s₃) (fun _ _ => False) s := by
  refine wpAny_newObj_type (hd := by size_fits) (wpAny_newFunctionEnv (fun x hx => (H.names x hx).1) (by intro y hy; simp at hy) (fun h₁ hns₁ hsb₁ => ?_) H.kind)
  dsimp only at hns₁ hsb₁ ⊢
  generalize hH2 : s.heap.push { cls := .type "list", dict := none, data := .seq ([] : List Value).toArray } = H2 at hns₁ hsb₁ ⊢
  have hC : H2.objs.size = s.heap.objs.size + 1 := by rw [← hH2, Heap.size_push]
  have hDC : s.heap.objs.size ≠ H2.objs.size := by rw [hC]; exact Nat.ne_of_lt (Nat.lt_succ_self _)
  have below : ∀ b, b < s.heap.objs.size → b ≠ H2.objs.size := fun b hb => by rw [hC]; exact Nat.ne_of_lt (Nat.lt_succ_of_lt hb)
  have old : ∀ b o, s.heap.get? b = some o → h₁.get? b = some o := fun b o e => hsb₁.extBut b o (below b (Heap.lt_size e)) (Heap.get?_push_of_some _ (hH2 ▸ Heap.get?_push_of_some _ e))
  have hacc : PlainL h₁ s.heap.objs.size #[] := ⟨_, _, hsb₁.extBut _ _ hDC (Heap.get?_push_of_some _ (hH2 ▸ Heap.get?_push_size _ rfl)), rfl, rfl, rfl⟩
  (refine elAAAA (R.fresh (Nat.le_refl s.heap.objs.size)) fun d1 d2 d3 d4 d5 => ?_)
  (refine elAAAA (R.fresh (show s.heap.objs.size ≤ H2.objs.size by rw [hC]; exact Nat.le_succ _)) fun l1 l2 l3 l4 l5 => ?_)
  have R₁ := R.more (t := s.toks + ([] : List (Str × Value)).length) (h' := h₁) old
  have uL : Un C Γ κ g H2.objs.size := ⟨l1, l2, l3, l4, l5⟩
  have uD : Un C Γ κ g s.heap.objs.size := ⟨d1, d2, d3, d4, d5⟩
  have R₂ := comp_enter (locs := locs) (gl := gl) R₁ H.kind H.locsOk H.dup H.cap uL uD hDC hns₁ hacc
  have hS₁ : S 0 h₁ := W.frame _ _ _ hS (fun b _ o e => old b o e) (fun b o e => old b o (R.sok.sub b o e))
  have hU₁ : ∀ b ∈ wr, Un C (cfx Γ scope H2.objs.size) (onH κ (Γ.own ++ g.cs) h₁) ⟨g.P, [s.heap.objs.size]⟩ b := fun b hb => by
    (refine elEA (W.there _ _ hS b hb) fun o ho _ => ?_)
    have hlt := Heap.lt_size ho
    refine ⟨(hU b hb).P, ?_, fun q => ?_, (hU b hb).tb, fun q => ?_⟩
    · unfold onH; rw [if_neg (by simp [(hU b hb).own, (hU b hb).cs])]; exact (hU b hb).K
    · have q : b ∈ [H2.objs.size] := q
      exact below b hlt (List.mem_singleton.mp q)
    · exact absurd (List.mem_singleton.mp q) (Nat.ne_of_lt hlt)
  refine codeAny_mono (hrun H2.objs.size _ _ _ I s.heap.objs.size wr S (cfx_inner R.ok.kind) R₂ rfl (W.noCell H.dsOk) hS₁ hU₁) ?_
  (intro r s' z2; refine elAEEAAA z2 fun z3 g' σ' l R' hcells hpl => ?_; clear z2; subst z3)
  (refine elEAA (R'.freezeCell (k := 0) (ds := out) (by rw [hcells]; rfl) hpl) fun g'' l' R'' hdv => ?_)
  have hD0 := hdv s.heap.objs.size (l.2.1 0 _ rfl)
  have lall := l.trans l'
  have hL := R''.own H2.objs.size (by exact List.mem_cons_self)
  have ex := fun h' hs => comp_exit R₁ lall R'' (h' := h') hs
  refine fin _ _ s' g'' (ex s'.heap (Heap.SameBut.refl ..)).1 (DV.noCell (cs := g''.cs) H.outOk hD0) R''.ns ⟨hL.1, l2, l3, l4, l5⟩ fun h' hs => (ex h' hs).2
theorem E.comp {elt tgt iter : Expr} {ifs : List Expr} {rest : List Comprehension} {scope : Scope} {pos : Pos} {locs : List Str} {gl : List (Str × D)} {ds out : List D} (hsrc : Src C n Γ σ tgt iter ds) (H : CSt C n Γ scope σ locs gl ds out)
    (hrun : CRun C n Γ (.ListComp elt (⟨tgt, iter, ifs, 0⟩ :: rest) scope pos) scope tgt ds locs gl out) (hs : autoParam (∀ x, foldedSetIterable iter Γ.env x = pure x) tacE) : E C n Γ (.ListComp elt (⟨tgt, iter, ifs, 0⟩ :: rest) scope pos) σ (.lst out) := by
  intro κ g s R
  rw [eval_ListComp]
  refine wpAny_comprehension_free (use := Option.none) rfl hs (closureFor_eq H.closed) H.kind (fun x hx => (H.names x hx).2) ?_
  show wpAny _ _ (eval iter Γ.env) _ _ _
  refine thn (hsrc κ g s R) ?_
  intro x s₁ h₁
  refine thn h₁ ?_
  rintro _ s₂ ⟨g₂, I, wr, S, rfl, l₂, R₂, W, hS, U⟩
  refine comp_block (Z := fun acc L => compPost _ _ _ Option.none _ acc L) R₂ H hrun (W _ R₂.ok.room.1) hS U ?_
  intro L a s' g' l' hd hm hL hR
  obtain ⟨m, hm⟩ := hm
  exact ⟨m, hm, fun h' hs' => ⟨_, l₂.trans l', hR h' hs', hd⟩⟩
theorem X1.comp {elt tgt iter : Expr} {ifs : List Expr} {rest : List Comprehension} {scope : Scope} {pos spos py : Pos} {y : Str} {locs : List Str} {gl : List (Str × D)} {ds out : List D} {l' : List (Str × Option D)} (hsrc : Src C n Γ σ tgt iter ds) (H : CSt C n Γ scope σ locs gl ds out)
    (hrun : CRun C n Γ (.ListComp elt (⟨tgt, iter, ifs, 0⟩ :: rest) scope pos) scope tgt ds locs gl out) (U : Upd y (some (.lst out)) σ.loc l') (q : Q .next ⟨l', σ.glb, σ.cells⟩)
    (hsw : swapsWith (.ListComp elt (⟨tgt, iter, ifs, 0⟩ :: rest) scope pos) (some (.Name y py)) spos.line Γ.env = pure true) (hs : autoParam (∀ x, foldedSetIterable iter Γ.env x = pure x) tacE) :
    X1 C n Γ (.Assign [.Name y py] (.ListComp elt (⟨tgt, iter, ifs, 0⟩ :: rest) scope pos) spos) σ Q := by
  intro κ g s R
  rw [exec_Assign_Name_used (hs := hsw)]
  refine wpAny_bind (wpAny_standAt ?_)
  show wpAny _ _ (do evalThenUse (.ListComp elt (⟨tgt, iter, ifs, 0⟩ :: rest) scope pos) Γ.env (PySem.assign (.Name y py) Γ.env); pure Flow.next) _ _ _
  rw [arm_evalThenUse_ListComp]
  refine wpAny_bind (wpAny_bind (wpAny_comprehension_free (use := some _) rfl hs (closureFor_eq H.closed) H.kind (fun x hx => (H.names x hx).2) ?_))
  show wpAny _ _ (eval iter Γ.env) _ _ _
  refine thn (hsrc κ g s R) ?_
  intro x s₁ h₁
  refine thn h₁ ?_
  rintro _ s₂ ⟨g₂, I, wr, S, rfl, l₂, R₂, W, hS, U₂⟩
  refine comp_block (Z := fun acc L => compPost _ _ _ (some _) _ acc L) R₂ H hrun (W _ R₂.ok.room.1) hS U₂ ?_
  intro L a s' g' l' hd hm hL hR
  (refine elEEEEAA hm fun m o es ep ho hdd hr => ?_; clear hm)
  have R₃ := hR s'.heap (Heap.SameBut.refl ..)
  have hUL : ∀ b ∈ [L], Un C Γ κ ⟨g'.P, g₂.cs⟩ b := fun b hb => by cases List.mem_singleton.mp hb; exact hL
  have R₄ := R₃.onK hUL
  show wpAny _ _ (PySem.assign (.Name y py) Γ.env (.ref a)) _ _ _
  refine PyProof.Rows.assign_Name (store R₄ hd U fun s₅ R₅ => ?_)
  have hLo : s₅.heap.get? L = some o := R₅.keep L o (by unfold onH; rw [if_pos (by exact List.mem_cons_self)]; exact ho)
  refine ⟨m, ⟨o, es, ep, hLo, hdd, hr⟩, fun h' hs' => ?_⟩
  have R₆ := R₅.offK R₃ hUL fun b hb => by cases List.mem_singleton.mp hb; exact ⟨o, ho, fun v e => by rw [hdd] at e; cases e⟩
  have R₇ := (R₆.butL (P' := g'.P) (t := s₅.toks) (h' := h') hUL (Nat.le_refl _) (.refl _) (fun _ _ e => .inl e) (fun _ _ e e' => (by rw [e'] at e; cases e)) (fun b o hb e => hs'.extBut b o (fun z => hb (by simp [z])) e)).2
  exact wpAny_pure (wpAny_pure ⟨_, _, .next, l₂.trans l', R₇, rfl, q⟩)
end
section
variable {C : Cx} {n : Nat} {Γ Γ' : Fx} {σ σ' : St} {Q : Fl → St → Prop}
noncomputable def outs (o : Nat → D → Option D) (ds : List D) : List D := ds.zipIdx.filterMap fun p => o p.2 p.1
noncomputable def NoC (l : List (Str × Option D)) : Prop := ∀ p ∈ l, ∀ d, p.2 = some d → NoCell d
theorem noC_none (l : List Str) : NoC (l.map (·, none)) := fun p hp d e => by
  (refine elEA (List.mem_map.mp hp) fun y _ e' => ?_); subst e'; cases e
theorem noCells_append {a b : List D} (h : NoCells a) (k : NoCells b) : NoCells (a ++ b) := noCells_iff.mpr fun d hd => (List.mem_append.mp hd).elim (noCells_iff.mp h d) (noCells_iff.mp k d)
structure Bnd (C : Cx) (n : Nat) (tgt : Expr) (locs : List Str) (ds : List D) (bnd : D → List (Str × Option D)) : Prop where
  names : ∀ d ∈ ds, (bnd d).map (·.1) = locs
  noc : ∀ d ∈ ds, NoC (bnd d)
  asg : ∀ (Γ : Fx) (σ : St), σ.loc.map (·.1) = locs → ∀ d ∈ ds, Asg C n Γ tgt d σ ⟨bnd d, σ.glb, σ.cells⟩
theorem Bnd.name {x : Str} {p : Pos} {ds : List D} (h : ∀ d ∈ ds, NoCell d) : Bnd C n (.Name x p) [x] ds fun d => [(x, some d)] where
  names := fun _ _ => rfl
  noc := fun d hd q hq e he => by cases List.mem_singleton.mp hq; cases he; exact h d hd
  asg := fun Γ σ hn d hd => by
    obtain ⟨o, e⟩ := map_one hn
    rw [St.of3 (σ := σ) e rfl rfl]
    exact Asg.name .here
noncomputable def bnd2 (x y : Str) : D → List (Str × Option D)
  | .tup [a, b] => [(x, some a), (y, some b)]
  | _ => [(x, none), (y, none)]
theorem Bnd.two {x y : Str} {p q r : Pos} {k : Nat} {ds : List D} (h : ∀ d ∈ ds, NoCell d) (h2 : ∀ d ∈ ds, ∃ a b, d = .tup [a, b]) : Bnd C n (.Tuple [.Name x p, .Name y q] k r) [x, y] ds (bnd2 x y) where
  names := fun d hd => by (refine elEE (h2 d hd) fun a b z0 => ?_; subst z0); rfl
  noc := fun d hd z hz e he => by
    (refine elEE (h2 d hd) fun a b z1 => ?_; subst z1)
    have := h _ hd
    replace hz : z ∈ [(x, some a), (y, some b)] := hz
    simp only [List.mem_cons, List.not_mem_nil, or_false] at hz
    rcases hz with rfl | rfl
    · cases he; exact this.1
    · cases he; exact this.2.1
  asg := fun Γ σ hn d hd => by
    (refine elEE (h2 d hd) fun a b z2 => ?_; subst z2)
    obtain ⟨o, o', e⟩ := map_two hn
    rw [St.of3 (σ := σ) e rfl rfl]
    exact Asg.tuple (.cons (Asg.name .here) (.cons (Asg.name (.there .here)) .nil))
theorem zip_at {ds : List D} {i : Nat} {d : D} (h : ds[i]? = some d) : ds.zipIdx[i]? = some (d, i) := by
  rw [List.getElem?_zipIdx, h]; simp
theorem outs_step {o : Nat → D → Option D} {ds : List D} {i : Nat} {d : D} (h : ds[i]? = some d) :
    (ds.zipIdx.take (i + 1)).filterMap (fun p => o p.2 p.1) = (ds.zipIdx.take i).filterMap (fun p => o p.2 p.1) ++ (o i d).toList := by
  rw [List.take_add_one, zip_at h, List.filterMap_append]
  cases ho : o i d <;> simp [ho]
theorem filterMap_len {α β : Type} (f : α → Option β) (l : List α) : (l.filterMap f).length ≤ l.length := List.length_filterMap_le f l
theorem CRun.one {elt tgt iter : Expr} {ifs : List Expr} {scope : Scope} {pos : Pos} {locs : List Str} {gl : List (Str × D)} {ds : List D} {bnd : D → List (Str × Option D)} (B : Bnd C n tgt locs ds bnd) (o : Nat → D → Option D)
    (body : ∀ Γ', Inner Γ scope Γ' → ∀ i d cells, ds[i]? = some d → ∃ b, Tests C n Γ' ifs ⟨bnd d, gl, cells⟩ b ∧ (b = true → ∃ r, o i d = some r ∧ NoCell r ∧ E C n Γ' elt ⟨bnd d, gl, cells⟩ r) ∧ (b = false → o i d = none))
    (hsz : ds.length ≤ sizeLine) : CRun C n Γ (.ListComp elt [⟨tgt, iter, ifs, 0⟩] scope pos) scope tgt ds locs gl (outs o ds) := by
  intro L κ g s I Da wr S hin R hDa W hS U
  have turn := turnLast (κ := κ) (elt := elt) (ifs := ifs) (Γ := cfx Γ scope L) (Inv := fun i σ => σ.loc.map (·.1) = locs ∧ σ.glb = gl ∧ NoC σ.loc ∧ σ.cells = [some ((ds.zipIdx.take i).filterMap (fun p => o p.2 p.1))] ∧ NoCells ((ds.zipIdx.take i).filterMap (fun p => o p.2 p.1))) W hDa (by
    (intro i d σ' hd z4; refine elAAAA z4 fun h1 h2 h3 h4 h5 => ?_; clear z4)
    have e := St.of3 (l := σ'.loc) rfl h2 h4
    clear h2 h4
    generalize σ'.loc = loc at e h1 h3
    subst e
    have hm := List.mem_of_getElem? hd
    (refine elEAA (body _ hin i d [some ((ds.zipIdx.take i).filterMap (fun p => o p.2 p.1))] hd) fun b hT hy hn => ?_)
    refine ⟨_, b, B.asg _ _ h1 d hm, hT, fun e => ?_, fun e => ?_⟩
    · (refine elEAA (hy e) fun r ho hr hE => ?_)
      refine ⟨r, _, hE, rfl, ?_, B.names d hm, rfl, B.noc d hm, ?_, ?_⟩
      · refine Nat.le_trans (filterMap_len _ _) (Nat.le_trans (List.length_take_le ..) ?_)
        have := (List.getElem?_eq_some_iff.mp hd).1; exact Nat.le_trans (Nat.le_of_lt (by assumption)) (by assumption)
      · show [some _] = [some _]
        rw [outs_step hd, ho]; rfl
      · rw [outs_step hd, ho]; exact noCells_append h5 ⟨hr, trivial⟩
    · refine ⟨B.names d hm, rfl, B.noc d hm, ?_, ?_⟩
      · show [some _] = [some _]
        rw [outs_step hd, hn e]; simp
      · rw [outs_step hd, hn e]; simpa using h5)
  have loop := compLoop_one (iter := iter) (scope := scope) (pos := pos) _ turn (ds.length - 0) (s := s) ⟨0, g, _, rfl, Nat.zero_le _, .refl _ _, R, ⟨by simp [Function.comp_def], rfl, noC_none _, rfl, trivial⟩, hS, U⟩
  have loop := codeAny_mono loop (R' := CC C n (cfx Γ scope L) κ g (fun σ' => σ'.cells = [some (outs o ds)] ∧ Plainσ σ')) (by
    (intro r s' z5; refine elA z5 fun z6 z8 => ?_; clear z5; refine elEE z8 fun g' z7 z9 => ?_; clear z8; refine elAAAAAA z9 fun l' R' h1 h2 h3 h4 h5 => ?_; clear z9; subst z6)
    have e : ds.zipIdx.take ds.length = ds.zipIdx := List.take_of_length_le (by simp)
    rw [e] at h4 h5
    refine ⟨rfl, g', _, l', R', h4, fun p hp d ed => .inl (NoMeth.of (h3 p hp d ed)), fun es he => ?_⟩
    rw [h4] at he
    exact Option.some.inj (List.mem_singleton.mp he) ▸ NoMeths.of h5)
  exact codeAny_compStart_list loop (W.self 0 _ _ _ hS loop)
theorem CRun.two {elt iter i₁ : Expr} {x y : Str} {px py : Pos} {scope : Scope} {pos : Pos} {gl : List (Str × D)} {ds : List D} {ds₁ : D → List D} {f : D → D → D} (hxy : x ≠ y)
    (body : ∀ Γ', Inner Γ scope Γ' → ∀ d cells, d ∈ ds → NoCell d ∧ (∀ od, Src C n Γ' ⟨[(x, some d), (y, od)], gl, cells⟩ (.Name y py) i₁ (ds₁ d)) ∧ ∀ e ∈ ds₁ d, ∀ cells, NoCell e ∧ NoCell (f d e) ∧ E C n Γ' elt ⟨[(x, some d), (y, some e)], gl, cells⟩ (f d e))
    (hsz : (ds.flatMap fun d => (ds₁ d).map (f d)).length ≤ sizeLine) (hs : autoParam (∀ env x, foldedSetIterable i₁ env x = pure x) tacC) :
    CRun C n Γ (.ListComp elt [⟨.Name x px, iter, [], 0⟩, ⟨.Name y py, i₁, [], 0⟩] scope pos) scope (.Name x px) ds [x, y] gl (ds.flatMap fun d => (ds₁ d).map (f d)) := by
  intro L κ g s I Da wr S hin R hDa W hS U
  have stp : ∀ {i d}, ds[i]? = some d → (ds.take (i + 1)).flatMap (fun d => (ds₁ d).map (f d)) = (ds.take i).flatMap (fun d => (ds₁ d).map (f d)) ++ (ds₁ d).map (f d) := fun {i d} hd => by
    rw [List.take_add_one, hd, List.flatMap_append]; simp
  have turn := turnFirst (κ := κ) (elt := elt) (ifs := []) (iter := iter) (scope := scope) (pos := pos) (Γ := cfx Γ scope L) (t₁ := .Name y py) (i₁ := i₁)
    (Inv := fun i σ => σ.loc.map (·.1) = [x, y] ∧ σ.glb = gl ∧ NoC σ.loc ∧ σ.cells = [some ((ds.take i).flatMap (fun d => (ds₁ d).map (f d)))] ∧ NoCells ((ds.take i).flatMap (fun d => (ds₁ d).map (f d)))) W hDa (by
    (intro i d σ' hd z11; refine elAAAA z11 fun h1 h2 h3 h4 h5 => ?_; clear z11)
    have hm := List.mem_of_getElem? hd
    obtain ⟨ou, ov, h1⟩ := map_two h1
    obtain rfl := St.of3 h1 h2 h4
    clear h1 h2 h4
    (refine elAA (body _ hin d [some ((ds.take i).flatMap (fun d => (ds₁ d).map (f d)))] hm) fun hn hsrc hbody => ?_)
    refine ⟨_, _, Asg.name .here, hsrc _, fun j σ => ∃ ov, σ.loc = [(x, some d), (y, ov)] ∧ σ.glb = gl ∧ (∀ e, ov = some e → NoCell e) ∧ σ.cells = [some ((ds.take i).flatMap (fun d => (ds₁ d).map (f d)) ++ ((ds₁ d).take j).map (f d))] ∧ NoCells (((ds₁ d).take j).map (f d)), ⟨ov, rfl, rfl, fun e he => h3 _ (.tail _ (.head _)) e he, by simp, trivial⟩, ?_, ?_⟩
    · (intro j e σ' he z13; refine elEAAAA z13 fun ov k1 k2 k3 k4 k5 => ?_; clear z13)
      obtain rfl := St.of3 k1 k2 k4
      clear k1 k2 k4
      have hme := List.mem_of_getElem? he
      (refine elAA (hbody e hme [some ((ds.take i).flatMap (fun d => (ds₁ d).map (f d)) ++ ((ds₁ d).take j).map (f d))]) fun q1 q2 q3 => ?_)
      have st : ((ds₁ d).take (j + 1)).map (f d) = ((ds₁ d).take j).map (f d) ++ [f d e] := by rw [List.take_add_one, he]; exact List.map_append ..
      refine ⟨_, true, Asg.name (.there .here), Tests.nil, fun _ => ⟨_, _, q3, rfl, ?_, some e, rfl, rfl, fun e' he' => (by cases he'; exact q1), ?_, ?_⟩, fun h => by cases h⟩
      · refine Nat.le_trans ?_ hsz
        have e1 : ds = ds.take i ++ d :: ds.drop (i + 1) := by
          have := List.getElem?_eq_some_iff.mp hd
          obtain ⟨hi, rfl⟩ := this
          rw [List.getElem_cons_drop, List.take_append_drop]
        conv => rhs; rw [e1]
        simp only [List.flatMap_append, List.flatMap_cons, List.length_append, List.length_map, List.length_take]
        lia
      · show [some _] = [some _]
        rw [st, List.append_assoc]
      · rw [st]; exact noCells_append k5 ⟨q2, trivial⟩
    · (intro σ' z15; refine elEAAAA z15 fun ov k1 k2 k3 k4 k5 => ?_; clear z15)
      obtain rfl := St.of3 k1 k2 k4
      clear k1 k2 k4
      rw [List.take_length] at *
      refine ⟨rfl, rfl, fun p hp e he => ?_, ?_, ?_⟩
      · simp only [List.mem_cons, List.not_mem_nil, or_false] at hp
        rcases hp with rfl | rfl
        · cases he; exact hn
        · exact k3 e he
      · show [some _] = [some _]
        rw [stp hd]
      · rw [stp hd]; exact noCells_append h5 k5)
  have loop := compLoop_first (iter := iter) (scope := scope) (pos := pos) _ turn (ds.length - 0) (s := s) ⟨0, g, _, rfl, Nat.zero_le _, .refl _ _, R, ⟨rfl, rfl, noC_none _, rfl, trivial⟩, hS, U⟩ (hs _)
  have loop := codeAny_mono loop (R' := CC C n (cfx Γ scope L) κ g (fun σ' => σ'.cells = [some (ds.flatMap fun d => (ds₁ d).map (f d))] ∧ Plainσ σ')) (by
    (intro r s' z16; refine elA z16 fun z17 z19 => ?_; clear z16; refine elEE z19 fun g' z18 z20 => ?_; clear z19; refine elAAAAAA z20 fun l' R' h1 h2 h3 h4 h5 => ?_; clear z20; subst z17)
    rw [List.take_length] at h4 h5
    refine ⟨rfl, g', _, l', R', h4, fun p hp d ed => .inl (NoMeth.of (h3 p hp d ed)), fun es he => ?_⟩
    rw [h4] at he
    exact Option.some.inj (List.mem_singleton.mp he) ▸ NoMeths.of h5)
  exact codeAny_compStart_list loop (W.self 0 _ _ _ hS loop)
end
section
variable {C : Cx} {n : Nat} {Γ Γ' : Fx} {σ σ' : St} {Q : Fl → St → Prop}
noncomputable def FnIs (C : Cx) (v : Value) (name : Str) (params : Arguments) (body : List Stmt) (scope : Scope) : Prop :=
  ∃ a o pm code doc, v = .ref a ∧ C.hb.get? a = some o ∧ o.data = .func (docDef name params body scope pm code doc) ∧ C.hb.CodeRec code name
structure Frm (Γ : Fx) (scope : Scope) : Prop where
  scopeIs : Γ.env.scope = scope
  cellsIs : ∀ y, scope.names.lookup y = some .cell → ∃ c, Γ.env.cells.lookup y = some c
theorem cellsFrom_mono : ∀ (names : List (Str × NameKind)) (k : Nat) (acc : List (Str × Addr)) (y : Str), (∃ c, acc.lookup y = some c) → ∃ c, (cellsFrom k names acc).lookup y = some c
  | [], _, _, _, h => h
  | (z, j) :: r, k, acc, y, h => by
    unfold cellsFrom
    split
    · refine cellsFrom_mono r _ _ y ?_
      rw [List.lookup_cons]
      cases y == z with
      | true => exact ⟨_, rfl⟩
      | false => exact h
    · exact cellsFrom_mono r _ _ y h
theorem cellsFrom_has : ∀ (names : List (Str × NameKind)) (k : Nat) (acc : List (Str × Addr)) (y : Str), (y, NameKind.cell) ∈ names → ∃ c, (cellsFrom k names acc).lookup y = some c
  | (z, j) :: r, k, acc, y, h => by
    unfold cellsFrom
    rcases List.mem_cons.mp h with e | h
    · cases e
      rw [if_pos (by rfl)]
      refine cellsFrom_mono r _ _ _ ?_
      rw [List.lookup_cons]
      simp
    · split <;> exact cellsFrom_has r _ _ y h
theorem cellsFrom_nodup : ∀ {cs : List (Str × Addr)}, (cs.Pairwise fun x y => x.2 ≠ y.2) → (cs.map (·.2)).Nodup
  | [], _ => List.nodup_nil
  | x :: r, h => by
    obtain ⟨h1, h2⟩ := List.pairwise_cons.mp h
    rw [List.map_cons, List.nodup_cons]
    refine ⟨fun q => ?_, cellsFrom_nodup h2⟩
    (refine elEA (List.mem_map.mp q) fun y hy e => ?_)
    exact h1 y hy e.symm
theorem cellsFrom_mem : ∀ (names : List (Str × NameKind)) (k : Nat) (acc : List (Str × Addr)) (p : Str × Addr), p ∈ cellsFrom k names acc → p ∈ acc ∨ (p.1, NameKind.cell) ∈ names
  | [], _, _, _, h => .inl h
  | (z, j) :: r, k, acc, p, h => by
    unfold cellsFrom at h
    split at h
    · rename_i hj
      have : j = .cell := eq_of_beq hj
      subst this
      rcases cellsFrom_mem r _ _ p h with q | q
      · rcases List.mem_cons.mp q with e | q
        · subst e; exact .inr (.head _)
        · exact .inl q
      · exact .inr (.tail _ q)
    · rcases cellsFrom_mem r _ _ p h with q | q
      · exact .inl q
      · exact .inr (.tail _ q)
noncomputable def startLoc (ps : List Str) (ds : List D) (ls : List Str) : List (Str × Option D) := (ps.zip ds).map (fun p => (p.1, some p.2)) ++ ls.map (·, none)
theorem bindL_get {ko : Str → Option NameKind} {y : Str} {v : Value} (hk : ko y = some .local) : ∀ {ps : List Str} {vs : List Value} {m : Str → Option Value}, ps.Nodup → (y, v) ∈ ps.zip vs → bindL ko (ps.zip vs) m y = some v := by
  intro ps
  induction ps with
  | nil => intro vs m hn hm; exact absurd hm List.not_mem_nil
  | cons p ps ih0 =>
  intro vs m hn hm
  cases vs with
  | nil => exact absurd hm List.not_mem_nil
  | cons w vs =>
    obtain ⟨h1, h2⟩ := List.nodup_cons.mp hn
    rw [List.zip_cons_cons] at hm ⊢
    unfold bindL
    rcases List.mem_cons.mp hm with e | hm
    · cases e
      rw [if_pos hk]
      have : ∀ (ps : List Str) (vs : List Value) (m : Str → Option Value), y ∉ ps → m y = some v → bindL ko (ps.zip vs) m y = some v := by
        intro ps
        induction ps with
        | nil => intro vs m _ h; exact h
        | cons q ps ih =>
          intro vs m hq h
          cases vs with
          | nil => exact h
          | cons u vs =>
            rw [List.zip_cons_cons]
            unfold bindL
            refine ih vs _ (fun z => hq (.tail _ z)) ?_
            split
            · have : y ≠ q := fun z => hq (z ▸ .head _)
              simpa [this] using h
            · exact h
      exact this ps vs _ h1 (by simp)
    · exact ih0 h2 hm
theorem bindC_get {ko : Str → Option NameKind} {y : Str} {v : Value} (hk : ko y = some .cell) : ∀ {ps : List Str} {vs : List Value} {m : Str → Option Value}, ps.Nodup → (y, v) ∈ ps.zip vs → bindC ko (ps.zip vs) m y = some v := by
  intro ps
  induction ps with
  | nil => intro vs m hn hm; exact absurd hm List.not_mem_nil
  | cons p ps ih0 =>
  intro vs m hn hm
  cases vs with
  | nil => exact absurd hm List.not_mem_nil
  | cons w vs =>
    obtain ⟨h1, h2⟩ := List.nodup_cons.mp hn
    rw [List.zip_cons_cons] at hm ⊢
    unfold bindC
    rcases List.mem_cons.mp hm with e | hm
    · cases e
      rw [if_neg (by rw [hk]; decide)]
      have : ∀ (ps : List Str) (vs : List Value) (m : Str → Option Value), y ∉ ps → m y = some v → bindC ko (ps.zip vs) m y = some v := by
        intro ps
        induction ps with
        | nil => intro vs m _ h; exact h
        | cons q ps ih =>
          intro vs m hq h
          cases vs with
          | nil => exact h
          | cons u vs =>
            rw [List.zip_cons_cons]
            unfold bindC
            refine ih vs _ (fun z => hq (.tail _ z)) ?_
            split
            · exact h
            · have : y ≠ q := fun z => hq (z ▸ .head _)
              simpa [this] using h
      exact this ps vs _ h1 (by simp)
    · exact ih0 h2 hm
theorem DVs.zip {P : FZ} {cs : List Addr} : ∀ {ps : List Str} {ds : List D} {vs : List Value}, DVs P cs ds vs → ∀ {y : Str} {d : D}, (y, d) ∈ ps.zip ds → ∃ v, (y, v) ∈ ps.zip vs ∧ DV P cs d v
  | p :: ps, d :: ds, _, ⟨v, vs, rfl, h, r⟩, y, e, hm => by
    rw [List.zip_cons_cons] at hm
    rcases List.mem_cons.mp hm with q | q
    · cases q; exact ⟨v, by exact List.mem_cons_self, h⟩
    · (refine elEA (DVs.zip r q) fun w h1 h2 => ?_)
      exact ⟨w, by rw [List.zip_cons_cons]; exact .tail _ h1, h2⟩
structure DefOk (scope : Scope) (params : Arguments) (body : List Stmt) (name : Str) (ps ls : List Str) : Prop where
  kind : scope.kind = .function
  co : scope.isCoroutine = false
  gen : scope.isGenerator = false
  bind : ∀ pm code doc (vs : List Value), vs.length = ps.length → bindArgs (docDef name params body scope pm code doc) ⟨vs, []⟩ = pure (ps.zip vs)
  names : ∀ x ∈ ps ++ ls, (scope.names.lookup x = some .local ∨ scope.names.lookup x = some .cell) ∧ (x == ("__debug__" : Str)) = false
  dup : (ps ++ ls).Nodup
theorem bindParams1 {M : Model} {A : Around} {E : Value → Shared → Prop} {s₀ : Shared} {env : Env} (f : Str × Value → PUnit → Sem (ForInStep PUnit)) (hf : ∀ n v u, f (n, v) u = (do storeName env n v; pure (.yield ⟨⟩))) (hk : env.scope.kind = .function)
    {n : Str} {v : Value} {r : List (Str × Value)} (m cm : Str → Option Value) (s : Shared) (Q : PUnit → Shared → Prop) (x : InCallC s₀ env.locals m env.cells cm s) (hl : env.kindOf n = some .local)
    (hr : ∀ y ∈ r, env.kindOf y.1 = some .local ∨ (env.kindOf y.1 = some .cell ∧ (env.cells.lookup y.1).isSome = true))
    (h : ∀ s', InCallC s₀ env.locals (bindL env.kindOf ((n, v) :: r) m) env.cells (bindC env.kindOf ((n, v) :: r) cm) s' → s.toks + 1 ≤ s'.toks → Q ⟨⟩ s') : wpAny M A (forIn ((n, v) :: r) ⟨⟩ f) Q E s := by
  rw [List.forIn_cons, hf]
  refine wpAny_bind (wpAny_bind (wpAny_storeName_local hl x.toInCall.ns (fun h' hn' hs' => wpAny_pure ?_) (by rw [hk]; rfl)))
  have x' : InCallC s₀ env.locals (fun y => if y = n then some v else m y) env.cells cm { s with heap := h', toks := s.toks + 1 } := by
    refine ⟨⟨?_, hn', fun b o e => ?_, x.toInCall.fresh⟩, fun k c hc => ?_, x.apart, x.above⟩
    · (refine elEE x.toInCall.same fun h₁ tk z0 => ?_; subst z0)
      exact ⟨h', _, rfl⟩
    · exact hs'.extBut b o (Nat.ne_of_lt (Nat.lt_of_lt_of_le (Heap.lt_size e) x.toInCall.fresh)) (x.toInCall.keep b o e)
    · exact (x.cell k c hc).sameBut hs' (Nat.ne_of_gt (x.above k c (mem_of_lookup hc)))
  refine of_toks (wpAny_bindParams f hf hk r _ _ _ _ x' hr fun s'' x'' ht => h s'' ?_ ht)
  unfold bindL bindC; rw [if_pos hl, if_pos hl]; exact x''
noncomputable def Tick (e : Nat) (sc : Scope) (xs : List Str) : Prop := e = 0 ∨ (e = 1 ∧ ∃ x r, xs = x :: r ∧ sc.names.lookup x = some .local)
theorem envCells {M : Model} {A : Around} {E : Value → Shared → Prop} {s : Shared} {scope : Scope} {globals : Addr} {binds : List (Str × Value)} {qual : Str} {func : Option Addr} {code : Value} {builtins : Addr} {Q : Env → Shared → Prop} {e : Nat} (he : Tick e scope (binds.map (·.1)))
    (hk : scope.kind = .function)
    (hkind : ∀ x ∈ binds, scope.names.lookup x.1 = some .local ∨ (scope.names.lookup x.1 = some .cell ∧ ((cellsFrom (s.heap.objs.size + 1) scope.names []).lookup x.1).isSome = true))
    (hQ : ∀ env, env = newEnv scope s.heap.objs.size globals (cellsFrom (s.heap.objs.size + 1) scope.names []) qual func code none builtins →
      ∀ s', InCallC s env.locals (bindL env.kindOf binds fun _ => none) env.cells (bindC env.kindOf binds fun _ => none) s' → s.toks + e ≤ s'.toks → Q env s') :
    wpAny M A (newFunctionEnv scope globals [] binds qual func code none builtins) Q E s := by
  rcases he with rfl | ⟨rfl, x, xs, hx, hl⟩
  · exact of_toks (wpAny_newFunctionEnv_cells hk hkind fun env he s' x ht => hQ env he s' x ht)
  cases binds with
  | nil => cases hx
  | cons b r =>
  obtain ⟨n, v⟩ := b
  have hn : n = x := by simp at hx; exact hx.1
  subst hn
  simp only [newFunctionEnv, Option.isSome_none, Bool.false_eq_true, if_false]
  refine wpAny_bind (wpAny_alloc ?_)
  refine wpAny_bind (wpAny_layCells _ (fun name kind cells => by cases hkc : kind == NameKind.cell <;> rfl) _ _ _ _ ?_)
  have ok := cellsFrom_ok scope.names (s.heap.push { cls := .type "frame", data := .dict #[] }) (s.heap.objs.size + 1) [] ⟨fun _ _ hm => (nomatch hm), List.Pairwise.nil⟩ (by rw [Heap.size_push]; exact Nat.le_refl _)
  rw [Heap.size_push] at ok
  rw [show ({ s with heap := s.heap.push { cls := .type "frame", data := .dict #[] } } : Shared).heap.objs.size = s.heap.objs.size + 1 from Heap.size_push ..]
  exact wpAny_bind (bindParams1 (s₀ := s) (env := newEnv scope s.heap.objs.size globals (cellsFrom (s.heap.objs.size + 1) scope.names []) qual func code none builtins)
    _ (fun _ _ _ => rfl) hk (fun _ => none) (fun _ => none) _ _
    ⟨⟨⟨_, _, rfl⟩, (Heap.Ns.new s.heap (.type "frame")).keeps (pushCells_keeps _ _), fun b o e => pushCells_keeps _ _ b o (Heap.get?_push_of_some _ e), Nat.le_refl _⟩,
      fun n c hc => (ok.empty n c (mem_of_lookup hc)).1, ok.apart, fun n c hm => (ok.empty n c hm).2⟩
    hl (fun y hy => hkind y (.tail _ hy)) fun s' x ht => wpAny_pure (hQ _ rfl s' x ht))
theorem call_cells {prog : Program} {w : World} {A : Around} {s : Shared} {R : Result → Shared → Prop} {a : Addr} {o : Obj} {fd : FuncData} {body : List Stmt} {vals : List Value} {binds : List (Str × Value)} {e : Nat} (he : Tick e fd.scope (binds.map (·.1)))
    (hroom : A.depth < recursionLimit) (ho : s.heap.get? a = some o) (hdata : o.data = .func fd) (hlim : s.heap.NoLimit) (hcd : s.heap.CodeRec fd.code fd.qualname)
    (hbody : fd.body = .stmts body) (hbind : bindArgs fd ⟨vals, []⟩ = pure binds) (hclo : fd.closure = [])
    (hkind : ∀ x ∈ binds, fd.scope.names.lookup x.1 = some .local ∨ (fd.scope.names.lookup x.1 = some .cell ∧ ((cellsFrom (s.heap.objs.size + 1) fd.scope.names []).lookup x.1).isSome = true))
    (h : ∀ s₁, InCallC s (callEnvC fd s.heap.objs.size a).locals (bindL (callEnvC fd s.heap.objs.size a).kindOf binds fun _ => none) (callEnvC fd s.heap.objs.size a).cells
        (bindC (callEnvC fd s.heap.objs.size a).kindOf binds fun _ => none) s₁ → s.toks + e ≤ s₁.toks →
      wpAny (model prog w) (A.deeper (callEnvC fd s.heap.objs.size a)) (execs body (callEnvC fd s.heap.objs.size a)) (fun f s' => R (.ok (.ret (match f with | .ret v => v | _ => .none))) s') (fun _ _ => False) s₁)
    (hco : fd.scope.isCoroutine = false) (hgen : fd.scope.isGenerator = false) (hk : fd.scope.kind = .function) : codeAny (model prog w) A (.call (.ref a) ⟨vals, []⟩) R s := by
  refine codeAny_call_function hroom ho hdata hco hgen hbody hcd ?_
  rw [hbind, hclo]
  refine wpAny_pure (envCells he hk hkind fun env he s' x ht => ?_)
  subst he
  exact ⟨hlim.keeps x.toInCall.keep, codeAny_func (thn (h s' x ht) fun _ _ q => q)⟩
noncomputable def envQual (name : Str) : Str := name ++ (".<locals>." : Str)
noncomputable def FnIsC (C : Cx) (v : Value) (name : Str) (params : Arguments) (body : List Stmt) (scope : Scope) (code : Value) : Prop :=
  ∃ a o pm doc, v = .ref a ∧ C.hb.get? a = some o ∧ o.data = .func (docDef name params body scope pm code doc) ∧ C.hb.CodeRec code name
theorem Spec.enter {m : Nat} {v : Value} {name : Str} {params : Arguments} {body : List Stmt} {scope : Scope} {code : Value} {ps ls : List Str} {ds : List D} {r : D} {e : Nat} (he : Tick e scope ps) (H : C.Ok) (F : FnIsC C v name params body scope code) (K : DefOk scope params body name ps ls)
    (hlen : ds.length = ps.length) (hds : NoCells ds) (hr : NoCell r) (h : ∀ Γ, Frm Γ scope → Γ.env.code = code → Γ.env.qual = envQual name → X C m Γ body ⟨startLoc ps ds ls, [], []⟩ (fun fl _ => fl = .ret r))
    (A : Around) (s : Shared) (P : FZ) (vs : List Value) (hA : Room A (m + 1)) (hS : SOk C P { s with toks := s.toks + e }) (hv : DVs P [] ds vs) :
    wpAny (model C.prog C.w) A (call v vs) (fun v s' => SP C P s r v s') (fun _ _ => False) s := by
  (refine elEEEE F fun a o pm doc z2 => ?_; clear F; refine elAAA z2 fun z1 ho hd hcode => ?_; clear z2; subst z1)
  have hvl : vs.length = ps.length := by rw [hv.length]; exact hlen
  refine wpAny_call ?_
  refine call_cells (fd := docDef name params body scope pm code doc) (binds := ps.zip vs) (by rw [List.map_fst_zip (by simp_all)]; exact he) (by have := hA.2.1; exact Nat.lt_of_le_of_lt (Nat.le_add_right _ _) (by assumption)) (hS.base _ _ ho) hd (H.lim.keeps hS.base) (hcode.keeps hS.base) rfl (K.bind pm code doc vs hvl) rfl ?_ (fun s₁ hin htk => ?_) K.co K.gen K.kind
  · intro x hx
    have hx1 : x.1 ∈ ps := (List.of_mem_zip (a := x.1) (b := x.2) hx).1
    rcases (K.names x.1 (List.mem_append_left _ hx1)).1 with q | q
    · exact .inl q
    · refine .inr ⟨q, ?_⟩
      obtain ⟨c, hc⟩ := cellsFrom_has scope.names (s.heap.objs.size + 1) [] x.1 (lookup_mem q)
      show (List.lookup x.1 (cellsFrom (s.heap.objs.size + 1) scope.names [])).isSome = true
      rw [hc]; rfl
  · generalize hfd : docDef name params body scope pm code doc = fd at *
    have e1 : fd.scope = scope := by subst hfd; rfl
    have e2 : fd.globals = mainGlobals := by subst hfd; rfl
    have e3 : fd.builtins = builtinsNs := by subst hfd; rfl
    generalize henv : callEnvC fd s.heap.objs.size a = env at hin ⊢
    have n1 : env.scope = scope := by subst henv; exact e1
    have n2 : env.locals = s.heap.objs.size := by subst henv; rfl
    have n3 : env.globals = mainGlobals := by subst henv; exact e2
    have n4 : env.builtins = builtinsNs := by subst henv; exact e3
    have n6 : env.code = code := by subst henv; subst hfd; rfl
    have n7 : env.qual = envQual name := by subst henv; subst hfd; rfl
    have n5 : env.cells = cellsFrom (s.heap.objs.size + 1) scope.names [] := by subst henv; subst hfd; rfl
    obtain ⟨⟨⟨h₁, tk, es⟩, hns, hkeep, hfresh⟩, hcell, hap, habove⟩ := hin
    have hh₁ : s₁.heap = h₁ := by rw [es]
    let Γ : Fx := ⟨A.deeper env, env, env.locals :: (env.cells.map (·.1)).filterMap fun y => env.cells.lookup y⟩
    have hF : Frm Γ scope := ⟨n1, fun y hy => by
      show ∃ c, env.cells.lookup y = some c
      rw [n5]; exact cellsFrom_has _ _ _ _ (lookup_mem hy)⟩
    let κ : FZ := fun x => if x = C.tb then none else s.heap.get? x
    have κ1 : ∀ x o, κ x = some o → s.heap.get? x = some o := fun x o e => by
      show s.heap.get? x = some o
      have e : (if x = C.tb then none else s.heap.get? x) = some o := e
      split at e
      · cases e
      · exact e
    have κ2 : ∀ x o, x ≠ C.tb → s.heap.get? x = some o → κ x = some o := fun x o hx e => by
      show (if x = C.tb then none else s.heap.get? x) = some o
      rw [if_neg hx]; exact e
    (refine elEA (id hS.tab) fun tps htb _ => ?_)
    have htblt := Heap.lt_size htb
    have hown : ∀ x ∈ Γ.own, s.heap.objs.size ≤ x ∧ ∃ o, s₁.heap.get? x = some o := fun x hx => by
      rcases List.mem_cons.mp hx with q | q
      · subst q
        (refine elEEEA hns fun o _ _ ho _ => ?_; clear hns)
        exact ⟨hfresh, o, ho⟩
      · (refine elEA (List.mem_filterMap.mp q) fun y hy e => ?_)
        have h1 := habove y x (mem_of_lookup e)
        (refine elEA (hcell y x e) fun o ho _ => ?_)
        exact ⟨Nat.le_of_lt (Nat.lt_of_le_of_lt hfresh h1), o, ho⟩
    have hmem : ∀ y c, env.cells.lookup y = some c → c ∈ Γ.own := fun y c e => .tail _ (List.mem_filterMap.mpr ⟨y, List.mem_map.mpr ⟨_, mem_of_lookup e, rfl⟩, e⟩)
    have hfr : ∀ x ∈ Γ.own, P x = none ∧ κ x = none ∧ x ≠ C.tb := fun x hx => by
      have hge := (hown x hx).1
      have hn := get_of_lt_none hge
      refine ⟨?_, ?_, fun z => ?_⟩
      · cases z : P x with
        | none => rfl
        | some o => have := hS.sub x o z; rw [hn] at this; cases this
      · cases z : κ x with
        | none => rfl
        | some o => have := κ1 x o z; rw [hn] at this; cases this
      · subst z; exact absurd htblt (Nat.not_lt.mpr hge)
    have hlk : ∀ x ∈ ps ++ ls, StoreAt Γ s₁.heap x := fun x hx => by
      rcases (K.names x hx).1 with q | q
      · exact .inl (by show env.scope.names.lookup x = _; rw [n1]; exact q)
      · obtain ⟨c, hc⟩ := hF.cellsIs x q
        refine .inr ⟨by show env.scope.names.lookup x = _; rw [n1]; exact q, c, _, hc, hmem x c hc, ?_, hcell x c hc, fun y c' h1 h2 => ?_⟩
        · exact Nat.ne_of_gt (habove x c (mem_of_lookup hc))
        · subst h2; exact name_of_addr hap (mem_of_lookup h1) (mem_of_lookup hc)
    have hS₁ : SOk C P s₁ := by
      have := hS.heap (h' := h₁) (t := s₁.toks) (fun a o e => hh₁ ▸ hkeep a o (hS.sub a o e)) (fun a o e => hh₁ ▸ hkeep a o (hS.base a o e)) (fun o e => hh₁ ▸ hkeep _ o e) htk
      rw [es] at this ⊢; exact this
    have R : Rep C m Γ κ ⟨P, []⟩ ⟨startLoc ps ds ls, [], []⟩ s₁ := by
      refine ⟨⟨⟨hA.1, ?_, ?_⟩, by show env.scope.kind = _; rw [n1]; exact K.kind, n3, n4, .head _⟩, hS₁, fun x od hx => ?_, ?_, fun x d hx => (by cases hx), fun x o e => hkeep x o (κ1 x o e), fun x o e => κ2 x o (fun z => by subst z; rw [H.tb] at e; cases e) (hS.base x o e), if_pos rfl,
        fun x hx => ⟨(hfr x hx).1, (hfr x hx).2.1, (hfr x hx).2.2, (hown x hx).2⟩, ⟨_, hns⟩, rfl, fun x hx => (by cases hx), fun q => (by cases q), fun x hx => (by cases hx), fun k ds e => (by cases e)⟩
      · show A.depth + 1 + m < recursionLimit
        have := hA.2.1; simp_all +arith
      · show A.units + 3 + 100 * m + 200 < cLine
        have := hA.2.2; lia
      · rcases List.mem_append.mp hx with q | q
        · (refine elEA (List.mem_map.mp q) fun p hp e => ?_)
          cases e
          have hpm : p.1 ∈ ps ++ ls := List.mem_append_left _ (List.of_mem_zip (a := p.1) (b := p.2) hp).1
          refine ⟨hlk _ hpm, (K.names _ hpm).2, fun d e => ?_⟩
          cases e
          (refine elEA (DVs.zip hv (y := p.1) (d := p.2) hp) fun v hv1 hv2 => ?_)
          have hnd : ps.Nodup := (List.nodup_append.mp K.dup).1
          refine ⟨v, ?_, hv2⟩
          rcases (K.names p.1 hpm).1 with q | q
          · have q' : env.kindOf p.1 = some .local := by show env.scope.names.lookup _ = _; rw [n1]; exact q
            exact .inl ⟨q', _, hns, bindL_get q' hnd hv1⟩
          · have q' : env.kindOf p.1 = some .cell := by show env.scope.names.lookup _ = _; rw [n1]; exact q
            obtain ⟨c, hc⟩ := hF.cellsIs p.1 q
            refine .inr ⟨q', c, hc, ?_⟩
            have := hcell p.1 c hc
            rw [bindC_get q' hnd hv1] at this
            exact this
        · (refine elEA (List.mem_map.mp q) fun y hy e => ?_)
          cases e
          have hym : x ∈ ps ++ ls := List.mem_append_right _ hy
          exact ⟨hlk _ hym, (K.names _ hym).2, fun d e => by cases e⟩
      · show ((startLoc ps ds ls).map (·.1)).Nodup
        have : (startLoc ps ds ls).map (·.1) = ps ++ ls := by
          unfold startLoc
          rw [List.map_append, List.map_map, List.map_map]
          congr 1
          · show ((ps.zip ds).map fun p => p.1) = ps
            exact List.map_fst_zip (by simp_all)
          · simp [Function.comp_def]
        rw [this]; exact K.dup
    refine thn (h Γ hF n6 n7 κ ⟨P, []⟩ s₁ R) ?_
    rintro f s' ⟨g', σ', fl, l, R', hf, rfl⟩
    (refine elEA hf fun v z3 hv' => ?_; clear hf; subst z3)
    refine ⟨g'.P, l.1, R'.sok, fun x o e => ?_, fun x o hx e => R'.keep x o (κ2 x o hx e), hv'.noCell hr⟩
    refine (l.2.2.1 x o e).imp id fun q => ?_
    have q : (if x = C.tb then none else s.heap.get? x) = none := q
    split at q
    · rename_i z; subst z; rw [R'.sok.ptb] at e; cases e
    · exact q
theorem Spec.ofC {m : Nat} {v : Value} {name : Str} {params : Arguments} {body : List Stmt} {scope : Scope} {code : Value} {ps ls : List Str} {ds : List D} {r : D} (H : C.Ok) (F : FnIsC C v name params body scope code) (K : DefOk scope params body name ps ls)
    (hlen : ds.length = ps.length) (hds : NoCells ds) (hr : NoCell r) (h : ∀ Γ, Frm Γ scope → Γ.env.code = code → Γ.env.qual = envQual name → X C m Γ body ⟨startLoc ps ds ls, [], []⟩ (fun fl _ => fl = .ret r)) : Spec C (m + 1) v ds r :=
  ⟨by (refine elEEEE F fun a o pm doc z5 => ?_; clear F; refine elAAA z5 fun z4 ho hd hcode => ?_; clear z5; subst z4); exact ⟨a, o, _, rfl, ho, hd⟩, fun A s P vs hA hS hv => Spec.enter (e := 0) (.inl rfl) H F K hlen hds hr h A s P vs hA hS hv⟩
theorem Spec.of {m : Nat} {v : Value} {name : Str} {params : Arguments} {body : List Stmt} {scope : Scope} {ps ls : List Str} {ds : List D} {r : D} (H : C.Ok) (F : FnIs C v name params body scope) (K : DefOk scope params body name ps ls)
    (hlen : ds.length = ps.length) (hds : NoCells ds) (hr : NoCell r) (h : ∀ Γ, Frm Γ scope → X C m Γ body ⟨startLoc ps ds ls, [], []⟩ (fun fl _ => fl = .ret r)) : Spec C (m + 1) v ds r := by
  (refine elEEEEE F fun a o pm code doc hx => ?_; clear F)
  exact Spec.ofC H ⟨a, o, pm, doc, hx⟩ K hlen hds hr fun Γ F _ _ => h Γ F
noncomputable def Spec1 (C : Cx) (n : Nat) (f : Value) (ds : List D) (r : D) : Prop :=
  ∀ (A : Around) (s : Shared) (P : FZ) (vs : List Value), Room A n → SOk C P { s with toks := s.toks + 1 } → DVs P [] ds vs →
    wpAny (model C.prog C.w) A (call f vs) (fun v s' => SP C P s r v s') (fun _ _ => False) s
theorem Spec1.of {m : Nat} {v : Value} {name : Str} {params : Arguments} {body : List Stmt} {scope : Scope} {ps ls : List Str} {ds : List D} {r : D} (he : ∃ x r, ps = x :: r ∧ scope.names.lookup x = some .local) (H : C.Ok) (F : FnIs C v name params body scope) (K : DefOk scope params body name ps ls)
    (hlen : ds.length = ps.length) (hds : NoCells ds) (hr : NoCell r) (h : ∀ Γ, Frm Γ scope → X C m Γ body ⟨startLoc ps ds ls, [], []⟩ (fun fl _ => fl = .ret r)) : Spec1 C (m + 1) v ds r := by
  (refine elEEEEE F fun a o pm code doc hx => ?_; clear F)
  exact fun A s P vs => Spec.enter (.inr ⟨rfl, he⟩) H ⟨a, o, pm, doc, hx⟩ K hlen hds hr (fun Γ F _ _ => h Γ F) A s P vs
end
section
noncomputable def stmtP : Stmt → Str × Arguments × List Stmt × List Stmt × Scope × Expr
  | .FunctionDef x a b _ _ _ s .. => (x, a, b, [], s, .Constant .none 0 default)
  | .While t b _ _ => (Str.ofString "", default, b, [], default, t)
  | .For _ _ b _ _ => (Str.ofString "", default, b, [], default, .Constant .none 0 default)
  | .If t b o _ => (Str.ofString "", default, b, o, default, t)
  | .Assign _ e _ => (Str.ofString "", default, [], [], default, e)
  | _ => (Str.ofString "", default, [], [], default, .Constant .none 0 default)
noncomputable def exprP : Expr → List Expr × Expr × Scope × Pos
  | .Call _ a _ p => (a, .Constant .none 0 default, default, p)
  | .GeneratorExp e _ s p => ([], e, s, p)
  | .Lambda _ _ s p => ([], .Constant .none 0 default, s, p)
  | _ => ([], .Constant .none 0 default, default, default)
noncomputable def stName (s : Stmt) : Str := (stmtP s).1
noncomputable def stParams (s : Stmt) : Arguments := (stmtP s).2.1
noncomputable def stBody (s : Stmt) : List Stmt := (stmtP s).2.2.1
noncomputable def stElse (s : Stmt) : List Stmt := (stmtP s).2.2.2.1
noncomputable def stScope (s : Stmt) : Scope := (stmtP s).2.2.2.2.1
noncomputable def stExpr (s : Stmt) : Expr := (stmtP s).2.2.2.2.2
noncomputable def nthS (l : List Stmt) (i : Nat) : Stmt := l.getD i (.Pass default)
noncomputable def argE (e : Expr) (i : Nat) : Expr := (exprP e).1.getD i (.Constant .none 0 default)
noncomputable def st (i : Nat) : Stmt := (PySem.Challenge.pw_in0225_01.main.body[i]?).getD (.Pass default)
noncomputable def bd (i : Nat) : List Stmt := stBody (st i)
noncomputable def sc (i : Nat) : Scope := stScope (st i)
structure Gl (C : Cx) where
  H : C.Ok
  v : Nat → Value
  fn : ∀ i ∈ [3, 6, 8, 9, 11, 12, 13, 14, 15, 16, 17, 18, 19, 20, 21, 22, 23, 24, 25, 26, 27, 28, 29, 30, 31, 32, 33, 34], C.mg (stName (st i)) = some (v i) ∧ FnIs C (v i) (stName (st i)) (stParams (st i)) (bd i) (sc i)
  bl : ∀ (x : Str) (w : Value), x ∈ ([Str.ofString "len", "ord", "chr", "range", "enumerate", "sorted", "isinstance", "object", "str"] : List Str) → bootBuiltins x = some w → C.mg x = none ∧ C.mb x = some w
theorem DefOk.mk' {i : Nat} {ps ls : List Str} (hk : (sc i).kind = .function) (hco : (sc i).isCoroutine = false) (hg : (sc i).isGenerator = false)
    (hb : ∀ pm code doc (vs : List Value), vs.length = ps.length → bindArgs (docDef (stName (st i)) (stParams (st i)) (bd i) (sc i) pm code doc) ⟨vs, []⟩ = pure (ps.zip vs))
    (hn : (ps ++ ls).all (fun x => ((sc i).names.lookup x == some .local || (sc i).names.lookup x == some .cell) && !(x == ("__debug__" : Str))) = true) (hd : (ps ++ ls).Nodup) : DefOk (sc i) (stParams (st i)) (bd i) (stName (st i)) ps ls where
  kind := hk
  co := hco
  gen := hg
  bind := hb
  names := fun x hx => by
    have := List.all_eq_true.mp hn x hx
    simp only [Bool.and_eq_true, Bool.or_eq_true, beq_iff_eq, Bool.not_eq_true'] at this
    exact this
  dup := hd
theorem d23 : DefOk (sc 23) (stParams (st 23)) (bd 23) (stName (st 23)) ["body", "at"] [] := by
  refine DefOk.mk' rfl rfl rfl ?_ (by decide +kernel) (by decide +kernel)
  intro pm code doc vs hv
  obtain ⟨a, b, rfl⟩ := len2 hv
  rfl
section
variable {C : Cx} {n : Nat} {Γ : Fx} {σ : St}
theorem E.gf (G : Gl C) (i : Nat) {x : Str} {pos : Pos} (hk : Γ.env.kindOf x = some .globalImplicit) (hx : autoParam (stName (st i) = x) tacB) (hi : autoParam (i ∈ [3, 6, 8, 9, 11, 12, 13, 14, 15, 16, 17, 18, 19, 20, 21, 22, 23, 24, 25, 26, 27, 28, 29, 30, 31, 32, 33, 34]) tacF)
    (hd : autoParam ((x == ("__debug__" : Str)) = false) tacF) : E C n Γ (.Name x pos) σ (.raw (G.v i)) := by subst hx; exact E.fn G.H hk (G.fn i hi).1 hd
theorem E.gb (G : Gl C) {x : Str} {w : Value} {pos : Pos} (hk : Γ.env.kindOf x = some .globalImplicit) (hb : bootBuiltins x = some w) (hx : autoParam (x ∈ ([Str.ofString "len", "ord", "chr", "range", "enumerate", "sorted", "isinstance", "object", "str"] : List Str)) tacF)
    (hd : autoParam ((x == ("__debug__" : Str)) = false) tacF) : E C n Γ (.Name x pos) σ (.raw w) := E.bl G.H hk (G.bl x w hx hb) hd
theorem kind_of {k : NameKind} {x : Str} {s : Scope} (F : Frm Γ s) (h : s.names.lookup x = some k) : Γ.env.kindOf x = some k := by rw [Env.kindOf, F.scopeIs]; exact h
theorem boot_len : bootBuiltins "len" = some (.builtin "len") := by decide +kernel
theorem boot_ord : bootBuiltins "ord" = some (.builtin "ord") := by decide +kernel
theorem boot_chr : bootBuiltins "chr" = some (.builtin "chr") := by decide +kernel
theorem boot_range : bootBuiltins "range" = some (.type "range") := by decide +kernel
theorem boot_enumerate' : bootBuiltins "enumerate" = some (.type "enumerate") := by decide +kernel
theorem boot_sorted : bootBuiltins "sorted" = some (.builtin "sorted") := by decide +kernel
theorem boot_isinstance : bootBuiltins "isinstance" = some (.builtin "isinstance") := by decide +kernel
theorem boot_object : bootBuiltins "object" = some (.type "object") := by decide +kernel
theorem boot_str : bootBuiltins "str" = some (.type "str") := by decide +kernel
end
end
local macro_rules | `(tactic| walk_at "in1") => `(tactic| first | exact List.mem_cons_self | (refine List.mem_cons_of_mem _ ?_; walk_at "in1"))
section
end
local macro_rules | `(tactic| walk_at "in") => `(tactic| with_reducible ((try dsimp only); walk_at "in1"))
section
end
local macro_rules | `(tactic| walk_at "upd1") => `(tactic| first | exact Upd.here | (apply Upd.there; walk_at "upd1"))
section
end
local macro_rules | `(tactic| walk_at "upd") => `(tactic| with_reducible ((try dsimp only); walk_at "upd1"))
section
end
section
theorem clip_nat (n i : Nat) : clipAt n (i : Int) = min i n := by
  unfold clipAt; rw [if_neg (by simp)]
  rcases Nat.le_total i n with h | h
  · rw [Int.min_eq_left (Int.ofNat_le.mpr h), Nat.min_eq_left h, Int.max_eq_right (Int.natCast_nonneg _)]; rfl
  · rw [Int.min_eq_right (Int.ofNat_le.mpr h), Nat.min_eq_right h, Int.max_eq_right (Int.natCast_nonneg _)]; rfl
theorem clip_m1 (n : Nat) : (max 0 (min ((-1 : Int) + (n : Int)) n)).toNat = n - 1 := by
  cases n with
  | zero => rfl
  | succ n =>
    have e : (-1 : Int) + ((n + 1 : Nat) : Int) = n := by rw [Int.add_comm, Int.natCast_succ]; exact Int.add_neg_cancel_right _ _
    rw [e, Int.min_eq_left (Int.ofNat_le.mpr (Nat.le_succ n)), Int.max_eq_right (Int.natCast_nonneg _)]; rfl
theorem cut_ij {α : Type} {x : List α} {lo hi : Int} {i j : Nat} (h1 : lo = i) (h2 : hi = j) : cut x (some lo) (some hi) = (x.drop i).take (j - i) := by
  subst h1 h2
  unfold cut
  simp only [Option.elim, clip_nat]
  by_cases hi : i ≤ x.length
  · rw [Nat.min_eq_left hi]
    by_cases hj : j ≤ x.length
    · rw [Nat.min_eq_left hj]
    · rw [Nat.min_eq_right (by lia), List.take_of_length_le (by simp), List.take_of_length_le (by simp; lia)]
  · rw [List.drop_of_length_le (by lia), List.drop_of_length_le (by lia)]; simp
theorem cut_i {α : Type} {x : List α} {lo : Int} {i : Nat} (h1 : lo = i) : cut x (some lo) none = x.drop i := by
  have := cut_ij (x := x) (hi := x.length) h1 rfl
  unfold cut at this ⊢
  simp only [Option.elim, clip_nat, Nat.min_self] at this ⊢
  rw [this, List.take_of_length_le (by simp)]
theorem cut_to {α : Type} {x : List α} {hi : Int} {j : Nat} (h2 : hi = j) : cut x none (some hi) = x.take j := by
  have := cut_ij (x := x) (lo := 0) (i := 0) rfl h2
  unfold cut at this ⊢
  simp only [Option.elim] at this ⊢
  rw [show clipAt x.length 0 = 0 by have := clip_nat x.length 0; assumption] at this
  trivial
theorem cut_butlast {α : Type} {x : List α} : cut x none (some (-1)) = x.dropLast := by
  unfold cut clipAt
  simp only [Option.elim]
  rw [if_pos (by decide), List.dropLast_eq_take]
  simp only [Nat.sub_zero, List.drop_zero]
  rw [clip_m1]
theorem cut_last {α : Type} {x : List α} : cut x (some (-1)) none = x.drop (x.length - 1) := by
  unfold cut clipAt
  simp only [Option.elim]
  rw [if_pos (by decide), List.take_of_length_le (by simp), clip_m1]
theorem lit_bs : (Str.ofString "\\").cps.toList = [92] := by decide
theorem lit_e : (Str.ofString "").cps.toList = [] := by decide
theorem lit_br : (Str.ofString "]").cps.toList = [93] := by decide
theorem lit_ob : (Str.ofString "[").cps.toList = [91] := by decide
theorem lit_hy : (Str.ofString "-").cps.toList = [45] := by decide
theorem lit_ex : (Str.ofString "!").cps.toList = [33] := by decide
theorem lit_st : (Str.ofString "*").cps.toList = [42] := by decide
theorem lit_qu : (Str.ofString "?").cps.toList = [63] := by decide
theorem lit_ca : (Str.ofString "^").cps.toList = [94] := by decide
theorem lit_a : (Str.ofString "a").cps.toList = [97] := by decide
theorem lit_b : (Str.ofString "b").cps.toList = [98] := by decide
theorem lit_c : (Str.ofString "c").cps.toList = [99] := by decide
theorem lit_sl : (Str.ofString "/").cps.toList = [47] := by decide
theorem lit_dot : (Str.ofString ".").cps.toList = [46] := by decide
theorem lit_sp : (Str.ofString "*?[").cps.toList = [42, 63, 91] := by decide
theorem lit_eh : (Str.ofString "!-]").cps.toList = [33, 45, 93] := by decide
theorem lit_he : (Str.ofString "[-!]").cps.toList = [91, 45, 33, 93] := by decide
theorem lit_bob : (Str.ofString "\\[").cps.toList = [92, 91] := by decide
theorem lit_bbs : (Str.ofString "\\\\").cps.toList = [92, 92] := by decide
theorem lit_bhy : (Str.ofString "\\-").cps.toList = [92, 45] := by decide
theorem lit_nev : (Str.ofString "(?!)").cps.toList = [40, 63, 33, 41] := by decide
theorem lit_any : (Str.ofString ".*").cps.toList = [46, 42] := by decide
theorem lit_dots : (Str.ofString "(?s:").cps.toList = [40, 63, 115, 58] := by decide
theorem lit_z : (Str.ofString ")\\Z").cps.toList = [41, 92, 90] := by decide
theorem lit_grp : (Str.ofString "(?>.*?").cps.toList = [40, 63, 62, 46, 42, 63] := by decide
theorem lit_cl : (Str.ofString ")").cps.toList = [41] := by decide
theorem lit_head : (Str.ofString "head").cps.toList = [104, 101, 97, 100] := by decide
theorem lit_group : (Str.ofString "group").cps.toList = [103, 114, 111, 117, 112] := by decide
theorem lit_tail : (Str.ofString "tail").cps.toList = [116, 97, 105, 108] := by decide
theorem lit_signs : (Str.ofString "]!-[*?\\^abcd&.\né").cps.toList = [93, 33, 45, 91, 42, 63, 92, 94, 97, 98, 99, 100, 38, 46, 10, 233] := by decide
noncomputable abbrev litT : List (String × List Nat) := [("\\", [92]), ("", []), ("]", [93]), ("[", [91]), ("-", [45]), ("!", [33]), ("*", [42]), ("?", [63]), ("^", [94]), ("a", [97]), ("b", [98]), ("c", [99]), ("/", [47]), (".", [46]), ("*?[", [42, 63, 91]), ("!-]", [33, 45, 93]), ("[-!]", [91, 45, 33, 93]), ("\\[", [92, 91]), ("\\\\", [92, 92]), ("\\-", [92, 45]), ("(?!)", [40, 63, 33, 41]), (".*", [46, 42]), ("(?s:", [40, 63, 115, 58]), (")\\Z", [41, 92, 90]), ("(?>.*?", [40, 63, 62, 46, 42, 63]), (")", [41]), ("head", [104, 101, 97, 100]), ("group", [103, 114, 111, 117, 112]), ("tail", [116, 97, 105, 108]), ("]!-[*?\\^abcd&.\né", [93, 33, 45, 91, 42, 63, 92, 94, 97, 98, 99, 100, 38, 46, 10, 233])]
theorem lits : ∀ p ∈ litT, (Str.ofString p.1).cps.toList = p.2 := by decide
theorem lit_of {a : String} {b : List Nat} (h : (a, b) ∈ litT) : (Str.ofString a).cps.toList = b := lits _ h
end
local macro_rules | `(tactic| walk_at "lit") => `(tactic| with_reducible (apply lit_of; walk_at "in1"))
section
theorem szLe {n : Nat} (h : Nat.ble n sizeLine = true) : n ≤ sizeLine := Nat.le_of_ble_eq_true h
theorem auto1 {op : CmpOp} {r : Expr} (h : behindInMarks op r = false) : behindInMarks op r = false := h
theorem auto2 {e : Expr} {rest : List Expr} (h : ∀ env, starEach (e :: rest) env = (false, eval e env) :: starEach rest env) : ∀ env, starEach (e :: rest) env = (false, eval e env) :: starEach rest env := h
theorem auto3 {e : Expr} (h : ∀ env whole, isTrue e env whole = (do let v ← whole; standAt e.pos; holding [v] (truthy v))) : ∀ env whole, isTrue e env whole = (do let v ← whole; standAt e.pos; holding [v] (truthy v)) := h
theorem auto4 {s : Expr} (h : NoSlice s) : NoSlice s := h
end
local macro_rules | `(tactic| walk_at "ev1") => `(tactic| with_reducible (first
  | (apply E.loc; walk_at "in")
  | apply E.int
  | (apply E.str; walk_at "lit")
  | apply E.cut | apply E.sub | apply E.bin | apply E.cmp
  | apply Part.some | apply Part.none
  | apply Es.cons | apply Es.nil
  | apply add_i | apply sub_i | apply eq_s | apply lt_i | apply le_i | apply gt_i | apply ge_i | apply eq_i | apply ne_i | apply add_s | apply iadd_s | apply iadd_i
  | apply Cut.str | (apply Cut.lst; apply Seqd.lst)
  | apply T.cmp | apply T.not | apply T.and_nil | apply T.or_nil | apply T.and | apply T.or
  | apply E.tuple | apply E.list | apply E.neg | apply E.none | apply E.bool
  | (apply E.ro; (exact Gl.H (by assumption)); walk_at "in")
  | apply T.val
  | apply ne_s | apply le_s | apply gt_s | apply in_s | apply notIn_s | apply mul_i | apply mod_i | apply div_i
  | apply Tr.bool | apply Tr.str | (apply Tr.seq; apply Seqd.lst)
  | apply len_s | (apply len_l; apply Seqd.lst) | apply ord_c
  | (apply szLe; with_unfolding_all rfl)
  | (apply auto1; with_unfolding_all rfl)
  | (apply auto2; intro _; with_unfolding_all rfl)
  | (apply auto3; intro _ _; with_unfolding_all rfl)
  | (apply auto4; intro _ _; with_unfolding_all rfl)
  | intro _
  | fail))
section
end
local macro_rules | `(tactic| walk_at "ev") => `(tactic| repeat' (walk_at "ev1"))
section
noncomputable def pOne (b : List Nat) (i : Nat) : List Nat × Nat := if (b.drop i).take 1 = [92] then ((b.drop (i + 1)).take 1, i + 2) else ((b.drop i).take 1, i + 1)
theorem one_spec {C : Cx} (G : Gl C) {b : List Nat} {i : Nat} (hb : b.length ≤ sizeLine) : Spec C 1 (G.v 23) [.str b, .int i] (.tup [.str (pOne b i).1, .int (pOne b i).2]) := by
  refine Spec.of G.H (G.fn 23 (by decide)).2 d23 rfl ⟨trivial, trivial, trivial⟩ ⟨trivial, trivial, trivial⟩ fun Γ F => ?_
  show X C 0 Γ (_ :: _ :: []) ⟨[("body", some (.str b)), ("at", some (.int i))], [], []⟩ _
  have c1 : cut b (some (i : Int)) (some ((i : Int) + 1)) = (b.drop i).take 1 := by rw [cut_ij (i := i) (j := i + 1) rfl (by rfl)]; congr 1; simp
  have c2 : cut b (some ((i : Int) + 1)) (some ((i : Int) + 2)) = (b.drop (i + 1)).take 1 := by rw [cut_ij (i := i + 1) (j := i + 2) (by rfl) (by rfl)]; congr 1; simp
  refine X.cons (X1.if (b := decide ((b.drop i).take 1 = [92])) ?_ (fun h => ?_) fun h => ?_)
  · refine T.eq (by walk_at "ev"; exact hb) ?_
    rw [c1]
  · refine X.cons (X1.ret (E.eq (by walk_at "ev"; exact hb) ?_) rfl)
    rw [c2, pOne, if_pos (by exact of_decide_eq_true (by assumption))]; simp
  · refine X.nil (X.cons (X1.ret (E.eq (by walk_at "ev"; exact hb) ?_) rfl))
    rw [c1, pOne, if_neg (by exact of_decide_eq_false (by assumption))]; simp
end
section
noncomputable abbrev Txt := List Nat
noncomputable abbrev Col := Bool × List (Txt × Txt)
noncomputable abbrev eMem (m : Txt × Txt) : D := .tup [.str m.1, .str m.2]
noncomputable abbrev eCol (c : Col) : D := .tup [.bool c.1, .lst (c.2.map eMem)]
noncomputable def hit (s : Txt) (m : Txt × Txt) : Bool := !decide (s < m.1) && !decide (m.2 < s)
noncomputable def pTakes (c : Col) (s : Txt) : Bool := if c.2.any (hit s) then !c.1 else c.1
theorem noCells_map {α : Type} {f : α → D} (h : ∀ a, NoCell (f a)) (l : List α) : NoCells (l.map f) := noCells_iff.mpr fun d hd => by (refine elEA (List.mem_map.mp hd) fun a _ z0 => ?_; subst z0); exact h a
theorem noCell_mem (m : Txt × Txt) : NoCell (eMem m) := ⟨trivial, trivial, trivial⟩
theorem noCell_col (c : Col) : NoCell (eCol c) := ⟨trivial, noCells_map noCell_mem _, trivial⟩
theorem d26 : DefOk (sc 26) (stParams (st 26)) (bd 26) (stName (st 26)) ["column", "sign"] ["barred", "members", "low", "high"] := by
  refine DefOk.mk' rfl rfl rfl ?_ (by decide +kernel) (by decide +kernel)
  intro pm code doc vs hv
  obtain ⟨a, b, rfl⟩ := len2 hv
  rfl
theorem takes_spec {C : Cx} (G : Gl C) {c : Col} {s : Txt} : Spec C 1 (G.v 26) [eCol c, .str s] (.bool (pTakes c s)) := by
  refine Spec.of G.H (G.fn 26 (by decide)).2 d26 rfl ⟨noCell_col c, trivial, trivial⟩ trivial fun Γ F => ?_
  show X C 0 Γ (_ :: _ :: _ :: []) ⟨[("column", some (eCol c)), ("sign", some (.str s)), ("barred", none), ("members", none), ("low", none), ("high", none)], [], []⟩ _
  refine X.cons (X1.assignT (by walk_at "ev") (Asg.tuple (.cons (Asg.name (by walk_at "upd")) (.cons (Asg.name (by walk_at "upd")) .nil))) ?_)
  refine X.cons (X1.for (Src.list (by walk_at "ev") (.inr ⟨⟨_, _, _, rfl⟩, fun d hd => ?_⟩))
    (fun i σ => (∃ l h, σ = ⟨[("column", some (eCol c)), ("sign", some (.str s)), ("barred", some (.bool c.1)), ("members", some (.lst (c.2.map eMem))), ("low", l), ("high", h)], [], []⟩) ∧ (c.2.take i).any (hit s) = false) ⟨⟨_, _, rfl⟩, rfl⟩ ?_ ?_)
  · (refine elEA (List.mem_map.mp hd) fun m _ z1 => ?_; subst z1); exact ⟨_, rfl⟩
  · rintro i d σ' hd ⟨⟨l, h, rfl⟩, hI⟩
    rw [List.getElem?_map] at hd
    cases hm : c.2[i]? with
    | none => rw [hm] at hd; cases hd
    | some m =>
    rw [hm] at hd; cases hd
    refine ⟨_, Asg.tuple (.cons (Asg.name (by walk_at "upd")) (.cons (Asg.name (by walk_at "upd")) .nil)), ?_⟩
    refine X.cons (X1.if (b := hit s m) (T.chain (by walk_at "ev") (by walk_at "ev") le_s (by walk_at "ev") le_s) (fun h => ?_) fun h => ?_)
    · refine X.cons (X1.ret (E.not (by walk_at "ev") Tr.bool) ?_)
      have : c.2.any (hit s) = true := List.any_eq_true.mpr ⟨m, List.mem_of_getElem? hm, h⟩
      show Fl.ret _ = _
      rw [pTakes, if_pos this]
    · refine X.nil (X.nil ⟨⟨_, _, rfl⟩, ?_⟩)
      rw [List.take_add_one, hm]
      simp [hI, h]
  · rintro σ' ⟨⟨l, h, rfl⟩, hI⟩
    refine X.cons (X1.ret (by walk_at "ev") ?_)
    rw [List.length_map, List.take_length] at hI
    show Fl.ret _ = _
    rw [pTakes, hI]; rfl
end
section
theorem DefOk.three {i : Nat} {ps ls : List Str} (hk : (sc i).kind = .function) (hco : (sc i).isCoroutine = false) (hg : (sc i).isGenerator = false) (hl : ps.length = 3)
    (hb : ∀ pm code doc a b c, bindArgs (docDef (stName (st i)) (stParams (st i)) (bd i) (sc i) pm code doc) ⟨[a, b, c], []⟩ = pure (ps.zip [a, b, c]))
    (hn : (ps ++ ls).all (fun x => ((sc i).names.lookup x == some .local || (sc i).names.lookup x == some .cell) && !(x == ("__debug__" : Str))) = true) (hd : (ps ++ ls).Nodup) : DefOk (sc i) (stParams (st i)) (bd i) (stName (st i)) ps ls :=
  DefOk.mk' hk hco hg (fun pm code doc vs hv => by
    obtain ⟨a, b, c, rfl⟩ := len3 (hv.trans hl)
    exact hb pm code doc a b c) hn hd
theorem DefOk.two {i : Nat} {ps ls : List Str} (hk : (sc i).kind = .function) (hco : (sc i).isCoroutine = false) (hg : (sc i).isGenerator = false) (hl : ps.length = 2)
    (hb : ∀ pm code doc a b, bindArgs (docDef (stName (st i)) (stParams (st i)) (bd i) (sc i) pm code doc) ⟨[a, b], []⟩ = pure (ps.zip [a, b]))
    (hn : (ps ++ ls).all (fun x => ((sc i).names.lookup x == some .local || (sc i).names.lookup x == some .cell) && !(x == ("__debug__" : Str))) = true) (hd : (ps ++ ls).Nodup) : DefOk (sc i) (stParams (st i)) (bd i) (stName (st i)) ps ls :=
  DefOk.mk' hk hco hg (fun pm code doc vs hv => by
    obtain ⟨a, b, rfl⟩ := len2 (hv.trans hl)
    exact hb pm code doc a b) hn hd
theorem DefOk.one {i : Nat} {ps ls : List Str} (hk : (sc i).kind = .function) (hco : (sc i).isCoroutine = false) (hg : (sc i).isGenerator = false) (hl : ps.length = 1)
    (hb : ∀ pm code doc a, bindArgs (docDef (stName (st i)) (stParams (st i)) (bd i) (sc i) pm code doc) ⟨[a], []⟩ = pure (ps.zip [a]))
    (hn : (ps ++ ls).all (fun x => ((sc i).names.lookup x == some .local || (sc i).names.lookup x == some .cell) && !(x == ("__debug__" : Str))) = true) (hd : (ps ++ ls).Nodup) : DefOk (sc i) (stParams (st i)) (bd i) (stName (st i)) ps ls :=
  DefOk.mk' hk hco hg (fun pm code doc vs hv => by
    obtain ⟨a, rfl⟩ := len1 (hv.trans hl)
    exact hb pm code doc a) hn hd
noncomputable def pStands (cols : List Col) (w : Txt) (at_ : Nat) : Bool := decide (at_ + cols.length ≤ w.length) && (cols.zip (w.drop at_)).all fun p => pTakes p.1 [p.2]
theorem d27 : DefOk (sc 27) (stParams (st 27)) (bd 27) (stName (st 27)) ["columns", "word", "at"] ["place", "column"] := DefOk.three rfl rfl rfl rfl (fun _ _ _ _ _ _ => rfl) (by decide +kernel) (by decide +kernel)
theorem fits63 {n : Nat} (h : n ≤ sizeLine) : n < 9223372036854775808 := by unfold sizeLine at h; exact Nat.lt_of_le_of_lt (by assumption) (by decide)
theorem fits62 {n : Nat} (h : n ≤ sizeLine) : (n : Int) < 2 ^ 62 := by unfold sizeLine at h; lia
theorem stands_spec {C : Cx} (G : Gl C) {cols : List Col} {w : Txt} {i : Nat} (hc : cols.length ≤ sizeLine) (hw : w.length ≤ sizeLine) : Spec C 2 (G.v 27) [.lst (cols.map eCol), .str w, .int i] (.bool (pStands cols w i)) := by
  refine Spec.of G.H (G.fn 27 (by decide)).2 d27 rfl ⟨noCells_map noCell_col _, trivial, trivial, trivial⟩ trivial fun Γ F => ?_
  show X C 1 Γ (_ :: _ :: _ :: []) ⟨[("columns", some (.lst (cols.map eCol))), ("word", some (.str w)), ("at", some (.int i)), ("place", none), ("column", none)], [], []⟩ _
  refine X.cons (X1.if (b := !decide (i + cols.length ≤ w.length)) (T.eq (T.or (by walk_at "ev") fun _ => T.or (T.cmp (E.bin (by walk_at "ev") (E.callB (E.gb G (kind_of F rfl) boot_len) (by walk_at "ev") (len_l (.lst _) (by rw [List.length_map]; exact fits63 hc))) add_i)
    (E.callB (E.gb G (kind_of F rfl) boot_len) (by walk_at "ev") (len_s (fits63 hw))) gt_i) fun _ => T.or_nil) ?_) (fun h => ?_) fun h => ?_)
  · rw [List.length_map, Bool.eq_iff_iff]; simp; lia
  · refine X.cons (X1.ret E.bool ?_)
    show Fl.ret _ = _
    have h : ¬ i + cols.length ≤ w.length := by simpa using h
    rw [pStands, decide_eq_false h]; rfl
  have hle : i + cols.length ≤ w.length := by simpa using h
  refine X.nil (X.cons (X1.for (Src.enum (E.gb G (kind_of F rfl) boot_enumerate') (by walk_at "ev"))
    (fun k σ => (∃ l h, σ = ⟨[("columns", some (.lst (cols.map eCol))), ("word", some (.str w)), ("at", some (.int i)), ("place", l), ("column", h)], [], []⟩) ∧ ((cols.zip (w.drop i)).take k).all (fun p => pTakes p.1 [p.2]) = true) ⟨⟨_, _, rfl⟩, by simp⟩ ?_ ?_))
  · rintro k d σ' hd ⟨⟨l, h, rfl⟩, hI⟩
    rw [List.getElem?_mapIdx, List.getElem?_map] at hd
    cases hm : cols[k]? with
    | none => rw [hm] at hd; cases hd
    | some c =>
    rw [hm] at hd; cases hd
    have hk := (List.getElem?_eq_some_iff.mp hm).1
    have hwk : i + k < w.length := by lia
    have hch : w[i + k]? = some w[i + k] := List.getElem?_eq_getElem hwk
    refine ⟨_, Asg.tuple (.cons (Asg.name (by walk_at "upd")) (.cons (Asg.name (by walk_at "upd")) .nil)), ?_⟩
    have hsub : ∀ (s : Expr), NoSlice s → Sub C 1 Γ ⟨[("columns", some (.lst (cols.map eCol))), ("word", some (.str w)), ("at", some (.int i)), ("place", some (.int k)), ("column", some (eCol c))], [], []⟩ s (.str w) (.int (i + k)) (.str [w[i + k]]) := fun s hs =>
      Sub.str (by lia) (fits63 hw) (by rw [if_neg (by lia)]; exact hch) (by exact Int.ofNat_lt.mpr (by assumption)) hs
    refine X.cons (X1.if (b := !pTakes c [w[i + k]]) (T.not (T.val (E.callF G.H (E.gf G 26 (kind_of F rfl)) (.cons (by walk_at "ev") (.cons (E.sub (by walk_at "ev") (by walk_at "ev") (hsub _ (by intro _ _; with_unfolding_all rfl))) .nil)) (takes_spec G) (by exact Nat.le_refl _) ⟨noCell_col c, trivial, trivial⟩ trivial) Tr.bool)) (fun h => ?_) fun h => ?_)
    · refine X.cons (X1.ret E.bool ?_)
      show Fl.ret _ = _
      rw [pStands, decide_eq_true hle]
      congr 2
      symm
      rw [Bool.true_and, List.all_eq_false]
      refine ⟨(c, w[i + k]), List.mem_of_getElem? (i := k) ?_, by simpa using h⟩
      rw [List.getElem?_zip_eq_some]
      exact ⟨hm, by rw [List.getElem?_drop]; exact hch⟩
    · refine X.nil (X.nil ⟨⟨_, _, rfl⟩, ?_⟩)
      have hz : (cols.zip (w.drop i))[k]? = some (c, w[i + k]) := by
        rw [List.getElem?_zip_eq_some]
        exact ⟨hm, by rw [List.getElem?_drop]; exact hch⟩
      rw [List.take_add_one, hz, Option.toList_some, List.all_append, hI]
      simpa using h
  · rintro σ' ⟨⟨l, h, rfl⟩, hI⟩
    refine X.cons (X1.ret E.bool ?_)
    show Fl.ret _ = _
    have : (List.mapIdx (fun i d => D.tup [D.int i, d]) (cols.map eCol)).length = cols.length := by simp
    rw [this, List.take_of_length_le (by simp; grind)] at hI
    rw [pStands, decide_eq_true hle, hI]; rfl
end
section
inductive SK where
  | head | group | tail
  deriving DecidableEq
noncomputable def SK.txt : SK → Txt
  | .head => [104, 101, 97, 100]
  | .group => [103, 114, 111, 117, 112]
  | .tail => [116, 97, 105, 108]
noncomputable abbrev Seg := SK × List Col
noncomputable abbrev eSeg (s : Seg) : D := .tup [.str s.1.txt, .lst (s.2.map eCol)]
theorem noCell_seg (s : Seg) : NoCell (eSeg s) := ⟨trivial, noCells_map noCell_col _, trivial⟩
noncomputable def pSkip (cols : List Col) (w : Txt) : Nat → Nat → Nat
  | 0, a => a
  | f + 1, a => if (decide (a + cols.length ≤ w.length) && !pStands cols w a) = true then pSkip cols w f (a + 1) else a
noncomputable def pKeeps : List Seg → Txt → Nat → Bool
  | [], w, a => decide (a = w.length)
  | (.head, cols) :: r, w, a => pStands cols w a && pKeeps r w (a + cols.length)
  | (.group, cols) :: r, w, a => pStands cols w (pSkip cols w (w.length + 1) a) && pKeeps r w (pSkip cols w (w.length + 1) a + cols.length)
  | (.tail, cols) :: r, w, a => decide (a + cols.length ≤ w.length) && (pStands cols w (w.length - cols.length) && pKeeps r w (w.length - cols.length + cols.length))
theorem d28 : DefOk (sc 28) (stParams (st 28)) (bd 28) (stName (st 28)) ["segments", "word"] ["at", "kind", "columns"] := DefOk.two rfl rfl rfl rfl (fun _ _ _ _ _ => rfl) (by decide +kernel) (by decide +kernel)
noncomputable abbrev S28 (segs : List Seg) (w : Txt) (a : Nat) (k c : Option D) : St := ⟨[("segments", some (.lst (segs.map eSeg))), ("word", some (.str w)), ("at", some (.int a)), ("kind", k), ("columns", c)], [], []⟩
noncomputable def forTail (ss : List Stmt) : List Stmt := (stBody (nthS ss 1)).tail
theorem keeps_spec {C : Cx} (G : Gl C) {segs : List Seg} {w : Txt} (hs : ∀ s ∈ segs, s.2.length ≤ sizeLine) (hw : w.length ≤ sizeLine) : Spec C 3 (G.v 28) [.lst (segs.map eSeg), .str w] (.bool (pKeeps segs w 0)) := by
  refine Spec.of G.H (G.fn 28 (by decide)).2 d28 rfl ⟨noCells_map noCell_seg _, trivial, trivial⟩ trivial fun Γ F => ?_
  have stands : ∀ {cols : List Col} {a : Nat} {k : Option D} {p1 p2 p3 p4 p5}, cols.length ≤ sizeLine → E C 2 Γ (.Call (.Name "_law_stands" p1) [.Name "columns" p2, .Name "word" p3, .Name "at" p4] [] p5) (S28 segs w a k (some (.lst (cols.map eCol)))) (.bool (pStands cols w a)) := fun {cols a k p1 p2 p3 p4 p5} hc =>
    E.callF G.H (E.gf G 27 (kind_of F rfl)) (.cons (E.loc (by walk_at "in")) (.cons (E.loc (by walk_at "in")) (.cons (E.loc (by walk_at "in")) .nil))) (stands_spec G hc hw) (by exact Nat.le_refl _) ⟨noCells_map noCell_col _, trivial, trivial, trivial⟩ trivial
  have lenw : ∀ {a : Nat} {k c : Option D} {p1 p2 p3}, E C 2 Γ (.Call (.Name "len" p1) [.Name "word" p2] [] p3) (S28 segs w a k c) (.int w.length) := fun {a k c p1 p2 p3} =>
    E.callB (E.gb G (kind_of F rfl) boot_len) (.cons (E.loc (by walk_at "in")) .nil) (len_s (fits63 hw))
  have lenc : ∀ {cols : List Col} {a : Nat} {k : Option D} {p1 p2 p3}, cols.length ≤ sizeLine → E C 2 Γ (.Call (.Name "len" p1) [.Name "columns" p2] [] p3) (S28 segs w a k (some (.lst (cols.map eCol)))) (.int cols.length) := fun {cols a k p1 p2 p3} hc => by
    have := E.callB (C := C) (n := 2) (Γ := Γ) (σ := S28 segs w a k (some (.lst (cols.map eCol)))) (p := p1) (pos := p3) (E.gb G (kind_of F rfl) boot_len) (.cons (e := .Name "columns" p2) (E.loc (by walk_at "in")) .nil) (len_l (.lst _) (by rw [List.length_map]; exact fits63 hc))
    rw [List.length_map] at this; exact this
  show X C 2 Γ (_ :: _ :: _ :: []) ⟨[("segments", some (.lst (segs.map eSeg))), ("word", some (.str w)), ("at", none), ("kind", none), ("columns", none)], [], []⟩ _
  refine X.cons (X1.assign (by walk_at "ev") (by walk_at "upd") ?_)
  refine X.cons (X1.for (Src.list (by walk_at "ev") (.inr ⟨⟨_, _, _, rfl⟩, fun d hd => ?_⟩))
    (fun i σ => ∃ (a : Nat) (k c : Option D), σ = S28 segs w a k c ∧ pKeeps (segs.drop i) w a = pKeeps segs w 0) ⟨0, _, _, rfl, rfl⟩ ?_ ?_)
  · (refine elEA (List.mem_map.mp hd) fun m _ z0 => ?_; subst z0); exact ⟨_, rfl⟩
  · (intro i d σ' hd z1; refine elEEEA z1 fun a k c z2 hI => ?_; clear z1; subst z2)
    rw [List.getElem?_map] at hd
    cases hm : segs[i]? with
    | none => rw [hm] at hd; cases hd
    | some sg =>
    rw [hm] at hd; cases hd
    obtain ⟨kd, cols⟩ := sg
    have hlt := (List.getElem?_eq_some_iff.mp hm).1
    have hdrop : segs.drop i = (kd, cols) :: segs.drop (i + 1) := by
      rw [List.drop_eq_getElem_cons hlt, (List.getElem?_eq_some_iff.mp hm).2]
    have hc : cols.length ≤ sizeLine := hs _ (List.mem_of_getElem? hm)
    rw [hdrop] at hI
    refine ⟨S28 segs w a (some (.str kd.txt)) (some (.lst (cols.map eCol))), Asg.tuple (.cons (Asg.name (by walk_at "upd")) (.cons (Asg.name (by walk_at "upd")) .nil)), ?_⟩
    have rest : ∀ (a' : Nat), pKeeps segs w 0 = (pStands cols w a' && pKeeps (segs.drop (i + 1)) w (a' + cols.length)) →
        X C 2 Γ (forTail (bd 28)) (S28 segs w a' (some (.str kd.txt)) (some (.lst (cols.map eCol)))) (fun fl σ₃ => match fl with
          | .next | .cont => ∃ (a : Nat) (k c : Option D), σ₃ = S28 segs w a k c ∧ pKeeps (segs.drop (i + 1)) w a = pKeeps segs w 0
          | .brk => Then Γ C 2 ((bd 28).tail.tail) (fun fl _ => fl = .ret (.bool (pKeeps segs w 0))) .next σ₃ | .ret d => Then Γ C 2 ((bd 28).tail.tail) (fun fl _ => fl = .ret (.bool (pKeeps segs w 0))) (.ret d) σ₃) := by
      intro a' he
      show X C 2 Γ (_ :: _ :: []) _ _
      refine X.cons (X1.if (b := !pStands cols w a') (T.not (T.val (stands hc) Tr.bool)) (fun h => ?_) fun h => ?_)
      · refine X.cons (X1.ret E.bool ?_)
        show Fl.ret _ = _
        rw [he, show pStands cols w a' = false by simpa using h]; rfl
      · refine X.nil (X.cons (X1.aug (a := .int a') (by walk_at "in") (lenc hc) iadd_i (by walk_at "upd") (X.nil ?_)))
        refine ⟨a' + cols.length, _, _, rfl, ?_⟩
        rw [he, show pStands cols w a' = true by simpa using h]; rfl
    cases kd with
    | head =>
      refine X.cons (X1.if (b := false) (T.eq (by walk_at "ev") (by decide)) (fun h => by cases h) fun _ => ?_)
      refine X.cons (X1.if (b := false) (T.eq (by walk_at "ev") (by decide)) (fun h => by cases h) fun _ => X.nil (X.nil ?_))
      exact rest a (by rw [← hI]; rfl)
    | tail =>
      refine X.cons (X1.if (b := false) (T.eq (by walk_at "ev") (by decide)) (fun h => by cases h) fun _ => ?_)
      refine X.cons (X1.if (b := true) (T.eq (by walk_at "ev") (by decide)) (fun _ => ?_) fun h => by cases h)
      refine X.cons (X1.if (b := !decide (a + cols.length ≤ w.length)) (T.eq (T.cmp (by walk_at "ev") (E.bin lenw (lenc hc) sub_i) gt_i) ?_) (fun h => ?_) fun h => ?_)
      · rw [Bool.eq_iff_iff]; simp; lia
      · refine X.cons (X1.ret E.bool ?_)
        show Fl.ret _ = _
        have h : ¬ a + cols.length ≤ w.length := by simpa using h
        rw [← hI, pKeeps, decide_eq_false h]; rfl
      · have hle : a + cols.length ≤ w.length := by simpa using h
        refine X.nil (X.cons (X1.assign (E.eq (E.bin lenw (lenc hc) sub_i) (show _ = D.int ((w.length - cols.length : Nat) : Int) by congr 1; lia)) (by walk_at "upd") (X.nil (X.nil ?_))))
        exact rest (w.length - cols.length) (by rw [← hI, pKeeps, decide_eq_true hle]; rfl)
    | group =>
      refine X.cons (X1.if (b := true) (T.eq (by walk_at "ev") (by decide)) (fun _ => ?_) fun h => by cases h)
      refine X.cons (X1.while (fun m σ => ∃ a' : Nat, σ = S28 segs w a' (some (.str SK.group.txt)) (some (.lst (cols.map eCol))) ∧ pSkip cols w m a' = pSkip cols w (w.length + 1) a ∧ w.length < a' + m) (k₀ := w.length + 1) ⟨a, rfl, rfl, by exact Nat.le_add_left _ _⟩ ?_)
      (intro m σ' z3; refine elEAA z3 fun a' z4 he hm' => ?_; clear z3; subst z4)
      refine ⟨decide (a' + cols.length ≤ w.length) && !pStands cols w a', T.eq (T.and (T.cmp (E.bin (by walk_at "ev") (lenc hc) add_i) lenw le_i) fun _ => T.and (T.not (T.val (stands hc) Tr.bool)) fun _ => T.and_nil) ?_, fun hb => ?_, fun hb => ?_⟩
      · rw [Bool.and_true]; congr 1
        rw [Bool.eq_iff_iff]; simp; exact Int.ofNat_le
      · obtain ⟨m, rfl⟩ : ∃ j, m = j + 1 := ⟨m - 1, by
          have : a' + cols.length ≤ w.length := by simp at hb; exact hb.1
          exact (Nat.sub_add_cancel (by lia)).symm⟩
        refine X.cons (X1.aug (a := .int a') (by walk_at "in") (by walk_at "ev") iadd_i (by walk_at "upd") (X.nil ?_))
        refine ⟨m, Nat.lt_succ_self _, a' + 1, rfl, ?_, by simp_all +arith⟩
        rw [← he, pSkip, if_pos hb]
      · have : a' = pSkip cols w (w.length + 1) a := by
          rw [← he]
          cases m with
          | zero => rfl
          | succ m => rw [pSkip, if_neg (by rw [hb]; decide)]
        refine X.nil (rest a' ?_)
        rw [← hI, this]; rfl
  · (intro σ' z5; refine elEEEA z5 fun a k c z6 hI => ?_; clear z5; subst z6)
    refine X.cons (X1.ret (E.cmp (by walk_at "ev") lenw eq_i) ?_)
    rw [List.length_map, List.drop_length] at hI
    show Fl.ret _ = _
    rw [← hI, pKeeps]
    congr 2
    rw [Bool.eq_iff_iff]; simp; exact Int.ofNat_inj
end
section
theorem fdiv_nat (n k : Nat) : ((n : Int).fdiv (k : Int)) = ((n / k : Nat) : Int) := by
  rw [Int.fdiv_eq_ediv_of_nonneg _ (by exact Int.natCast_nonneg _)]; rfl
theorem fmod_nat (n k : Nat) : ((n : Int).fmod (k : Int)) = ((n % k : Nat) : Int) := by
  rw [Int.fmod_eq_emod_of_nonneg _ (by exact Int.natCast_nonneg _)]; rfl
theorem nopy (x : Int) (k : Nat) (hk : k < 2 ^ 30) : Builtin.divisionGoesByPylong x k = false := by
  unfold Builtin.divisionGoesByPylong
  have : (if ((k : Int) == 0) = true then 0 else (k : Int).natAbs.log2 / 30 + 1) ≤ 1 := by
    split
    · simp
    · have : (k : Int).natAbs.log2 < 30 := by
        rw [Int.natAbs_natCast]
        by_cases h0 : k = 0
        · subst h0; decide
        · exact (Nat.log2_lt h0).mpr hk
      simp_all
  simp only [Bool.and_eq_false_iff, decide_eq_false_iff_not]
  left; omega
theorem mulok {a b : Int} (h : Builtin.Int.intBits a ≤ 64) : IntMulOk a b := IntMulOk.of_left h
noncomputable def third (n : Txt) : Nat := n.length / 3
noncomputable def pBelongs (k : Nat) (n w : Txt) : Bool :=
  if k = 0 then decide (w = n) else if k = 1 then decide (n <+: w) else if k = 2 then decide (n <:+ w) else if k = 3 then subB n w
  else if k = 4 then decide (w.length = n.length + 1) && decide (n <+: w)
  else decide (2 * third n ≤ w.length) && (decide (n.take (third n) <+: w) && (decide (n.drop (n.length - third n) <:+ w) && subB ((n.drop (third n)).take (n.length - third n - third n)) ((w.drop (third n)).take (w.length - third n - third n))))
theorem d17 : DefOk (sc 17) (stParams (st 17)) (bd 17) (stName (st 17)) ["kind", "name", "word"] ["third", "rest"] := DefOk.three rfl rfl rfl rfl (fun _ _ _ _ _ _ => rfl) (by decide +kernel) (by decide +kernel)
noncomputable abbrev S17 (k : Nat) (n w : Txt) (t r : Option D) : St := ⟨[("kind", some (.int k)), ("name", some (.str n)), ("word", some (.str w)), ("third", t), ("rest", r)], [], []⟩
theorem belongs_spec {C : Cx} (G : Gl C) {k : Nat} {n w : Txt} (hn : n.length ≤ sizeLine) (hw : w.length ≤ sizeLine) : Spec C 1 (G.v 17) [.int k, .str n, .str w] (.bool (pBelongs k n w)) := by
  refine Spec.of G.H (G.fn 17 (by decide)).2 d17 rfl ⟨trivial, trivial, trivial, trivial⟩ trivial fun Γ F => ?_
  have lenw : ∀ {t r : Option D} {p1 p2 p3}, E C 0 Γ (.Call (.Name "len" p1) [.Name "word" p2] [] p3) (S17 k n w t r) (.int w.length) := fun {t r p1 p2 p3} =>
    E.callB (E.gb G (kind_of F rfl) boot_len) (.cons (E.loc (by walk_at "in")) .nil) (len_s (fits63 hw))
  have lenn : ∀ {t r : Option D} {p1 p2 p3}, E C 0 Γ (.Call (.Name "len" p1) [.Name "name" p2] [] p3) (S17 k n w t r) (.int n.length) := fun {t r p1 p2 p3} =>
    E.callB (E.gb G (kind_of F rfl) boot_len) (.cons (E.loc (by walk_at "in")) .nil) (len_s (fits63 hn))
  show X C 0 Γ (_ :: _ :: _ :: _ :: _ :: _ :: _ :: _ :: []) (S17 k n w none none) _
  have kk : ∀ j : Nat, (decide ((k : Int) = (j : Int))) = decide (k = j) := fun j => by rw [Bool.eq_iff_iff]; simp; exact Int.ofNat_inj
  refine X.cons (X1.if (b := decide (k = 0)) (T.eq (by walk_at "ev") (by exact kk 0)) (fun h => ?_) fun h => X.nil ?_)
  · refine X.cons (X1.ret (by walk_at "ev") ?_)
    show Fl.ret _ = _
    rw [pBelongs, if_pos (by exact of_decide_eq_true (by assumption))]
  have h0 : k ≠ 0 := by exact of_decide_eq_false (by assumption)
  refine X.cons (X1.if (b := decide (k = 1)) (T.eq (by walk_at "ev") (by exact kk 1)) (fun h => ?_) fun h => X.nil ?_)
  · refine X.cons (X1.ret (E.meth (by walk_at "ev") (by walk_at "ev") (fun _ _ _ _ _ _ _ _ _ hd q => gm_startswith hd q) starts_s) ?_)
    show Fl.ret _ = _
    rw [pBelongs, if_neg h0, if_pos (by exact of_decide_eq_true (by assumption))]
  have h1 : k ≠ 1 := by exact of_decide_eq_false (by assumption)
  refine X.cons (X1.if (b := decide (k = 2)) (T.eq (by walk_at "ev") (by exact kk 2)) (fun h => ?_) fun h => X.nil ?_)
  · refine X.cons (X1.ret (E.meth (by walk_at "ev") (by walk_at "ev") (fun _ _ _ _ _ _ _ _ _ hd q => gm_endswith hd q) ends_s) ?_)
    show Fl.ret _ = _
    rw [pBelongs, if_neg h0, if_neg h1, if_pos (by exact of_decide_eq_true (by assumption))]
  have h2 : k ≠ 2 := by exact of_decide_eq_false (by assumption)
  refine X.cons (X1.if (b := decide (k = 3)) (T.eq (by walk_at "ev") (by exact kk 3)) (fun h => ?_) fun h => X.nil ?_)
  · refine X.cons (X1.ret (by walk_at "ev") ?_)
    show Fl.ret _ = _
    rw [pBelongs, if_neg h0, if_neg h1, if_neg h2, if_pos (by exact of_decide_eq_true (by assumption))]
  have h3 : k ≠ 3 := by exact of_decide_eq_false (by assumption)
  refine X.cons (X1.if (b := decide (k = 4)) (T.eq (by walk_at "ev") (by exact kk 4)) (fun h => ?_) fun h => X.nil ?_)
  · refine X.cons (X1.ret (E.and (p := decide (w.length = n.length + 1)) (E.eq (E.cmp lenw (E.bin lenn (by walk_at "ev") add_i) eq_i) ?_) fun _ => E.bool1 (E.meth (by walk_at "ev") (by walk_at "ev") (fun _ _ _ _ _ _ _ _ _ hd q => gm_startswith hd q) starts_s)) ?_)
    · congr 1; rw [Bool.eq_iff_iff]; simp; exact Int.ofNat_inj
    show Fl.ret _ = _
    rw [pBelongs, if_neg h0, if_neg h1, if_neg h2, if_neg h3, if_pos (by exact of_decide_eq_true (by assumption))]
  have h4 : k ≠ 4 := by exact of_decide_eq_false (by assumption)
  refine X.cons (X1.assign (d := .int (third n : Nat)) (E.eq (E.bin lenn (by walk_at "ev") (div_i (by decide) (by exact nopy _ 3 (by decide)))) (by exact congrArg D.int (fdiv_nat n.length 3))) (by walk_at "upd") ?_)
  have ht : third n ≤ n.length := Nat.div_le_self _ _
  refine X.cons (X1.assign (d := .int (n.length - third n : Nat)) (E.eq (E.bin lenn (by walk_at "ev") sub_i) (by congr 1; norm_cast)) (by walk_at "upd") ?_)
  refine X.cons (X1.ret (d := .bool (pBelongs k n w)) ?_ rfl)
  rw [show pBelongs k n w = (decide (2 * third n ≤ w.length) && (decide (n.take (third n) <+: w) && (decide (n.drop (n.length - third n) <:+ w) && subB ((n.drop (third n)).take (n.length - third n - third n)) ((w.drop (third n)).take (w.length - third n - third n))))) by
    rw [pBelongs, if_neg h0, if_neg h1, if_neg h2, if_neg h3, if_neg h4]]
  refine E.and (E.eq (E.cmp lenw (E.bin (by walk_at "ev") (by walk_at "ev") (mul_i (mulok (by decide)))) ge_i) (by congr 1; rw [Bool.eq_iff_iff]; simp; exact Int.ofNat_le)) fun hle => ?_
  have hle : 2 * third n ≤ w.length := by exact of_decide_eq_true (by assumption)
  refine E.and (E.meth (by walk_at "ev") (.cons (E.eq (E.cut (by walk_at "ev") .none (.some (by walk_at "ev")) (Cut.str hn)) (by rw [cut_to rfl])) .nil) (fun _ _ _ _ _ _ _ _ _ hd q => gm_startswith hd q) starts_s) fun _ => ?_
  refine E.and (E.meth (by walk_at "ev") (.cons (E.eq (E.cut (by walk_at "ev") (.some (by walk_at "ev")) .none (Cut.str hn)) (by rw [cut_i rfl])) .nil) (fun _ _ _ _ _ _ _ _ _ hd q => gm_endswith hd q) ends_s) fun _ => ?_
  refine E.bool1 (E.cmp (E.eq (E.cut (by walk_at "ev") (.some (by walk_at "ev")) (.some (by walk_at "ev")) (Cut.str hn)) (by rw [cut_ij rfl rfl])) (E.eq (E.cut (by walk_at "ev") (.some (by walk_at "ev")) (.some (E.bin lenw (by walk_at "ev") sub_i)) (Cut.str hw)) (by rw [cut_ij rfl (j := w.length - third n) (by lia)])) in_s)
end
section
variable {C : Cx} {n : Nat} {Γ : Fx} {σ : St} {Q : Fl → St → Prop}
noncomputable def chk (scope s : Scope) (locs gn : List Str) : Bool :=
  (match scope.kind with | .function => true | _ => false) && scope.names.all (fun x => !(x.2 == .cell) && (!(x.2 == .local) || scope.names.lookup x.1 == some .local)) &&
  (freeNames scope).all (fun y => s.names.lookup y == some .cell) && locs.all (fun x => scope.names.lookup x == some .local && !(x == ("__debug__" : Str))) &&
  gn.all (fun y => scope.names.lookup y == some .free && s.names.lookup y == some .cell)
theorem CSt.of {i : Nat} {scope : Scope} {locs gn : List Str} {gl : List (Str × D)} {ds out : List D} (F : Frm Γ (sc i)) (h : chk scope (sc i) locs gn = true) (hd : locs.Nodup) (hgl : ∀ p ∈ gl, NoCell p.2 ∧ (p.1, some p.2) ∈ σ.loc)
    (hds : ∀ d ∈ ds, NoCell d) (hout : NoCells out) (hg : autoParam (gl.map (·.1) = gn) tacB) : CSt C n Γ scope σ locs gl ds out := by
  subst hg
  simp only [chk, Bool.and_eq_true, List.all_eq_true, Bool.or_eq_true, Bool.not_eq_true', beq_iff_eq] at h
  obtain ⟨⟨⟨⟨h1, h2⟩, h3⟩, h4⟩, h5⟩ := h
  refine ⟨?_, fun x hx => ⟨by simpa using (h2 x hx).1, fun e => (h2 x hx).2.resolve_left (by rw [e]; decide)⟩, fun y hy => F.cellsIs y (h3 y hy), fun x hx => h4 x hx, hd, fun p hp => ?_, hds, hout⟩
  · revert h1; cases scope.kind <;> simp
  · obtain ⟨q1, q2⟩ := h5 p.1 (List.mem_map.mpr ⟨p, hp, rfl⟩)
    exact ⟨q1, kind_of F q2, (hgl p hp).1, .inl (hgl p hp).2⟩
theorem CSt.bare {scope : Scope} {locs : List Str} {ds out : List D} (h : chk scope default locs [] = true) (hf : freeNames scope = []) (hd : locs.Nodup)
    (hds : ∀ d ∈ ds, NoCell d) (hout : NoCells out) : CSt C n Γ scope σ locs [] ds out := by
  simp only [chk, Bool.and_eq_true, List.all_eq_true, Bool.or_eq_true, Bool.not_eq_true', beq_iff_eq] at h
  obtain ⟨⟨⟨⟨h1, h2⟩, h3⟩, h4⟩, h5⟩ := h
  refine ⟨?_, fun x hx => ⟨by simpa using (h2 x hx).1, fun e => (h2 x hx).2.resolve_left (by rw [e]; decide)⟩, fun y hy => (by rw [hf] at hy; cases hy), fun x hx => h4 x hx, hd, fun p hp => (by cases hp), hds, hout⟩
  revert h1; cases scope.kind <;> simp
theorem outs_filter {α : Type} (e : α → D) (p : α → Bool) (as : List α) : outs (fun i d => (as[i]?).bind fun a => if p a then some (e a) else none) (as.map e) = (as.filter p).map e := by
  unfold outs
  suffices H : ∀ (bs : List α) (k : Nat), (∀ j, as[k + j]? = bs[j]?) → ((bs.map e).zipIdx k).filterMap (fun q => (as[q.2]?).bind fun a => if p a then some (e a) else none) = (bs.filter p).map e from H as 0 (by simp)
  intro bs
  induction bs with
  | nil => intro k _; rfl
  | cons b bs ih =>
    intro k hk
    have h0 := hk 0
    simp only [Nat.add_zero, List.getElem?_cons_zero] at h0
    rw [List.map_cons, List.zipIdx_cons, List.filterMap_cons, List.filter_cons]
    simp only [h0, Option.bind_some]
    rw [ih (k + 1) (fun j => by have := hk (j + 1); simpa [Nat.add_comm, Nat.add_left_comm, Nat.add_assoc] using this)]
    cases p b <;> exact List.nil_append _
theorem outs_map {α : Type} (e : α → D) (f : α → D) (as : List α) : outs (fun i d => (as[i]?).map f) (as.map e) = as.map f := by
  unfold outs
  suffices H : ∀ (bs : List α) (k : Nat), (∀ j, as[k + j]? = bs[j]?) → ((bs.map e).zipIdx k).filterMap (fun q => (as[q.2]?).map f) = bs.map f from H as 0 (by simp)
  intro bs
  induction bs with
  | nil => intro k _; rfl
  | cons b bs ih =>
    intro k hk
    have h0 := hk 0
    simp only [Nat.add_zero, List.getElem?_cons_zero] at h0
    rw [List.map_cons, List.zipIdx_cons, List.filterMap_cons]
    simp only [h0, Option.map_some]
    rw [ih (k + 1) (fun j => by have := hk (j + 1); simpa [Nat.add_comm, Nat.add_left_comm, Nat.add_assoc] using this)]
    rfl
theorem noCells_str (l : List Txt) : NoCells (l.map .str) := noCells_iff.mpr fun d hd => by (refine elEA (List.mem_map.mp hd) fun a _ z0 => ?_; subst z0); trivial
noncomputable abbrev Row := Nat × List (List Nat) × List Txt
noncomputable abbrev eCh (c : Nat) : D := .str [c]
noncomputable abbrev eRow (r : Row) : D := .tup [.int r.1, .lst (r.2.1.map fun c => .lst (c.map eCh)), .lst (r.2.2.map .str)]
theorem noCell_row (r : Row) : NoCell (eRow r) := ⟨trivial, noCells_map (f := fun c : List Nat => D.lst (c.map eCh)) (fun c => (noCells_map (f := eCh) (fun _ => trivial) c : NoCells (c.map eCh))) _, noCells_str _, trivial⟩
noncomputable def pOneOf (r : Row) (w : Txt) : Bool := r.2.2.any fun n => pBelongs r.1 n w
theorem d18 : DefOk (sc 18) (stParams (st 18)) (bd 18) (stName (st 18)) ["row", "word"] ["kind", "columns", "names", "name"] := DefOk.two rfl rfl rfl rfl (fun _ _ _ _ _ => rfl) (by decide +kernel) (by decide +kernel)
noncomputable abbrev S18 (r : Row) (w : Txt) (a : Option D) : St := ⟨[("row", some (eRow r)), ("word", some (.str w)), ("kind", some (.int r.1)), ("columns", some (.lst (r.2.1.map fun c => .lst (c.map eCh)))), ("names", some (.lst (r.2.2.map .str))), ("name", a)], [], []⟩
theorem oneof_spec {C : Cx} (G : Gl C) {r : Row} {w : Txt} (hn : ∀ n ∈ r.2.2, n.length ≤ sizeLine) (hw : w.length ≤ sizeLine) : Spec C 2 (G.v 18) [eRow r, .str w] (.bool (pOneOf r w)) := by
  refine Spec.of G.H (G.fn 18 (by decide)).2 d18 rfl ⟨noCell_row r, trivial, trivial⟩ trivial fun Γ F => ?_
  show X C 1 Γ (_ :: _ :: _ :: []) ⟨[("row", some (eRow r)), ("word", some (.str w)), ("kind", none), ("columns", none), ("names", none), ("name", none)], [], []⟩ _
  refine X.cons (X1.assignT (by walk_at "ev") (Asg.tuple (.cons (Asg.name (by walk_at "upd")) (.cons (Asg.name (by walk_at "upd")) (.cons (Asg.name (by walk_at "upd")) .nil)))) ?_)
  refine X.cons (X1.for (Src.list (by walk_at "ev") (.inl fun _ _ => rfl)) (fun i σ => ∃ a, σ = S18 r w a ∧ (r.2.2.take i).any (fun n => pBelongs r.1 n w) = false) ⟨_, rfl, rfl⟩ ?_ ?_)
  · (intro i d σ' hd z1; refine elEA z1 fun a z2 hI => ?_; clear z1; subst z2)
    rw [List.getElem?_map] at hd
    cases hm : r.2.2[i]? with
    | none => rw [hm] at hd; cases hd
    | some nm =>
    rw [hm] at hd; cases hd
    refine ⟨S18 r w (some (.str nm)), Asg.name (by walk_at "upd"), ?_⟩
    refine X.cons (X1.if (b := pBelongs r.1 nm w) (T.val (E.callF G.H (E.gf G 17 (kind_of F rfl)) (.cons (by walk_at "ev") (.cons (by walk_at "ev") (.cons (by walk_at "ev") .nil))) (belongs_spec G (hn nm (List.mem_of_getElem? hm)) hw) (by exact Nat.le_refl _) ⟨trivial, trivial, trivial, trivial⟩ trivial) Tr.bool) (fun h => ?_) fun h => ?_)
    · refine X.cons (X1.ret E.bool ?_)
      show Fl.ret _ = _
      rw [pOneOf, List.any_eq_true.mpr ⟨nm, List.mem_of_getElem? hm, h⟩]
    · refine X.nil (X.nil ⟨_, rfl, ?_⟩)
      rw [List.take_add_one, hm, Option.toList_some, List.any_append, hI]; simpa using h
  · (intro σ' z3; refine elEA z3 fun a z4 hI => ?_; clear z3; subst z4)
    refine X.cons (X1.ret E.bool ?_)
    rw [List.length_map, List.take_length] at hI
    show Fl.ret _ = _
    rw [pOneOf, hI]
noncomputable def pCutTold (r o : Row) (w : Txt) : Bool := (List.range w.length).any fun k => decide (w[k]? = some 47) && (pOneOf r (w.take k) && pOneOf o (w.drop (k + 1)))
theorem d32 : DefOk (sc 32) (stParams (st 32)) (bd 32) (stName (st 32)) ["row", "other", "word"] ["cut"] := DefOk.three rfl rfl rfl rfl (fun _ _ _ _ _ _ => rfl) (by decide +kernel) (by decide +kernel)
noncomputable abbrev S32 (r o : Row) (w : Txt) (a : Option D) : St := ⟨[("row", some (eRow r)), ("other", some (eRow o)), ("word", some (.str w)), ("cut", a)], [], []⟩
theorem cuttold_spec {C : Cx} (G : Gl C) {r o : Row} {w : Txt} (hn : ∀ n ∈ r.2.2, n.length ≤ sizeLine) (ho : ∀ n ∈ o.2.2, n.length ≤ sizeLine) (hw : w.length ≤ sizeLine) : Spec C 3 (G.v 32) [eRow r, eRow o, .str w] (.bool (pCutTold r o w)) := by
  refine Spec.of G.H (G.fn 32 (by decide)).2 d32 rfl ⟨noCell_row r, noCell_row o, trivial, trivial⟩ trivial fun Γ F => ?_
  show X C 2 Γ (_ :: _ :: []) (S32 r o w none) _
  refine X.cons (X1.for (Src.range1 (E.gb G (kind_of F rfl) boot_range) (.cons (E.callB (E.gb G (kind_of F rfl) boot_len) (by walk_at "ev") (len_s (fits63 hw))) .nil) (fits62 hw))
    (fun i σ => ∃ a, σ = S32 r o w a ∧ ((List.range w.length).take i).any (fun k => decide (w[k]? = some 47) && (pOneOf r (w.take k) && pOneOf o (w.drop (k + 1)))) = false) ⟨_, rfl, rfl⟩ ?_ ?_)
  · (intro i d σ' hd z5; refine elEA z5 fun a z6 hI => ?_; clear z5; subst z6)
    rw [List.getElem?_map] at hd
    cases hm : (List.range w.length)[i]? with
    | none => rw [hm] at hd; cases hd
    | some k =>
    rw [hm] at hd; cases hd
    have hk : i = k ∧ k < w.length := by
      obtain ⟨h1, h2⟩ := List.getElem?_eq_some_iff.mp hm
      simp at h1 h2; simp_all
    obtain ⟨rfl, hk⟩ := hk
    have hch : w[i]? = some w[i] := List.getElem?_eq_getElem hk
    refine ⟨S32 r o w (some (.int i)), Asg.name (by walk_at "upd"), ?_⟩
    have hT1 : (w.take i).length ≤ sizeLine := Nat.le_trans (List.length_take_le' ..) hw
    have hT2 : (w.drop (i + 1)).length ≤ sizeLine := by rw [List.length_drop]; exact Nat.le_trans (Nat.sub_le _ _) (by assumption)
    refine X.cons (X1.if (b := decide (w[i]? = some 47) && (pOneOf r (w.take i) && pOneOf o (w.drop (i + 1)))) (T.eq (T.and (p := decide (w[i]? = some 47)) (T.eq (T.cmp (E.sub (by walk_at "ev") (by walk_at "ev") (Sub.str (c := w[i]) (by simp) (fits63 hw) (by rw [if_neg (by simp)]; exact hch) (by exact Int.ofNat_lt.mpr (by assumption)))) (by walk_at "ev") eq_s) (by rw [hch]; simp)) fun _ =>
      T.and (T.val (E.callF G.H (E.gf G 18 (kind_of F rfl)) (.cons (by walk_at "ev") (.cons (E.eq (E.cut (by walk_at "ev") .none (.some (by walk_at "ev")) (Cut.str hw)) (by rw [cut_to rfl])) .nil)) (oneof_spec G hn hT1) (by exact Nat.le_refl _) ⟨noCell_row r, trivial, trivial⟩ trivial) Tr.bool) fun _ =>
      T.and (T.val (E.callF G.H (E.gf G 18 (kind_of F rfl)) (.cons (by walk_at "ev") (.cons (E.eq (E.cut (by walk_at "ev") (.some (by walk_at "ev")) .none (Cut.str hw)) (by rw [cut_i (i := i + 1) (by rfl)])) .nil)) (oneof_spec G ho hT2) (by exact Nat.le_refl _) ⟨noCell_row o, trivial, trivial⟩ trivial) Tr.bool) fun _ => T.and_nil) (by simp)) (fun h => ?_) fun h => ?_)
    · refine X.cons (X1.ret E.bool ?_)
      show Fl.ret _ = _
      rw [pCutTold, List.any_eq_true.mpr ⟨i, List.mem_range.mpr hk, h⟩]
    · refine X.nil (X.nil ⟨_, rfl, ?_⟩)
      rw [List.take_add_one, hm, Option.toList_some, List.any_append, hI]; simpa using h
  · (intro σ' z7; refine elEA z7 fun a z8 hI => ?_; clear z7; subst z8)
    refine X.cons (X1.ret E.bool ?_)
    rw [List.length_map, List.take_of_length_le (by exact Nat.le_refl _)] at hI
    show Fl.ret _ = _
    rw [pCutTold, hI]
theorem d30 : DefOk (sc 30) (stParams (st 30)) (bd 30) (stName (st 30)) ["row", "words"] [] := DefOk.two rfl rfl rfl rfl (fun _ _ _ _ _ => rfl) (by decide +kernel) (by decide +kernel)
theorem kepttold_spec {C : Cx} (G : Gl C) {r : Row} {ws : List Txt} (hn : ∀ n ∈ r.2.2, n.length ≤ sizeLine) (hw : ∀ w ∈ ws, w.length ≤ sizeLine) (hws : ws.length ≤ sizeLine) : Spec C 3 (G.v 30) [eRow r, .lst (ws.map .str)] (.lst ((ws.filter (pOneOf r)).map .str)) := by
  refine Spec.of G.H (G.fn 30 (by decide)).2 d30 rfl ⟨noCell_row r, noCells_str _, trivial⟩ (noCells_str _) fun Γ F => ?_
  show X C 2 Γ (_ :: []) ⟨[("row", some (eRow r)), ("words", some (.lst (ws.map .str)))], [], []⟩ _
  refine X.cons (X1.ret (d := .lst ((ws.filter (pOneOf r)).map .str)) ?_ rfl)
  rw [← outs_filter D.str (pOneOf r) ws]
  refine E.comp (locs := ["word"]) (gl := [("row", eRow r)]) (Src.list (by walk_at "ev") (.inl fun _ _ => rfl)) (CSt.of (gn := ["row"]) F (by decide +kernel) (by decide) (fun p hp => ?_) (fun d hd => ?_) ?_) (CRun.one (Bnd.name fun d hd => ?_) _ ?_ (by rw [List.length_map]; exact hws))
  · cases List.mem_singleton.mp hp; exact ⟨noCell_row r, by walk_at "in"⟩
  · (refine elEA (List.mem_map.mp hd) fun a _ z9 => ?_; subst z9); trivial
  · rw [outs_filter]; exact noCells_str _
  · (refine elEA (List.mem_map.mp hd) fun a _ z10 => ?_; subst z10); trivial
  · intro Γ' hin i d cells hd
    rw [List.getElem?_map] at hd
    cases hm : ws[i]? with
    | none => rw [hm] at hd; cases hd
    | some w =>
    rw [hm] at hd; cases hd
    refine ⟨pOneOf r w, Tests.one (T.val (E.callF G.H (E.gf G 18 (hin.kind _ _ rfl (by decide))) (.cons (by walk_at "ev") (.cons (by walk_at "ev") .nil)) (oneof_spec G hn (hw w (List.mem_of_getElem? hm))) (by exact Nat.le_refl _) ⟨noCell_row r, trivial, trivial⟩ trivial) Tr.bool), fun h => ⟨.str w, ?_, trivial, by walk_at "ev"⟩, fun h => ?_⟩
    · simp [hm, h]
    · simp [hm, h]
end
section
section
variable {C : Cx} {n : Nat} {Γ : Fx} {σ : St} {Q : Fl → St → Prop}
theorem list_iaddW (l b : Addr) (items items2 : Array Value) (n n2 : Nat) (dd dd2 : Option Addr) (sl sl2 : Array (Option Value)) (hs0 : ¬(!items.isEmpty && Builtin.List.listTooLong (items.size + items2.size)) = true) (hs1 : items.size ≤ sizeLine) (hs2 : items.size + items2.size ≤ sizeLine + 1) :
    Meets (Builtin.«list.__iadd__» ⟨[.ref l, .ref b], []⟩) (fun _ R s => s.heap.get? l = some { cls := .type "list", dict := dd, data := .seq items n, slots := sl } ∧ s.heap.get? b = some { cls := .type "list", dict := dd2, data := .seq items2 n2, slots := sl2 } ∧ R (.ok (.ret (Value.ref l))) { s with heap := s.heap.update l (Obj.mapSeq fun x => x ++ items2), toks := s.toks }) :=
  .of_wp fun prog w A R s h => by
    obtain ⟨hp, g, d, tk, os⟩ := s; (refine elAA h fun hl hb h => ?_); have f1 := AutoSeq1.idx_int; have f2 := AutoSeq1.sub_tuple_tuple; have f3 := AutoSeq1.sub_list_list; have f4 := AutoSeq1.sub_tuple_list; have f5 := AutoSeq1.sub_list_tuple;
    have hz' : (items ++ items2).size ≤ sizeLine + 1 := by rw [Array.size_append]; exact hs2
    wp_walk using (wpAny_updateSeq hl rfl (hz := hs1) (_hz' := hz')), wpAny_loadPart' hl, wpAny_loadPart' hb; exact ⟨_, rfl, h⟩
theorem inplace_seq {M : Model} {A : Around} {E : Value → Shared → Prop} {s : Shared} {a b : Value} {Q : Value → Shared → Prop} (ha : s.TypeIs a "list") (hb : s.TypeIs b "list")
    (hc : wpAny M A (call (.builtin "list.__iadd__") [a, b]) Q E s) : wpAny M A (inplaceOp .Add a b) Q E s := by
  unfold inplaceOp
  refine wpAny_holding ?_
  have hl := PySem.F.slot_list_iadd.lookup
  have hs : isSeqSlot (some (.builtin "list.__iadd__")) = true := by decide +kernel
  have hfi : fillsInplaceSlot (.type "list") "add" (Operator.Add == .Add) = pure false := by
    unfold fillsInplaceSlot
    show (typeLookup (.type "list") (dunderI "add") >>= fun fi => pure (fi.isSome && !isSeqSlot fi)) = pure false
    rw [hl]
    show (pure (true && !isSeqSlot (some (.builtin "list.__iadd__"))) : Sem Bool) = pure false
    rw [hs]; rfl
  have hsi : seqSlot? (.type "list") (dunderI "add") = pure (some (.builtin "list.__iadd__")) := PySem.seqSlot_of hl hs
  refine wpAny_bind (wpAny_typeOf ha (wpAny_bind (wpAny_of_eq hfi ?_)))
  show wpAny M A (if false = true then _ else _) Q E s
  rw [if_neg Bool.false_ne_true]
  refine wpAny_bind (wpAny_binaryOp1_none (nm := "add") ha hb noFill_list_add ?_)
  refine wpAny_bind (wpAny_of_eq hsi ?_)
  exact wpAny_bind (wpAny_rule hc)
theorem X1.augCell {x : Str} {p pos : Pos} {e : Expr} {k : Nat} {ds es : List D} {l' : List (Str × Option D)} (ha : (x, some (.cell k)) ∈ σ.loc) (hk : σ.cells[k]? = some (some ds)) (h : E C n Γ e σ (.lst es)) (hsz : ds.length + es.length ≤ sizeLine) (U : Upd x (some (.cell k)) σ.loc l')
    (q : Q .next ⟨l', σ.glb, σ.cells.set k (some (ds ++ es))⟩) : X1 C n Γ (.AugAssign (.Name x p) .Add e pos) σ Q := by
  intro κ g s R
  refine wpAny_AugAssign_Name (load_loc ha R fun v hv => thn (h κ g s R) ?_)
  rintro _ s' ⟨g', l, R', b, ob, ws, mb, rfl, hob, hcb, hdb, hws⟩
  have hv' := hv.mono l.1 l.2.1
  (refine elEA hv fun a ha' z0 => ?_; clear hv; subst z0)
  obtain ⟨a', vs, h1, _, _, _, _, ⟨oo, mm, hoo, hc, hdi, hda⟩, hds, _⟩ := R'.live k ds hk
  rw [l.2.1 _ _ ha'] at h1; cases h1
  have hlen := hds.length
  have hlen2 := hws.length
  have hoo := hoo.trans (congrArg some (Obj.of2 hc hda))
  have hob := hob.trans (congrArg some (Obj.of2 hcb hdb))
  have hb := R'.sok.sub _ _ hob
  refine inplace_seq ⟨_, hoo, rfl⟩ ⟨_, hb, rfl⟩ (call_meets PySem.F.slot_list_iadd ⟨_, hoo, rfl⟩ PySem.F.entry_list_iadd (PySem.F.args_list_iadd_2 _ _)
    (list_iaddW a b vs.toArray ws.toArray mm mb oo.dict ob.dict oo.slots ob.slots ?_ (by simp; lia) (by simp; lia)) ⟨hoo, hb, ?_⟩)
  · intro hz
    simp only [Bool.and_eq_true, List.size_toArray] at hz
    have := hz.2
    unfold Builtin.List.listTooLong at this
    simp at this; lia
  · obtain ⟨n', hd'⟩ := Obj.data_mapSeq (o := { cls := .type "list", dict := oo.dict, data := .seq vs.toArray mm, slots := oo.slots }) rfl (fun x => x ++ ws.toArray)
    have R₂ := R'.setCell (k := k) (ws := vs ++ ws) (es := ds ++ es) (h' := s'.heap.update a (Obj.mapSeq fun x => x ++ ws.toArray)) (t := s'.toks) hk (l.2.1 _ _ ha') (Nat.le_refl _) (fun b o hb e => (Heap.SameBut.update ..).extBut b o hb e)
      ⟨_, n', Heap.get?_update_self _ hoo (Obj.isFreed_of_seq hd'), (Obj.cls_mapSeq ..), by
        exact hdi, by simpa using hd'⟩ (hds.append hws)
    exact store R₂ hv' U fun s₃ R₃ => ⟨g', _, .next, l, R₃, rfl, q⟩
end
end
section
section
variable {C : Cx} {n : Nat} {Γ : Fx} {σ : St} {Q : Fl → St → Prop}
theorem Rep.forget {κ : FZ} {g : Gh} {s : Shared} (R : Rep C n Γ κ g σ s) {l' : List (Str × Option D)} (h : ∀ x od', (x, od') ∈ l' → ∃ od, (x, od) ∈ σ.loc ∧ (od' = none ∨ od' = od)) (hdup : (l'.map (·.1)).Nodup) : Rep C n Γ κ g ⟨l', σ.glb, σ.cells⟩ s := by
  refine ⟨R.ok, R.sok, fun x od' hx => ?_, hdup, R.ro, R.keep, R.kbase, R.ktb, R.own, R.ns, R.len, R.cslt, R.cstb, R.ownc, R.live⟩
  (refine elEA (h x od' hx) fun od hm h => ?_)
  (refine elAA (R.loc x od hm) fun h1 h2 h3 => ?_)
  refine ⟨h1, h2, fun d e => ?_⟩
  rcases h with rfl | rfl
  · cases e
  · exact h3 d e
inductive FrzE (k : Nat) (e : D) : Option D → Option D → Prop
  | none : FrzE k e .none .none
  | keep {d} : NoCell d → FrzE k e (some d) (some d)
  | cell : FrzE k e (some (.cell k)) (some e)
  | other {j} : j ≠ k → FrzE k e (some (.cell j)) (some (.cell j))
  | dropM {j} : FrzE k e (some (.meth j)) .none
  | gen {d} : NoMeth d → FrzE k e (some d) (some (D.sub k e d))
inductive FrzL (k : Nat) (e : D) : List (Str × Option D) → List (Str × Option D) → Prop
  | nil : FrzL k e [] []
  | cons {x o o' l l'} : FrzE k e o o' → FrzL k e l l' → FrzL k e ((x, o) :: l) ((x, o') :: l')
theorem FrzL.names {k : Nat} {e : D} : ∀ {l l' : List (Str × Option D)}, FrzL k e l l' → l'.map (·.1) = l.map (·.1)
  | _, _, .nil => rfl
  | _, _, .cons _ h => by simp [h.names]
theorem FrzL.plain {k : Nat} {e : D} : ∀ {l l' : List (Str × Option D)}, FrzL k e l l' → ∀ p ∈ l, ∀ d, p.2 = some d → NoMeth d ∨ ∃ j, d = .meth j
  | _, _, .nil, p, hp, _, _ => by cases hp
  | _, _, .cons h r, p, hp, d, hd => by
    rcases List.mem_cons.mp hp with rfl | hp
    · cases h with
      | none => cases hd
      | keep h => cases hd; exact .inl (NoMeth.of h)
      | cell => cases hd; exact .inl trivial
      | other h => cases hd; exact .inl trivial
      | dropM => cases hd; exact .inr ⟨_, rfl⟩
      | gen h => cases hd; exact .inl h
    · exact r.plain p hp d hd
theorem FrzL.mem {k : Nat} {e : D} : ∀ {l l' : List (Str × Option D)}, FrzL k e l l' → ∀ x od', (x, od') ∈ l' → ∃ od, (x, od) ∈ frzL k e l ∧ (od' = none ∨ od' = od)
  | _, _, .nil, x, od', hm => by cases hm
  | _, _, .cons (x := y) (o := o) h r, x, od', hm => by
    rcases List.mem_cons.mp hm with q | hm
    · cases q
      refine ⟨_, List.mem_cons_self, ?_⟩
      cases h with
      | none => exact .inl rfl
      | keep h =>
        rename_i d
        right
        cases d <;> first | exact h.elim | simp only [Option.map_some, NoCell.sub h]
      | cell => right; simp [D.sub]
      | other h => right; simp [D.sub, h]
      | dropM => exact .inl rfl
      | gen h =>
        rename_i d
        right
        cases d <;> first | exact h.elim | rfl
    · (refine elEA (r.mem x od' hm) fun od h1 h2 => ?_)
      exact ⟨od, List.mem_cons_of_mem _ h1, h2⟩
theorem X.frzG {k : Nat} {ds : List D} {ss : List Stmt} {l' : List (Str × Option D)} (hk : σ.cells[k]? = some (some ds)) (hl : FrzL k (.lst ds) σ.loc l') (hc : ∀ es, some es ∈ σ.cells → NoMeths es)
    (h : X C n Γ ss ⟨l', σ.glb, (σ.cells.map (·.map (D.subs k (.lst ds)))).set k none⟩ Q) : X C n Γ ss σ Q := by
  intro κ g s R
  (refine elEAA (R.freezeCell hk ⟨hl.plain, hc⟩) fun g₁ l₁ R₁ _ => ?_)
  have R₂ := R₁.forget (l' := l') hl.mem (by rw [hl.names]; exact R.dup)
  refine thn (h κ g₁ s R₂) ?_
  rintro f s' ⟨g', σ', fl, l, R', hf, hq⟩
  exact ⟨g', σ', fl, l₁.trans l, R', hf, hq⟩
theorem cells_id {k : Nat} {e : D} {cells : List (Option (List D))} (h : ∀ es, some es ∈ cells → NoCells es) : cells.map (·.map (D.subs k e)) = cells := by
  conv => rhs; rw [← List.map_id cells]
  refine List.map_congr_left fun o ho => ?_
  cases o with
  | none => rfl
  | some es => simp [NoCells.subs (h es ho)]
theorem X.frz {k : Nat} {ds : List D} {ss : List Stmt} {l' : List (Str × Option D)} (hk : σ.cells[k]? = some (some ds)) (hl : FrzL k (.lst ds) σ.loc l') (hc : ∀ es, some es ∈ σ.cells → NoCells es)
    (h : X C n Γ ss ⟨l', σ.glb, σ.cells.set k none⟩ Q) : X C n Γ ss σ Q := by
  refine X.frzG hk hl (fun es he => NoMeths.of (hc es he)) ?_
  rw [cells_id hc]; exact h
noncomputable def Op (o : Option D) : Prop := ∀ d, o = some d → NoCell d
theorem Op.none : Op .none := fun _ e => by cases e
theorem Op.some {d : D} (h : NoCell d) : Op (.some d) := fun _ e => by cases e; exact h
theorem FrzE.op {k : Nat} {e : D} {o : Option D} (h : Op o) : FrzE k e o o := by
  cases o with
  | none => exact .none
  | some d => exact .keep (h d rfl)
theorem only_cell {ds : List D} (h : NoCells ds) : ∀ es, some es ∈ [some ds] → NoCells es := fun es he => by cases List.mem_singleton.mp he; exact h
end
end
section
noncomputable def pAfter : Txt → Txt
  | [] => [99]
  | c :: _ => [if c + 1 = 55296 then 57344 else (c + 1) % 1114112]
theorem d19 : DefOk (sc 19) (stParams (st 19)) (bd 19) (stName (st 19)) ["sign"] ["code"] := DefOk.one rfl rfl rfl rfl (fun _ _ _ _ => rfl) (by decide +kernel) (by decide +kernel)
theorem after_spec {C : Cx} (G : Gl C) {x : Txt} (hx : x = [] ∨ ∃ c, x = [c]) : Spec C 1 (G.v 19) [.str x] (.str (pAfter x)) := by
  refine Spec.of G.H (G.fn 19 (by decide)).2 d19 rfl ⟨trivial, trivial⟩ trivial fun Γ F => ?_
  show X C 0 Γ (_ :: _ :: _ :: []) ⟨[("sign", some (.str x)), ("code", none)], [], []⟩ _
  refine X.cons (X1.if (b := decide (x = [])) (by walk_at "ev") (fun h => ?_) fun h => X.nil ?_)
  · refine X.cons (X1.ret (by walk_at "ev") ?_)
    have h : x = [] := by exact of_decide_eq_true (by assumption)
    subst h; rfl
  · rcases hx with rfl | ⟨c, rfl⟩
    · trivial
    refine X.cons (X1.assign (d := .int ((c + 1 : Nat) : Int)) (E.eq (E.bin (E.callB (E.gb G (kind_of F rfl) boot_ord) (by walk_at "ev") ord_c) (by walk_at "ev") add_i) (by congr 1)) (by walk_at "upd") ?_)
    refine X.cons (X1.ret (d := .str (pAfter [c])) ?_ rfl)
    refine E.callB (E.gb G (kind_of F rfl) boot_chr) (.cons (d := .int ((if c + 1 = 55296 then 57344 else (c + 1) % 1114112 : Nat) : Int)) (E.ifx (b := decide (c + 1 = 55296)) (T.eq (by walk_at "ev") (by rw [Bool.eq_iff_iff]; simp; lia)) (fun h => ?_) fun h => ?_) .nil) (chr_c rfl ?_)
    · have h : c + 1 = 55296 := by exact of_decide_eq_true (by assumption)
      rw [if_pos h]; exact E.int
    · have h : ¬ c + 1 = 55296 := by exact of_decide_eq_false (by assumption)
      rw [if_neg h]
      exact E.eq (E.bin (by walk_at "ev") (by walk_at "ev") (mod_i (by decide))) (by exact congrArg D.int (fmod_nat (c + 1) 1114112))
    · split
      · decide
      · have := Nat.mod_lt (c + 1) (show 0 < 1114112 by decide); exact Nat.le_of_lt_succ (by assumption)
noncomputable def pNear (n : Txt) : List Txt := [n, n ++ n, 97 :: n, n ++ [98], n.drop 1 ++ n.take 1, n.take (n.length / 2) ++ 45 :: n.drop (n.length / 2), n.dropLast ++ pAfter (n.drop (n.length - 1))]
theorem last_one (n : Txt) : n.drop (n.length - 1) = [] ∨ ∃ c, n.drop (n.length - 1) = [c] := by
  by_cases h : n = []
  · subst h; exact .inl rfl
  · right
    have hl : 0 < n.length := List.length_pos_iff.mpr h
    refine ⟨n[n.length - 1], ?_⟩
    rw [List.drop_eq_getElem_cons (by exact Nat.sub_lt (by assumption) (by decide)), List.drop_of_length_le (by simp_all +arith)]
theorem pAfter_len (x : Txt) : (pAfter x).length = 1 := by cases x <;> rfl
theorem d20 : DefOk (sc 20) (stParams (st 20)) (bd 20) (stName (st 20)) ["name"] ["half"] := DefOk.one rfl rfl rfl rfl (fun _ _ _ _ => rfl) (by decide +kernel) (by decide +kernel)
theorem near_spec {C : Cx} (G : Gl C) {n : Txt} (hn : n.length ≤ 2 ^ 20) : Spec C 2 (G.v 20) [.str n] (.lst ((pNear n).map .str)) := by
  have hs : n.length ≤ sizeLine := Nat.le_trans hn (by decide)
  have hsz : sizeLine = 2 ^ 24 := rfl
  refine Spec.of G.H (G.fn 20 (by decide)).2 d20 rfl ⟨trivial, trivial⟩ (noCells_str _) fun Γ F => ?_
  show X C 1 Γ (_ :: _ :: []) ⟨[("name", some (.str n)), ("half", none)], [], []⟩ _
  refine X.cons (X1.assign (d := .int (n.length / 2 : Nat)) (E.eq (E.bin (E.callB (E.gb G (kind_of F rfl) boot_len) (by walk_at "ev") (len_s (fits63 hs))) (by walk_at "ev") (div_i (by decide) (by exact nopy _ 2 (by decide)))) (by exact congrArg D.int (fdiv_nat n.length 2))) (by walk_at "upd") ?_)
  refine X.cons (X1.ret (d := .lst ((pNear n).map .str)) ?_ rfl)
  have e1 : cut n (some 1) none = n.drop 1 := cut_i rfl
  have e2 : cut n none (some 1) = n.take 1 := cut_to rfl
  have e3 : cut n none (some ((n.length / 2 : Nat) : Int)) = n.take (n.length / 2) := cut_to rfl
  have e4 : cut n (some ((n.length / 2 : Nat) : Int)) none = n.drop (n.length / 2) := cut_i rfl
  have e5 : cut n none (some (-1)) = n.dropLast := cut_butlast
  have e6 : cut n (some (-1)) none = n.drop (n.length - 1) := cut_last
  refine E.list (.cons (by walk_at "ev") (.cons ?_ (.cons ?_ (.cons ?_ (.cons ?_ (.cons ?_ (.cons ?_ .nil))))))) (by exact szLe (by with_unfolding_all rfl))
  · walk_at "ev"; lia
  · refine E.eq (by walk_at "ev"; (simp; lia)) (by rfl)
  · refine E.eq (by walk_at "ev"; (simp; lia)) (by rfl)
  · refine E.eq (by walk_at "ev"; exact hs; exact hs; (rw [e1, e2]; simp; lia)) (by rw [e1, e2])
  · refine E.eq (by walk_at "ev"; exact hs; (rw [e3]; simp; lia); exact hs; (rw [e3, e4]; simp; lia)) (by rw [e3, e4]; simp)
  · refine E.eq (E.bin (by walk_at "ev"; exact hs) (E.callF G.H (E.gf G 19 (kind_of F rfl)) (.cons (E.eq (by walk_at "ev"; exact hs) (by rw [e6])) .nil) (after_spec G (last_one n)) (by exact Nat.le_refl _) ⟨trivial, trivial⟩ trivial) (add_s (by rw [e5, pAfter_len]; simp; simp_all))) (by rw [e5])
noncomputable abbrev Ent := Nat × Txt
noncomputable abbrev eEnt (e : Ent) : D := .tup [.int e.1, .str e.2]
theorem noCell_ent (e : Ent) : NoCell (eEnt e) := ⟨trivial, trivial, trivial⟩
noncomputable def pWords (ls : List Ent) : List Txt := [] :: ls.flatMap fun e => pNear e.2
theorem d21 : DefOk (sc 21) (stParams (st 21)) (bd 21) (stName (st 21)) ["listing"] ["words", "kind", "name"] := DefOk.one rfl rfl rfl rfl (fun _ _ _ _ => rfl) (by decide +kernel) (by decide +kernel)
noncomputable abbrev S21 (ls : List Ent) (ws : List Txt) (a b : Option D) : St := ⟨[("listing", some (.lst (ls.map eEnt))), ("words", some (.cell 0)), ("kind", a), ("name", b)], [], [some (ws.map .str)]⟩
theorem pWords_len (es : List Ent) : (pWords es).length = 7 * es.length + 1 := by
  have : (es.flatMap fun e => pNear e.2).length = 7 * es.length := by
    induction es with
    | nil => rfl
    | cons e es ih => rw [List.flatMap_cons, List.length_append, ih]; simp [pNear]; exact Nat.add_comm _ _
  simp only [pWords, List.length_cons, this]
theorem words_spec {C : Cx} (G : Gl C) {ls : List Ent} (hn : ∀ e ∈ ls, e.2.length ≤ 2 ^ 20) (hl : ls.length ≤ 2 ^ 10) : Spec C 3 (G.v 21) [.lst (ls.map eEnt)] (.lst ((pWords ls).map .str)) := by
  refine Spec.of G.H (G.fn 21 (by decide)).2 d21 rfl ⟨noCells_map noCell_ent _, trivial⟩ (noCells_str _) fun Γ F => ?_
  show X C 2 Γ (_ :: _ :: _ :: []) ⟨[("listing", some (.lst (ls.map eEnt))), ("words", none), ("kind", none), ("name", none)], [], []⟩ _
  refine X.cons (X1.newCell (by walk_at "ev") (by exact szLe (by with_unfolding_all rfl)) (by walk_at "upd") ?_)
  refine X.cons (X1.for (Src.list (by walk_at "ev") (.inr ⟨⟨_, _, _, rfl⟩, fun d hd => ?_⟩)) (fun i σ => ∃ a b, Op a ∧ Op b ∧ σ = S21 ls (pWords (ls.take i)) a b) ⟨_, _, .none, .none, rfl⟩ ?_ ?_)
  · (refine elEA (List.mem_map.mp hd) fun m _ z0 => ?_; subst z0); exact ⟨_, rfl⟩
  · (intro i d σ' hd z1; refine elEEAA z1 fun a b _ _ z2 => ?_; clear z1; subst z2)
    rw [List.getElem?_map] at hd
    cases hm : ls[i]? with
    | none => rw [hm] at hd; cases hd
    | some e =>
    rw [hm] at hd; cases hd
    have hi := (List.getElem?_eq_some_iff.mp hm).1
    refine ⟨_, Asg.tuple (.cons (Asg.name (by walk_at "upd")) (.cons (Asg.name (by walk_at "upd")) .nil)), ?_⟩
    refine X.cons (X1.augCell (k := 0) (by walk_at "in") rfl (E.callF G.H (E.gf G 20 (kind_of F rfl)) (by walk_at "ev") (near_spec G (hn e (List.mem_of_getElem? hm))) (by exact Nat.le_refl _) ⟨trivial, trivial⟩ (noCells_str _)) ?_ (by walk_at "upd") (X.nil ⟨some (.int e.1), some (.str e.2), .some trivial, .some trivial, ?_⟩))
    · have hsz : sizeLine = 2 ^ 24 := rfl
      rw [List.length_map, List.length_map, pWords_len, List.length_take]
      simp [pNear]; grind
    · show St.mk _ _ _ = St.mk _ _ _
      congr 1
      show [some _] = [some _]
      rw [List.take_add_one, hm]
      simp [pWords]
  · (intro σ' z3; refine elEEAA z3 fun a b ha hb he => ?_; clear z3)
    rw [List.length_map, List.take_length] at he
    subst he
    refine X.frz (k := 0) rfl (.cons (.keep (noCells_map noCell_ent _)) (.cons .cell (.cons (.op ha) (.cons (.op hb) .nil)))) (only_cell (noCells_str _)) ?_
    exact X.cons (X1.ret (by walk_at "ev") rfl)
noncomputable def catD : D → D → D
  | .str l, .str x => .str (l ++ 47 :: x)
  | _, _ => .none
noncomputable def near4 (n : Txt) : List Txt := (pNear n).take 4
noncomputable def pCutWords (r o : Row) : List Txt := (near4 (r.2.2.headD [])).flatMap fun l => (near4 (o.2.2.getLastD [])).map fun x => l ++ 47 :: x
theorem d22 : DefOk (sc 22) (stParams (st 22)) (bd 22) (stName (st 22)) ["row", "other"] [] := DefOk.two rfl rfl rfl rfl (fun _ _ _ _ _ => rfl) (by decide +kernel) (by decide +kernel)
theorem near4_len {n w : Txt} (hn : n.length ≤ 2 ^ 20) (hw : w ∈ near4 n) : w.length ≤ 2 ^ 22 := by
  simp only [near4, pNear, List.take_succ_cons, List.take_zero, List.mem_cons, List.not_mem_nil, or_false] at hw
  rcases hw with rfl | rfl | rfl | rfl <;> simp <;> lia
theorem cutwords_spec {C : Cx} (G : Gl C) {r o : Row} {n m : Txt} (hr : r.2.2.head? = some n) (ho : o.2.2.getLast? = some m) (hn : n.length ≤ 2 ^ 20) (hm : m.length ≤ 2 ^ 20) (hol : o.2.2.length ≤ sizeLine) (hrl : r.2.2.length ≤ sizeLine) :
    Spec C 3 (G.v 22) [eRow r, eRow o] (.lst ((pCutWords r o).map .str)) := by
  refine Spec.of G.H (G.fn 22 (by decide)).2 d22 rfl ⟨noCell_row r, noCell_row o, trivial⟩ (noCells_str _) fun Γ F => ?_
  show X C 2 Γ (_ :: []) ⟨[("row", some (eRow r)), ("other", some (eRow o))], [], []⟩ _
  have e1 : r.2.2.headD [] = n := by cases h : r.2.2 <;> simp_all
  have e2 : o.2.2.getLastD [] = m := by rw [List.getLastD_eq_getLast?, ho]; rfl
  have c4 : ∀ x : Txt, cut ((pNear x).map D.str) none (some (4 : Int)) = (near4 x).map D.str := fun x => (cut_to (hi := 4) (j := 4) rfl).trans (by rw [near4, List.map_take])
  refine X.cons (X1.ret (d := .lst ((pCutWords r o).map .str)) ?_ rfl)
  have key : (pCutWords r o).map D.str = ((near4 n).map D.str).flatMap fun d => ((near4 m).map D.str).map (catD d) := by
    rw [pCutWords, e1, e2, List.map_flatMap, List.flatMap_map]
    rfl
  rw [key]
  have len4 : ∀ x : Txt, (near4 x).length = 4 := fun x => rfl
  refine E.comp (locs := ["left", "right"]) (gl := [("other", eRow o)]) (ds := (near4 n).map D.str) (Src.list ?_ (.inl fun _ _ => rfl)) (CSt.of (gn := ["other"]) F (by decide +kernel) (by decide) (fun p hp => ?_) (fun d hd => ?_) ?_)
    (CRun.two (by decide) (fun Γ' hin d cells hd => ⟨?_, fun od => ?_, fun e he cells => ⟨?_, ?_, ?_⟩⟩) ?_)
  · have hh : (r.2.2.map D.str)[(0 : Int).toNat]? = some (.str n) := by
      show (r.2.2.map D.str)[0]? = _
      rw [List.getElem?_map, ← List.head?_eq_getElem?, hr]; rfl
    refine E.eq (E.cut (E.callF G.H (E.gf G 20 (kind_of F rfl)) (.cons (E.sub (E.sub (by walk_at "ev") (by walk_at "ev") (sub_tup (d := .lst (r.2.2.map .str)) (by exact Int.natCast_nonneg _) rfl (by exact Nat.le_add_left _ _))) (by walk_at "ev") (sub_lst (d := .str n) (.lst _) (by exact Int.natCast_nonneg _) hh (by rw [List.length_map]; exact fits63 hrl))) .nil) (near_spec G hn) (by exact Nat.le_refl _) ⟨trivial, trivial⟩ (noCells_str _)) .none (.some (by walk_at "ev")) (Cut.lst (.lst _) (by exact szLe (by with_unfolding_all rfl)))) (by rw [c4])
  · cases List.mem_singleton.mp hp; exact ⟨noCell_row o, by walk_at "in"⟩
  · (refine elEA (List.mem_map.mp hd) fun a _ z4 => ?_; subst z4); trivial
  · rw [← key]; exact noCells_str _
  · (refine elEA (List.mem_map.mp hd) fun a _ z5 => ?_; subst z5); trivial
  · have hol0 : 0 < o.2.2.length := by
      cases h : o.2.2 with
      | nil => rw [h] at ho; cases ho
      | cons => simp
    have hh : (o.2.2.map D.str)[((-1 : Int) + (o.2.2.map D.str).length).toNat]? = some (.str m) := by
      rw [List.length_map, show ((-1 : Int) + (o.2.2.length : Int)).toNat = o.2.2.length - 1 from negone _, List.getElem?_map, ← List.getLast?_eq_getElem?, ho]; rfl
    refine Src.list (E.eq (E.cut (E.callF G.H (E.gf G 20 (hin.kind _ _ rfl (by decide))) (.cons (E.sub (E.sub (by walk_at "ev") (by walk_at "ev") (sub_tup (d := .lst (o.2.2.map .str)) (by exact Int.natCast_nonneg _) rfl (by exact Nat.le_add_left _ _))) (by walk_at "ev") (sub_lst_neg (d := .str m) (.lst _) (by decide) (by rw [List.length_map]; lia) hh (by rw [List.length_map]; exact fits63 hol))) .nil) (near_spec G hm) (by exact Nat.le_refl _) ⟨trivial, trivial⟩ (noCells_str _)) .none (.some (by walk_at "ev")) (Cut.lst (.lst _) (by exact szLe (by with_unfolding_all rfl)))) (by rw [c4])) (.inl fun _ _ => rfl)
  · (refine elEA (List.mem_map.mp he) fun a _ z6 => ?_; subst z6); trivial
  · (refine elEA (List.mem_map.mp hd) fun a _ z7 => ?_; subst z7)
    (refine elEA (List.mem_map.mp he) fun b _ z8 => ?_; subst z8); trivial
  · (refine elEA (List.mem_map.mp hd) fun a ha z9 => ?_; subst z9)
    (refine elEA (List.mem_map.mp he) fun b hb z10 => ?_; subst z10)
    have := near4_len hn ha
    have := near4_len hm hb
    have hsz : sizeLine = 2 ^ 24 := rfl
    refine E.eq (by walk_at "ev"; (simp; lia); (simp; lia)) (by simp [catD])
  · simp [near4, pNear]; decide
noncomputable def pTwoTold (r o : Row) : List Txt := (pCutWords r o).filter (pCutTold r o)
theorem pCutWords_len {r o : Row} {n m : Txt} (hr : r.2.2.head? = some n) (ho : o.2.2.getLast? = some m) (hn : n.length ≤ 2 ^ 20) (hm : m.length ≤ 2 ^ 20) : (∀ w ∈ pCutWords r o, w.length ≤ sizeLine) ∧ (pCutWords r o).length ≤ sizeLine := by
  have e1 : r.2.2.headD [] = n := by cases h : r.2.2 <;> simp_all
  have e2 : o.2.2.getLastD [] = m := by rw [List.getLastD_eq_getLast?, ho]; rfl
  have hsz : sizeLine = 2 ^ 24 := rfl
  rw [pCutWords, e1, e2]
  refine ⟨fun w hw => ?_, by simp [near4, pNear]; exact Nat.le_add_left _ _⟩
  (refine elEA (List.mem_flatMap.mp hw) fun a ha hw => ?_)
  (refine elEA (List.mem_map.mp hw) fun b hb z11 => ?_; subst z11)
  have := near4_len hn ha
  have := near4_len hm hb
  simp; lia
theorem d33 : DefOk (sc 33) (stParams (st 33)) (bd 33) (stName (st 33)) ["row", "other"] [] := DefOk.two rfl rfl rfl rfl (fun _ _ _ _ _ => rfl) (by decide +kernel) (by decide +kernel)
theorem twotold_spec {C : Cx} (G : Gl C) {r o : Row} {n m : Txt} (hr : r.2.2.head? = some n) (ho : o.2.2.getLast? = some m) (hn : n.length ≤ 2 ^ 20) (hm : m.length ≤ 2 ^ 20) (hol : o.2.2.length ≤ sizeLine) (hrl : r.2.2.length ≤ sizeLine)
    (hrn : ∀ n ∈ r.2.2, n.length ≤ sizeLine) (hon : ∀ n ∈ o.2.2, n.length ≤ sizeLine) : Spec C 4 (G.v 33) [eRow r, eRow o] (.lst ((pTwoTold r o).map .str)) := by
  refine Spec.of G.H (G.fn 33 (by decide)).2 d33 rfl ⟨noCell_row r, noCell_row o, trivial⟩ (noCells_str _) fun Γ F => ?_
  obtain ⟨hw, hws⟩ := pCutWords_len hr ho hn hm
  show X C 3 Γ (_ :: []) ⟨[("row", some (eRow r)), ("other", some (eRow o))], [], []⟩ _
  refine X.cons (X1.ret (d := .lst ((pTwoTold r o).map .str)) ?_ rfl)
  rw [pTwoTold, ← outs_filter D.str (pCutTold r o) (pCutWords r o)]
  refine E.comp (locs := ["word"]) (gl := [("row", eRow r), ("other", eRow o)]) (Src.list (E.callF G.H (E.gf G 22 (kind_of F rfl)) (by walk_at "ev") (cutwords_spec G hr ho hn hm hol hrl) (by exact Nat.le_refl _) ⟨noCell_row r, noCell_row o, trivial⟩ (noCells_str _)) (.inl fun _ _ => rfl)) (CSt.of (gn := ["row", "other"]) F (by decide +kernel) (by decide) (fun p hp => ?_) (fun d hd => ?_) ?_) (CRun.one (Bnd.name fun d hd => ?_) _ ?_ (by rw [List.length_map]; exact hws))
  · simp only [List.mem_cons, List.not_mem_nil, or_false] at hp
    rcases hp with rfl | rfl
    · exact ⟨noCell_row r, by walk_at "in"⟩
    · exact ⟨noCell_row o, by walk_at "in"⟩
  · (refine elEA (List.mem_map.mp hd) fun a _ z12 => ?_; subst z12); trivial
  · rw [outs_filter]; exact noCells_str _
  · (refine elEA (List.mem_map.mp hd) fun a _ z13 => ?_; subst z13); trivial
  · intro Γ' hin i d cells hd
    rw [List.getElem?_map] at hd
    cases hm : (pCutWords r o)[i]? with
    | none => rw [hm] at hd; cases hd
    | some w =>
    rw [hm] at hd; cases hd
    refine ⟨pCutTold r o w, Tests.one (T.val (E.callF G.H (E.gf G 32 (hin.kind _ _ rfl (by decide))) (.cons (by walk_at "ev") (.cons (by walk_at "ev") (.cons (by walk_at "ev") .nil))) (cuttold_spec G hrn hon (hw w (List.mem_of_getElem? hm))) (by exact Nat.le_refl _) ⟨noCell_row r, noCell_row o, trivial, trivial⟩ trivial) Tr.bool), fun h => ⟨.str w, ?_, trivial, by walk_at "ev"⟩, fun h => ?_⟩
    · simp [hm, h]
    · simp [hm, h]
end
section
noncomputable def pSetStep (b : Txt) (a : Nat) : (Txt × Txt) × Nat :=
  if (b.drop (pOne b a).2).take 1 = [45] ∧ (b.drop ((pOne b a).2 + 1)).take 1 ≠ [93] then (((pOne b a).1, (pOne b ((pOne b a).2 + 1)).1), (pOne b ((pOne b a).2 + 1)).2) else (((pOne b a).1, (pOne b a).1), (pOne b a).2)
noncomputable def pSetGo (b : Txt) : Nat → Nat → List (Txt × Txt) → List (Txt × Txt) × Nat
  | 0, a, ms => (ms, a)
  | f + 1, a, ms => if (decide (a < b.length) && (ms.isEmpty || decide (b[a]? ≠ some 93))) = true then pSetGo b f (pSetStep b a).2 (ms ++ [(pSetStep b a).1]) else (ms, a)
noncomputable def pSet (b : Txt) (a : Nat) : Col × Nat :=
  ((decide ((b.drop a).take 1 = [94]), (pSetGo b (b.length + 1) (if (b.drop a).take 1 = [94] then a + 1 else a) []).1), (pSetGo b (b.length + 1) (if (b.drop a).take 1 = [94] then a + 1 else a) []).2 + 1)
theorem pOne_gt (b : Txt) (a : Nat) : a < (pOne b a).2 := by unfold pOne; split <;> simp
theorem pSetStep_gt (b : Txt) (a : Nat) : a < (pSetStep b a).2 := by
  have h1 := pOne_gt b a
  have h2 := pOne_gt b ((pOne b a).2 + 1)
  unfold pSetStep; split <;> simp <;> lia
noncomputable def whileLast (ss : List Stmt) : List Stmt := (stBody (nthS ss 3)).drop 3
theorem d24 : DefOk (sc 24) (stParams (st 24)) (bd 24) (stName (st 24)) ["body", "at"] ["barred", "members", "low", "high"] := DefOk.two rfl rfl rfl rfl (fun _ _ _ _ _ => rfl) (by decide +kernel) (by decide +kernel)
noncomputable abbrev S24 (b : Txt) (a : Nat) (c : Bool) (ms : List (Txt × Txt)) (l h : Option D) : St :=
  ⟨[("body", some (.str b)), ("at", some (.int a)), ("barred", some (.bool c)), ("members", some (.cell 0)), ("low", l), ("high", h)], [], [some (ms.map eMem)]⟩
theorem cut1 (b : Txt) (a : Nat) : cut b (some (a : Int)) (some ((a : Int) + 1)) = (b.drop a).take 1 := by rw [cut_ij (i := a) (j := a + 1) rfl (by rfl)]; congr 1; simp
theorem cut1' (b : Txt) (a : Nat) : cut b (some ((a : Int) + 1)) (some ((a : Int) + 2)) = (b.drop (a + 1)).take 1 := by rw [cut_ij (i := a + 1) (j := a + 2) (by rfl) (by rfl)]; congr 1; simp
inductive I24 (b : Txt) (c : Bool) (r : List (Txt × Txt) × Nat) (m : Nat) (σ : St) : Prop
  | mk (a' : Nat) (ms : List (Txt × Txt)) (l h : Option D) (hl : Op l) (hh : Op h) (e : σ = S24 b a' c ms l h) (he : pSetGo b m a' ms = r) (hm : b.length < a' + m) (hms : ms.length ≤ a') : I24 b c r m σ
theorem set_spec {C : Cx} (G : Gl C) {b : Txt} {a : Nat} (hb : b.length + 2 ≤ sizeLine) : Spec C 2 (G.v 24) [.str b, .int a] (.tup [eCol (pSet b a).1, .int (pSet b a).2]) := by
  have hb' : b.length ≤ sizeLine := by exact Nat.le_trans (Nat.le_add_right _ _) (by assumption)
  refine Spec.of G.H (G.fn 24 (by decide)).2 d24 rfl ⟨trivial, trivial, trivial⟩ ⟨noCell_col _, trivial, trivial⟩ fun Γ F => ?_
  show X C 1 Γ (_ :: _ :: _ :: _ :: _ :: []) ⟨[("body", some (.str b)), ("at", some (.int a)), ("barred", none), ("members", none), ("low", none), ("high", none)], [], []⟩ _
  refine X.cons (X1.assign (d := .bool (decide ((b.drop a).take 1 = [94]))) (E.eq (by walk_at "ev"; exact hb') (by rw [cut1])) (by walk_at "upd") ?_)
  refine X.cons (X1.assign (d := .int ((if (b.drop a).take 1 = [94] then a + 1 else a : Nat) : Int)) (E.ifx (b := decide ((b.drop a).take 1 = [94])) (by walk_at "ev") (fun h => ?_) fun h => ?_) (by walk_at "upd") ?_)
  · have h : (b.drop a).take 1 = [94] := by exact of_decide_eq_true (by assumption)
    rw [if_pos h]; exact E.eq (by walk_at "ev") (by congr 1)
  · have h : ¬ (b.drop a).take 1 = [94] := by exact of_decide_eq_false (by assumption)
    rw [if_neg h]; walk_at "ev"
  generalize hc : decide ((b.drop a).take 1 = [94]) = c
  generalize ha0 : (if (b.drop a).take 1 = [94] then a + 1 else a) = a0
  refine X.cons (X1.newCell .nil (by decide) (by walk_at "upd") ?_)
  refine X.cons (X1.whileH (I24 b c (pSetGo b (b.length + 1) a0 [])) (k₀ := b.length + 1) ⟨a0, [], _, _, .none, .none, rfl, rfl, by exact Nat.le_add_left _ _, by simp⟩ ?_)
  rintro m σ' ⟨a', ms, l, h, hl, hh, rfl, he, hm, hms⟩ K Q' hK hQ'
  refine ⟨decide (a' < b.length) && (ms.isEmpty || decide (b[a']? ≠ some 93)), T.eq (T.and (p := decide (a' < b.length)) (T.eq (T.cmp (by walk_at "ev") (E.callB (E.gb G (kind_of F rfl) boot_len) (by walk_at "ev") (len_s (fits63 hb'))) lt_i) (by rw [Bool.eq_iff_iff]; norm_cast)) fun hlt => T.and (q := true) (p := ms.isEmpty || decide (b[a']? ≠ some 93)) (T.eq (T.or (p := ms.isEmpty) (q := decide (b[a']? ≠ some 93)) (T.eq (T.not (T.val (by walk_at "ev") (Tr.seq (.cell 0 (ms.map eMem) rfl) ?_))) (by cases ms <;> rfl)) fun _ => ?_) rfl) fun _ => T.and_nil) (by simp), fun hb1 => ?_, fun hb1 => ?_⟩
  · have : a' < b.length := by exact of_decide_eq_true (by assumption)
    rw [List.length_map]; exact fits63 (by lia)
  · have hlt : a' < b.length := by exact of_decide_eq_true (by assumption)
    have hch : b[a']? = some b[a'] := List.getElem?_eq_getElem hlt
    refine T.eq (T.or (p := decide (b[a']? ≠ some 93)) (T.eq (T.cmp (E.sub (by walk_at "ev") (by walk_at "ev") (Sub.str (c := b[a']) (by simp) (fits63 hb') (by rw [if_neg (by simp)]; exact hch) (by exact Int.ofNat_lt.mpr (by assumption)))) (by walk_at "ev") ne_s) (by rw [hch]; simp)) fun _ => T.or_nil) (by simp)
  · have hlt : a' < b.length := by simp at hb1; exact hb1.1
    obtain ⟨m, rfl⟩ : ∃ j, m = j + 1 := ⟨m - 1, by exact (Nat.sub_add_cancel (by lia)).symm⟩
    have hgo : pSetGo b m (pSetStep b a').2 (ms ++ [(pSetStep b a').1]) = pSetGo b (b.length + 1) a0 [] := by rw [← he, pSetGo, if_pos hb1]
    have hgt := pSetStep_gt b a'
    refine X.cons (X1.assignT (E.callF G.H (E.gf G 23 (kind_of F rfl)) (.cons (by walk_at "ev") (.cons (by walk_at "ev") .nil)) (one_spec G hb' (i := a')) (by exact Nat.le_refl _) ⟨trivial, trivial, trivial⟩ ⟨trivial, trivial, trivial⟩) (Asg.tuple (.cons (Asg.name (by walk_at "upd")) (.cons (Asg.name (by walk_at "upd")) .nil))) ?_)
    refine X.cons (X1.assign (by walk_at "ev") (by walk_at "upd") ?_)
    have fin : ∀ (lo hi : Txt) (a2 : Nat), pSetStep b a' = ((lo, hi), a2) → X C 1 Γ (whileLast (bd 24)) (S24 b a2 c ms (some (.str lo)) (some (.str hi))) (LoopQ K Q') := by
      intro lo hi a2 hst
      rw [hst] at hgo hgt
      refine X.cons (X1.append (k := 0) (by walk_at "ev") (by walk_at "ev") rfl ?_ (X.nil (hK m _ (by exact Nat.lt_succ_self _) ⟨a2, ms ++ [(lo, hi)], some (.str lo), some (.str hi), .some trivial, .some trivial, ?_, hgo, ?_, ?_⟩)))
      · rw [List.length_map]; lia
      · show St.mk _ _ _ = St.mk _ _ _
        congr 1
        show [some _] = [some _]
        rw [List.map_append]; rfl
      · simp at hgt; lia
      · simp at hgt ⊢; exact Nat.lt_of_le_of_lt (by assumption) (by assumption)
    refine X.cons (X1.if (b := decide ((b.drop (pOne b a').2).take 1 = [45] ∧ (b.drop ((pOne b a').2 + 1)).take 1 ≠ [93])) (T.eq (by walk_at "ev"; exact hb'; exact hb') ?_) (fun h => ?_) fun h => X.nil ?_)
    · rw [cut1, cut1', Bool.eq_iff_iff]; simp
    · have h : (b.drop (pOne b a').2).take 1 = [45] ∧ (b.drop ((pOne b a').2 + 1)).take 1 ≠ [93] := by exact of_decide_eq_true (by assumption)
      refine X.cons (X1.assignT (E.callF G.H (E.gf G 23 (kind_of F rfl)) (.cons (by walk_at "ev") (.cons (E.eq (by walk_at "ev") (show _ = D.int (((pOne b a').2 + 1 : Nat) : Int) by congr 1)) .nil)) (one_spec G hb' (i := (pOne b a').2 + 1)) (by exact Nat.le_refl _) ⟨trivial, trivial, trivial⟩ ⟨trivial, trivial, trivial⟩) (Asg.tuple (.cons (Asg.name (by walk_at "upd")) (.cons (Asg.name (by walk_at "upd")) .nil))) (X.nil ?_))
      exact fin _ _ _ (by rw [pSetStep, if_pos h])
    · have h : ¬ ((b.drop (pOne b a').2).take 1 = [45] ∧ (b.drop ((pOne b a').2 + 1)).take 1 ≠ [93]) := by exact of_decide_eq_false (by assumption)
      exact fin _ _ _ (by rw [pSetStep, if_neg h])
  · refine hQ' _ _ ?_
    clear hK hQ'
    have hgo : (ms, a') = pSetGo b (b.length + 1) a0 [] := by
      rw [← he]
      cases m with
      | zero => rfl
      | succ m => rw [pSetGo, if_neg (by rw [hb1]; decide)]
    refine X.frz (k := 0) rfl (.cons (.keep trivial) (.cons (.keep trivial) (.cons (.keep trivial) (.cons .cell (.cons (.op hl) (.cons (.op hh) .nil)))))) (only_cell (noCells_map noCell_mem _)) ?_
    refine X.cons (X1.ret (E.eq (by walk_at "ev") (show _ = D.tup [eCol (pSet b a).1, .int (pSet b a).2] from ?_)) rfl)
    rw [pSet, ha0, ← hgo, hc]
    simp
end
section
section
variable {C : Cx} {n : Nat} {Γ : Fx} {σ σ₁ σ' : St} {Q : Fl → St → Prop}
noncomputable def EX (C : Cx) (n : Nat) (Γ : Fx) (e : Expr) (σ : St) (d : D) (σ' : St) : Prop :=
  ∀ (κ : FZ) (g : Gh) (s : Shared), Rep C n Γ κ g σ s →
    wpAny (model C.prog C.w) Γ.A (eval e Γ.env) (fun v s' => EP C n Γ κ g σ' (fun g' => DV g'.P g'.cs d v) s') (fun _ _ => False) s
noncomputable def EXs (C : Cx) (n : Nat) (Γ : Fx) (es : List Expr) (σ : St) (ds : List D) (σ' : St) : Prop :=
  ∀ (κ : FZ) (g : Gh) (s : Shared), Rep C n Γ κ g σ s → ∀ pos,
    wpAny (model C.prog C.w) Γ.A (spliced (backTo pos (starEach es Γ.env))) (fun vs s' => EP C n Γ κ g σ' (fun g' => DVs g'.P g'.cs ds vs) s') (fun _ _ => False) s
theorem EX.of {e : Expr} {d : D} (h : E C n Γ e σ d) : EX C n Γ e σ d σ := h
theorem EXs.of {es : List Expr} {ds : List D} (h : Es C n Γ es σ ds) : EXs C n Γ es σ ds σ := h
theorem EXs.cons {e : Expr} {rest : List Expr} {d : D} {ds : List D} (h : EX C n Γ e σ d σ₁) (h' : EXs C n Γ rest σ₁ ds σ') (he : autoParam (∀ env, starEach (e :: rest) env = (false, eval e env) :: starEach rest env) tacE) :
    EXs C n Γ (e :: rest) σ (d :: ds) σ' := by
  intro κ g s R pos
  refine wpAny_items_cons (thn (h κ g s R) ?_) (he _)
  rintro v s' ⟨g', l, R', hd⟩
  refine thn (h' κ g' s' R' pos) ?_
  rintro vs s'' ⟨g'', l', R'', hds⟩
  exact ⟨g'', l.trans l', R'', .cons (hd.mono l'.1 l'.2.1) hds⟩
theorem EX.tuple {es : List Expr} {k : Nat} {pos : Pos} {ds : List D} (h : EXs C n Γ es σ ds σ') (hsz : ds.length ≤ sizeLine) : EX C n Γ (.Tuple es k pos) σ (.tup ds) σ' := by
  intro κ g s R
  refine wpAny_Tuple (thn (h κ g s R pos) ?_)
  rintro vs s' ⟨g', l, R', hd⟩
  refine ⟨by rw [hd.length]; exact hsz, ?_⟩
  obtain ⟨l2, R2⟩ := R'.pushF { cls := .type "tuple", data := .seq (List.toArray vs) } rfl (t := s'.toks)
  exact ⟨_, l.trans l2, R2, _, _, vs, 0, rfl, FZ.set_self _ _ _, rfl, rfl, hd.mono l2.1 l2.2.1⟩
theorem EX.cell {es : List Expr} {pos : Pos} {ds : List D} (h : EXs C n Γ es σ ds σ') (hsz : ds.length ≤ sizeLine) : EX C n Γ (.List es pos) σ (.cell σ'.cells.length) ⟨σ'.loc, σ'.glb, σ'.cells ++ [some ds]⟩ := by
  intro κ g s R
  refine wpAny_List (thn (h κ g s R pos) ?_)
  rintro vs s' ⟨g', l, R', hd⟩
  refine ⟨by rw [hd.length]; exact hsz, ?_⟩
  (refine elAAAA (R'.fresh (Nat.le_refl s'.heap.objs.size)) fun h1 h2 h3 h4 h5 => ?_)
  obtain ⟨l2, R2⟩ := (R'.push { cls := .type "list", data := .seq (List.toArray vs) } (t := s'.toks)).addCell (ds := ds) h1 h2 h3 h4 h5 ⟨_, _, Heap.get?_push_size _ rfl, rfl, rfl, rfl⟩ hd
  refine ⟨_, l.trans l2, R2, s'.heap.objs.size, ?_, rfl⟩
  show (g'.cs ++ [_])[σ'.cells.length]? = _
  rw [R'.len]; simp
theorem X1.assignX {x : Str} {p pos : Pos} {e : Expr} {d : D} {l' : List (Str × Option D)} (h : EX C n Γ e σ d σ₁) (U : Upd x (some d) σ₁.loc l') (q : Q .next ⟨l', σ₁.glb, σ₁.cells⟩)
    (hs : autoParam (swapsWith e (some (.Name x p)) pos.line Γ.env = pure false) tacB) : X1 C n Γ (.Assign [.Name x p] e pos) σ Q := by
  intro κ g s R
  refine wpAny_Assign_Name (thn (h κ g s R) ?_) hs
  rintro v s' ⟨g', l, R', hd⟩
  exact store R' hd U fun s'' R'' => ⟨g', _, .next, l, R'', rfl, q⟩
theorem X1.appendX {o e : Expr} {apos pos p : Pos} {k : Nat} {d₀ : List D} {ds : List D} {d : D} (ho : E C n Γ o σ (.cell k)) (hk0 : σ.cells[k]? = some (some d₀)) (he : EX C n Γ e σ d σ₁) (hk : σ₁.cells[k]? = some (some ds)) (hsz : ds.length ≤ sizeLine) (q : Q .next ⟨σ₁.loc, σ₁.glb, σ₁.cells.set k (some (ds ++ [d]))⟩)
    (hs : autoParam (starEach [e] Γ.env = [(false, eval e Γ.env)]) tacB)
    (hm : ∃ pl, eval (.Call (.Attribute o "append" apos) [e] [] pos) Γ.env = (do
      let ov ← eval o Γ.env
      standAt apos.atName
      let (f, first) ← holding [ov] (getMethod ov "append" pl)
      callWith pos f first (backTo pos (starEach [e] Γ.env)) []) := by exact ⟨_, rfl⟩) :
    X1 C n Γ (.Expr (.Call (.Attribute o "append" apos) [e] [] pos) p) σ Q := by
  intro κ g s R
  obtain ⟨pl, hm⟩ := hm
  have hi : interactive Γ.env = false := by unfold interactive; rw [R.ok.kind]; rfl
  refine wpAny_Expr_any (MethodCall_ (thn (ho κ g s R) ?_) hm) hi rfl
  rintro v s₁ ⟨g₁, l₁, R₁, hv⟩
  (refine elEA (id hv) fun a ha z0 => ?_; subst z0)
  obtain ⟨a', vs, h1, _, _, _, _, ⟨oo, mm, hoo, hc, hdi, hda⟩, _, _⟩ := R₁.live k d₀ hk0
  rw [ha] at h1; cases h1
  refine getMethod_list_append hoo hc hdi ?_
  refine callWith_builtin (by rw [hs]; rfl) ?_
  rw [hs]
  refine Calls.evalArgs_plain (Calls.spliced_cons (thn (he κ g₁ s₁ R₁) ?_))
  rintro w s₂ ⟨g₂, l₂, R₂, hw⟩
  refine Calls.spliced_nil ?_
  exact append_cell R₂ hk (hv.mono l₂.1 l₂.2.1) hw hsz fun s' R' => ⟨g₂, _, .next, l₁.trans l₂, R', rfl, q⟩
end
noncomputable def ix (i : Nat) : Nat := if i = 0 then 0 else i + 1
noncomputable def segD (m i : Nat) (s : Seg) : D := .tup [.str s.1.txt, if i < m then .lst (s.2.map eCol) else .cell (ix i)]
noncomputable def outerM (segs : List Seg) (m : Nat) : List D := segs.mapIdx (segD m)
noncomputable def innerM (segs : List Seg) (m i : Nat) : Option (List D) := (segs[i]?).bind fun s => if i < m then none else some (s.2.map eCol)
noncomputable def cellsM (segs : List Seg) (m : Nat) : List (Option (List D)) := (List.range (segs.length + 1)).map fun j => if j = 1 then some (outerM segs m) else innerM segs m (if j = 0 then 0 else j - 1)
theorem cellsM_get {segs : List Seg} {m j : Nat} (h : j < segs.length + 1) : (cellsM segs m)[j]? = some (if j = 1 then some (outerM segs m) else innerM segs m (if j = 0 then 0 else j - 1)) := by
  rw [cellsM, List.getElem?_map, List.getElem?_range h]; rfl
theorem cellsM_len (segs : List Seg) (m : Nat) : (cellsM segs m).length = segs.length + 1 := by simp [cellsM]
theorem cellsM_outer {segs : List Seg} (m : Nat) (h : 0 < segs.length) : (cellsM segs m)[1]? = some (some (outerM segs m)) := by rw [cellsM_get (by exact Nat.succ_le_succ (by assumption)), if_pos rfl]
theorem cellsM_inner {segs : List Seg} {m i : Nat} (h : i < segs.length) : (cellsM segs m)[ix i]? = some (innerM segs m i) := by
  unfold ix
  by_cases h0 : i = 0
  · subst h0; rw [if_pos rfl, cellsM_get (by exact Nat.succ_pos _)]; rfl
  · rw [if_neg h0, cellsM_get (by exact Nat.succ_lt_succ (by assumption)), if_neg (by simp_all), if_neg (by exact Nat.ne_of_gt (Nat.succ_pos _))]; congr 2
noncomputable def addLast (segs : List Seg) (c : Col) : List Seg := segs.modify (segs.length - 1) fun s => (s.1, s.2 ++ [c])
theorem ix_inj {i j : Nat} (h : ix i = ix j) : i = j := by unfold ix at h; split at h <;> split at h <;> lia
theorem ix_ne1 (i : Nat) : ix i ≠ 1 := by unfold ix; split <;> simp_all
theorem ix_back {j : Nat} (h : j ≠ 1) : ix (if j = 0 then 0 else j - 1) = j := by unfold ix; split <;> split <;> lia
theorem cellsM_add {segs : List Seg} {c : Col} {s : Seg} (h0 : 0 < segs.length) (hs : segs[segs.length - 1]? = some s) : (cellsM segs 0).set (ix (segs.length - 1)) (some (s.2.map eCol ++ [eCol c])) = cellsM (addLast segs c) 0 := by
  have hl : (addLast segs c).length = segs.length := by simp [addLast]
  have hout : outerM (addLast segs c) 0 = outerM segs 0 := by
    unfold outerM
    apply List.ext_getElem?
    intro i
    rw [List.getElem?_mapIdx, List.getElem?_mapIdx, addLast, List.getElem?_modify]
    cases segs[i]? with
    | none => simp
    | some t => simp only [Option.map_eq_map, Option.map_some]; split <;> rfl
  apply List.ext_getElem?
  intro j
  by_cases hj : j < segs.length + 1
  · rw [List.getElem?_set]
    by_cases he : ix (segs.length - 1) = j
    · rw [if_pos he, if_pos (by rw [cellsM_len]; exact he ▸ hj)]
      subst he
      rw [cellsM_inner (by rw [hl]; exact Nat.sub_lt (by assumption) (by decide))]
      unfold innerM addLast
      rw [List.getElem?_modify, hs]
      simp
    · rw [if_neg he, cellsM_get hj, cellsM_get (by rw [hl]; exact hj), hout]
      by_cases h1 : j = 1
      · rw [if_pos h1, if_pos h1]
      · rw [if_neg h1, if_neg h1]
        congr 1
        have hne : segs.length - 1 ≠ (if j = 0 then 0 else j - 1) := fun z => he ((congrArg ix z).trans (ix_back h1))
        generalize (if j = 0 then 0 else j - 1) = i at hne
        unfold innerM addLast
        rw [List.getElem?_modify]
        cases segs[i]? <;> simp [hne]
  · rw [List.getElem?_eq_none (by rw [List.length_set, cellsM_len]; exact Nat.le_of_not_lt (by assumption)), List.getElem?_eq_none (by rw [cellsM_len, hl]; exact Nat.le_of_not_lt (by assumption))]
theorem cellsM_new {segs : List Seg} {k : SK} (h0 : 0 < segs.length) : (cellsM segs 0 ++ [some []]).set 1 (some (outerM segs 0 ++ [D.tup [.str k.txt, .cell (segs.length + 1)]])) = cellsM (segs ++ [(k, [])]) 0 := by
  have hout : outerM (segs ++ [(k, [])]) 0 = outerM segs 0 ++ [D.tup [.str k.txt, .cell (segs.length + 1)]] := by
    unfold outerM
    rw [List.mapIdx_append]
    congr 1
    have hx : ix segs.length = segs.length + 1 := by unfold ix; rw [if_neg (by exact Nat.ne_of_gt (by assumption))]
    simp [segD, hx]
  apply List.ext_getElem?
  intro j
  rw [List.getElem?_set]
  by_cases h1 : 1 = j
  · subst h1
    rw [if_pos rfl, if_pos (by rw [List.length_append, cellsM_len]; exact Nat.le_add_left _ _), cellsM_outer _ (by simp), hout]
  · rw [if_neg h1]
    by_cases hj : j < segs.length + 1
    · rw [List.getElem?_append_left (by rw [cellsM_len]; exact hj), cellsM_get hj, cellsM_get (by simp; exact Nat.le_succ_of_le (by assumption)), if_neg (Ne.symm h1), if_neg (Ne.symm h1)]
      unfold innerM
      rw [List.getElem?_append_left (by split <;> omega)]
    · by_cases hj2 : j = segs.length + 1
      · subst hj2
        rw [List.getElem?_append_right (by rw [cellsM_len]; exact Nat.lt_succ_self _), cellsM_len, Nat.sub_self, cellsM_get (by simp), if_neg (by lia), if_neg (by exact Nat.ne_of_gt (Nat.succ_pos _))]
        unfold innerM
        rw [Nat.add_sub_cancel, List.getElem?_append_right (Nat.le_refl _), Nat.sub_self]
        rfl
      · rw [List.getElem?_eq_none (by rw [List.length_append, cellsM_len]; simp; lia), List.getElem?_eq_none (by rw [cellsM_len]; simp; lia)]
end
section
theorem noMeth_segD (m i : Nat) (s : Seg) : NoMeth (segD m i s) := by
  refine ⟨trivial, ?_, trivial⟩
  split
  · exact NoMeths.of (noCells_map noCell_col _)
  · trivial
theorem noMeths_iff : ∀ {ds : List D}, NoMeths ds ↔ ∀ d ∈ ds, NoMeth d
  | [] => ⟨fun _ _ h => (nomatch h), fun _ => trivial⟩
  | d :: ds => by
    rw [NoMeths, noMeths_iff (ds := ds)]
    exact ⟨fun h x hx => (List.mem_cons.mp hx).elim (fun e => e ▸ h.1) (h.2 x), fun h => ⟨h d (.head _), fun x hx => h x (.tail _ hx)⟩⟩
theorem cellsM_meth {segs : List Seg} {m : Nat} : ∀ es, some es ∈ cellsM segs m → NoMeths es := by
  intro es h
  (refine elEA (List.mem_map.mp h) fun j _ e => ?_)
  split at e
  · cases e
    refine noMeths_iff.mpr fun d hd => ?_
    obtain ⟨i, hi, rfl⟩ := List.mem_mapIdx.mp hd
    exact noMeth_segD _ _ _
  · generalize (if j = 0 then 0 else j - 1) = i at e
    unfold innerM at e
    (refine elEA (Option.bind_eq_some_iff.mp e) fun s _ e => ?_)
    split at e
    · cases e
    · cases e; exact NoMeths.of (noCells_map noCell_col _)
theorem segD_sub {m i : Nat} {s t : Seg} (h : i = m → t = s) : D.sub (ix m) (.lst (s.2.map eCol)) (segD m i t) = segD (m + 1) i t := by
  unfold segD
  rw [D.sub]
  congr 1
  rw [D.subs, D.subs, D.subs, D.sub]
  congr 2
  by_cases h1 : i < m
  · rw [if_pos h1, if_pos (by exact Nat.le_succ_of_le (by assumption)), NoCell.sub (show NoCell (.lst (t.2.map eCol)) from noCells_map noCell_col _)]
  · rw [if_neg h1, D.sub]
    by_cases h2 : i = m
    · rw [if_pos (by rw [h2]), if_pos (by simp_all), h h2]
    · rw [if_neg fun z => h2 (ix_inj z), if_neg (by lia)]
theorem cellsM_frz {segs : List Seg} {m : Nat} {s : Seg} (hs : segs[m]? = some s) : ((cellsM segs m).map (·.map (D.subs (ix m) (.lst (s.2.map eCol))))).set (ix m) none = cellsM segs (m + 1) := by
  have hm := (List.getElem?_eq_some_iff.mp hs).1
  apply List.ext_getElem?
  intro j
  by_cases hj : j < segs.length + 1
  · rw [List.getElem?_set, List.getElem?_map, cellsM_get hj, cellsM_get hj]
    by_cases he : ix m = j
    · have hj1 : j ≠ 1 := fun z => ix_ne1 m (he.trans z)
      rw [if_pos he, if_pos (by rw [List.length_map, cellsM_len]; simp_all), if_neg hj1]
      have : (if j = 0 then 0 else j - 1) = m := ix_inj ((ix_back hj1).trans he.symm)
      rw [this]
      unfold innerM
      rw [hs]; simp
    · rw [if_neg he, Option.map_some]
      congr 1
      by_cases h1 : j = 1
      · rw [if_pos h1, if_pos h1, Option.map_some]
        congr 1
        rw [D.subs_map]
        apply List.ext_getElem?
        intro i
        unfold outerM
        rw [List.getElem?_map, List.getElem?_mapIdx, List.getElem?_mapIdx]
        cases ht : segs[i]? with
        | none => rfl
        | some t =>
          simp only [Option.map_some]
          rw [segD_sub fun z => by subst z; rw [hs] at ht; cases ht; rfl]
      · rw [if_neg h1, if_neg h1]
        have hne : (if j = 0 then 0 else j - 1) ≠ m := fun z => he ((congrArg ix z).symm.trans (ix_back h1))
        generalize (if j = 0 then 0 else j - 1) = i at hne
        unfold innerM
        cases segs[i]? with
        | none => rfl
        | some t =>
          simp only [Option.bind_some]
          by_cases h2 : i < m
          · rw [if_pos h2, if_pos (by exact Nat.le_succ_of_le (by assumption))]; rfl
          · rw [if_neg h2, if_neg (by lia), Option.map_some, NoCells.subs (noCells_map noCell_col _)]
  · rw [List.getElem?_eq_none (by rw [List.length_set, List.length_map, cellsM_len]; exact Nat.le_of_not_lt (by assumption)), List.getElem?_eq_none (by rw [cellsM_len]; exact Nat.le_of_not_lt (by assumption))]
section
variable {C : Cx} {n : Nat} {Γ : Fx} {Q : Fl → St → Prop}
theorem frz_all {ss : List Stmt} {segs : List Seg} {l l' : List (Str × Option D)} (h0 : 0 < segs.length) (hl : ∀ m, FrzL (ix m) (.lst ((segs[m]?.getD (.head, [])).2.map eCol)) l l) (hl' : FrzL 1 (.lst (segs.map eSeg)) l l')
    (h : ∀ cells, X C n Γ ss ⟨l', [], cells⟩ Q) : X C n Γ ss ⟨l, [], cellsM segs 0⟩ Q := by
  have last : X C n Γ ss ⟨l, [], cellsM segs segs.length⟩ Q := by
    have hout : outerM segs segs.length = segs.map eSeg := by
      apply List.ext_getElem?
      intro i
      unfold outerM
      rw [List.getElem?_mapIdx, List.getElem?_map]
      cases hi : segs[i]? with
      | none => rfl
      | some t =>
        have := (List.getElem?_eq_some_iff.mp hi).1
        simp [segD, this]
    refine X.frz (k := 1) (ds := segs.map eSeg) (by rw [← hout]; exact cellsM_outer _ h0) hl' (fun es he => ?_) (h _)
    (refine elEA (List.mem_map.mp he) fun j _ e => ?_)
    split at e
    · cases e; rw [hout]; exact noCells_map noCell_seg _
    · generalize (if j = 0 then 0 else j - 1) = i at e
      unfold innerM at e
      (refine elEA (Option.bind_eq_some_iff.mp e) fun s _ e => ?_)
      split at e
      · cases e
      · cases e; exact noCells_map noCell_col _
  have step : ∀ k, k ≤ segs.length → X C n Γ ss ⟨l, [], cellsM segs (segs.length - k)⟩ Q := by
    intro k
    induction k with
    | zero => intro _; exact last
    | succ k ih =>
      intro hk
      have hm : segs.length - (k + 1) < segs.length := by omega
      have hs : segs[segs.length - (k + 1)]? = some segs[segs.length - (k + 1)] := List.getElem?_eq_getElem hm
      refine X.frzG (k := ix (segs.length - (k + 1))) (ds := (segs[segs.length - (k + 1)]).2.map eCol) (l' := l) ?_ ?_ cellsM_meth ?_
      · rw [cellsM_inner hm]
        unfold innerM
        rw [hs]; simp
      · have := hl (segs.length - (k + 1))
        rw [hs] at this; exact this
      · rw [cellsM_frz hs, show segs.length - (k + 1) + 1 = segs.length - k by lia]
        exact ih (by exact Nat.le_of_lt (by assumption))
  have := step segs.length (Nat.le_refl _)
  rw [Nat.sub_self] at this; exact this
end
inductive Act where
  | col (c : Col) | new (k : SK) | skip
noncomputable def pReadStep (b : Txt) (a : Nat) : Act × Nat :=
  if (b.drop a).take 4 = [40, 63, 33, 41] then (.col (false, []), a + 4)
  else if (b.drop a).take 6 = [40, 63, 62, 46, 42, 63] then (.new .group, a + 6)
  else if (b.drop a).take 2 = [46, 42] then (.new .tail, a + 2)
  else if b[a]? = some 41 then (.skip, a + 1)
  else if b[a]? = some 46 then (.col (true, []), a + 1)
  else if b[a]? = some 91 then (.col (pSet b (a + 1)).1, (pSet b (a + 1)).2)
  else (.col (false, [((pOne b a).1, (pOne b a).1)]), (pOne b a).2)
noncomputable def Act.on (segs : List Seg) : Act → List Seg
  | .col c => addLast segs c
  | .new k => segs ++ [(k, [])]
  | .skip => segs
noncomputable def pReadGo (b : Txt) : Nat → Nat → List Seg → List Seg
  | 0, _, segs => segs
  | f + 1, a, segs => if a < b.length then pReadGo b f (pReadStep b a).2 ((pReadStep b a).1.on segs) else segs
noncomputable def pRead (b : Txt) : List Seg := pReadGo b (b.length + 1) 0 [(.head, [])]
theorem pSetGo_ge (b : Txt) : ∀ (f a : Nat) (ms : List (Txt × Txt)), a ≤ (pSetGo b f a ms).2
  | 0, _, _ => Nat.le_refl _
  | f + 1, a, ms => by
    unfold pSetGo
    split
    · exact Nat.le_trans (Nat.le_of_lt (pSetStep_gt b a)) (pSetGo_ge b f _ _)
    · exact Nat.le_refl _
theorem pReadStep_gt (b : Txt) (a : Nat) : a < (pReadStep b a).2 := by
  have h1 := pOne_gt b a
  have h2 := pSetGo_ge b (b.length + 1) (if (b.drop (a + 1)).take 1 = [94] then a + 1 + 1 else a + 1) []
  unfold pReadStep pSet
  split
  · simp
  split
  · simp
  split
  · exact Nat.le_succ _
  split
  · simp
  split
  · simp
  split
  · simp; split at h2 <;> simp_all <;> lia
  · omega
theorem on_pos {segs : List Seg} (h : 0 < segs.length) (x : Act) : 0 < (x.on segs).length := by
  cases x <;> simp [Act.on, addLast, h]
end
section
noncomputable abbrev pre4 : Txt := [40, 63, 115, 58]
noncomputable abbrev suf3 : Txt := [41, 92, 90]
theorem cut_pre (b : Txt) : cut (pre4 ++ (b ++ suf3)) none (some 4) = pre4 := by
  rw [cut_to (hi := 4) (j := 4) rfl]; simp
theorem cut_suf (b : Txt) : cut (pre4 ++ (b ++ suf3)) (some (-3)) none = suf3 := by
  have h : clipAt (pre4 ++ (b ++ suf3)).length (-3) = b.length + 4 := by unfold clipAt; rw [if_pos (by decide)]; simp; lia
  unfold cut
  simp only [Option.elim, h]
  rw [List.take_of_length_le (by grind)]
  rw [show b.length + 4 = pre4.length + b.length by simp; exact Nat.add_comm _ _, ← List.drop_drop, List.drop_left, List.drop_left]
theorem cut_mid (b : Txt) : cut (pre4 ++ (b ++ suf3)) (some 4) (some (-3)) = b := by
  have h : clipAt (pre4 ++ (b ++ suf3)).length (-3) = b.length + 4 := by unfold clipAt; rw [if_pos (by decide)]; simp; lia
  have h4 : clipAt (pre4 ++ (b ++ suf3)).length 4 = 4 := by unfold clipAt; rw [if_neg (by decide)]; simp; lia
  unfold cut
  simp only [Option.elim, h, h4]
  rw [Nat.add_sub_cancel]
  show ((pre4 ++ (b ++ suf3)).drop pre4.length).take b.length = b
  rw [List.drop_left, List.take_left]
theorem cutk (b : Txt) (a k : Nat) : cut b (some (a : Int)) (some ((a : Int) + (k : Int))) = (b.drop a).take k := by rw [cut_ij (i := a) (j := a + k) rfl (by rfl)]; congr 1; simp
structure SegOk (segs : List Seg) (a : Nat) : Prop where
  pos : 0 < segs.length
  len : segs.length ≤ a + 1
  cols : ∀ s ∈ segs, s.2.length ≤ a
theorem SegOk.on {segs : List Seg} {a a' : Nat} (h : SegOk segs a) (x : Act) (ha : a < a') : SegOk (x.on segs) a' := by
  refine ⟨on_pos h.pos x, ?_, fun s hs => ?_⟩
  · have := h.len; cases x <;> simp [Act.on, addLast] <;> lia
  · cases x with
    | skip => exact Nat.le_trans (h.cols s hs) (Nat.le_of_lt ha)
    | new k =>
      rcases List.mem_append.mp hs with q | q
      · exact Nat.le_trans (h.cols s q) (Nat.le_of_lt ha)
      · cases List.mem_singleton.mp q; simp
    | col c =>
      obtain ⟨i, hi⟩ := List.mem_iff_getElem?.mp hs
      rw [Act.on, addLast, List.getElem?_modify] at hi
      cases ht : segs[i]? with
      | none => rw [ht] at hi; cases hi
      | some t =>
        rw [ht] at hi
        have := h.cols t (List.mem_of_getElem? ht)
        simp only [Option.map_eq_map, Option.map_some, Option.some.injEq] at hi
        split at hi
        · subst hi; simp; exact Nat.lt_of_le_of_lt (by assumption) (by assumption)
        · subst hi; lia
noncomputable abbrev S25 (b : Txt) (segs : List Seg) (a : Nat) (c s : Option D) : St :=
  ⟨[("text", some (.str (pre4 ++ (b ++ suf3)))), ("body", some (.str b)), ("segments", some (.cell 1)), ("at", some (.int a)), ("column", c), ("sign", s)], [], cellsM segs 0⟩
section
variable {C : Cx} {n : Nat} {Γ : Fx} {Q : Fl → St → Prop} {b : Txt} {segs : List Seg} {a : Nat} {c s : Option D}
theorem lastE (h : SegOk segs a) (hsz : a + 1 ≤ sizeLine) {p1 p2 p3 p4 p5 p6 k1 k2} : E C n Γ (.Subscript (.Subscript (.Name "segments" p1) (.UnaryOp .USub (.Constant (.int 1) k1 p2) p3) p4) (.Constant (.int 1) k2 p5) p6) (S25 b segs a c s) (.cell (ix (segs.length - 1))) := by
  have h0 := h.pos
  have hl := h.len
  have hd : (outerM segs 0)[segs.length - 1]? = some (segD 0 (segs.length - 1) segs[segs.length - 1]) := by
    unfold outerM; rw [List.getElem?_mapIdx, List.getElem?_eq_getElem (by exact Nat.sub_lt (by assumption) (by decide))]; rfl
  have hlen : (outerM segs 0).length = segs.length := by simp [outerM]
  refine E.sub (E.sub (by walk_at "ev") (E.neg E.int) (sub_lst_neg (d := segD 0 (segs.length - 1) segs[segs.length - 1]) (.cell 1 (outerM segs 0) (cellsM_outer _ h0)) (by decide) (by lia) ?_ (by rw [hlen]; exact fits63 (by exact Nat.le_trans (by assumption) (by assumption))))) E.int (sub_tup (by exact Int.natCast_nonneg _) rfl (by exact Nat.le_add_left _ _))
  rw [hlen, show ((-1 : Int) + (segs.length : Int)).toNat = segs.length - 1 from negone _]; exact hd
theorem addLastX (h : SegOk segs a) (hsz : a + 1 ≤ sizeLine) {e : Expr} {col : Col} {p1 p2 p3 p4 p5 p6 k1 k2 p7 p8 p9} (he : E C n Γ e (S25 b segs a c s) (eCol col)) (q : Q .next (S25 b (addLast segs col) a c s))
    (hs : starEach [e] Γ.env = [(false, eval e Γ.env)])
    (hm : ∃ pl, eval (.Call (.Attribute (.Subscript (.Subscript (.Name "segments" p1) (.UnaryOp .USub (.Constant (.int 1) k1 p2) p3) p4) (.Constant (.int 1) k2 p5) p6) "append" p7) [e] [] p8) Γ.env = (do
      let ov ← eval (.Subscript (.Subscript (.Name "segments" p1) (.UnaryOp .USub (.Constant (.int 1) k1 p2) p3) p4) (.Constant (.int 1) k2 p5) p6) Γ.env
      standAt p7.atName
      let (f, first) ← holding [ov] (getMethod ov "append" pl)
      callWith p8 f first (backTo p8 (starEach [e] Γ.env)) [])) :
    X1 C n Γ (.Expr (.Call (.Attribute (.Subscript (.Subscript (.Name "segments" p1) (.UnaryOp .USub (.Constant (.int 1) k1 p2) p3) p4) (.Constant (.int 1) k2 p5) p6) "append" p7) [e] [] p8) p9) (S25 b segs a c s) Q := by
  have h0 := h.pos
  have hg : segs[segs.length - 1]? = some segs[segs.length - 1] := List.getElem?_eq_getElem (by exact Nat.sub_lt (by assumption) (by decide))
  refine X1.append (k := ix (segs.length - 1)) (ds := (segs[segs.length - 1]).2.map eCol) (lastE h hsz) he ?_ ?_ ?_ hs hm
  · show (cellsM segs 0)[_]? = _
    rw [cellsM_inner (by exact Nat.sub_lt (by assumption) (by decide))]
    unfold innerM
    rw [hg]; rfl
  · rw [List.length_map]; have := h.cols _ (List.mem_of_getElem? hg); lia
  · show Q .next ⟨_, _, (cellsM segs 0).set _ _⟩
    rw [cellsM_add h0 hg]; exact q
theorem newX (h : SegOk segs a) (hsz : a + 1 ≤ sizeLine) {k : SK} {kx : Str} {p1 p2 p3 p4 k1 k2 p7 p8 p9} (hk : kx.cps.toList = k.txt) (q : Q .next (S25 b (segs ++ [(k, [])]) a c s))
    (hm : ∃ pl, eval (.Call (.Attribute (.Name "segments" p1) "append" p7) [.Tuple [.Constant (.str kx) k1 p2, .List [] p3] k2 p4] [] p8) Γ.env = (do
      let ov ← eval (.Name "segments" p1) Γ.env
      standAt p7.atName
      let (f, first) ← holding [ov] (getMethod ov "append" pl)
      callWith p8 f first (backTo p8 (starEach [.Tuple [.Constant (.str kx) k1 p2, .List [] p3] k2 p4] Γ.env)) [])) :
    X1 C n Γ (.Expr (.Call (.Attribute (.Name "segments" p1) "append" p7) [.Tuple [.Constant (.str kx) k1 p2, .List [] p3] k2 p4] [] p8) p9) (S25 b segs a c s) Q := by
  have h0 := h.pos
  have hl := h.len
  have hlen : (outerM segs 0).length = segs.length := by simp [outerM]
  refine X1.appendX (k := 1) (d₀ := outerM segs 0) (ds := outerM segs 0) (d := .tup [.str k.txt, .cell (segs.length + 1)]) (σ₁ := ⟨(S25 b segs a c s).loc, [], cellsM segs 0 ++ [some []]⟩) (by walk_at "ev") (cellsM_outer _ h0) ?_ ?_ (by rw [hlen]; exact Nat.le_trans (by assumption) (by assumption)) ?_ rfl hm
  · refine EX.tuple (.cons (.of (E.str hk)) (.cons (σ₁ := ⟨(S25 b segs a c s).loc, [], cellsM segs 0 ++ [some []]⟩) (d := .cell (segs.length + 1)) ?_ (.of .nil))) (by exact szLe (by with_unfolding_all rfl))
    have := EX.cell (C := C) (n := n) (Γ := Γ) (σ := S25 b segs a c s) (pos := p3) (.of .nil) (by decide)
    rw [show (S25 b segs a c s).cells.length = segs.length + 1 from cellsM_len _ _] at this
    exact this
  · show (cellsM segs 0 ++ [some []])[1]? = _
    rw [List.getElem?_append_left (by rw [cellsM_len]; exact Nat.succ_le_succ (by assumption))]; exact cellsM_outer _ h0
  · show Q .next ⟨_, _, (cellsM segs 0 ++ [some []]).set 1 _⟩
    rw [cellsM_new h0]; exact q
end
theorem d25 : DefOk (sc 25) (stParams (st 25)) (bd 25) (stName (st 25)) ["text"] ["body", "segments", "at", "column", "sign"] := DefOk.one rfl rfl rfl rfl (fun _ _ _ _ => rfl) (by decide +kernel) (by decide +kernel)
end
section
theorem SegOk.mono {segs : List Seg} {a a' : Nat} (h : SegOk segs a) (ha : a ≤ a') : SegOk segs a' := ⟨h.pos, Nat.le_trans h.len (by exact Nat.succ_le_succ (by assumption)), fun s hs => Nat.le_trans (h.cols s hs) ha⟩
theorem pOne_le (b : Txt) (a : Nat) : (pOne b a).2 ≤ a + 2 := by unfold pOne; split <;> simp
theorem pSetStep_le (b : Txt) (a : Nat) : (pSetStep b a).2 ≤ a + 5 := by
  have h1 := pOne_le b a
  have h2 := pOne_le b ((pOne b a).2 + 1)
  unfold pSetStep; split <;> simp <;> lia
theorem pSetGo_le (b : Txt) : ∀ (f a : Nat) (ms : List (Txt × Txt)), (pSetGo b f a ms).2 ≤ max a (b.length + 4)
  | 0, _, _ => Nat.le_max_left _ _
  | f + 1, a, ms => by
    unfold pSetGo
    split
    · rename_i h
      have hlt : a < b.length := by simp at h; exact h.1
      have h1 := pSetStep_le b a
      have h2 := pSetGo_le b f (pSetStep b a).2 (ms ++ [(pSetStep b a).1])
      lia
    · exact Nat.le_max_left _ _
theorem pSet_le (b : Txt) (a : Nat) : (pSet b a).2 ≤ max (a + 1) (b.length + 4) + 1 := by
  have := pSetGo_le b (b.length + 1) (if (b.drop a).take 1 = [94] then a + 1 else a) []
  unfold pSet
  split at this <;> simp_all <;> lia
theorem pSet_gt (b : Txt) (a : Nat) : a < (pSet b a).2 := by
  have := pSetGo_ge b (b.length + 1) (if (b.drop a).take 1 = [94] then a + 1 else a) []
  unfold pSet
  split at this <;> simp_all <;> lia
inductive I25 (b : Txt) (m : Nat) (σ : St) : Prop
  | mk (a : Nat) (segs : List Seg) (c s : Option D) (hc : Op c) (hs : Op s) (e : σ = S25 b segs a c s) (he : pReadGo b m a segs = pRead b) (hm : b.length < a + m) (hok : SegOk segs a) : I25 b m σ
set_option maxHeartbeats 4000000 in
theorem read_spec {C : Cx} (G : Gl C) {b : Txt} (hb : b.length + 16 ≤ sizeLine) : Spec C 3 (G.v 25) [.str (pre4 ++ (b ++ suf3))] (.lst ((pRead b).map eSeg)) := by
  have hb' : b.length ≤ sizeLine := by exact Nat.le_trans (Nat.le_add_right _ _) (by assumption)
  have ht : (pre4 ++ (b ++ suf3)).length ≤ sizeLine := by simp; lia
  refine Spec.of G.H (G.fn 25 (by decide)).2 d25 rfl ⟨trivial, trivial⟩ (noCells_map noCell_seg _) fun Γ F => ?_
  show X C 2 Γ (_ :: _ :: _ :: _ :: _ :: _ :: []) ⟨[("text", some (.str (pre4 ++ (b ++ suf3)))), ("body", none), ("segments", none), ("at", none), ("column", none), ("sign", none)], [], []⟩ _
  refine X.cons (X1.if (b := false) (T.eq (by walk_at "ev"; exact ht; exact ht) ?_) (fun h => by cases h) fun _ => X.nil ?_)
  · have e1 := cut_pre b
    have e2 := cut_suf b
    show (!decide (cut (pre4 ++ (b ++ suf3)) none (some 4) = _) || (!decide (cut (pre4 ++ (b ++ suf3)) (some (-3)) none = _) || false)) = false
    rw [e1, e2]; rfl
  refine X.cons (X1.assign (d := .str b) (E.eq (by walk_at "ev"; exact ht) (congrArg D.str (cut_mid b))) (by walk_at "upd") ?_)
  refine X.cons (X1.assignX (EX.cell (.cons (EX.tuple (.cons (.of (by walk_at "ev")) (.cons (EX.cell (.of .nil) (by decide)) (.of .nil))) (by exact szLe (by with_unfolding_all rfl))) (.of .nil)) (by exact szLe (by with_unfolding_all rfl))) (by walk_at "upd") ?_)
  refine X.cons (X1.assign (by walk_at "ev") (by walk_at "upd") ?_)
  refine X.cons (X1.whileH (I25 b) (k₀ := b.length + 1) ⟨0, [(.head, [])], _, _, .none, .none, rfl, rfl, by exact Nat.le_add_left _ _, ⟨by decide, by decide, fun s hs => by cases List.mem_singleton.mp hs; simp⟩⟩ ?_)
  rintro m σ' ⟨a, segs, c, s, hc, hs, rfl, he, hm, hok⟩ K Q' hK hQ'
  refine ⟨decide (a < b.length), T.eq (T.cmp (by walk_at "ev") (E.callB (E.gb G (kind_of F rfl) boot_len) (by walk_at "ev") (len_s (fits63 hb'))) lt_i) (by rw [Bool.eq_iff_iff]; norm_cast), fun hlt => ?_, fun hlt => ?_⟩
  · have hlt : a < b.length := by exact of_decide_eq_true (by assumption)
    have hch : b[a]? = some b[a] := List.getElem?_eq_getElem hlt
    obtain ⟨m, rfl⟩ : ∃ j, m = j + 1 := ⟨m - 1, by lia⟩
    have hgo : pReadGo b m (pReadStep b a).2 ((pReadStep b a).1.on segs) = pRead b := by rw [← he, pReadGo, if_pos hlt]
    have hgt := pReadStep_gt b a
    have hok' := hok.on (pReadStep b a).1 hgt
    have hsub : ∀ {sl : Expr}, NoSlice sl → Sub C 2 Γ (S25 b segs a c s) sl (.str b) (.int a) (.str [b[a]]) := fun hs => Sub.str (by simp) (fits63 hb') (by rw [if_neg (by exact of_decide_eq_false (by assumption))]; exact hch) (by exact Int.ofNat_lt.mpr (by assumption)) hs
    have done : ∀ (x : Act) (a2 : Nat) (c s : Option D), Op c → Op s → pReadStep b a = (x, a2) → K (S25 b (x.on segs) a2 c s) := by
      intro x a2 c s h1 h2 h3
      rw [h3] at hgo hok' hgt
      exact hK m _ (by exact Nat.lt_succ_self _) ⟨a2, x.on segs, c, s, h1, h2, rfl, hgo, by simp at hgt; lia, hok'⟩
    clear hK hQ'
    by_cases c1 : (b.drop a).take 4 = [40, 63, 33, 41]
    · refine X.cons (X1.if (b := true) (T.eq (by walk_at "ev"; exact hb') (by rw [show cut b (some (a : Int)) (some ((a : Int) + 4)) = _ from cutk b a 4, c1]; rfl)) (fun _ => ?_) fun h => by cases h)
      refine X.cons (addLastX (col := (false, [])) hok (by lia) (E.eq (by walk_at "ev") (by rfl)) ?_ rfl ⟨_, rfl⟩)
      refine X.cons (X1.aug (a := .int a) (by walk_at "in") (by walk_at "ev") iadd_i (by walk_at "upd") (X.nil (X.nil ?_)))
      exact done _ (a + 4) c s hc hs (by rw [pReadStep, if_pos c1])
    refine X.cons (X1.if (b := false) (T.eq (by walk_at "ev"; exact hb') (by rw [show cut b (some (a : Int)) (some ((a : Int) + 4)) = _ from cutk b a 4]; exact decide_eq_false (by assumption))) (fun h => by cases h) fun _ => ?_)
    by_cases c2 : (b.drop a).take 6 = [40, 63, 62, 46, 42, 63]
    · refine X.cons (X1.if (b := true) (T.eq (by walk_at "ev"; exact hb') (by rw [show cut b (some (a : Int)) (some ((a : Int) + 6)) = _ from cutk b a 6, c2]; rfl)) (fun _ => ?_) fun h => by cases h)
      refine X.cons (newX (k := .group) hok (by lia) lit_group ?_ ⟨_, rfl⟩)
      refine X.cons (X1.aug (a := .int a) (by walk_at "in") (by walk_at "ev") iadd_i (by walk_at "upd") (X.nil (X.nil (X.nil ?_))))
      exact done _ (a + 6) c s hc hs (by rw [pReadStep, if_neg c1, if_pos c2])
    refine X.cons (X1.if (b := false) (T.eq (by walk_at "ev"; exact hb') (by rw [show cut b (some (a : Int)) (some ((a : Int) + 6)) = _ from cutk b a 6]; exact decide_eq_false (by assumption))) (fun h => by cases h) fun _ => ?_)
    by_cases c3 : (b.drop a).take 2 = [46, 42]
    · refine X.cons (X1.if (b := true) (T.eq (by walk_at "ev"; exact hb') (by rw [show cut b (some (a : Int)) (some ((a : Int) + 2)) = _ from cutk b a 2, c3]; rfl)) (fun _ => ?_) fun h => by cases h)
      refine X.cons (newX (k := .tail) hok (by lia) lit_tail ?_ ⟨_, rfl⟩)
      refine X.cons (X1.aug (a := .int a) (by walk_at "in") (by walk_at "ev") iadd_i (by walk_at "upd") (X.nil (X.nil (X.nil (X.nil ?_)))))
      exact done _ (a + 2) c s hc hs (by rw [pReadStep, if_neg c1, if_neg c2, if_pos c3])
    refine X.cons (X1.if (b := false) (T.eq (by walk_at "ev"; exact hb') (by rw [show cut b (some (a : Int)) (some ((a : Int) + 2)) = _ from cutk b a 2]; exact decide_eq_false (by assumption))) (fun h => by cases h) fun _ => ?_)
    refine X.cons (X1.if (b := decide (b[a]? = some 41)) (T.eq (T.cmp (E.sub (by walk_at "ev") (by walk_at "ev") (hsub (by intro _ _; with_unfolding_all rfl))) (by walk_at "ev") eq_s) (by rw [hch]; simp)) (fun c4 => ?_) fun c4 => ?_)
    · have c4 : b[a]? = some 41 := by exact of_decide_eq_true (by assumption)
      refine X.cons (X1.aug (a := .int a) (by walk_at "in") (by walk_at "ev") iadd_i (by walk_at "upd") (X.nil (X.nil (X.nil (X.nil (X.nil ?_))))))
      exact done .skip (a + 1) c s hc hs (by rw [pReadStep, if_neg c1, if_neg c2, if_neg c3, if_pos c4])
    have c4 : ¬ b[a]? = some 41 := by exact of_decide_eq_false (by assumption)
    refine X.cons (X1.if (b := decide (b[a]? = some 46)) (T.eq (T.cmp (E.sub (by walk_at "ev") (by walk_at "ev") (hsub (by intro _ _; with_unfolding_all rfl))) (by walk_at "ev") eq_s) (by rw [hch]; simp)) (fun c5 => ?_) fun c5 => ?_)
    · have c5 : b[a]? = some 46 := by exact of_decide_eq_true (by assumption)
      refine X.cons (addLastX (col := (true, [])) hok (by lia) (E.eq (by walk_at "ev") (by rfl)) ?_ rfl ⟨_, rfl⟩)
      refine X.cons (X1.aug (a := .int a) (by walk_at "in") (by walk_at "ev") iadd_i (by walk_at "upd") (X.nil (X.nil (X.nil (X.nil (X.nil (X.nil ?_)))))))
      exact done _ (a + 1) c s hc hs (by rw [pReadStep, if_neg c1, if_neg c2, if_neg c3, if_neg c4, if_pos c5])
    have c5 : ¬ b[a]? = some 46 := by exact of_decide_eq_false (by assumption)
    refine X.cons (X1.if (b := decide (b[a]? = some 91)) (T.eq (T.cmp (E.sub (by walk_at "ev") (by walk_at "ev") (hsub (by intro _ _; with_unfolding_all rfl))) (by walk_at "ev") eq_s) (by rw [hch]; simp)) (fun c6 => ?_) fun c6 => ?_)
    · have c6 : b[a]? = some 91 := by exact of_decide_eq_true (by assumption)
      refine X.cons (X1.assignT (E.callF G.H (E.gf G 24 (kind_of F rfl)) (.cons (by walk_at "ev") (.cons (E.eq (by walk_at "ev") (show _ = D.int ((a + 1 : Nat) : Int) by congr 1)) .nil)) (set_spec G (by lia) (a := a + 1)) (by exact Nat.le_refl _) ⟨trivial, trivial, trivial⟩ ⟨noCell_col _, trivial, trivial⟩) (Asg.tuple (.cons (Asg.name (by walk_at "upd")) (.cons (Asg.name (by walk_at "upd")) .nil))) ?_)
      refine X.cons (addLastX (col := (pSet b (a + 1)).1) ?_ ?_ (by walk_at "ev") (X.nil (X.nil (X.nil (X.nil (X.nil (X.nil (X.nil ?_))))))) rfl ⟨_, rfl⟩)
      · exact hok.mono (Nat.le_of_lt (Nat.lt_of_succ_lt (pSet_gt b (a + 1))))
      · have := pSet_le b (a + 1); lia
      · exact done _ (pSet b (a + 1)).2 _ s (.some (noCell_col _)) hs (by rw [pReadStep, if_neg c1, if_neg c2, if_neg c3, if_neg c4, if_neg c5, if_pos c6])
    · have c6 : ¬ b[a]? = some 91 := by exact of_decide_eq_false (by assumption)
      refine X.cons (X1.assignT (E.callF G.H (E.gf G 23 (kind_of F rfl)) (.cons (by walk_at "ev") (.cons (by walk_at "ev") .nil)) (one_spec G hb' (i := a)) (by exact Nat.le_succ _) ⟨trivial, trivial, trivial⟩ ⟨trivial, trivial, trivial⟩) (Asg.tuple (.cons (Asg.name (by walk_at "upd")) (.cons (Asg.name (by walk_at "upd")) .nil))) ?_)
      refine X.cons (addLastX (col := (false, [((pOne b a).1, (pOne b a).1)])) ?_ ?_ (E.eq (by walk_at "ev") (by rfl)) (X.nil (X.nil (X.nil (X.nil (X.nil (X.nil (X.nil ?_))))))) rfl ⟨_, rfl⟩)
      · exact hok.mono (Nat.le_of_lt (pOne_gt b a))
      · have := pOne_le b a; lia
      · exact done _ (pOne b a).2 c (some (.str (pOne b a).1)) hc (.some trivial) (by rw [pReadStep, if_neg c1, if_neg c2, if_neg c3, if_neg c4, if_neg c5, if_neg c6])
  · refine hQ' _ _ ?_
    clear hK hQ'
    have hgo : segs = pRead b := by
      rw [← he]
      cases m with
      | zero => rfl
      | succ m => rw [pReadGo, if_neg (by exact of_decide_eq_false (by assumption))]
    refine frz_all (segs := segs) hok.pos (fun m => .cons (.keep trivial) (.cons (.keep trivial) (.cons (.other (Ne.symm (ix_ne1 m))) (.cons (.keep trivial) (.cons (.op hc) (.cons (.op hs) .nil))))))
      (.cons (.keep trivial) (.cons (.keep trivial) (.cons .cell (.cons (.keep trivial) (.cons (.op hc) (.cons (.op hs) .nil)))))) fun cells => ?_
    rw [← hgo]
    exact X.cons (X1.ret (by walk_at "ev") rfl)
end
section
noncomputable def pj (sep : Txt) : List Txt → Txt
  | [] => []
  | [x] => x
  | x :: r => x ++ (sep ++ pj sep r)
theorem pj_str (sep : Txt) : ∀ xs : List Txt, Str.join ⟨sep.toArray⟩ (xs.map fun x => ⟨x.toArray⟩) = ⟨(pj sep xs).toArray⟩
  | [] => rfl
  | [x] => rfl
  | x :: y :: r => by
    have ih := pj_str sep (y :: r)
    rw [List.map_cons, List.map_cons] at *
    show (⟨x.toArray⟩ : Str) ++ ⟨sep.toArray⟩ ++ Str.join _ _ = _
    rw [ih, str_append, str_append]
    simp [pj]
theorem pj_nil : ∀ xs : List Txt, pj [] xs = xs.flatten
  | [] => rfl
  | [x] => by simp [pj]
  | x :: y :: r => by rw [pj, pj_nil (y :: r)]; simp; intro h; cases h
section
variable {C : Cx} {n : Nat} {Γ : Fx} {σ : St} {Q : Fl → St → Prop}
theorem join_s {sep : Txt} {xs : List Txt} {d : D} (S : Seqd σ d (xs.map .str)) (hok : (xs.map (·.length)).sum + xs.length * sep.length ≤ 16777216) : Blt C n Γ σ (.builtin "str.join") [.str sep, d] (.str (pj sep xs)) := by
  rintro κ g s _ R ⟨v, vs, rfl, ⟨t, rfl⟩, v2, vs2, rfl, hv, rfl⟩
  (refine elEEAA (S.isList R hv) fun a us z0 hl hd => ?_; subst z0)
  refine of_toks (PyProof.Rows.join_list (ys := xs.map fun x => ⟨x.toArray⟩) hl (StrsAre.of hd) ?_ fun t' k hk => ?_)
  · rw [List.map_map, List.length_map, str_len]
    have : ((fun y : Str => y.length) ∘ fun x : Txt => (⟨x.toArray⟩ : Str)) = fun x : Txt => x.length := by funext x; exact str_len x
    rw [this]; exact hok
  · refine ⟨g, .refl _ _, R.toks hk, t', ?_⟩
    show Value.str (Txt.join _ _) t' = _
    unfold Txt.join
    rw [StrLaws.glued_eq_join, pj_str]
theorem join0 {xs : List Txt} {d : D} (S : Seqd σ d (xs.map .str)) (hok : (xs.map (·.length)).sum + xs.length * ([] : Txt).length ≤ 16777216) : Blt C n Γ σ (.builtin "str.join") [.str [], d] (.str xs.flatten) := by
  have := join_s (C := C) (n := n) (Γ := Γ) (sep := []) S hok
  rw [pj_nil] at this; exact this
theorem E.fv {e : Expr} {pos : Pos} {x : Txt} (h : E C n Γ e σ (.str x)) (hx : x.length ≤ sizeLine) : E C n Γ (.FormattedValue e (-1) Option.none pos) σ (.str x) := by
  intro κ g s R
  refine wpAny_FormattedValue_plain (thn (h κ g s R) ?_)
  rintro _ s' ⟨g', l, R', t, rfl⟩
  exact wpAny_formatField_str ⟨g', l, R', t, rfl⟩ ⟨g', l, R'.toks, s'.toks, rfl⟩ (by rw [str_len]; exact hx)
noncomputable def Fs (C : Cx) (n : Nat) (Γ : Fx) (σ : St) (es : List Expr) (y : Txt) : Prop :=
  ∀ (κ : FZ) (g : Gh) (s : Shared) (out : Txt), Rep C n Γ κ g σ s → out.length + y.length ≤ sizeLine →
    wpAny (model C.prog C.w) Γ.A (joinParts ⟨out.toArray⟩ (evalEach es Γ.env)) (fun v s' => EP C n Γ κ g σ (fun g' => DV g'.P g'.cs (.str (out ++ y)) v) s') (fun _ _ => False) s
theorem Fs.nil : Fs C n Γ σ [] [] := fun κ g s out R h => PyProof.Rows.joinParts_nil (by rw [List.append_nil]; exact ⟨g, .refl _ _, R.toks, s.toks, rfl⟩) (by rw [str_len]; simpa using h)
theorem Fs.cons {e : Expr} {es : List Expr} {x y : Txt} (h : E C n Γ e σ (.str x)) (h' : Fs C n Γ σ es y) : Fs C n Γ σ (e :: es) (x ++ y) := by
  intro κ g s out R hsz
  rw [List.length_append] at hsz
  show wpAny _ _ (joinParts _ (eval e Γ.env :: evalEach es Γ.env)) _ _ _
  refine PyProof.Rows.joinParts_cons (thn (h κ g s R) ?_)
  rintro _ s' ⟨g', l, R', t, rfl⟩
  refine ⟨by rw [str_append, str_len, List.length_append]; lia, ?_⟩
  rw [str_append]
  refine thn (h' κ g' s' (out ++ x) R' (by rw [List.length_append]; simp_all +arith)) ?_
  rintro v s'' ⟨g'', l', R'', hd⟩
  exact ⟨g'', l.trans l', R'', by rw [← List.append_assoc]; exact hd⟩
theorem E.fstr {e₁ e₂ : Expr} {es : List Expr} {pos : Pos} {y : Txt} (h : Fs C n Γ σ (e₁ :: e₂ :: es) y) (hsz : y.length ≤ sizeLine) : E C n Γ (.JoinedStr (e₁ :: e₂ :: es) pos) σ (.str y) := by
  intro κ g s R
  refine PyProof.Rows.JoinedStr_many ?_
  exact h κ g s [] R (by exact Nat.add_le_add_left (by assumption) _)
end
end
section
noncomputable abbrev signs16 : Txt := [93, 33, 45, 91, 42, 63, 92, 94, 97, 98, 99, 100, 38, 46, 10, 233]
noncomputable def pSign (m : Nat) : Nat := if m % 24 < 23 then signs16.getD (m % 24 - 7) 0 else (if m / 24 % 1112064 < 55296 then m / 24 % 1112064 else m / 24 % 1112064 + 2048)
theorem d11 : DefOk (sc 11) (stParams (st 11)) (bd 11) (stName (st 11)) ["number"] ["code"] := DefOk.one rfl rfl rfl rfl (fun _ _ _ _ => rfl) (by decide +kernel) (by decide +kernel)
set_option maxHeartbeats 1000000 in
theorem sign_spec {C : Cx} (G : Gl C) {m : Nat} (hm : 7 ≤ m % 24) (hb : m < 2 ^ 40) : Spec C 1 (G.v 11) [.int m] (.str [pSign m]) := by
  refine Spec.of G.H (G.fn 11 (by decide)).2 d11 rfl ⟨trivial, trivial⟩ trivial fun Γ F => ?_
  show X C 0 Γ (_ :: _ :: _ :: []) ⟨[("number", some (.int m)), ("code", none)], [], []⟩ _
  refine X.cons (X1.if (b := decide (m % 24 < 23)) (T.eq (T.cmp (E.eq (by walk_at "ev"; decide) (congrArg D.int (show ((m : Int).fmod 24) = ((m % 24 : Nat) : Int) from fmod_nat m 24))) (by walk_at "ev") lt_i) (by rw [Bool.eq_iff_iff]; simp; exact Int.ofNat_lt)) (fun h => ?_) fun h => X.nil ?_)
  · have h : m % 24 < 23 := by exact of_decide_eq_true (by assumption)
    have hg : signs16[m % 24 - 7]? = some (pSign m) := by
      rw [pSign, if_pos h, List.getD_eq_getElem?_getD]
      have : m % 24 - 7 < signs16.length := by simp [signs16]; simp_all +arith
      rw [List.getElem?_eq_getElem this]; rfl
    refine X.cons (X1.ret (E.sub (by walk_at "ev") (E.bin (E.eq (by walk_at "ev"; decide) (congrArg D.int (show ((m : Int).fmod 24) = ((m % 24 : Nat) : Int) from fmod_nat m 24))) (by walk_at "ev") sub_i) (Sub.str (x := signs16) (c := pSign m) (by lia) (by decide) (by rw [if_neg (by lia), show (((m % 24 : Nat) : Int) - 7).toNat = m % 24 - 7 by norm_cast]; exact hg) (by simp [signs16]; lia))) rfl)
  · have h : ¬ m % 24 < 23 := by exact of_decide_eq_false (by assumption)
    have e1 : ((m : Int).fdiv 24) = ((m / 24 : Nat) : Int) := fdiv_nat m 24
    have e2 : (((m / 24 : Nat) : Int).fmod 1112064) = ((m / 24 % 1112064 : Nat) : Int) := fmod_nat (m / 24) 1112064
    refine X.cons (X1.assign (d := .int (m / 24 % 1112064 : Nat)) (E.eq (E.bin (E.eq (E.bin (by walk_at "ev") (by walk_at "ev") (div_i (by decide) (by exact nopy _ 24 (by decide)))) (congrArg D.int e1)) (by walk_at "ev") (mod_i (by decide))) (congrArg D.int e2)) (by walk_at "upd") ?_)
    refine X.cons (X1.ret (E.callB (E.gb G (kind_of F rfl) boot_chr) (.cons (d := .int (pSign m : Nat)) (E.ifx (b := decide (m / 24 % 1112064 < 55296)) (T.eq (by walk_at "ev") (by rw [Bool.eq_iff_iff]; simp; exact Int.ofNat_lt)) (fun h2 => ?_) fun h2 => ?_) .nil) (chr_c rfl ?_)) rfl)
    · rw [pSign, if_neg h, if_pos (by exact of_decide_eq_true (by assumption))]; walk_at "ev"
    · rw [pSign, if_neg h, if_neg (by exact of_decide_eq_false (by assumption))]; exact E.eq (by walk_at "ev") (by congr 1)
    · have := Nat.mod_lt (m / 24) (show 0 < 1112064 by decide)
      rw [pSign, if_neg h]; split <;> lia
end
section
theorem subB_one (c : Nat) (x : Txt) : subB [c] x = decide (c ∈ x) := by
  rw [Bool.eq_iff_iff, subB_iff, decide_eq_true_eq]
  constructor
  · (intro z0; refine elEE z0 fun a b z1 => ?_; clear z0; subst z1); simp
  · intro h
    (refine elEE (List.append_of_mem h) fun a b z2 => ?_; subst z2)
    exact ⟨a, b, by exact List.append_assoc ..⟩
noncomputable def pLast (r : List Nat) : Nat → Nat → Nat
  | 0, l => l
  | f + 1, l => if (decide (l + 1 < r.length) && decide (r.getD (l + 1) 0 = r.getD l 0 + 1)) = true then pLast r f (l + 1) else l
theorem pLast_ge (r : List Nat) : ∀ f l, l ≤ pLast r f l
  | 0, _ => Nat.le_refl _
  | f + 1, l => by unfold pLast; split; exact Nat.le_trans (Nat.le_succ l) (pLast_ge r f (l + 1)); exact Nat.le_refl _
theorem pLast_lt (r : List Nat) : ∀ f l, l < r.length → pLast r f l < r.length
  | 0, _, h => h
  | f + 1, l, h => by
    unfold pLast
    split
    · rename_i h2
      exact pLast_lt r f (l + 1) (by simp at h2; exact h2.1)
    · exact h
noncomputable def pRun (r : List Nat) (a l : Nat) : Txt := r.getD a 0 :: ((if l - a > 1 then [45] else []) ++ (if l > a then [r.getD l 0] else []))
noncomputable def pRuns (r : List Nat) : Nat → Nat → Txt → Txt
  | 0, _, t => t
  | f + 1, a, t => if a < r.length then pRuns r f (pLast r r.length a + 1) (t ++ pRun r a (pLast r r.length a)) else t
noncomputable def rest3 (signs : List Nat) : List Nat := signs.filter fun c => !decide (c ∈ [33, 45, 93])
noncomputable def pText (signs : List Nat) : Txt := pRuns (rest3 signs) ((rest3 signs).length + 1) 0 (if 93 ∈ signs then [93] else [])
noncomputable def pBracket (signs : List Nat) : Txt :=
  match signs with
  | [c] => if c ∈ [42, 63, 91] then 91 :: (pText [c] ++ ((if 33 ∈ [c] then [33] else []) ++ ((if 45 ∈ [c] then [45] else []) ++ [93]))) else [c]
  | _ => if pText signs = [] then [91, 45, 33, 93] else 91 :: (pText signs ++ ((if 33 ∈ signs then [33] else []) ++ ((if 45 ∈ signs then [45] else []) ++ [93])))
theorem d15 : DefOk (sc 15) (stParams (st 15)) (bd 15) (stName (st 15)) ["signs"] ["rest", "text", "at", "last"] := DefOk.one rfl rfl rfl rfl (fun _ _ _ _ => rfl) (by decide +kernel) (by decide +kernel)
noncomputable abbrev S15 (signs : List Nat) (t : Txt) (a : Nat) (l : Option D) : St := ⟨[("signs", some (.lst (signs.map eCh))), ("rest", some (.lst ((rest3 signs).map eCh))), ("text", some (.str t)), ("at", some (.int a)), ("last", l)], [], []⟩
theorem mem_ch {c : Nat} {l : List Nat} : (D.str [c] ∈ l.map eCh) ↔ c ∈ l := by
  rw [List.mem_map]
  constructor
  · (intro z3; refine elEA z3 fun a h e => ?_; clear z3); cases e; exact h
  · intro h; exact ⟨c, h, rfl⟩
section
variable {C : Cx} {n : Nat} {Γ : Fx} {σ : St}
theorem inCh {c : Nat} {l : List Nat} (hl : ∀ x ∈ l, x < 1114112) (hc : c < 1114112) : Bop C n Γ (compareOp .In) σ (.str [c]) (.lst (l.map eCh)) (.bool (decide (c ∈ l))) :=
  in_lst (k := 0) (by decide) (fun e he => by
    (refine elEA (List.mem_map.mp he) fun x hx z4 => ?_; subst z4)
    intro y hy; cases List.mem_singleton.mp hy; exact hl x hx) (fun y hy => by cases List.mem_singleton.mp hy; exact hc) (by rw [decide_eq_true_eq, mem_ch])
end
theorem swaps {C : Cx} {n : Nat} {Γ : Fx} {elt : Expr} {gens : List Comprehension} {scope : Scope} {pos py : Pos} {y : Str} {line : Nat} {i : Nat} (F : Frm Γ (sc i)) (hk : (sc i).kind = .function) (hy : (sc i).names.lookup y = some .local) (hl : (py.line == pos.line) = true)
    (hn : (scope.names.any fun (n, k) => n == y && (k == .local || k == .cell)) = false) : swapsWith (.ListComp elt gens scope pos) (some (.Name y py)) line Γ.env = pure true := by
  unfold swapsWith
  show pure (Γ.env.blockKind == .function && Γ.env.kindOf y == some .local && py.line == pos.line && !(scope.names.any fun (n, k) => n == y && (k == .local || k == .cell))) = pure true
  have hb : Γ.env.blockKind = .function := by unfold Env.blockKind; rw [F.scopeIs, hk]; rfl
  rw [hb, kind_of F hy, hl, hn]; rfl
theorem pRun_len (r : List Nat) (a l : Nat) : (pRun r a l).length ≤ 3 := by
  unfold pRun; split <;> split <;> exact Nat.le_add_left _ _
inductive I15 (signs : List Nat) (m : Nat) (σ : St) : Prop
  | mk (a : Nat) (t : List Nat) (l : Option D) (e : σ = S15 signs t a l) (he : pRuns (rest3 signs) m a t = pText signs) (hm : (rest3 signs).length < a + m) (htl : t.length ≤ 1 + 3 * a) (hal : a ≤ (rest3 signs).length) : I15 signs m σ
inductive I15b (signs : List Nat) (t : List Nat) (a k : Nat) (σ : St) : Prop
  | mk (l : Nat) (e : σ = S15 signs t a (some (.int l))) (hel : pLast (rest3 signs) k l = pLast (rest3 signs) (rest3 signs).length a) (hk : (rest3 signs).length ≤ l + k) (hll : l < (rest3 signs).length) : I15b signs t a k σ
set_option maxHeartbeats 4000000 in
theorem bracket_spec {C : Cx} (G : Gl C) {signs : List Nat} (h0 : signs ≠ []) (hs : ∀ x ∈ signs, x < 1114112) (hlen : signs.length ≤ 1000) : Spec C 1 (G.v 15) [.lst (signs.map eCh)] (.str (pBracket signs)) := by
  have hsz : sizeLine = 2 ^ 24 := rfl
  have hrl : (rest3 signs).length ≤ 1000 := Nat.le_trans (List.length_filter_le _ _) hlen
  have hl63 : (signs.map eCh).length < 9223372036854775808 := by rw [List.length_map]; exact Nat.lt_of_le_of_lt (by assumption) (by decide)
  have hr63 : ((rest3 signs).map eCh).length < 9223372036854775808 := by rw [List.length_map]; exact Nat.lt_of_le_of_lt (by assumption) (by decide)
  refine Spec.of G.H (G.fn 15 (by decide)).2 d15 rfl ⟨noCells_map (f := eCh) (fun _ => trivial) signs, trivial⟩ trivial fun Γ F => ?_
  have hget : ∀ (l : List Nat) (i : Nat), i < l.length → (l.map eCh)[i]? = some (.str [l.getD i 0]) := fun l i hi => by
    rw [List.getElem?_map, List.getElem?_eq_getElem hi, List.getD_eq_getElem?_getD, List.getElem?_eq_getElem hi]; rfl
  have lens : ∀ {σ : St} {p1 p2 p3}, ((Str.ofString "signs", some (D.lst (signs.map eCh))) : Str × Option D) ∈ σ.loc → E C 0 Γ (.Call (.Name "len" p1) [.Name "signs" p2] [] p3) σ (.int signs.length) := fun {σ p1 p2 p3} hm =>
    E.eq (E.callB (E.gb G (kind_of F rfl) boot_len) (.cons (E.loc hm) .nil) (len_l (.lst _) hl63)) (by rw [List.length_map])
  have lenr : ∀ {σ : St} {p1 p2 p3}, ((Str.ofString "rest", some (D.lst ((rest3 signs).map eCh))) : Str × Option D) ∈ σ.loc → E C 0 Γ (.Call (.Name "len" p1) [.Name "rest" p2] [] p3) σ (.int (rest3 signs).length) := fun {σ p1 p2 p3} hm =>
    E.eq (E.callB (E.gb G (kind_of F rfl) boot_len) (.cons (E.loc hm) .nil) (len_l (.lst _) hr63)) (by rw [List.length_map])
  show X C 0 Γ (_ :: _ :: _ :: _ :: _ :: _ :: _ :: []) ⟨[("signs", some (.lst (signs.map eCh))), ("rest", none), ("text", none), ("at", none), ("last", none)], [], []⟩ _
  have hpos : 0 < signs.length := List.length_pos_iff.mpr h0
  refine X.cons (X1.if (b := decide (signs.length = 1) && !decide (signs.getD 0 0 ∈ [42, 63, 91])) (T.eq (T.and (p := decide (signs.length = 1)) (T.eq (T.cmp (lens (by walk_at "in")) (by walk_at "ev") eq_i) (by rw [Bool.eq_iff_iff]; simp; exact Int.ofNat_inj)) fun _ => T.and (p := !decide (signs.getD 0 0 ∈ [42, 63, 91])) (T.eq (T.cmp (E.sub (by walk_at "ev") (by walk_at "ev") (sub_lst (.lst _) (by exact Int.natCast_nonneg _) (hget signs 0 hpos) hl63)) (by walk_at "ev") notIn_s) (by rw [subB_one])) fun _ => T.and_nil) (by rw [Bool.and_true])) (fun h => ?_) fun h => X.nil ?_)
  · refine X.cons (X1.ret (E.sub (by walk_at "ev") (by walk_at "ev") (sub_lst (.lst _) (by exact Int.natCast_nonneg _) (hget signs 0 hpos) hl63)) ?_)
    simp only [Bool.and_eq_true, decide_eq_true_eq, Bool.not_eq_true', decide_eq_false_iff_not] at h
    obtain ⟨h1, h2⟩ := h
    match signs, h1 with
    | [c], _ =>
      show Fl.ret _ = Fl.ret _
      have h2 : c ∉ [42, 63, 91] := h2
      rw [pBracket, if_neg h2]; rfl
  have hbr : (if pText signs = [] then [91, 45, 33, 93] else 91 :: (pText signs ++ ((if 33 ∈ signs then [33] else []) ++ ((if 45 ∈ signs then [45] else []) ++ [93])))) = pBracket signs := by
    match signs, h with
    | [], _ => exact absurd rfl h0
    | [c], h =>
      have h2 : c ∈ [42, 63, 91] := by
        simp at h; simp; lia
      rw [pBracket, if_pos h2, if_neg]
      have : rest3 [c] = [c] := by
        simp only [List.mem_cons, List.not_mem_nil, or_false] at h2
        rcases h2 with rfl | rfl | rfl <;> rfl
      rw [pText, this]
      simp [pRuns, pRun]
    | a :: b :: r, _ => rfl
  refine X.cons (X1.comp (locs := ["sign"]) (gl := []) (out := (rest3 signs).map eCh) (Src.list (by walk_at "ev") (.inl fun _ _ => rfl)) (CSt.of (gn := []) F (by decide +kernel) (by decide) (fun p hp => by cases hp) (fun d hd => ?_) (noCells_map (f := eCh) (fun _ => trivial) _)) ?_ (by walk_at "upd") ?_ (swaps (C := C) (n := 0) F rfl rfl rfl rfl))
  · (refine elEA (List.mem_map.mp hd) fun a _ z5 => ?_; subst z5); trivial
  · rw [rest3, ← outs_filter eCh (fun c => !decide (c ∈ [33, 45, 93])) signs]
    refine CRun.one (Bnd.name fun d hd => ?_) _ (fun Γ' hin i d cells hd => ?_) (by rw [List.length_map]; exact Nat.le_trans (by assumption) (by decide))
    · (refine elEA (List.mem_map.mp hd) fun a _ z6 => ?_; subst z6); trivial
    · rw [List.getElem?_map] at hd
      cases hm : signs[i]? with
      | none => rw [hm] at hd; cases hd
      | some c =>
      rw [hm] at hd; cases hd
      refine ⟨!decide (c ∈ [33, 45, 93]), Tests.one (T.eq (T.cmp (by walk_at "ev") (by walk_at "ev") notIn_s) (by rw [subB_one])), fun h => ⟨.str [c], ?_, trivial, by walk_at "ev"⟩, fun h => ?_⟩
      · simp only [hm, Option.bind_some, h]; rfl
      · simp only [hm, Option.bind_some, h]; rfl
  refine X.cons (X1.assign (d := .str (if 93 ∈ signs then [93] else [])) (E.ifx (b := decide (93 ∈ signs)) (T.cmp (by walk_at "ev") (by walk_at "ev") (inCh hs (by decide))) (fun h => ?_) fun h => ?_) (by walk_at "upd") ?_)
  · rw [if_pos (by exact of_decide_eq_true (by assumption))]; walk_at "ev"
  · rw [if_neg (by exact of_decide_eq_false (by assumption))]; walk_at "ev"
  refine X.cons (X1.assign (by walk_at "ev") (by walk_at "upd") ?_)
  refine X.cons (X1.whileH (I15 signs) (k₀ := (rest3 signs).length + 1) ⟨0, if 93 ∈ signs then [93] else [], _, rfl, rfl, by exact Nat.le_add_left _ _, by split <;> exact Nat.le_add_left _ _, Nat.zero_le _⟩ ?_)
  rintro m σ' ⟨a, t, l, rfl, he, hm, htl, hal⟩ K Q' hK hQ'
  refine ⟨decide (a < (rest3 signs).length), T.eq (T.cmp (by walk_at "ev") (lenr (by walk_at "in")) lt_i) (by rw [Bool.eq_iff_iff]; norm_cast), fun hlt => ?_, fun hlt => ?_⟩
  · have hlt : a < (rest3 signs).length := by exact of_decide_eq_true (by assumption)
    obtain ⟨m, rfl⟩ : ∃ j, m = j + 1 := ⟨m - 1, by lia⟩
    have hgo : pRuns (rest3 signs) m (pLast (rest3 signs) (rest3 signs).length a + 1) (t ++ pRun (rest3 signs) a (pLast (rest3 signs) (rest3 signs).length a)) = pText signs := by rw [← he, pRuns, if_pos hlt]
    have hge := pLast_ge (rest3 signs) (rest3 signs).length a
    have hlt2 := pLast_lt (rest3 signs) (rest3 signs).length a hlt
    refine X.cons (X1.assign (by walk_at "ev") (by walk_at "upd") ?_)
    refine X.cons (X1.whileH (I15b signs t a) (k₀ := (rest3 signs).length) ⟨a, rfl, rfl, by exact Nat.le_add_left _ _, hlt⟩ ?_)
    rintro k σ' ⟨l, rfl, hel, hk, hll⟩ K2 Q2 hK2 hQ2
    refine ⟨decide (l + 1 < (rest3 signs).length) && decide ((rest3 signs).getD (l + 1) 0 = (rest3 signs).getD l 0 + 1), ?_, fun hb => ?_, fun hb => ?_⟩
    · refine T.eq (T.and (p := decide (l + 1 < (rest3 signs).length)) (T.eq (T.cmp (by walk_at "ev") (lenr (by walk_at "in")) lt_i) (by rw [Bool.eq_iff_iff]; simp; exact Int.ofNat_lt)) fun h1 => T.and (p := decide ((rest3 signs).getD (l + 1) 0 = (rest3 signs).getD l 0 + 1)) (T.eq (T.cmp (E.callB (E.gb G (kind_of F rfl) boot_ord) (.cons (E.sub (by walk_at "ev") (by walk_at "ev") (sub_lst (.lst _) (by exact Int.natCast_nonneg _) (by rw [show ((l : Int) + 1).toNat = l + 1 by exact Int.toNat_natCast _]; exact hget _ (l + 1) (by exact of_decide_eq_true (by assumption))) hr63)) .nil) ord_c) (E.bin (E.callB (E.gb G (kind_of F rfl) boot_ord) (.cons (E.sub (by walk_at "ev") (by walk_at "ev") (sub_lst (.lst _) (by exact Int.natCast_nonneg _) (hget _ l hll) hr63)) .nil) ord_c) (by walk_at "ev") add_i) eq_i) (by rw [Bool.eq_iff_iff]; simp; exact Int.ofNat_inj)) fun _ => T.and_nil) (by rw [Bool.and_true])
    · have h1 : l + 1 < (rest3 signs).length := by simp at hb; exact hb.1
      obtain ⟨k, rfl⟩ : ∃ j, k = j + 1 := ⟨k - 1, by exact (Nat.sub_add_cancel (by lia)).symm⟩
      refine X.cons (X1.aug (a := .int l) (by walk_at "in") (by walk_at "ev") iadd_i (by walk_at "upd") (X.nil ?_))
      refine hK2 k _ (by exact Nat.lt_succ_self _) ⟨l + 1, rfl, ?_, by simp_all +arith, h1⟩
      rw [← hel, pLast, if_pos hb]
    · have hl' : l = pLast (rest3 signs) (rest3 signs).length a := by
        rw [← hel]
        cases k with
        | zero => rfl
        | succ k => rw [pLast, if_neg (by rw [hb]; decide)]
      rw [← hl'] at hgo hge
      refine hQ2 _ _ ?_
      clear hK2 hQ2
      have hrun := pRun_len (rest3 signs) a l
      refine X.cons (X1.aug (a := .str t) (b := .str (pRun (rest3 signs) a l)) (by walk_at "in") (E.eq (E.bin (E.bin (E.sub (by walk_at "ev") (by walk_at "ev") (sub_lst (.lst _) (by exact Int.natCast_nonneg _) (hget _ a hlt) hr63)) (E.ifx (d := .str (if l - a > 1 then [45] else [])) (b := decide (l - a > 1)) (T.eq (by walk_at "ev") (by rw [Bool.eq_iff_iff]; simp; norm_cast)) (fun h => (by rw [if_pos (by exact of_decide_eq_true (by assumption))]; walk_at "ev")) fun h => (by rw [if_neg (by exact of_decide_eq_false (by assumption))]; walk_at "ev")) (add_s (by split <;> simp <;> exact Nat.le_add_left _ _))) (E.ifx (d := .str (if l > a then [(rest3 signs).getD l 0] else [])) (b := decide (l > a)) (T.eq (by walk_at "ev") (by rw [Bool.eq_iff_iff]; norm_cast)) (fun h => (by rw [if_pos (by exact of_decide_eq_true (by assumption))]; exact E.sub (by walk_at "ev") (by walk_at "ev") (sub_lst (.lst _) (by exact Int.natCast_nonneg _) (hget _ l hll) hr63))) fun h => (by rw [if_neg (by exact of_decide_eq_false (by assumption))]; walk_at "ev")) (add_s (by split <;> split <;> simp <;> exact Nat.le_add_left _ _))) (by rw [pRun]; rfl)) (iadd_s (by lia)) (by walk_at "upd") ?_)
      refine X.cons (X1.assign (d := .int ((l + 1 : Nat) : Int)) (E.eq (by walk_at "ev") (by rfl)) (by walk_at "upd") (X.nil (hK m _ (by exact Nat.lt_succ_self _) ⟨l + 1, t ++ pRun (rest3 signs) a l, _, rfl, hgo, by lia, by rw [List.length_append]; lia, hll⟩)))
  · have hgo : t = pText signs := by
      rw [← he]
      cases m with
      | zero => rfl
      | succ m => rw [pRuns, if_neg (by exact of_decide_eq_false (by assumption))]
    refine hQ' _ _ ?_
    clear hK hQ'
    rw [← hbr, ← hgo]
    refine X.cons (X1.if (b := decide (t = [])) (by walk_at "ev") (fun h => ?_) fun h => X.nil ?_)
    · refine X.cons (X1.ret (by walk_at "ev") ?_)
      rw [if_pos (by exact of_decide_eq_true (by assumption))]; rfl
    · rw [if_neg (by exact of_decide_eq_false (by assumption))]
      refine X.cons (X1.ret (E.eq (E.bin (E.bin (E.bin (E.bin (by walk_at "ev") (by walk_at "ev") (add_s (by simp; lia))) (E.ifx (d := .str (if 33 ∈ signs then [33] else [])) (b := decide (33 ∈ signs)) (T.cmp (by walk_at "ev") (by walk_at "ev") (inCh hs (by decide))) (fun h => (by rw [if_pos (by exact of_decide_eq_true (by assumption))]; walk_at "ev")) fun h => (by rw [if_neg (by exact of_decide_eq_false (by assumption))]; walk_at "ev")) (add_s (by split <;> simp <;> lia))) (E.ifx (d := .str (if 45 ∈ signs then [45] else [])) (b := decide (45 ∈ signs)) (T.cmp (by walk_at "ev") (by walk_at "ev") (inCh hs (by decide))) (fun h => (by rw [if_pos (by exact of_decide_eq_true (by assumption))]; walk_at "ev")) fun h => (by rw [if_neg (by exact of_decide_eq_false (by assumption))]; walk_at "ev")) (add_s (by split <;> split <;> simp <;> lia))) (by walk_at "ev") (add_s (by split <;> split <;> simp <;> lia))) (by simp)) rfl)
end
section
noncomputable def pPattern (r : Row) : Txt :=
  let parts := r.2.1.map pBracket
  let t := parts.length / 3
  if r.1 = 5 then (parts.take t).flatten ++ (42 :: (((parts.drop t).take (parts.length - t - t)).flatten ++ (42 :: (parts.drop (parts.length - t)).flatten)))
  else (if r.1 = 2 ∨ r.1 = 3 then [42] else []) ++ (parts.flatten ++ (if r.1 = 1 ∨ r.1 = 3 then [42] else if r.1 = 4 then [63] else []))
structure RowOk (r : Row) : Prop where
  kind : r.1 < 6
  len : r.2.1.length ≤ 100
  cols : ∀ c ∈ r.2.1, c ≠ [] ∧ c.length ≤ 1000 ∧ ∀ x ∈ c, x < 1114112
theorem pRuns_len (r : List Nat) : ∀ f a t, (pRuns r f a t).length ≤ t.length + 3 * f
  | 0, _, _ => by simp [pRuns]
  | f + 1, a, t => by
    unfold pRuns
    split
    · have := pRuns_len r f (pLast r r.length a + 1) (t ++ pRun r a (pLast r r.length a))
      have := pRun_len r a (pLast r r.length a)
      simp only [List.length_append] at *
      lia
    · exact Nat.le_add_right _ _
theorem pBracket_len {s : List Nat} (h : s.length ≤ 1000) : (pBracket s).length ≤ 4000 := by
  have h1 := pRuns_len (rest3 s) ((rest3 s).length + 1) 0 (if 93 ∈ s then [93] else [])
  have h2 : (rest3 s).length ≤ s.length := List.length_filter_le _ _
  have h3 : (if 93 ∈ s then [93] else [] : Txt).length ≤ 1 := by split <;> exact Nat.le_add_left _ _
  have h4 : (pText s).length ≤ 3100 := by unfold pText; lia
  have h5 : (if 33 ∈ s then [33] else [] : Txt).length ≤ 1 := by split <;> exact Nat.le_add_left _ _
  have h6 : (if 45 ∈ s then [45] else [] : Txt).length ≤ 1 := by split <;> exact Nat.le_add_left _ _
  unfold pBracket
  split
  · split
    · simp only [List.length_cons, List.length_append, List.length_nil] at *; lia
    · exact Nat.succ_pos _
  · split
    · exact Nat.le_add_left _ _
    · simp only [List.length_cons, List.length_append, List.length_nil] at *; lia
theorem sum_le {α : Type} (f : α → Nat) (B : Nat) : ∀ l : List α, (∀ x ∈ l, f x ≤ B) → (l.map f).sum ≤ l.length * B
  | [], _ => by exact Nat.zero_le _
  | x :: l, h => by
    have := sum_le f B l fun y hy => h y (.tail _ hy)
    have := h x (.head _)
    simp only [List.map_cons, List.sum_cons, List.length_cons, Nat.succ_mul]; lia
theorem d16 : DefOk (sc 16) (stParams (st 16)) (bd 16) (stName (st 16)) ["row"] ["kind", "columns", "names", "parts", "third", "rest", "ahead", "behind"] := DefOk.one rfl rfl rfl rfl (fun _ _ _ _ => rfl) (by decide +kernel) (by decide +kernel)
section
variable {C : Cx} {n : Nat} {Γ : Fx} {σ : St}
theorem inInt {k : Nat} {l : List Nat} : Bop C n Γ (compareOp .In) σ (.int k) (.tup (l.map fun j : Nat => D.int j)) (.bool (decide (k ∈ l))) :=
  in_tup (k := 0) (by decide) (fun e he => by (refine elEA (List.mem_map.mp he) fun x hx z0 => ?_; subst z0); trivial) trivial (by
    rw [decide_eq_true_eq, List.mem_map]
    constructor
    · intro h; exact ⟨k, h, rfl⟩
    · (intro z1; refine elEA z1 fun a h e => ?_; clear z1)
      have : (a : Int) = k := by injection e
      have : a = k := by lia
      exact this ▸ h)
end
noncomputable abbrev S16 (r : Row) (t rs a b : Option D) : St := ⟨[("row", some (eRow r)), ("kind", some (.int r.1)), ("columns", some (.lst (r.2.1.map fun c => .lst (c.map eCh)))), ("names", some (.lst (r.2.2.map .str))), ("parts", some (.lst ((r.2.1.map pBracket).map .str))), ("third", t), ("rest", rs), ("ahead", a), ("behind", b)], [], []⟩
set_option maxHeartbeats 4000000 in
theorem pattern_spec {C : Cx} (G : Gl C) {r : Row} (ho : RowOk r) : Spec C 2 (G.v 16) [eRow r] (.str (pPattern r)) := by
  have hsz : sizeLine = 2 ^ 24 := rfl
  have hcol := ho.len
  refine Spec.of G.H (G.fn 16 (by decide)).2 d16 rfl ⟨noCell_row r, trivial⟩ trivial fun Γ F => ?_
  show X C 1 Γ (_ :: _ :: _ :: _ :: _ :: _ :: _ :: []) ⟨[("row", some (eRow r)), ("kind", none), ("columns", none), ("names", none), ("parts", none), ("third", none), ("rest", none), ("ahead", none), ("behind", none)], [], []⟩ _
  refine X.cons (X1.assignT (by walk_at "ev") (Asg.tuple (.cons (Asg.name (by walk_at "upd")) (.cons (Asg.name (by walk_at "upd")) (.cons (Asg.name (by walk_at "upd")) .nil)))) ?_)
  refine X.cons (X1.comp (locs := ["column"]) (gl := []) (out := (r.2.1.map pBracket).map .str) (Src.list (by walk_at "ev") (.inl fun _ _ => rfl)) (CSt.of (gn := []) F (by decide +kernel) (by decide) (fun p hp => by cases hp) (fun d hd => ?_) (noCells_str _)) ?_ (by walk_at "upd") ?_ (swaps (C := C) (n := 1) F rfl rfl rfl rfl))
  · (refine elEA (List.mem_map.mp hd) fun a _ z2 => ?_; subst z2); exact noCells_map (f := eCh) (fun _ => trivial) a
  · have e : ((r.2.1.map pBracket).map D.str) = r.2.1.map fun c => D.str (pBracket c) := by rw [List.map_map]; rfl
    rw [e, ← outs_map (fun c : List Nat => D.lst (c.map eCh)) (fun c => D.str (pBracket c)) r.2.1]
    refine CRun.one (Bnd.name fun d hd => ?_) _ (fun Γ' hin i d cells hd => ?_) (by rw [List.length_map]; exact Nat.le_trans (by assumption) (by decide))
    · (refine elEA (List.mem_map.mp hd) fun a _ z3 => ?_; subst z3); exact noCells_map (f := eCh) (fun _ => trivial) a
    · rw [List.getElem?_map] at hd
      cases hm : r.2.1[i]? with
      | none => rw [hm] at hd; cases hd
      | some c =>
      rw [hm] at hd; cases hd
      (refine elAA (ho.cols c (List.mem_of_getElem? hm)) fun c1 c2 c3 => ?_)
      refine ⟨true, Tests.nil, fun _ => ⟨.str (pBracket c), by first | rfl | (rw [hm]; rfl), trivial, E.callF G.H (E.gf G 15 (hin.kind _ _ rfl (by decide))) (by walk_at "ev") (bracket_spec G c1 c3 c2) (by exact Nat.le_refl _) ⟨noCells_map (f := eCh) (fun _ => trivial) c, trivial⟩ trivial⟩, fun h => by cases h⟩
  generalize hparts : r.2.1.map pBracket = parts
  have hpl : parts.length ≤ 100 := by rw [← hparts, List.length_map]; exact hcol
  have hpe : ∀ x ∈ parts, x.length ≤ 4000 := fun x hx => by
    rw [← hparts] at hx
    (refine elEA (List.mem_map.mp hx) fun c hc z4 => ?_; subst z4)
    exact pBracket_len (ho.cols c hc).2.1
  have hfl : ∀ ps : List Txt, (∀ x ∈ ps, x ∈ parts) → ps.length ≤ 100 → ps.flatten.length ≤ 400000 ∧ (ps.map (·.length)).sum + ps.length * ([] : Txt).length ≤ 16777216 := fun ps h hl => by
    have := sum_le (fun x : Txt => x.length) 4000 ps fun x hx => hpe x (h x hx)
    have e : ps.flatten.length = (ps.map (·.length)).sum := List.length_flatten
    rw [e]
    simp only [List.length_nil, Nat.mul_zero, Nat.add_zero]
    lia
  have hp : pPattern r = if r.1 = 5 then (parts.take (parts.length / 3)).flatten ++ (42 :: (((parts.drop (parts.length / 3)).take (parts.length - parts.length / 3 - parts.length / 3)).flatten ++ (42 :: (parts.drop (parts.length - parts.length / 3)).flatten)))
      else (if r.1 = 2 ∨ r.1 = 3 then [42] else []) ++ (parts.flatten ++ (if r.1 = 1 ∨ r.1 = 3 then [42] else if r.1 = 4 then [63] else [])) := by rw [← hparts]; rfl
  have hpm : (parts.map D.str).length < 9223372036854775808 := by rw [List.length_map]; exact Nat.lt_of_le_of_lt (by assumption) (by decide)
  have ht3 : parts.length / 3 ≤ parts.length := Nat.div_le_self _ _
  have lenp : ∀ {σ : St} {p1 p2 p3}, ((Str.ofString "parts", some (D.lst (parts.map D.str))) : Str × Option D) ∈ σ.loc → E C 1 Γ (.Call (.Name "len" p1) [.Name "parts" p2] [] p3) σ (.int parts.length) := fun {σ p1 p2 p3} hm =>
    E.eq (E.callB (E.gb G (kind_of F rfl) boot_len) (.cons (E.loc hm) .nil) (len_l (.lst _) hpm)) (by rw [List.length_map])
  refine X.cons (X1.assign (d := .int (parts.length / 3 : Nat)) (E.eq (E.bin (lenp (by walk_at "in")) (by walk_at "ev") (div_i (by decide) (by exact nopy _ 3 (by decide)))) (by exact congrArg D.int (fdiv_nat parts.length 3))) (by walk_at "upd") ?_)
  have cm : ∀ lo hi, cut (parts.map D.str) lo hi = (cut parts lo hi).map D.str := fun lo hi => by unfold cut; rw [List.length_map, List.map_take, List.map_drop]
  have pE : ∀ {σ : St} {lo hi : Option Expr} {l h : Option Int} {p1 p2 p3 k1 p4 p5 p6} {ps : List Txt}, ((Str.ofString "parts", some (D.lst (parts.map D.str))) : Str × Option D) ∈ σ.loc → Part C 1 Γ σ lo l → Part C 1 Γ σ hi h → cut parts l h = ps → (∀ x ∈ ps, x ∈ parts) → ps.length ≤ 100 →
      (∀ env, ∃ pl, eval (.Call (.Attribute (.Constant (.str (Str.ofString "")) k1 p1) "join" p2) [.Subscript (.Name "parts" p3) (.Slice lo hi Option.none p4) p5] [] p6) env = (do
        let ov ← eval (.Constant (.str (Str.ofString "")) k1 p1) env
        standAt p2.atName
        let (f, first) ← holding [ov] (getMethod ov "join" pl)
        callWith p6 f first (backTo p6 (starEach [.Subscript (.Name "parts" p3) (.Slice lo hi Option.none p4) p5] env)) [])) →
      E C 1 Γ (.Call (.Attribute (.Constant (.str (Str.ofString "")) k1 p1) "join" p2) [.Subscript (.Name "parts" p3) (.Slice lo hi Option.none p4) p5] [] p6) σ (.str ps.flatten) := by
    intro σ lo hi l h p1 p2 p3 k1 p4 p5 p6 ps hm h1 h2 h3 h4 h5 he
    refine E.meth (ds := [.lst (ps.map D.str)]) (E.str lit_e) (.cons (E.eq (E.cut (E.loc hm) h1 h2 (Cut.lst (.lst _) (by rw [List.length_map]; exact Nat.le_trans (by assumption) (by decide)))) (by rw [cm, h3])) .nil) (fun _ _ _ _ _ _ _ _ _ hd q => gm_join hd q) (by
      have := join_s (C := C) (n := 1) (Γ := Γ) (σ := σ) (sep := []) (xs := ps) (.lst _) (hfl ps h4 h5).2
      rw [pj_nil] at this; exact this) he
  rw [hp]
  refine X.cons (X1.if (b := decide (r.1 = 5)) (T.eq (by walk_at "ev") (by rw [Bool.eq_iff_iff]; simp; exact Int.ofNat_inj)) (fun h => ?_) fun h => X.nil ?_)
  · rw [if_pos (by exact of_decide_eq_true (by assumption))]
    refine X.cons (X1.assign (d := .int (parts.length - parts.length / 3 : Nat)) (E.eq (E.bin (lenp (by walk_at "in")) (by walk_at "ev") sub_i) (by congr 1; norm_cast)) (by walk_at "upd") ?_)
    have q1 := (hfl (parts.take (parts.length / 3)) (fun x hx => List.mem_of_mem_take hx) (by simp; exact Nat.le_trans (Nat.min_le_right _ _) (by assumption))).1
    have q2 := (hfl ((parts.drop (parts.length / 3)).take (parts.length - parts.length / 3 - parts.length / 3)) (fun x hx => List.mem_of_mem_drop (List.mem_of_mem_take hx)) (by simp; lia)).1
    have q3 := (hfl (parts.drop (parts.length - parts.length / 3)) (fun x hx => List.mem_of_mem_drop hx) (by simp; exact Nat.le_trans (by assumption) (Nat.le_add_right _ _))).1
    refine X.cons (X1.ret (E.eq (E.bin (E.bin (E.bin (E.bin (pE (ps := parts.take (parts.length / 3)) (by walk_at "in") .none (.some (by walk_at "ev")) (cut_to rfl) (fun x hx => List.mem_of_mem_take hx) (by simp; exact Nat.le_trans (Nat.min_le_right _ _) (by assumption)) (by intro _; exact ⟨_, rfl⟩)) (by walk_at "ev") (add_s (by simp only [List.length_cons, List.length_nil]; exact Nat.lt_of_le_of_lt (by assumption) (by decide))))
      (pE (ps := (parts.drop (parts.length / 3)).take (parts.length - parts.length / 3 - parts.length / 3)) (by walk_at "in") (.some (by walk_at "ev")) (.some (by walk_at "ev")) (cut_ij rfl rfl) (fun x hx => List.mem_of_mem_drop (List.mem_of_mem_take hx)) (by simp; lia) (by intro _; exact ⟨_, rfl⟩)) (add_s (by simp only [List.length_append, List.length_cons, List.length_nil]; lia))) (by walk_at "ev") (add_s (by simp only [List.length_append, List.length_cons, List.length_nil]; lia)))
      (pE (ps := parts.drop (parts.length - parts.length / 3)) (by walk_at "in") (.some (by walk_at "ev")) .none (cut_i rfl) (fun x hx => List.mem_of_mem_drop hx) (by simp; exact Nat.le_trans (by assumption) (Nat.le_add_right _ _)) (by intro _; exact ⟨_, rfl⟩)) (add_s (by simp only [List.length_append, List.length_cons, List.length_nil]; lia))) (by simp)) rfl)
  · rw [if_neg (by exact of_decide_eq_false (by assumption))]
    have q0 := (hfl parts (fun x hx => hx) hpl).1
    have a1 : r.1 = 2 ∨ r.1 = 3 → (if r.1 = 2 ∨ r.1 = 3 then [42] else [] : Txt) = [42] := fun h => if_pos h
    have a0 : ¬ (r.1 = 2 ∨ r.1 = 3) → (if r.1 = 2 ∨ r.1 = 3 then [42] else [] : Txt) = [] := fun h => if_neg h
    have aL : (if r.1 = 2 ∨ r.1 = 3 then [42] else [] : Txt).length ≤ 1 := by split <;> exact Nat.le_add_left _ _
    have b1 : r.1 = 1 ∨ r.1 = 3 → (if r.1 = 1 ∨ r.1 = 3 then [42] else if r.1 = 4 then [63] else [] : Txt) = [42] := fun h => if_pos h
    have b4 : ¬ (r.1 = 1 ∨ r.1 = 3) → r.1 = 4 → (if r.1 = 1 ∨ r.1 = 3 then [42] else if r.1 = 4 then [63] else [] : Txt) = [63] := fun h h4 => by rw [if_neg h, if_pos h4]
    have b0 : ¬ (r.1 = 1 ∨ r.1 = 3) → ¬ r.1 = 4 → (if r.1 = 1 ∨ r.1 = 3 then [42] else if r.1 = 4 then [63] else [] : Txt) = [] := fun h h4 => by rw [if_neg h, if_neg h4]
    have bL : (if r.1 = 1 ∨ r.1 = 3 then [42] else if r.1 = 4 then [63] else [] : Txt).length ≤ 1 := by split; simp; split <;> exact Nat.le_add_left _ _
    generalize (if r.1 = 2 ∨ r.1 = 3 then [42] else [] : Txt) = A at *
    generalize (if r.1 = 1 ∨ r.1 = 3 then [42] else if r.1 = 4 then [63] else [] : Txt) = B at *
    refine X.cons (X1.assign (d := .str A) (E.ifx (b := decide (r.1 ∈ [2, 3])) (T.cmp (by walk_at "ev") (E.eq (by walk_at "ev") (by rfl)) inInt) (fun h => E.eq (by walk_at "ev") (by rw [a1 (by simpa using h)])) fun h => E.eq (by walk_at "ev") (by rw [a0 (by simpa using h)])) (by walk_at "upd") ?_)
    refine X.cons (X1.assign (d := .str B) (E.ifx (b := decide (r.1 ∈ [1, 3])) (T.cmp (by walk_at "ev") (E.eq (by walk_at "ev") (by rfl)) inInt) (fun h => E.eq (by walk_at "ev") (by rw [b1 (by simpa using h)])) fun h => 
      E.ifx (b := decide (r.1 = 4)) (T.eq (by walk_at "ev") (by rw [Bool.eq_iff_iff]; simp; exact Int.ofNat_inj)) (fun h4 => E.eq (by walk_at "ev") (by rw [b4 (by simp_all) (by exact of_decide_eq_true (by assumption))])) fun h4 => E.eq (by walk_at "ev") (by rw [b0 (by simpa using h) (by exact of_decide_eq_false (by assumption))])) (by walk_at "upd") ?_)
    refine X.cons (X1.ret (E.eq (E.bin (E.bin (by walk_at "ev") (E.meth (by walk_at "ev") (by walk_at "ev") (fun _ _ _ _ _ _ _ _ _ hd q => gm_join hd q) (join0 (xs := parts) (.lst _) (hfl parts (fun _ h => h) hpl).2)) (add_s (by lia))) (by walk_at "ev") (add_s (by simp only [List.length_append]; lia))) (by simp)) rfl)
end
section
noncomputable abbrev eCs (c : List Nat) : D := .lst (c.map eCh)
noncomputable abbrev eInt (i : Nat) : D := .int i
noncomputable def apartOf (c d : List (List Nat)) : List Nat := (List.range c.length).filter fun p => !decide (c[p]? = d[p]?)
noncomputable def pCheck (a b : Row) (f s : Nat) : Option (Nat × Nat × Nat) :=
  if a.1 = b.1 ∧ a.2.1.length = b.2.1.length then (match apartOf a.2.1 b.2.1 with | [p] => some (f, s, p) | _ => none) else none
noncomputable def pPairAt (rows : List Row) (s f : Nat) : Option (Nat × Nat × Nat) := (rows[f]?).bind fun a => (rows[s]?).bind fun b => pCheck a b f s
noncomputable def pPair (rows : List Row) : Option (Nat × Nat × Nat) := (List.range rows.length).findSome? fun s => (List.range s).findSome? (pPairAt rows s)
noncomputable def ePair : Option (Nat × Nat × Nat) → D
  | some (f, s, p) => .tup [.int f, .int s, .int p]
  | none => .none
theorem noCell_pair (o : Option (Nat × Nat × Nat)) : NoCell (ePair o) := by
  match o with
  | some (f, s, p) => exact ⟨trivial, trivial, trivial, trivial⟩
  | none => trivial
theorem eCh_inj {a b : Nat} (h : eCh a = eCh b) : a = b := by injection h with h; injection h
theorem eCs_inj {a b : List Nat} (h : eCs a = eCs b) : a = b := by
  injection h with h
  induction a generalizing b with
  | nil => cases b with | nil => rfl | cons => cases h
  | cons x a ih =>
    cases b with
    | nil => cases h
    | cons y b =>
      rw [List.map_cons, List.map_cons] at h
      injection h with h1 h2
      rw [eCh_inj h1, ih h2]
theorem pl_cs {c : List Nat} (h : ∀ x ∈ c, x < 1114112) : Pl 1 (eCs c) := fun d hd => by
  (refine elEA (List.mem_map.mp hd) fun x hx z0 => ?_; subst z0)
  intro y hy; cases List.mem_singleton.mp hy; exact h x hx
theorem d13 : DefOk (sc 13) (stParams (st 13)) (bd 13) (stName (st 13)) ["rows"] ["second", "first", "one", "other", "apart"] := DefOk.one rfl rfl rfl rfl (fun _ _ _ _ => rfl) (by decide +kernel) (by decide +kernel)
noncomputable abbrev S13 (rows : List Row) (s f a b c : Option D) : St := ⟨[("rows", some (.lst (rows.map eRow))), ("second", s), ("first", f), ("one", a), ("other", b), ("apart", c)], [], []⟩
inductive I13 (rows : List Row) (i : Nat) (σ : St) : Prop
  | mk (s f a b c : Option D) (e : σ = S13 rows s f a b c) (h : ((List.range rows.length).take i).findSome? (fun s => (List.range s).findSome? (pPairAt rows s)) = none) : I13 rows i σ
inductive I13b (rows : List Row) (i j : Nat) (σ : St) : Prop
  | mk (f a b c : Option D) (e : σ = S13 rows (some (.int i)) f a b c) (h : ((List.range i).take j).findSome? (pPairAt rows i) = none) : I13b rows i j σ
set_option maxHeartbeats 4000000 in
theorem pair_spec {C : Cx} (G : Gl C) {rows : List Row} (ho : ∀ r ∈ rows, RowOk r) (hl : rows.length ≤ 1000) : Spec C 1 (G.v 13) [.lst (rows.map eRow)] (ePair (pPair rows)) := by
  have hsz : sizeLine = 2 ^ 24 := rfl
  have hr63 : (rows.map eRow).length < 9223372036854775808 := by rw [List.length_map]; exact Nat.lt_of_le_of_lt (by assumption) (by decide)
  refine Spec.of G.H (G.fn 13 (by decide)).2 d13 rfl ⟨noCells_map noCell_row _, trivial⟩ (noCell_pair _) fun Γ F => ?_
  show X C 0 Γ (_ :: _ :: []) (S13 rows none none none none none) _
  have nth : ∀ {L : List Nat} {i k : Nat} {n : Nat}, L = List.range n → L[i]? = some k → i = k ∧ k < n := fun {L i k n} hL hm => by
    subst hL
    obtain ⟨h1, h2⟩ := List.getElem?_eq_some_iff.mp hm
    simp at h1 h2; simp_all
  have row : ∀ {i : Nat} {r : Row} {nm : Str} {j : Int} {d : D} {σ : St} {p1 p2 p3 p4 p5 k1}, rows[i]? = some r → ((Str.ofString "rows", some (D.lst (rows.map eRow))) : Str × Option D) ∈ σ.loc → (nm, some (D.int i)) ∈ σ.loc → 0 ≤ j → ([D.int r.1, .lst (r.2.1.map eCs), .lst (r.2.2.map .str)])[j.toNat]? = some d →
      E C 0 Γ (.Subscript (.Subscript (.Name "rows" p1) (.Name nm p2) p3) (.Constant (.int j) k1 p4) p5) σ d := fun {i r nm j d σ p1 p2 p3 p4 p5 k1} hr h1 h2 h3 h4 =>
    E.sub (E.sub (E.loc h1) (E.loc h2) (sub_lst (d := eRow r) (.lst _) (by exact Int.natCast_nonneg _) (by rw [List.getElem?_map, show ((i : Int)).toNat = i by exact Int.toNat_natCast _, hr]; rfl) hr63)) E.int (sub_tup h3 h4 (by exact Nat.le_add_left _ _))
  refine X.cons (X1.forH (Src.range1 (E.gb G (kind_of F rfl) boot_range) (.cons (E.eq (E.callB (E.gb G (kind_of F rfl) boot_len) (by walk_at "ev") (len_l (.lst _) hr63)) (by rw [List.length_map])) .nil) (by lia))
    (I13 rows) ⟨_, _, _, _, _, rfl, rfl⟩ ?_ ?_)
  · rintro i d σ' hd ⟨s, f, a, b, c, rfl, hI⟩ K Q hK hQ
    rw [List.getElem?_map] at hd
    cases hm : (List.range rows.length)[i]? with
    | none => rw [hm] at hd; cases hd
    | some k =>
    rw [hm] at hd; cases hd
    obtain ⟨rfl, hk⟩ := nth rfl hm
    have hs : rows[i]? = some rows[i] := List.getElem?_eq_getElem hk
    refine ⟨S13 rows (some (.int i)) f a b c, Asg.name (by walk_at "upd"), ?_⟩
    refine X.cons (X1.forH (Src.range1 (E.gb G (kind_of F rfl) boot_range) (.cons (by walk_at "ev") .nil) (by lia))
      (I13b rows i) ⟨_, _, _, _, rfl, rfl⟩ ?_ ?_)
    · rintro j d σ' hd ⟨f, a, b, c, rfl, hJ⟩ K2 Q2 hK2 hQ2
      rw [List.getElem?_map] at hd
      cases hm2 : (List.range i)[j]? with
      | none => rw [hm2] at hd; cases hd
      | some k =>
      rw [hm2] at hd; cases hd
      obtain ⟨rfl, hj⟩ := nth rfl hm2
      have hf : rows[j]? = some rows[j] := List.getElem?_eq_getElem (by exact Nat.lt_trans (by assumption) (by assumption))
      have o1 := ho _ (List.mem_of_getElem? hf)
      have o2 := ho _ (List.mem_of_getElem? hs)
      generalize hra : rows[j] = ra at hf o1
      generalize hrb : rows[i] = rb at hs o2
      have hat : pPairAt rows i j = pCheck ra rb j i := by rw [pPairAt, hf, hs]; rfl
      have la : (ra.2.1.map eCs).length < 9223372036854775808 := by rw [List.length_map]; have := o1.len; exact Nat.lt_of_le_of_lt (by assumption) (by decide)
      have lb : (rb.2.1.map eCs).length < 9223372036854775808 := by rw [List.length_map]; have := o2.len; exact Nat.lt_of_le_of_lt (by assumption) (by decide)
      have nope : pCheck ra rb j i = none → ((List.range i).take (j + 1)).findSome? (pPairAt rows i) = none := fun h => by
        rw [List.take_add_one, hm2, Option.toList_some, List.findSome?_append, hJ, List.findSome?_singleton, hat, h]; rfl
      refine ⟨S13 rows (some (.int i)) (some (.int j)) a b c, Asg.name (by walk_at "upd"), ?_⟩
      refine X.cons (X1.assign (row hf (by walk_at "in") (by walk_at "in") (by exact Int.natCast_nonneg _) rfl) (by walk_at "upd") ?_)
      refine X.cons (X1.assign (row hs (by walk_at "in") (by walk_at "in") (by exact Int.natCast_nonneg _) rfl) (by walk_at "upd") ?_)
      refine X.cons (X1.if (b := decide (ra.1 = rb.1) && decide (ra.2.1.length = rb.2.1.length)) (T.eq (T.and (p := decide (ra.1 = rb.1)) (T.eq (T.cmp (row hf (by walk_at "in") (by walk_at "in") (by exact Int.natCast_nonneg _) rfl) (row hs (by walk_at "in") (by walk_at "in") (by exact Int.natCast_nonneg _) rfl) eq_i) (by rw [Bool.eq_iff_iff]; simp; exact Int.ofNat_inj)) fun _ => T.and (p := decide (ra.2.1.length = rb.2.1.length)) (T.eq (T.cmp (E.callB (E.gb G (kind_of F rfl) boot_len) (by walk_at "ev") (len_l (.lst _) la)) (E.callB (E.gb G (kind_of F rfl) boot_len) (by walk_at "ev") (len_l (.lst _) lb)) eq_i) (by rw [List.length_map, List.length_map, Bool.eq_iff_iff]; simp; exact Int.ofNat_inj)) fun _ => T.and_nil) (by rw [Bool.and_true])) (fun h => ?_) fun h => X.nil (X.nil ?_))
      · have h : ra.1 = rb.1 ∧ ra.2.1.length = rb.2.1.length := by simpa using h
        have la' : ra.2.1.length ≤ 100 := o1.len
        refine X.cons (X1.comp (locs := ["place"]) (gl := [("one", .lst (ra.2.1.map eCs)), ("other", .lst (rb.2.1.map eCs))]) (out := (apartOf ra.2.1 rb.2.1).map eInt) (Src.range1 (k := ra.2.1.length) (E.gb G (kind_of F rfl) boot_range) (.cons (E.eq (E.callB (E.gb G (kind_of F rfl) boot_len) (by walk_at "ev") (len_l (.lst _) la)) (by rw [List.length_map])) .nil) (by lia)) (CSt.of (gn := ["one", "other"]) F (by decide +kernel) (by decide) (fun p hp => ?_) (fun d hd => ?_) (noCells_map (f := eInt) (fun _ => trivial) _)) ?_ (by walk_at "upd") ?_ (swaps (C := C) (n := 0) F rfl rfl rfl rfl))
        · simp only [List.mem_cons, List.not_mem_nil, or_false] at hp
          rcases hp with rfl | rfl
          · exact ⟨noCells_map (f := eCs) (fun c => (noCells_map (f := eCh) (fun _ => trivial) c : NoCells (c.map eCh))) _, by walk_at "in"⟩
          · exact ⟨noCells_map (f := eCs) (fun c => (noCells_map (f := eCh) (fun _ => trivial) c : NoCells (c.map eCh))) _, by walk_at "in"⟩
        · (refine elEA (List.mem_map.mp hd) fun a _ z5 => ?_; subst z5); trivial
        · rw [apartOf, ← outs_filter eInt (fun p => !decide (ra.2.1[p]? = rb.2.1[p]?)) (List.range ra.2.1.length)]
          refine CRun.one (Bnd.name fun d hd => ?_) _ (fun Γ' hin q d cells hd => ?_) (by simp; exact Nat.le_trans (by assumption) (by decide))
          · (refine elEA (List.mem_map.mp hd) fun a _ z6 => ?_; subst z6); trivial
          · rw [List.getElem?_map] at hd
            cases hm3 : (List.range ra.2.1.length)[q]? with
            | none => rw [hm3] at hd; cases hd
            | some k =>
            rw [hm3] at hd; cases hd
            obtain ⟨rfl, hq⟩ := nth rfl hm3
            have e1 : ra.2.1[q]? = some ra.2.1[q] := List.getElem?_eq_getElem hq
            have e2 : rb.2.1[q]? = some (rb.2.1[q]'(by lia)) := List.getElem?_eq_getElem (by lia)
            generalize ra.2.1[q] = ca at e1
            generalize rb.2.1[q]'(by lia) = cb at e2
            have p1 := (o1.cols ca (List.mem_of_getElem? e1)).2.2
            have p2 := (o2.cols cb (List.mem_of_getElem? e2)).2.2
            refine ⟨!decide (ra.2.1[q]? = rb.2.1[q]?), Tests.one (T.cmp (E.sub (by walk_at "ev") (by walk_at "ev") (sub_lst (d := eCs ca) (.lst _) (by exact Int.natCast_nonneg _) (by rw [show ((q : Int)).toNat = q by exact Int.toNat_natCast _, List.getElem?_map, e1]; rfl) la)) (E.sub (by walk_at "ev") (by walk_at "ev") (sub_lst (d := eCs cb) (.lst _) (by exact Int.natCast_nonneg _) (by rw [show ((q : Int)).toNat = q by exact Int.toNat_natCast _, List.getElem?_map, e2]; rfl) lb)) (ne_pl (k := 1) (by decide) (pl_cs p1) (pl_cs p2) (by
              rw [decide_eq_true_eq, e1, e2]
              exact ⟨fun e => by cases e; rfl, fun e => by rw [eCs_inj e]⟩))), fun hh => ⟨eInt q, ?_, trivial, by walk_at "ev"⟩, fun hh => ?_⟩
            · simp only [hm3, Option.bind_some, hh]; rfl
            · simp only [hm3, Option.bind_some, hh]; rfl
        · have lap : ((apartOf ra.2.1 rb.2.1).map eInt).length < 9223372036854775808 := by
            rw [List.length_map]
            have : (apartOf ra.2.1 rb.2.1).length ≤ ra.2.1.length := by unfold apartOf; exact Nat.le_trans (List.length_filter_le _ _) (by simp)
            exact Nat.lt_of_le_of_lt (Nat.le_trans (by assumption) (by assumption)) (by decide)
          refine X.cons (X1.if (b := decide ((apartOf ra.2.1 rb.2.1).length = 1)) (T.eq (T.cmp (E.callB (E.gb G (kind_of F rfl) boot_len) (by walk_at "ev") (len_l (.lst _) lap)) (by walk_at "ev") eq_i) (by rw [List.length_map, Bool.eq_iff_iff]; simp; exact Int.ofNat_inj)) (fun h1 => ?_) fun h1 => X.nil (X.nil (X.nil ?_)))
          · have h1 : (apartOf ra.2.1 rb.2.1).length = 1 := by exact of_decide_eq_true (by assumption)
            obtain ⟨p, hp⟩ := List.length_eq_one_iff.mp h1
            refine X.cons (X1.ret (E.tuple (.cons (by walk_at "ev") (.cons (by walk_at "ev") (.cons (E.sub (by walk_at "ev") (by walk_at "ev") (sub_lst (d := .int p) (.lst _) (by exact Int.natCast_nonneg _) (by rw [hp]; rfl) lap)) .nil))) (by exact szLe (by with_unfolding_all rfl))) (hQ2 _ _ (hQ _ _ ?_)))
            have hc : pCheck ra rb j i = some (j, i, p) := by rw [pCheck, if_pos h, hp]
            have h2 : (List.range i).findSome? (pPairAt rows i) = some (j, i, p) := by
              rw [← List.take_append_drop j (List.range i), List.findSome?_append, hJ, List.drop_eq_getElem_cons (by simp; exact hj), List.findSome?_cons, List.getElem_range, hat, hc]; rfl
            have h3 : pPair rows = some (j, i, p) := by
              rw [pPair, ← List.take_append_drop i (List.range rows.length), List.findSome?_append, hI, List.drop_eq_getElem_cons (by simp; exact hk), List.findSome?_cons, List.getElem_range, h2]; rfl
            show Fl.ret _ = Fl.ret _
            rw [h3]; rfl
          · have h1 : ¬ (apartOf ra.2.1 rb.2.1).length = 1 := by exact of_decide_eq_false (by assumption)
            refine hK2 _ ⟨_, _, _, _, rfl, nope ?_⟩
            rw [pCheck, if_pos h]
            cases hA : apartOf ra.2.1 rb.2.1 with
            | nil => rfl
            | cons x l => cases l with
              | nil => rw [hA] at h1; exact absurd rfl h1
              | cons => rfl
      · have h : ¬ (ra.1 = rb.1 ∧ ra.2.1.length = rb.2.1.length) := by simpa using h
        exact hK2 _ ⟨_, _, _, _, rfl, nope (by rw [pCheck, if_neg h])⟩
    · rintro σ' ⟨f, a, b, c, rfl, hJ⟩ Q2 hQ2
      refine hQ2 _ _ (X.nil (hK _ ⟨_, _, _, _, _, rfl, ?_⟩))
      rw [List.length_map, List.take_of_length_le (by exact Nat.le_refl _)] at hJ
      rw [List.take_add_one, hm, Option.toList_some, List.findSome?_append, hI, List.findSome?_singleton, hJ]; rfl
  · rintro σ' ⟨s, f, a, b, c, rfl, hI⟩ Q hQ
    rw [List.length_map, List.take_of_length_le (by exact Nat.le_refl _)] at hI
    refine hQ _ _ (X.cons (X1.ret (by walk_at "ev") ?_))
    show Fl.ret _ = _
    rw [pPair, hI]; rfl
end
section
noncomputable def sortN (l : List Nat) : List Nat := l.mergeSort fun a b => decide (a ≤ b)
theorem sortN_perm (l : List Nat) : (sortN l).Perm l := List.mergeSort_perm _ _
theorem sortN_sorted (l : List Nat) : (sortN l).Pairwise (· ≤ ·) := by
  have := List.pairwise_mergeSort (le := fun a b : Nat => decide (a ≤ b)) (by intro a b c; simp; lia) (by intro a b; simp; lia) l
  exact this.imp (by intro a b h; exact of_decide_eq_true (by assumption))
noncomputable abbrev sg (c : Nat) : Str := ⟨[c].toArray⟩
theorem rising_sg : ∀ (l : List Nat) (p : Nat), risingS (sg p) (l.map sg) = true → (p :: l).Pairwise (· ≤ ·)
  | [], p, _ => by exact of_decide_eq_true (by assumption)
  | c :: l, p, h => by
    rw [List.map_cons] at h
    unfold risingS at h
    simp only [Bool.and_eq_true] at h
    have ih := rising_sg l c (by simpa using h.2)
    have hpc : p ≤ c := by
      have := h.1
      simp [ltCps] at this
      omega
    rw [List.pairwise_cons]
    refine ⟨fun x hx => ?_, ih⟩
    rcases List.mem_cons.mp hx with rfl | hx
    · exact hpc
    · exact Nat.le_trans hpc ((List.pairwise_cons.mp ih).1 x hx)
theorem sorted_uniq {l : List Nat} : ∀ zs : List Str, zs.Perm ((l.map fun c => [c]).map fun x => (⟨x.toArray⟩ : Str)) → sortedS zs = true → zs.map (·.cps.toList) = (sortN l).map fun c => [c] := by
  intro zs hp hs
  rw [List.map_map] at hp
  have hp : zs.Perm (l.map sg) := hp
  have hz : ∃ ns : List Nat, zs = ns.map sg := by
    refine ⟨zs.map fun z => z.cps.toList.headD 0, ?_⟩
    rw [List.map_map]
    conv => lhs; rw [← List.map_id zs]
    refine List.map_congr_left fun z hz => ?_
    (refine elEA (List.mem_map.mp (hp.subset hz)) fun c _ z0 => ?_; subst z0)
    rfl
  obtain ⟨ns, rfl⟩ := hz
  have hpn : ns.Perm l := by
    have := hp.map (fun z : Str => z.cps.toList.headD 0)
    rw [List.map_map, List.map_map] at this
    simpa [Function.comp_def] using this
  have hsn : ns.Pairwise (· ≤ ·) := by
    cases ns with
    | nil => exact .nil
    | cons p r => exact rising_sg r p hs
  have : ns = sortN l := List.Perm.eq_of_pairwise (le := (· ≤ ·)) (fun a b _ _ h1 h2 => Nat.le_antisymm h1 h2) hsn (sortN_sorted l) (hpn.trans (sortN_perm l).symm)
  rw [this, List.map_map]
  rfl
theorem pPair_spec {rows : List Row} {f s p : Nat} (h : pPair rows = some (f, s, p)) : f < s ∧ s < rows.length ∧ ∃ a b, rows[f]? = some a ∧ rows[s]? = some b ∧ a.1 = b.1 ∧ a.2.1.length = b.2.1.length ∧ apartOf a.2.1 b.2.1 = [p] ∧ p < a.2.1.length := by
  (refine elEEEAA (List.findSome?_eq_some_iff.mp h) fun l1 s' l2 e1 h1 _ => ?_)
  have hs' : s' ∈ List.range rows.length := by rw [e1]; simp
  (refine elEEEAA (List.findSome?_eq_some_iff.mp h1) fun l3 f' l4 e2 h2 _ => ?_)
  have hf' : f' ∈ List.range s' := by rw [e2]; simp
  rw [List.mem_range] at hs' hf'
  unfold pPairAt at h2
  (refine elEA (Option.bind_eq_some_iff.mp h2) fun a ha h2 => ?_)
  (refine elEA (Option.bind_eq_some_iff.mp h2) fun b hb h2 => ?_)
  unfold pCheck at h2
  split at h2
  · rename_i hc
    split at h2
    · rename_i q hq
      cases h2
      refine ⟨hf', hs', a, b, ha, hb, hc.1, hc.2, hq, ?_⟩
      have : p ∈ apartOf a.2.1 b.2.1 := by rw [hq]; exact List.mem_cons_self
      exact List.mem_range.mp (List.mem_filter.mp this).1
    · cases h2
  · cases h2
noncomputable def pMerge (a b : Row) (p : Nat) : Row := (a.1, a.2.1.take p ++ ([sortN ((a.2.1.getD p []) ++ (b.2.1.getD p []))] ++ a.2.1.drop (p + 1)), a.2.2 ++ b.2.2)
noncomputable def pDrop (rows : List Row) (f s : Nat) : List Row := (rows.zipIdx.filter fun q => !decide (q.2 ∈ [f, s])).map (·.1)
noncomputable def pFoldStep (rows : List Row) (f s p : Nat) : List Row := pDrop rows f s ++ [pMerge (rows.getD f (0, [], [])) (rows.getD s (0, [], [])) p]
noncomputable def pFold : Nat → List Row → List Row
  | 0, rows => rows
  | m + 1, rows => match pPair rows with
    | some (f, s, p) => pFold m (pFoldStep rows f s p)
    | none => rows
noncomputable def rowOf (e : Ent) : Row := (e.1, e.2.map fun c => [c], [e.2])
noncomputable def pFolded (ls : List Ent) : List Row := pFold ls.length (ls.map rowOf)
end
section
section
variable {α : Type}
noncomputable def dropAt (l : List α) (k f s : Nat) : List α := ((l.zipIdx k).filter fun q => !decide (q.2 ∈ [f, s])).map (·.1)
theorem dropC : ∀ (l : List α) (k f s : Nat), f < k → s < k → dropAt l k f s = l
  | [], _, _, _, _, _ => rfl
  | x :: l, k, f, s, hf, hs => by
    have ih := dropC l (k + 1) f s (by exact Nat.le_succ_of_le (by assumption)) (by exact Nat.le_succ_of_le (by assumption))
    unfold dropAt at ih ⊢
    rw [List.zipIdx_cons, List.filter_cons]
    have : ¬ (k = f ∨ k = s) := by lia
    simp [this] at ih ⊢
    exact ih
theorem dropB : ∀ (l : List α) (k f s : Nat), f < k → dropAt l k f (k + s) = l.eraseIdx s
  | [], _, _, _, _ => rfl
  | x :: l, k, f, 0, hf => by
    have ih := dropC l (k + 1) f k (by exact Nat.le_succ_of_le (by assumption)) (by exact Nat.lt_succ_self _)
    unfold dropAt at ih ⊢
    rw [List.zipIdx_cons, List.filter_cons]
    simp at ih ⊢
    exact ih
  | x :: l, k, f, s + 1, hf => by
    have ih := dropB l (k + 1) f s (by exact Nat.le_succ_of_le (by assumption))
    rw [show k + 1 + s = k + (s + 1) by exact Nat.succ_add _ _] at ih
    unfold dropAt at ih ⊢
    rw [List.zipIdx_cons, List.filter_cons]
    have : ¬ (k = f ∨ k = k + (s + 1)) := by lia
    simp [this] at ih ⊢
    first
      | exact ih
      | (have h1 : ¬ k = f := by exact Nat.ne_of_gt (by assumption)
         simp [h1]; exact ih)
theorem dropA : ∀ (l : List α) (k f s : Nat), f < s → dropAt l k (k + f) (k + s) = (l.eraseIdx s).eraseIdx f
  | [], _, _, _, _ => by exact List.nil_append _
  | x :: l, k, 0, s + 1, hf => by
    have ih := dropB l (k + 1) k s (by exact Nat.lt_succ_self _)
    rw [show k + 1 + s = k + (s + 1) by exact Nat.succ_add _ _] at ih
    unfold dropAt at ih ⊢
    rw [List.zipIdx_cons, List.filter_cons]
    simp at ih ⊢
    exact ih
  | x :: l, k, f + 1, s + 1, hf => by
    have ih := dropA l (k + 1) f s (by exact Nat.le_of_lt_succ (by assumption))
    rw [show k + 1 + s = k + (s + 1) by exact Nat.succ_add _ _, show k + 1 + f = k + (f + 1) by exact Nat.succ_add _ _] at ih
    unfold dropAt at ih ⊢
    rw [List.zipIdx_cons, List.filter_cons]
    have h1 : ¬ k = k + (f + 1) := by simp
    have h2 : ¬ k = k + (s + 1) := by simp
    simp at ih ⊢
    exact ih
  | _ :: _, _, 0, 0, hf => by exact absurd (by assumption) (Nat.lt_irrefl _)
  | _ :: _, _, _ + 1, 0, hf => by exact absurd (by assumption) (Nat.not_lt_zero _)
end
theorem pDrop_eq (rows : List Row) {f s : Nat} (h : f < s) : pDrop rows f s = (rows.eraseIdx s).eraseIdx f := by
  have := dropA rows 0 f s h
  simpa [dropAt, pDrop] using this
theorem erase_perm {α : Type} : ∀ {l : List α} {i : Nat} {a : α}, l[i]? = some a → l.Perm (a :: l.eraseIdx i)
  | x :: l, 0, a, h => by cases h; exact .refl _
  | x :: l, i + 1, a, h => by
    have ih := erase_perm (l := l) (i := i) (a := a) (by simpa using h)
    exact (List.Perm.cons x ih).trans (.swap _ _ _)
theorem pDrop_perm {rows : List Row} {f s : Nat} {a b : Row} (h : f < s) (ha : rows[f]? = some a) (hb : rows[s]? = some b) : rows.Perm (b :: a :: pDrop rows f s) := by
  rw [pDrop_eq rows h]
  have p1 := erase_perm hb
  have e : (rows.eraseIdx s)[f]? = some a := by rw [List.getElem?_eraseIdx, if_pos h]; exact ha
  exact p1.trans (.cons _ (erase_perm e))
theorem sum_mem : ∀ {l : List Nat} {x : Nat}, x ∈ l → x ≤ l.sum
  | y :: l, x, h => by
    rw [List.sum_cons]
    rcases List.mem_cons.mp h with rfl | h
    · exact Nat.le_add_right _ _
    · have := sum_mem h; exact Nat.le_trans (by assumption) (Nat.le_add_left _ _)
structure RInv (N : Nat) (rows : List Row) : Prop where
  each : ∀ r ∈ rows, r.1 < 6 ∧ r.2.1.length ≤ 100 ∧ ∀ c ∈ r.2.1, c ≠ [] ∧ c.length ≤ r.2.2.length ∧ ∀ x ∈ c, x < 1114112
  sum : (rows.map fun r => r.2.2.length).sum ≤ N
theorem getD_of {α : Type} {l : List α} {i : Nat} {a d : α} (h : l[i]? = some a) : l.getD i d = a := by rw [List.getD_eq_getElem?_getD, h]; rfl
theorem sum_perm {l l' : List Row} (h : l.Perm l') : (l.map fun r => r.2.2.length).sum = (l'.map fun r => r.2.2.length).sum := (h.map _).sum_nat
theorem RInv.le {N : Nat} {rows : List Row} (h : RInv N rows) {r : Row} (hr : r ∈ rows) : r.2.2.length ≤ N := by
  have : r.2.2.length ≤ (rows.map fun r => r.2.2.length).sum := sum_mem (List.mem_map.mpr ⟨r, hr, rfl⟩)
  exact Nat.le_trans this h.sum
theorem RInv.ok {N : Nat} {rows : List Row} (h : RInv N rows) (hN : N ≤ 1000) : ∀ r ∈ rows, RowOk r := fun r hr => by
  (refine elAA (h.each r hr) fun h1 h2 h3 => ?_)
  have := h.le hr
  exact ⟨h1, h2, fun c hc => ⟨(h3 c hc).1, Nat.le_trans (h3 c hc).2.1 (by exact Nat.le_trans (by assumption) (by assumption)), (h3 c hc).2.2⟩⟩
theorem RInv.step {N : Nat} {rows : List Row} (h : RInv N rows) {f s p : Nat} (hp : pPair rows = some (f, s, p)) : RInv N (pFoldStep rows f s p) ∧ (pFoldStep rows f s p).length + 1 = rows.length := by
  (refine elAA (pPair_spec hp) fun hfs hs z0 => ?_; refine elEE z0 fun a b z1 => ?_; clear z0; refine elAAAAA z1 fun ha hb hk hl _ hpl => ?_; clear z1)
  have hperm := pDrop_perm hfs ha hb
  have ra := h.each a (List.mem_of_getElem? ha)
  have rb := h.each b (List.mem_of_getElem? hb)
  rw [pFoldStep, getD_of ha, getD_of hb]
  have hca : a.2.1[p]? = some a.2.1[p] := List.getElem?_eq_getElem hpl
  have hcb : b.2.1[p]? = some (b.2.1[p]'(by lia)) := List.getElem?_eq_getElem (by lia)
  refine ⟨⟨fun r hr => ?_, ?_⟩, ?_⟩
  · rcases List.mem_append.mp hr with q | q
    · exact h.each r (hperm.symm.subset (.tail _ (.tail _ q)))
    · cases List.mem_singleton.mp q
      refine ⟨ra.1, ?_, fun c hc => ?_⟩
      · have := ra.2.1
        simp [pMerge]; grind
      · simp only [pMerge, List.mem_append, List.mem_singleton] at hc
        rw [getD_of hca, getD_of hcb] at hc
        rw [show (pMerge a b p).2.2 = a.2.2 ++ b.2.2 from rfl, List.length_append]
        rcases hc with q | rfl | q
        · (refine elAA (ra.2.2 c (List.mem_of_mem_take q)) fun c1 c2 c3 => ?_)
          exact ⟨c1, by exact Nat.le_trans (by assumption) (Nat.le_add_right _ _), c3⟩
        · (refine elAA (ra.2.2 _ (List.mem_of_getElem? hca)) fun c1 c2 c3 => ?_)
          (refine elAA (rb.2.2 _ (List.mem_of_getElem? hcb)) fun d1 d2 d3 => ?_)
          refine ⟨fun e => c1 ?_, ?_, fun x hx => ?_⟩
          · have := (sortN_perm (a.2.1[p] ++ b.2.1[p]'(by lia))).length_eq
            rw [e] at this
            simp at this; exact List.length_eq_zero_iff.mp (by lia)
          · rw [(sortN_perm _).length_eq, List.length_append]; exact Nat.add_le_add (by assumption) (by assumption)
          · rcases List.mem_append.mp ((sortN_perm _).subset hx) with q | q
            · exact c3 x q
            · exact d3 x q
        · (refine elAA (ra.2.2 c (List.mem_of_mem_drop q)) fun c1 c2 c3 => ?_)
          exact ⟨c1, by exact Nat.le_trans (by assumption) (Nat.le_add_right _ _), c3⟩
  · have e := sum_perm hperm
    have := h.sum
    rw [List.map_append, List.sum_append]
    simp only [List.map_cons, List.sum_cons, List.map_nil, List.sum_nil, pMerge, List.length_append] at *
    simp_all +arith
  · have := hperm.length_eq
    simp only [List.length_append, List.length_cons, List.length_nil] at *
    exact (by assumption : _ = _).symm
end
section
theorem noCell_cs (c : List Nat) : NoCell (eCs c) := (noCells_map (f := eCh) (fun _ => trivial) c : NoCells (c.map eCh))
theorem outs_drop (rows : List Row) (f s : Nat) : outs (fun i d => if i ∈ [f, s] then none else (rows[i]?).map eRow) ((rows.map eRow).mapIdx fun i d => .tup [.int i, d]) = (pDrop rows f s).map eRow := by
  unfold outs pDrop
  suffices H : ∀ (l : List Row) (ds : List D) (k : Nat), ds.length = l.length → (∀ j, rows[k + j]? = l[j]?) → (ds.zipIdx k).filterMap (fun q => if q.2 ∈ [f, s] then none else (rows[q.2]?).map eRow) = (((l.zipIdx k).filter fun q => !decide (q.2 ∈ [f, s])).map (·.1)).map eRow from H rows _ 0 (by simp) (by simp)
  intro l
  induction l with
  | nil => intro ds k hd _; have := List.length_eq_zero_iff.mp hd; subst this; rfl
  | cons r l ih =>
    intro ds k hd hk
    match ds, hd with
    | d :: ds, hd =>
    have h0 := hk 0
    simp only [Nat.add_zero, List.getElem?_cons_zero] at h0
    have ih := ih ds (k + 1) (by exact Nat.add_right_cancel (by assumption)) (fun j => by have := hk (j + 1); simpa [Nat.add_comm, Nat.add_left_comm, Nat.add_assoc] using this)
    rw [List.zipIdx_cons, List.zipIdx_cons, List.filterMap_cons, List.filter_cons]
    by_cases hm : k ∈ [f, s]
    · simp only [hm, if_true, decide_true, Bool.not_true, Bool.false_eq_true, if_false]; exact ih
    · simp only [hm, if_false, decide_false, Bool.not_false, if_true, h0, Option.map_some, List.map_cons]; rw [ih]
section
variable {C : Cx} {n : Nat} {Γ : Fx} {σ : St}
theorem notInInt {k : Nat} {l : List Nat} : Bop C n Γ (compareOp .NotIn) σ (.int k) (.tup (l.map fun j : Nat => D.int j)) (.bool (!decide (k ∈ l))) :=
  notIn_tup (k := 0) (by decide) (fun e he => by (refine elEA (List.mem_map.mp he) fun x hx z0 => ?_; subst z0); trivial) trivial (by
    rw [decide_eq_true_eq, List.mem_map]
    constructor
    · intro h; exact ⟨k, h, rfl⟩
    · (intro z1; refine elEA z1 fun a h e => ?_; clear z1)
      have : (a : Int) = k := by injection e
      have : a = k := by lia
      exact this ▸ h)
end
theorem d14 : DefOk (sc 14) (stParams (st 14)) (bd 14) (stName (st 14)) ["listing"] ["rows", "pair", "first", "second", "place", "kind", "columns", "names", "both", "merged"] := DefOk.one rfl rfl rfl rfl (fun _ _ _ _ => rfl) (by decide +kernel) (by decide +kernel)
noncomputable abbrev S14 (ls : List Ent) (rows : List Row) (o : Option (Nat × Nat × Nat)) (f s p k c n b m : Option D) : St :=
  ⟨[("listing", some (.lst (ls.map eEnt))), ("rows", some (.lst (rows.map eRow))), ("pair", some (ePair o)), ("first", f), ("second", s), ("place", p), ("kind", k), ("columns", c), ("names", n), ("both", b), ("merged", m)], [], []⟩
noncomputable def EntOk (e : Ent) : Prop := e.1 < 6 ∧ e.2.length ≤ 100 ∧ ∀ x ∈ e.2, x < 1114112
theorem RInv.start {ls : List Ent} (h : ∀ e ∈ ls, EntOk e) : RInv ls.length (ls.map rowOf) := by
  refine ⟨fun r hr => ?_, ?_⟩
  · (refine elEA (List.mem_map.mp hr) fun e he z2 => ?_; subst z2)
    (refine elAA (h e he) fun h1 h2 h3 => ?_)
    refine ⟨h1, by simpa [rowOf] using h2, fun c hc => ?_⟩
    (refine elEA (List.mem_map.mp hc) fun x hx z3 => ?_; subst z3)
    exact ⟨by exact List.cons_ne_nil _ _, by exact Nat.succ_pos _, fun y hy => by cases List.mem_singleton.mp hy; exact h3 x hx⟩
  · rw [List.map_map]
    have : ((fun r : Row => r.2.2.length) ∘ rowOf) = fun _ => 1 := by funext e; rfl
    rw [this]
    have : ∀ l : List Ent, (l.map fun _ => 1).sum = l.length := fun l => by
      induction l with
      | nil => rfl
      | cons _ _ ih => rw [List.map_cons, List.sum_cons, ih, List.length_cons]; exact Nat.add_comm _ _
    exact Nat.le_of_eq (this ls)
inductive I14 (ls : List Ent) (m : Nat) (σ : St) : Prop
  | mk (rows : List Row) (f s p k c n b mm : Option D) (e : σ = S14 ls rows (pPair rows) f s p k c n b mm) (hinv : RInv ls.length rows) (he : pFold m rows = pFolded ls) (hm : rows.length ≤ m) (hm30 : m ≤ 30) : I14 ls m σ
set_option maxHeartbeats 8000000 in
theorem folded_spec {C : Cx} (G : Gl C) {ls : List Ent} (ho : ∀ e ∈ ls, EntOk e) (hl : ls.length ≤ 30) : Spec C 2 (G.v 14) [.lst (ls.map eEnt)] (.lst ((pFolded ls).map eRow)) := by
  have hsz : sizeLine = 2 ^ 24 := rfl
  refine Spec.of G.H (G.fn 14 (by decide)).2 d14 rfl ⟨noCells_map noCell_ent _, trivial⟩ (noCells_map noCell_row _) fun Γ F => ?_
  show X C 1 Γ (_ :: _ :: _ :: _ :: []) ⟨[("listing", some (.lst (ls.map eEnt))), ("rows", none), ("pair", none), ("first", none), ("second", none), ("place", none), ("kind", none), ("columns", none), ("names", none), ("both", none), ("merged", none)], [], []⟩ _
  refine X.hide fun Q hQ => ?_
  refine X.cons (X1.comp (locs := ["kind", "name"]) (gl := []) (out := (ls.map rowOf).map eRow) (Src.list (by walk_at "ev") (.inr ⟨⟨_, _, _, rfl⟩, fun d hd => ?_⟩)) (CSt.of (gn := []) F (by decide +kernel) (by decide) (fun p hp => by cases hp) (fun d hd => ?_) (noCells_map noCell_row _)) ?_ (by walk_at "upd") ?_ (swaps (C := C) (n := 1) F rfl rfl rfl rfl))
  · (refine elEA (List.mem_map.mp hd) fun a _ z4 => ?_; subst z4); exact ⟨_, rfl⟩
  · (refine elEA (List.mem_map.mp hd) fun a _ z5 => ?_; subst z5); exact noCell_ent a
  · have e : ((ls.map rowOf).map eRow) = ls.map fun e => eRow (rowOf e) := by rw [List.map_map]; rfl
    rw [e, ← outs_map eEnt (fun e => eRow (rowOf e)) ls]
    refine CRun.one (Bnd.two (fun d hd => ?_) fun d hd => ?_) _ (fun Γ' hin i d cells hd => ?_) (by rw [List.length_map]; exact Nat.le_trans (by assumption) (by decide))
    · (refine elEA (List.mem_map.mp hd) fun a _ z6 => ?_; subst z6); exact noCell_ent a
    · (refine elEA (List.mem_map.mp hd) fun a _ z7 => ?_; subst z7); exact ⟨_, _, rfl⟩
    · rw [List.getElem?_map] at hd
      cases hm : ls[i]? with
      | none => rw [hm] at hd; cases hd
      | some e =>
      rw [hm] at hd; cases hd
      have he := ho e (List.mem_of_getElem? hm)
      refine ⟨true, Tests.nil, fun _ => ⟨eRow (rowOf e), by first | rfl | (rw [hm]; rfl), noCell_row _, ?_⟩, fun h => by cases h⟩
      show E C 1 Γ' _ ⟨[("kind", some (.int e.1)), ("name", some (.str e.2))], [], cells⟩ _
      refine E.tuple (.cons (E.eq (by walk_at "ev") (by rfl)) (.cons (d := .lst ((rowOf e).2.1.map eCs)) ?_ (.cons (E.eq (by walk_at "ev") (by rfl)) .nil))) (by exact szLe (by with_unfolding_all rfl))
      have e2 : ((rowOf e).2.1.map eCs) = e.2.map fun c => eCs [c] := by show (e.2.map _).map _ = _; rw [List.map_map]; rfl
      rw [e2, ← outs_map eCh (fun c => eCs [c]) e.2]
      refine E.comp (locs := ["sign"]) (gl := []) (Src.str (by walk_at "ev")) (CSt.bare (by decide +kernel) (by decide +kernel) (by decide) (fun d hd => ?_) ?_) (CRun.one (Bnd.name fun d hd => ?_) _ (fun Γ'' hin2 i d cells hd => ?_) (by rw [List.length_map]; have := he.2.1; exact Nat.le_trans (by assumption) (by decide)))
      · (refine elEA (List.mem_map.mp hd) fun a _ z8 => ?_; subst z8); trivial
      · rw [outs_map]; exact noCells_map (f := fun c => eCs [c]) (fun c => noCell_cs [c]) _
      · (refine elEA (List.mem_map.mp hd) fun a _ z9 => ?_; subst z9); trivial
      · rw [List.getElem?_map] at hd
        cases hm2 : e.2[i]? with
        | none => rw [hm2] at hd; cases hd
        | some c =>
        rw [hm2] at hd; cases hd
        exact ⟨true, Tests.nil, fun _ => ⟨eCs [c], by first | rfl | (rw [hm2]; rfl), noCell_cs [c], E.eq (by walk_at "ev") (by rfl)⟩, fun h => by cases h⟩
  have hst := RInv.start ho
  have callPair : ∀ {rows : List Row} {σ : St} {p1 p2 p3}, RInv ls.length rows → rows.length ≤ 30 → ((Str.ofString "rows", some (D.lst (rows.map eRow))) : Str × Option D) ∈ σ.loc → E C 1 Γ (.Call (.Name "_law_pair" p1) [.Name "rows" p2] [] p3) σ (ePair (pPair rows)) := fun {rows σ p1 p2 p3} h1 h2 hm =>
    E.callF G.H (E.gf G 13 (kind_of F rfl)) (.cons (E.loc hm) .nil) (pair_spec G (h1.ok (by exact Nat.le_trans (by assumption) (Nat.le_add_left _ _))) (by exact Nat.le_trans (by assumption) (Nat.le_add_left _ _))) (by exact Nat.le_refl _) ⟨noCells_map noCell_row _, trivial⟩ (noCell_pair _)
  refine X.cons (X1.assign (callPair hst (by simpa using hl) (by walk_at "in")) (by walk_at "upd") ?_)
  refine X.cons (X1.whileH (I14 ls) (k₀ := ls.length) ⟨ls.map rowOf, none, none, none, none, none, none, none, none, rfl, hst, rfl, by simp, hl⟩ ?_)
  rintro m σ' ⟨rows, f, s, p, k, c, n, b, mm, rfl, hinv, he, hm, hm30⟩ K Q' hK hQ'
  cases hp : pPair rows with
  | none =>
    refine ⟨false, T.eq (T.cmp (by walk_at "ev") (by walk_at "ev") (by exact isNot_none_b none_is_none)) rfl, fun h => (by cases h), fun _ => hQ' _ _ ?_⟩
    have hgo : pFolded ls = rows := by
      rw [← he]
      cases m with
      | zero => rfl
      | succ m => rw [pFold, hp]
    exact X.cons (X1.ret (by walk_at "ev") (hQ _ _ (by rw [hgo])))
  | some q =>
    obtain ⟨fi, se, pl⟩ := q
    refine ⟨true, T.eq (T.cmp (by walk_at "ev") (by walk_at "ev") (by exact isNot_none_b tup_not_none)) rfl, fun _ => ?_, fun h => by cases h⟩
    (refine elAA (pPair_spec hp) fun hfs hse z13 => ?_; refine elEE z13 fun ra rb z14 => ?_; clear z13; refine elAAAAA z14 fun ha hb hk hll _ hpl => ?_; clear z14)
    obtain ⟨hinv', hlen'⟩ := hinv.step hp
    obtain ⟨m, rfl⟩ : ∃ j, m = j + 1 := ⟨m - 1, by exact (Nat.sub_add_cancel (by lia)).symm⟩
    have hgo : pFold m (pFoldStep rows fi se pl) = pFolded ls := by rw [← he, pFold, hp]
    have hr63 : (rows.map eRow).length < 9223372036854775808 := by rw [List.length_map]; exact Nat.lt_of_le_of_lt (Nat.le_trans (by assumption) (by assumption)) (by decide)
    have e1 : ra.2.1[pl]? = some ra.2.1[pl] := List.getElem?_eq_getElem hpl
    have e2 : rb.2.1[pl]? = some (rb.2.1[pl]'(by lia)) := List.getElem?_eq_getElem (by lia)
    have oa := hinv.each ra (List.mem_of_getElem? ha)
    have ob := hinv.each rb (List.mem_of_getElem? hb)
    have na := hinv.le (List.mem_of_getElem? ha)
    have nb := hinv.le (List.mem_of_getElem? hb)
    have hstep : pFoldStep rows fi se pl = pDrop rows fi se ++ [pMerge ra rb pl] := by rw [pFoldStep, getD_of ha, getD_of hb]
    have hmg : pMerge ra rb pl = (ra.1, ra.2.1.take pl ++ ([sortN (ra.2.1[pl] ++ rb.2.1[pl]'(by lia))] ++ ra.2.1.drop (pl + 1)), ra.2.2 ++ rb.2.2) := by rw [pMerge, getD_of e1, getD_of e2]
    generalize ra.2.1[pl] = ca at e1 hmg
    generalize rb.2.1[pl]'(by lia) = cb at e2 hmg
    have ca3 := oa.2.2 ca (List.mem_of_getElem? e1)
    have cb3 := ob.2.2 cb (List.mem_of_getElem? e2)
    have la : (ra.2.1.map eCs).length < 9223372036854775808 := by rw [List.length_map]; lia
    have lb : (rb.2.1.map eCs).length < 9223372036854775808 := by rw [List.length_map]; simp_all
    have row : ∀ {i : Nat} {r : Row} {nm : Str} {σ : St} {p1 p2 p3}, rows[i]? = some r → ((Str.ofString "rows", some (D.lst (rows.map eRow))) : Str × Option D) ∈ σ.loc → (nm, some (D.int i)) ∈ σ.loc →
        E C 1 Γ (.Subscript (.Name "rows" p1) (.Name nm p2) p3) σ (.tup [.int r.1, .lst (r.2.1.map eCs), .lst (r.2.2.map .str)]) := fun {i r nm σ p1 p2 p3} hr h1 h2 =>
      E.sub (E.loc h1) (E.loc h2) (sub_lst (d := eRow r) (.lst _) (by exact Int.natCast_nonneg _) (by rw [List.getElem?_map, show ((i : Int)).toNat = i by exact Int.toNat_natCast _, hr]; rfl) hr63)
    refine X.cons (X1.assignT (E.eq (by walk_at "ev") (show _ = D.tup [.int fi, .int se, .int pl] by rfl)) (Asg.tuple (.cons (Asg.name (by walk_at "upd")) (.cons (Asg.name (by walk_at "upd")) (.cons (Asg.name (by walk_at "upd")) .nil)))) ?_)
    refine X.cons (X1.assignT (row ha (by walk_at "in") (by walk_at "in")) (Asg.tuple (.cons (Asg.name (by walk_at "upd")) (.cons (Asg.name (by walk_at "upd")) (.cons (Asg.name (by walk_at "upd")) .nil)))) ?_)
    have hsorted : ∀ {σ : St}, Blt C 1 Γ σ (.builtin "sorted") [.lst ((ca ++ cb).map eCh)] (.lst ((sortN (ca ++ cb)).map eCh)) := fun {σ} => by
      have := sorted_l (C := C) (n := 1) (Γ := Γ) (σ := σ) (xs := (ca ++ cb).map fun c => [c]) (ys := (sortN (ca ++ cb)).map fun c => [c]) (a := .lst ((ca ++ cb).map eCh)) (by rw [List.map_map]; exact .lst _) (by rw [List.length_map, List.length_append]; lia) (fun zs h1 h2 => sorted_uniq zs h1 h2)
      rw [List.map_map] at this; exact this
    refine X.cons (X1.assign (E.callB (E.gb G (kind_of F rfl) boot_sorted) (.cons (E.eq (E.bin (E.sub (by walk_at "ev") (by walk_at "ev") (sub_lst (d := eCs ca) (.lst _) (by exact Int.natCast_nonneg _) (by rw [show ((pl : Int)).toNat = pl by exact Int.toNat_natCast _, List.getElem?_map, e1]; rfl) la)) (E.sub (E.sub (row hb (by walk_at "in") (by walk_at "in")) (by walk_at "ev") (sub_tup (d := .lst (rb.2.1.map eCs)) (by exact Int.natCast_nonneg _) rfl (by exact of_decide_eq_true (by assumption)))) (by walk_at "ev") (sub_lst (d := eCs cb) (.lst _) (by exact Int.natCast_nonneg _) (by rw [show ((pl : Int)).toNat = pl by exact Int.toNat_natCast _, List.getElem?_map, e2]; rfl) lb)) (add_l (.lst _) (.lst _) (by rw [List.length_map, List.length_map]; lia))) (by rw [← List.map_append])) .nil) hsorted) (by walk_at "upd") ?_)
    have cmA : ∀ lo hi, cut (ra.2.1.map eCs) lo hi = (cut ra.2.1 lo hi).map eCs := fun lo hi => by unfold cut; rw [List.length_map, List.map_take, List.map_drop]
    have lA : (ra.2.1.map eCs).length ≤ sizeLine := by rw [List.length_map]; lia
    refine X.cons (X1.assign (d := eRow (pMerge ra rb pl)) (E.eq (E.tuple (.cons (by walk_at "ev") (.cons (E.bin (E.bin (E.eq (E.cut (by walk_at "ev") .none (.some (by walk_at "ev")) (Cut.lst (.lst _) lA)) (by rw [cmA, cut_to rfl])) (by walk_at "ev") (add_l (.lst _) (.lst _) (by simp; grind))) (E.eq (E.cut (by walk_at "ev") (.some (by walk_at "ev")) .none (Cut.lst (.lst _) lA)) (by rw [cmA, cut_i (i := pl + 1) (by rfl)])) (add_l (.lst _) (.lst _) (by simp; grind)))
      (.cons (E.bin (by walk_at "ev") (E.sub (row hb (by walk_at "in") (by walk_at "in")) (by walk_at "ev") (sub_tup (d := .lst (rb.2.2.map .str)) (by exact Int.natCast_nonneg _) rfl (by exact of_decide_eq_true (by assumption)))) (add_l (.lst _) (.lst _) (by rw [List.length_map, List.length_map]; lia))) .nil))) (by exact szLe (by with_unfolding_all rfl))) (by rw [hmg]; simp)) (by walk_at "upd") ?_)
    have rl : (rows.map eRow).length ≤ 30 := by rw [List.length_map]; exact Nat.le_trans (by assumption) (by assumption)
    refine X.cons (X1.assign (d := .lst ((pFoldStep rows fi se pl).map eRow)) (E.eq (E.bin (E.comp (locs := ["spot", "row"]) (gl := [("first", .int fi), ("second", .int se)]) (out := (pDrop rows fi se).map eRow) (ds := (rows.map eRow).mapIdx fun i d => .tup [.int i, d]) (Src.enum (E.gb G (kind_of F rfl) boot_enumerate') (by walk_at "ev")) (CSt.of (gn := ["first", "second"]) F (by decide +kernel) (by decide) (fun q hq => ?_) (fun d hd => ?_) (noCells_map noCell_row _)) ?_) (by walk_at "ev") (add_l (.lst _) (.lst _) ?_)) ?_) (by walk_at "upd") ?_)
    · simp only [List.mem_cons, List.not_mem_nil, or_false] at hq
      rcases hq with rfl | rfl
      · exact ⟨trivial, by walk_at "in"⟩
      · exact ⟨trivial, by walk_at "in"⟩
    · obtain ⟨i, hi, rfl⟩ := List.mem_mapIdx.mp hd
      rw [List.getElem_map]
      exact ⟨trivial, noCell_row _, trivial⟩
    · rw [← outs_drop rows fi se]
      refine CRun.one (Bnd.two (fun d hd => ?_) fun d hd => ?_) _ (fun Γ' hin i d cells hd => ?_) (by rw [List.length_mapIdx]; exact Nat.le_trans (by assumption) (by decide))
      · obtain ⟨i, hi, rfl⟩ := List.mem_mapIdx.mp hd
        rw [List.getElem_map]
        exact ⟨trivial, noCell_row _, trivial⟩
      · obtain ⟨i, hi, rfl⟩ := List.mem_mapIdx.mp hd
        exact ⟨_, _, rfl⟩
      · rw [List.getElem?_mapIdx, List.getElem?_map] at hd
        cases hm : rows[i]? with
        | none => rw [hm] at hd; cases hd
        | some r =>
        rw [hm] at hd; cases hd
        show ∃ b, Tests C 1 Γ' _ ⟨[("spot", some (.int i)), ("row", some (eRow r))], [("first", .int fi), ("second", .int se)], cells⟩ b ∧ _ ∧ _
        refine ⟨!decide (i ∈ [fi, se]), Tests.one (T.cmp (by walk_at "ev") (E.eq (by walk_at "ev") (show _ = D.tup ([fi, se].map fun j : Nat => D.int j) by rfl)) notInInt), fun h => ⟨eRow r, ?_, noCell_row r, (show E C 1 Γ' _ ⟨[("spot", some (.int i)), ("row", some (eRow r))], [("first", .int fi), ("second", .int se)], cells⟩ _ by walk_at "ev")⟩, fun h => ?_⟩
        · have h : i ∉ [fi, se] := by lia
          rw [if_neg h]; first | rfl | (rw [hm]; rfl)
        · have h : i ∈ [fi, se] := by
            simp at h; simp; lia
          rw [if_pos h]
    · have := hlen'
      rw [hstep] at this
      simp only [List.length_append, List.length_cons, List.length_nil, List.length_map] at *
      lia
    · rw [hstep, List.map_append]; rfl
    · refine X.cons (X1.assign (callPair hinv' (by lia) (by walk_at "in")) (by walk_at "upd") (X.nil (hK m _ (Nat.lt_succ_self _) ⟨pFoldStep rows fi se pl, _, _, _, _, _, _, _, _, rfl, hinv', hgo, by lia, by exact Nat.le_of_lt (by assumption)⟩)))
end
section
theorem setItem_neg {prog : Program} {w : World} {A : Around} {E : Value → Shared → Prop} {s : Shared} {l : Addr} {items : Array Value} {k : Int} {t : Tok} {v : Value} {Q : Unit → Shared → Prop} (hl : PlainL s.heap l items)
    (h0 : k < 0) (h1 : -(items.size : Int) ≤ k) (hfit : -(2 ^ 63) ≤ k)
    (hQ : ∀ h', PlainL h' l (items.setIfInBounds (k + items.size).toNat v) → Heap.SameBut l s.heap h' → Q () { s with heap := h' }) :
    wpAny (model prog w) A (setItem (.ref l) (.int k t) v) Q E s := by
  have hL := hl.isList
  (refine elEEAAA (id hl) fun o ne ho hc hdi hd => ?_)
  unfold setItem
  try with_reducible refine wpAny_holding ?_
  first | refine wpAny_bind (wpAny_pure ?_) | skip
  refine wpAny_bind (wpAny_sequenceKey hL.typeIs (by decide) ?_)
  refine wpAny_bind (wpAny_callSpecial?_slot (name := Str.ofString "__setitem__") hL.typeIs slot_list_setitem
    (wpAny_call_entry slot_list_setitem hL.typeIs entry_list_setitem ?_ (args_list_setitem _ _ _)))
  show wpAny _ _ (Builtin.List.listSubscript? (.int k t) >>= _) _ _ s
  refine wpAny_bind (wpAny_listSubscript_int (fitsIndex_neg h0 hfit) ?_)
  clear hfit
  have hidx := seqIndex_neg h0 h1
  have hj : (k + items.size).toNat < items.size := by lia
  have hx : items[(k + items.size).toNat]? = some items[(k + items.size).toNat] := Array.getElem?_eq_getElem hj
  generalize (k + items.size).toNat = j at *
  obtain ⟨i, rfl⟩ : ∃ j : Nat, k = Int.negSucc j := by
    cases k with
    | ofNat n => exact absurd h0 (Int.not_lt.mpr (Int.natCast_nonneg n))
    | negSucc n => exact ⟨n, rfl⟩
  show wpAny _ _ ((Builtin.List.listItems (.ref l) >>= fun xs => pure ((seqIndex? (Int.negSucc i) xs.size).bind fun i => xs[i]?.map (i, ·))) >>= _) _ _ s
  refine wpAny_bind (wpAny_bind ?_)
  show wpAny _ _ (seqItems? (.ref l) >>= _) _ _ s
  refine wpAny_bind (wpAny_seqItems ho hd (wpAny_pure (wpAny_pure ?_)))
  rw [hidx]
  simp only [Option.bind_some, hx, Option.map_some]
  show wpAny _ _ (setSeqItemAt l j v >>= _) _ _ s
  obtain ⟨n', hd'⟩ := Obj.data_mapSeq hd (·.setIfInBounds j v)
  have hfin : PlainL (s.heap.update l (Obj.mapSeq (·.setIfInBounds j v))) l (items.setIfInBounds j v) := by
    refine ⟨_, n', Heap.get?_update_self _ ho (Obj.isFreed_of_seq hd'), (Obj.cls_mapSeq ..).trans hc, ?_, hd'⟩
    obtain ⟨c, d, dt, sl⟩ := o
    subst hd
    exact hdi
  refine wpAny_bind (wpAny_setSeqItemAt ho hd ?_)
  first
    | exact wpAny_bind (wpAny_pure (wpAny_pure ⟨.none, rfl, wpAny_pure (hQ _ hfin (Heap.SameBut.update ..))⟩))
    | exact wpAny_pure ⟨.none, rfl, wpAny_pure (hQ _ hfin (Heap.SameBut.update ..))⟩
section
variable {C : Cx} {n : Nat} {Γ : Fx} {σ : St} {Q : Fl → St → Prop}
theorem X1.setNeg {o i e : Expr} {p pos : Pos} {k : Nat} {ds : List D} {j : Int} {d : D} (he : E C n Γ e σ d) (ho : E C n Γ o σ (.cell k)) (hi : E C n Γ i σ (.int j)) (hk : σ.cells[k]? = some (some ds)) (h0 : j < 0) (h1 : -(ds.length : Int) ≤ j) (hfit : -(2 ^ 63) ≤ j)
    (q : Q .next ⟨σ.loc, σ.glb, σ.cells.set k (some (ds.set (j + ds.length).toNat d))⟩) (hs : autoParam (swapsWith e (some (.Subscript o i p)) pos.line Γ.env = pure false) tacB) : X1 C n Γ (.Assign [.Subscript o i p] e pos) σ Q := by
  intro κ g s R
  refine wpAny_Assign_Subscript (thn (he κ g s R) ?_) hs
  rintro v s₁ ⟨g₁, l₁, R₁, hv⟩
  refine thn (ho κ g₁ s₁ R₁) ?_
  rintro ov s₂ ⟨g₂, l₂, R₂, hov⟩
  refine thn (hi κ g₂ s₂ R₂) ?_
  rintro _ s₃ ⟨g₃, l₃, R₃, t, rfl⟩
  have hov := hov.mono l₃.1 l₃.2.1
  have hv := hv.mono (l₂.1.trans l₃.1) (l₂.2.1.trans l₃.2.1)
  (refine elEA hov fun a ha z0 => ?_; clear hov; subst z0)
  obtain ⟨a', vs, q1, _, _, _, _, hl, hd, _⟩ := R₃.live k ds hk
  rw [ha] at q1; cases q1
  have hlen := hd.length
  refine setItem_neg hl h0 (by rw [List.size_toArray, hlen]; exact h1) hfit fun h' hl' hs' => ?_
  rw [List.size_toArray, hlen] at hl'
  have R₄ := R₃.setCell (k := k) (ws := vs.set (j + ds.length).toNat v) (es := ds.set (j + ds.length).toNat d) (h' := h') (t := s₃.toks) hk ha (Nat.le_refl _) (fun b o hb e => hs'.extBut b o hb e) (by simpa using hl') (hd.set _ hv)
  exact ⟨g₃, _, .next, (l₁.trans l₂).trans l₃, R₄, rfl, q⟩
end
noncomputable def pDraw1 (ls : List Ent) (m : Nat) : List Ent :=
  if m % 24 < 6 then ls ++ [(m % 24, [])]
  else
    let ls := if ls.isEmpty then [(0, [])] else ls
    if m % 24 = 6 then ls ++ [((ls.getLastD (0, [])).1, (ls.getLastD (0, [])).2.dropLast)]
    else if (ls.getLastD (0, [])).2.length < 4 then ls.set (ls.length - 1) ((ls.getLastD (0, [])).1, (ls.getLastD (0, [])).2 ++ [pSign m])
    else ls
noncomputable def pDrawn0 (ms : List Nat) : List Ent := ms.foldl pDraw1 []
noncomputable def pUniq (ls : List Ent) : List Ent := ((ls.zipIdx).filter fun p => !decide (p.1 ∈ ls.take p.2)).map (·.1)
noncomputable def pDrawn (ms : List Nat) : List Ent := pUniq (pDrawn0 ms)
theorem d12 : DefOk (sc 12) (stParams (st 12)) (bd 12) (stName (st 12)) ["numbers"] ["listing", "number", "figure", "kind", "name"] := DefOk.one rfl rfl rfl rfl (fun _ _ _ _ => rfl) (by decide +kernel) (by decide +kernel)
end
section
noncomputable def drawRest (ss : List Stmt) : List Stmt := (stElse (nthS (stBody (nthS ss 1)) 1)).drop 1
theorem pSign_lt (m : Nat) : pSign m < 1114112 := by
  unfold pSign
  split
  · have h16 : ∀ c ∈ signs16, c < 1114112 := by decide
    have : ∀ k : Nat, signs16.getD k 0 < 1114112 := fun k => by
      rw [List.getD_eq_getElem?_getD]
      cases h : signs16[k]? with
      | none => decide
      | some c => exact h16 c (List.mem_of_getElem? h)
    exact this _
  · have := Nat.mod_lt (m / 24) (show 0 < 1112064 by decide)
    split <;> lia
structure LInv (ls : List Ent) (b : Nat) : Prop where
  each : ∀ e ∈ ls, e.1 < 6 ∧ e.2.length ≤ 4 ∧ ∀ x ∈ e.2, x < 1114112
  len : ls.length ≤ b
noncomputable def ls0 (ls : List Ent) : List Ent := if ls.isEmpty then [(0, [])] else ls
theorem ls0_ne (ls : List Ent) : 0 < (ls0 ls).length := by unfold ls0; cases ls <;> exact Nat.succ_pos _
theorem ls0_inv {ls : List Ent} {b : Nat} (h : LInv ls b) : LInv (ls0 ls) (b + 1) := by
  unfold ls0
  cases ls with
  | nil => exact ⟨fun e he => by cases List.mem_singleton.mp he; exact ⟨by decide, by decide, fun x hx => by cases hx⟩, by exact Nat.succ_pos _⟩
  | cons e r => exact ⟨h.each, Nat.le_succ_of_le h.len⟩
theorem last_get {ls : List Ent} (h : 0 < ls.length) : ls[ls.length - 1]? = some (ls.getLastD (0, [])) := by
  rw [List.getLastD_eq_getLast?, List.getLast?_eq_getElem?, List.getElem?_eq_getElem (by exact Nat.sub_lt (by assumption) (by decide))]; rfl
theorem pDraw1_eq (ls : List Ent) (m : Nat) : pDraw1 ls m = if m % 24 < 6 then ls ++ [(m % 24, [])] else if m % 24 = 6 then ls0 ls ++ [(((ls0 ls).getLastD (0, [])).1, ((ls0 ls).getLastD (0, [])).2.dropLast)]
    else if ((ls0 ls).getLastD (0, [])).2.length < 4 then (ls0 ls).set ((ls0 ls).length - 1) (((ls0 ls).getLastD (0, [])).1, ((ls0 ls).getLastD (0, [])).2 ++ [pSign m]) else ls0 ls := rfl
theorem LInv.step {ls : List Ent} {b : Nat} (h : LInv ls b) (m : Nat) : LInv (pDraw1 ls m) (b + 2) := by
  have h0 := ls0_inv h
  have hl := h0.each _ (List.mem_of_getElem? (last_get (ls0_ne ls)))
  rw [pDraw1_eq]
  split
  · rename_i hm
    exact ⟨fun e he => by
      rcases List.mem_append.mp he with q | q
      · exact h.each e q
      · cases List.mem_singleton.mp q; exact ⟨hm, by simp, fun x hx => by cases hx⟩, by have := h.len; simp; exact Nat.le_succ_of_le (by assumption)⟩
  split
  · exact ⟨fun e he => by
      rcases List.mem_append.mp he with q | q
      · exact h0.each e q
      · cases List.mem_singleton.mp q
        exact ⟨hl.1, by show (List.dropLast _).length ≤ 4; rw [List.length_dropLast]; omega, fun x hx => hl.2.2 x ((List.dropLast_sublist _).subset hx)⟩, by have := h0.len; simp; omega⟩
  split
  · rename_i h4
    exact ⟨fun e he => by
      rcases List.mem_or_eq_of_mem_set he with q | rfl
      · exact h0.each e q
      · refine ⟨hl.1, by show (_ ++ [_]).length ≤ 4; rw [List.length_append, List.length_singleton]; trivial, fun x hx => ?_⟩
        rcases List.mem_append.mp hx with q | q
        · exact hl.2.2 x q
        · cases List.mem_singleton.mp q; exact pSign_lt m, by have := h0.len; simp; exact Nat.le_succ_of_le (by assumption)⟩
  · exact ⟨h0.each, by have := h0.len; exact Nat.le_succ_of_le (by assumption)⟩
theorem eEnt_inj {a b : Ent} (h : eEnt a = eEnt b) : a = b := by
  obtain ⟨a1, a2⟩ := a
  obtain ⟨b1, b2⟩ := b
  injection h with h
  injection h with h1 h2
  injection h2 with h2 _
  injection h1 with h1
  injection h2 with h2
  simp only at h1 h2
  have : a1 = b1 := by lia
  rw [this, h2]
theorem pl_ent {e : Ent} (h : ∀ x ∈ e.2, x < 1114112) : Pl 1 (eEnt e) := fun d hd => by
  simp only [List.mem_cons, List.not_mem_nil, or_false] at hd
  rcases hd with rfl | rfl
  · trivial
  · exact h
theorem outs_uniq (ls : List Ent) : outs (fun i d => (ls[i]?).bind fun e => if !decide (e ∈ ls.take i) then some (eEnt e) else none) ((ls.map eEnt).mapIdx fun i d => .tup [.int i, d]) = (pUniq ls).map eEnt := by
  unfold outs pUniq
  suffices H : ∀ (l : List Ent) (ds : List D) (k : Nat), ds.length = l.length → (∀ j, ls[k + j]? = l[j]?) → (ds.zipIdx k).filterMap (fun q => (ls[q.2]?).bind fun e => if !decide (e ∈ ls.take q.2) then some (eEnt e) else none) = (((l.zipIdx k).filter fun p => !decide (p.1 ∈ ls.take p.2)).map (·.1)).map eEnt from H ls _ 0 (by simp) (by simp)
  intro l
  induction l with
  | nil => intro ds k hd _; have := List.length_eq_zero_iff.mp hd; subst this; rfl
  | cons r l ih =>
    intro ds k hd hk
    match ds, hd with
    | d :: ds, hd =>
    have h0 := hk 0
    simp only [Nat.add_zero, List.getElem?_cons_zero] at h0
    have ih := ih ds (k + 1) (by exact Nat.add_right_cancel (by assumption)) (fun j => by have := hk (j + 1); simpa [Nat.add_comm, Nat.add_left_comm, Nat.add_assoc] using this)
    rw [List.zipIdx_cons, List.zipIdx_cons, List.filterMap_cons, List.filter_cons]
    simp only [h0, Option.bind_some]
    by_cases hm : r ∈ ls.take k
    · simp only [hm, decide_true, Bool.not_true, Bool.false_eq_true, if_false]; exact ih
    · simp only [hm, decide_false, Bool.not_false, if_true, List.map_cons]; rw [ih]
noncomputable abbrev S12 (ms : List Nat) (ls : List Ent) (u f k n : Option D) : St := ⟨[("numbers", some (.lst (ms.map eInt))), ("listing", some (.cell 0)), ("number", u), ("figure", f), ("kind", k), ("name", n)], [], [some (ls.map eEnt)]⟩
inductive I12 (ms : List Nat) (ls : List Ent) (b : Nat) (σ : St) : Prop
  | mk (u f k n : Option D) (hu : Op u) (hf : Op f) (hk : Op k) (hn : Op n) (e : σ = S12 ms ls u f k n) (hinv : LInv ls b) : I12 ms ls b σ
set_option maxHeartbeats 4000000 in
theorem drawn_spec {C : Cx} (G : Gl C) {ms : List Nat} (hb : ∀ m ∈ ms, m < 2 ^ 40) (hl : ms.length ≤ 20) : Spec C 2 (G.v 12) [.lst (ms.map eInt)] (.lst ((pDrawn ms).map eEnt)) := by
  have hsz : sizeLine = 2 ^ 24 := rfl
  refine Spec.of G.H (G.fn 12 (by decide)).2 d12 rfl ⟨noCells_map (f := eInt) (fun _ => trivial) _, trivial⟩ (noCells_map noCell_ent _) fun Γ F => ?_
  show X C 1 Γ (_ :: _ :: _ :: []) ⟨[("numbers", some (.lst (ms.map eInt))), ("listing", none), ("number", none), ("figure", none), ("kind", none), ("name", none)], [], []⟩ _
  refine X.cons (X1.newCell .nil (by decide) (by walk_at "upd") ?_)
  refine X.cons (X1.forH (Src.list (by walk_at "ev") (.inl fun _ _ => rfl)) (fun i => I12 ms ((ms.take i).foldl pDraw1 []) (2 * i)) ⟨_, _, _, _, .none, .none, .none, .none, rfl, ⟨fun e he => (by cases he), Nat.zero_le _⟩⟩ ?_ ?_)
  · rintro i d σ' hd ⟨u, f, k, n, _, hf, hk, hn, rfl, hinv⟩ K Q hK hQ
    clear hQ
    rw [List.getElem?_map] at hd
    cases hm : ms[i]? with
    | none => rw [hm] at hd; cases hd
    | some m =>
    rw [hm] at hd; cases hd
    have hi := (List.getElem?_eq_some_iff.mp hm).1
    have hstep : (ms.take (i + 1)).foldl pDraw1 [] = pDraw1 ((ms.take i).foldl pDraw1 []) m := by rw [List.take_add_one, hm, Option.toList_some, List.foldl_append]; rfl
    have hinv' := hinv.step m
    generalize (ms.take i).foldl pDraw1 [] = ls at hinv hinv' hstep
    rw [hstep] at hK
    refine ⟨S12 ms ls (some (.int m)) f k n, Asg.name (by walk_at "upd"), ?_⟩
    refine X.cons (X1.assign (d := .int (m % 24 : Nat)) (E.eq (by walk_at "ev"; decide) (congrArg D.int (show ((m : Int).fmod 24) = ((m % 24 : Nat) : Int) from fmod_nat m 24))) (by walk_at "upd") ?_)
    refine X.cons (X1.if (b := decide (m % 24 < 6)) (T.eq (by walk_at "ev") (by rw [Bool.eq_iff_iff]; simp; exact Int.ofNat_lt)) (fun h => ?_) fun h => ?_)
    · have h : m % 24 < 6 := by exact of_decide_eq_true (by assumption)
      refine X.cons (X1.append (k := 0) (d := eEnt (m % 24, [])) (by walk_at "ev") (E.eq (by walk_at "ev") (by rfl)) rfl (by rw [List.length_map]; have := hinv.len; lia) (X.nil (X.nil ?_)))
      refine hK _ ⟨some (.int m), some (.int (m % 24 : Nat)), k, n, .some trivial, .some trivial, hk, hn, ?_, hinv'⟩
      rw [pDraw1_eq, if_pos h]
      show St.mk _ _ _ = St.mk _ _ _
      congr 1
      show [some _] = [some _]
      rw [List.map_append]; rfl
    · have h : ¬ m % 24 < 6 := by exact of_decide_eq_false (by assumption)
      have l0 := ls0_ne ls
      have i0 := ls0_inv hinv
      have hlast := last_get l0
      have rest : X C 1 Γ (drawRest (bd 12)) (S12 ms (ls0 ls) (some (.int m)) (some (.int (m % 24 : Nat))) k n) (Then Γ C 1 [] (LoopQ K Q)) := by
        show X C 1 Γ (_ :: _ :: []) _ _
        have hcn : (((ls0 ls).map eEnt).length : Int) ≤ 1000 := by rw [List.length_map]; have := i0.len; lia
        have hpos : 0 < ((ls0 ls).map eEnt).length := by rw [List.length_map]; exact l0
        have hlE : ((ls0 ls).map eEnt)[((-1 : Int) + ((ls0 ls).map eEnt).length).toNat]? = some (eEnt ((ls0 ls).getLastD (0, []))) := by
          rw [List.length_map, show ((-1 : Int) + ((ls0 ls).length : Int)).toNat = (ls0 ls).length - 1 from negone _, List.getElem?_map, hlast]; rfl
        have hle := i0.each _ (List.mem_of_getElem? hlast)
        generalize hlst : (ls0 ls).getLastD (0, []) = le at hlE hle hlast
        have hde : pDraw1 ls m = if m % 24 = 6 then ls0 ls ++ [(le.1, le.2.dropLast)] else if le.2.length < 4 then (ls0 ls).set ((ls0 ls).length - 1) (le.1, le.2 ++ [pSign m]) else ls0 ls := by rw [pDraw1_eq, if_neg h, hlst]
        have h22 : le.2.length ≤ sizeLine := by lia
        refine X.cons (X1.assignT (d := .tup [.int le.1, .str le.2]) (E.sub (by walk_at "ev") (by walk_at "ev") (sub_lst_neg (.cell 0 ((ls0 ls).map eEnt) rfl) (by decide) (by lia) hlE (by lia))) (Asg.tuple (.cons (Asg.name (by walk_at "upd")) (.cons (Asg.name (by walk_at "upd")) .nil))) ?_)
        refine X.cons (X1.if (b := decide (m % 24 = 6)) (T.eq (by walk_at "ev") (by rw [Bool.eq_iff_iff]; simp; exact Int.ofNat_inj)) (fun h6 => ?_) fun h6 => ?_)
        · have h6 : m % 24 = 6 := by exact of_decide_eq_true (by assumption)
          refine X.cons (X1.append (k := 0) (d := eEnt (le.1, le.2.dropLast)) (by walk_at "ev") (E.eq (by walk_at "ev"; exact h22) (by rw [cut_butlast])) rfl (by lia) (X.nil (X.nil (X.nil ?_))))
          refine hK _ ⟨some (.int m), some (.int (m % 24 : Nat)), some (.int le.1), some (.str le.2), .some trivial, .some trivial, .some trivial, .some trivial, ?_, hinv'⟩
          rw [hde, if_pos h6]
          show St.mk _ _ _ = St.mk _ _ _
          congr 1
          show [some _] = [some _]
          rw [List.map_append]; rfl
        · have h6 : ¬ m % 24 = 6 := by exact of_decide_eq_false (by assumption)
          refine X.cons (X1.if (b := decide (le.2.length < 4)) (T.eq (T.cmp (E.callB (E.gb G (kind_of F rfl) boot_len) (by walk_at "ev") (len_s (fits63 h22))) (by walk_at "ev") lt_i) (by rw [Bool.eq_iff_iff]; simp; exact Int.ofNat_lt)) (fun h4 => ?_) fun h4 => X.nil (X.nil (X.nil (X.nil ?_))))
          · have h4 : le.2.length < 4 := by exact of_decide_eq_true (by assumption)
            refine X.cons (X1.setNeg (k := 0) (d := eEnt (le.1, le.2 ++ [pSign m])) (j := -1) (E.tuple (.cons (E.eq (by walk_at "ev") (by rfl)) (.cons (E.bin (by walk_at "ev") (E.callF G.H (E.gf G 11 (kind_of F rfl)) (by walk_at "ev") (sign_spec G (m := m) (by lia) (hb m (List.mem_of_getElem? hm))) (by exact Nat.le_refl _) ⟨trivial, trivial⟩ trivial) (add_s (by simp; exact Nat.lt_of_lt_of_le (by assumption) (by decide)))) .nil)) (by exact szLe (by with_unfolding_all rfl))) (by walk_at "ev") (by walk_at "ev") rfl (by decide) (by lia) (by exact Int.natCast_nonneg _) (X.nil (X.nil (X.nil (X.nil ?_)))))
            refine hK _ ⟨some (.int m), some (.int (m % 24 : Nat)), some (.int le.1), some (.str le.2), .some trivial, .some trivial, .some trivial, .some trivial, ?_, hinv'⟩
            rw [hde, if_neg h6, if_pos h4]
            show St.mk _ _ _ = St.mk _ _ _
            congr 1
            show [some _] = [some _]
            rw [List.map_set, List.length_map, show ((-1 : Int) + ((ls0 ls).length : Int)).toNat = (ls0 ls).length - 1 from negone _]
          · have h4 : ¬ le.2.length < 4 := by exact of_decide_eq_false (by assumption)
            exact hK _ ⟨some (.int m), some (.int (m % 24 : Nat)), some (.int le.1), some (.str le.2), .some trivial, .some trivial, .some trivial, .some trivial, by rw [hde, if_neg h6, if_neg h4], hinv'⟩
      refine X.cons (X1.if (b := ls.isEmpty) (T.eq (T.not (T.val (by walk_at "ev") (Tr.seq (.cell 0 (ls.map eEnt) rfl) (by rw [List.length_map]; have := hinv.len; lia)))) (by cases ls <;> rfl)) (fun he => ?_) fun he => X.nil ?_)
      · have he : ls = [] := by simpa using he
        subst he
        refine X.cons (X1.append (k := 0) (d := eEnt (0, [])) (by walk_at "ev") (E.eq (by walk_at "ev") (by rfl)) rfl (by decide) (X.nil ?_))
        exact rest
      · have e0 : ls0 ls = ls := by unfold ls0; rw [he]; rfl
        rw [e0] at rest
        exact rest
  · rintro σ' ⟨u, f, k, n, hu, hf, hk, hn, he, hinv⟩ Q hQ
    rw [List.length_map, List.take_length] at he hinv
    subst he
    refine hQ _ _ ?_
    clear hQ
    refine X.frz (k := 0) rfl (.cons (.keep (noCells_map (f := eInt) (fun _ => trivial) _)) (.cons .cell (.cons (.op hu) (.cons (.op hf) (.cons (.op hk) (.cons (.op hn) .nil)))))) (only_cell (noCells_map noCell_ent _)) ?_
    have hll : (pDrawn0 ms).length ≤ 1000 := by have := hinv.len; unfold pDrawn0; lia
    have hee : ∀ e ∈ pDrawn0 ms, ∀ x ∈ e.2, x < 1114112 := fun e he => (hinv.each e he).2.2
    show X C 1 Γ (_ :: []) ⟨[("numbers", some (.lst (ms.map eInt))), ("listing", some (.lst ((pDrawn0 ms).map eEnt))), ("number", u), ("figure", f), ("kind", k), ("name", n)], [], _⟩ _
    refine X.cons (X1.ret (d := .lst ((pDrawn ms).map eEnt)) ?_ rfl)
    rw [pDrawn]
    generalize pDrawn0 ms = ls at hll hee
    refine E.comp (locs := ["place", "entry"]) (gl := [("listing", .lst (ls.map eEnt))]) (ds := (ls.map eEnt).mapIdx fun i d => .tup [.int i, d]) (Src.enum (E.gb G (kind_of F rfl) boot_enumerate') (by walk_at "ev")) (CSt.of (gn := ["listing"]) F (by decide +kernel) (by decide) (fun q hq => ?_) (fun d hd => ?_) (noCells_map noCell_ent _)) ?_
    · cases List.mem_singleton.mp hq; exact ⟨noCells_map noCell_ent _, by walk_at "in"⟩
    · obtain ⟨i, hi, rfl⟩ := List.mem_mapIdx.mp hd
      rw [List.getElem_map]
      exact ⟨trivial, noCell_ent _, trivial⟩
    · rw [← outs_uniq ls]
      refine CRun.one (Bnd.two (fun d hd => ?_) fun d hd => ?_) _ (fun Γ' hin i d cells hd => ?_) (by rw [List.length_mapIdx, List.length_map]; exact Nat.le_trans (by assumption) (by decide))
      · obtain ⟨i, hi, rfl⟩ := List.mem_mapIdx.mp hd
        rw [List.getElem_map]
        exact ⟨trivial, noCell_ent _, trivial⟩
      · obtain ⟨i, hi, rfl⟩ := List.mem_mapIdx.mp hd
        exact ⟨_, _, rfl⟩
      · rw [List.getElem?_mapIdx, List.getElem?_map] at hd
        cases hm : ls[i]? with
        | none => rw [hm] at hd; cases hd
        | some e =>
        rw [hm] at hd; cases hd
        show ∃ b, Tests C 1 Γ' _ ⟨[("place", some (.int i)), ("entry", some (eEnt e))], [("listing", .lst (ls.map eEnt))], cells⟩ b ∧ _ ∧ _
        refine ⟨!decide (e ∈ ls.take i), Tests.one (T.cmp (by walk_at "ev") (E.eq (E.cut (by walk_at "ev") .none (.some (by walk_at "ev")) (Cut.lst (.lst _) (by rw [List.length_map]; exact Nat.le_trans (by assumption) (by decide)))) (show _ = D.lst ((ls.take i).map eEnt) by rw [cut_to rfl, List.map_take])) (notIn_lst (k := 1) (by decide) (fun d hd => ?_) (pl_ent (hee e (List.mem_of_getElem? hm))) ?_)), fun h => ⟨eEnt e, ?_, noCell_ent e, (show E C 1 Γ' _ ⟨[("place", some (.int i)), ("entry", some (eEnt e))], [("listing", .lst (ls.map eEnt))], cells⟩ _ by walk_at "ev")⟩, fun h => ?_⟩
        · (refine elEA (List.mem_map.mp hd) fun x hx z5 => ?_; subst z5)
          exact pl_ent (hee x (List.mem_of_mem_take hx))
        · rw [decide_eq_true_eq, List.mem_map]
          exact ⟨fun h => ⟨e, h, rfl⟩, fun ⟨x, hx, hxe⟩ => eEnt_inj hxe ▸ hx⟩
        · simp only [hm, Option.bind_some, h]; rfl
        · simp only [hm, Option.bind_some, h]; rfl
end
section
theorem pReadGo_cols (b : Txt) : ∀ (f a : Nat) (segs : List Seg), SegOk segs a → ∀ s ∈ pReadGo b f a segs, s.2.length ≤ max a (b.length + 6)
  | 0, a, segs, h, s, hs => Nat.le_trans (h.cols s hs) (Nat.le_max_left _ _)
  | f + 1, a, segs, h, s, hs => by
    unfold pReadGo at hs
    split at hs
    · rename_i hlt
      have ih := pReadGo_cols b f _ _ (h.on (pReadStep b a).1 (pReadStep_gt b a)) s hs
      have : (pReadStep b a).2 ≤ max (b.length + 6) (a + 6) := by
        have h1 := pOne_le b a
        have h2 := pSet_le b (a + 1)
        unfold pReadStep
        split; · simp; lia
        split; · simp; lia
        split; · simp; lia
        split; · simp; lia
        split; · simp; lia
        split
        · simp; lia
        · simp; lia
      lia
    · exact Nat.le_trans (h.cols s hs) (Nat.le_max_left _ _)
theorem pRead_cols (b : Txt) : ∀ s ∈ pRead b, s.2.length ≤ b.length + 6 := fun s hs => by
  have := pReadGo_cols b (b.length + 1) 0 [(.head, [])] ⟨by decide, by decide, fun s hs => by cases List.mem_singleton.mp hs; simp⟩ s hs
  trivial
theorem d29 : DefOk (sc 29) (stParams (st 29)) (bd 29) (stName (st 29)) ["row", "words"] ["segments"] := DefOk.two rfl rfl rfl rfl (fun _ _ _ _ _ => rfl) (by decide +kernel) (by decide +kernel)
theorem kept_spec {C : Cx} (G : Gl C) {r : Row} {ws : List Txt} {b : Txt} (hr : RowOk r) (hT : Spec C 6 (G.v 3) [.str (pPattern r)] (.str (pre4 ++ (b ++ suf3)))) (hb : b.length + 16 ≤ sizeLine) (hw : ∀ w ∈ ws, w.length ≤ sizeLine) (hws : ws.length ≤ sizeLine) :
    Spec C 7 (G.v 29) [eRow r, .lst (ws.map .str)] (.lst ((ws.filter fun w => pKeeps (pRead b) w 0).map .str)) := by
  refine Spec.of G.H (G.fn 29 (by decide)).2 d29 rfl ⟨noCell_row r, noCells_str _, trivial⟩ (noCells_str _) fun Γ F => ?_
  show X C 6 Γ (_ :: _ :: []) ⟨[("row", some (eRow r)), ("words", some (.lst (ws.map .str))), ("segments", none)], [], []⟩ _
  refine X.cons (X1.assign (E.callF G.H (E.gf G 25 (kind_of F rfl)) (.cons (E.callF G.H (E.gf G 3 (kind_of F rfl)) (.cons (E.callF G.H (E.gf G 16 (kind_of F rfl)) (by walk_at "ev") (pattern_spec G hr) (by exact Nat.le_add_left _ _) ⟨noCell_row r, trivial⟩ trivial) .nil) hT (by exact Nat.le_refl _) ⟨trivial, trivial⟩ trivial) .nil) (read_spec G hb) (by exact Nat.le_add_left _ _) ⟨trivial, trivial⟩ (noCells_map noCell_seg _)) (by walk_at "upd") ?_)
  refine X.cons (X1.ret (d := .lst ((ws.filter fun w => pKeeps (pRead b) w 0).map .str)) ?_ rfl)
  rw [← outs_filter D.str (fun w => pKeeps (pRead b) w 0) ws]
  refine E.comp (locs := ["word"]) (gl := [("segments", .lst ((pRead b).map eSeg))]) (Src.list (by walk_at "ev") (.inl fun _ _ => rfl)) (CSt.of (gn := ["segments"]) F (by decide +kernel) (by decide) (fun p hp => ?_) (fun d hd => ?_) ?_) (CRun.one (Bnd.name fun d hd => ?_) _ ?_ (by rw [List.length_map]; exact hws))
  · cases List.mem_singleton.mp hp; exact ⟨noCells_map noCell_seg _, by walk_at "in"⟩
  · (refine elEA (List.mem_map.mp hd) fun a _ z0 => ?_; subst z0); trivial
  · rw [outs_filter]; exact noCells_str _
  · (refine elEA (List.mem_map.mp hd) fun a _ z1 => ?_; subst z1); trivial
  · intro Γ' hin i d cells hd
    rw [List.getElem?_map] at hd
    cases hm : ws[i]? with
    | none => rw [hm] at hd; cases hd
    | some w =>
    rw [hm] at hd; cases hd
    refine ⟨pKeeps (pRead b) w 0, Tests.one (T.val (E.callF G.H (E.gf G 28 (hin.kind _ _ rfl (by decide))) (by walk_at "ev") (keeps_spec G (segs := pRead b) (fun s hs => Nat.le_trans (pRead_cols b s hs) (by lia)) (hw w (List.mem_of_getElem? hm))) (by exact Nat.le_add_left _ _) ⟨noCells_map noCell_seg _, trivial, trivial⟩ trivial) Tr.bool), fun h => ⟨.str w, ?_, trivial, by walk_at "ev"⟩, fun h => ?_⟩
    · simp [hm, h]
    · simp [hm, h]
end
section
theorem Tr.eqv {C : Cx} {n : Nat} {Γ : Fx} {σ : St} {d : D} {b c : Bool} (h : Tr C n Γ σ d b) (e : b = c) : Tr C n Γ σ d c := e ▸ h
noncomputable def pNum (n : Int) : Nat := (n.fmod 100000000).toNat
noncomputable def pNumbers (ns : List Int) : List Nat := if ns.take 10 = [] then [3, 15, 6, 16, 6, 9, 5, 20, 13, 7] else (ns.take 10).map pNum
theorem pNum_lt (n : Int) : ((pNum n : Nat) : Int) = n.fmod 100000000 ∧ pNum n < 2 ^ 40 := by
  have e : n.fmod 100000000 = n % 100000000 := Int.fmod_eq_emod_of_nonneg _ (by exact Int.natCast_nonneg _)
  have h1 : 0 ≤ n.fmod 100000000 := by rw [e]; lia
  have h2 : n.fmod 100000000 < 100000000 := by rw [e]; lia
  unfold pNum; lia
theorem pNumbers_lt (ns : List Int) : (∀ m ∈ pNumbers ns, m < 2 ^ 40) ∧ (pNumbers ns).length ≤ 10 := by
  unfold pNumbers
  split
  · exact ⟨by decide, by decide⟩
  · refine ⟨fun m hm => ?_, by simp; lia⟩
    (refine elEA (List.mem_map.mp hm) fun n _ z0 => ?_; subst z0)
    exact (pNum_lt n).2
noncomputable def prevRow (rows : List Row) (k : Nat) : Row := if k = 0 then rows.getLastD (0, [], []) else rows.getD (k - 1) (0, [], [])
theorem outs_enum (rows : List Row) (g : Nat → Row → D) (ds : List D) (hd : ds.length = rows.length) : outs (fun i d => (rows[i]?).map (g i)) ds = rows.mapIdx g := by
  unfold outs
  suffices H : ∀ (l : List Row) (ds : List D) (k : Nat), ds.length = l.length → (∀ j, rows[k + j]? = l[j]?) → (ds.zipIdx k).filterMap (fun q => (rows[q.2]?).map (g q.2)) = l.mapIdx fun j r => g (k + j) r by
    have := H rows ds 0 hd (by simp)
    simpa using this
  intro l
  induction l with
  | nil => intro ds k hd _; have := List.length_eq_zero_iff.mp hd; subst this; rfl
  | cons r l ih =>
    intro ds k hd hj
    cases ds with
    | nil => trivial
    | cons d ds =>
      have h0 := hj 0
      simp only [Nat.add_zero, List.getElem?_cons_zero] at h0
      rw [List.zipIdx_cons, List.filterMap_cons]
      simp only [h0, Option.map_some]
      rw [ih ds (k + 1) (by exact Nat.add_right_cancel (by assumption)) (fun j => by have := hj (j + 1); rw [Nat.add_assoc, Nat.add_comm 1 j]; simpa using this)]
      rw [List.mapIdx_cons]
      simp only [Nat.add_zero]
      congr 1
      congr 1
      funext j r
      congr 1
      exact Nat.succ_add _ _
theorem d34 : DefOk (sc 34) (stParams (st 34)) (bd 34) (stName (st 34)) ["script"] ["numbers", "listing", "rows", "words"] := DefOk.one rfl rfl rfl rfl (fun _ _ _ _ => rfl) (by decide +kernel) (by decide +kernel)
noncomputable abbrev eTs (l : List Txt) : D := .lst (l.map .str)
theorem noCell_ts (l : List Txt) : NoCell (eTs l) := noCells_str l
theorem p108 : (10 : Int) ^ (8 : Int).toNat = 100000000 := by decide
set_option maxHeartbeats 4000000 in
theorem law_spec {C : Cx} (G : Gl C) {ns : List Int} (hns : ns.length ≤ 63) {ls : List Ent} {rows : List Row} {ws : List Txt} (hls : pDrawn (pNumbers ns) = ls) (hrows : pFolded ls = rows) (hws : pWords ls = ws)
    (hEnt : (∀ e ∈ ls, EntOk e ∧ e.2.length ≤ 2 ^ 20) ∧ ls.length ≤ 30) (hrl : rows.length ≤ 30)
    (hK : ∀ r ∈ rows, Spec C 7 (G.v 29) [eRow r, eTs ws] (eTs (ws.filter (pOneOf r)))) (hT : ∀ r ∈ rows, Spec C 3 (G.v 30) [eRow r, eTs ws] (eTs (ws.filter (pOneOf r))))
    (hK2 : ∀ k r, rows[k]? = some r → Spec C 7 (G.v 31) [eRow r, eRow (prevRow rows k)] (eTs (pTwoTold r (prevRow rows k)))) (hT2 : ∀ k r, rows[k]? = some r → Spec C 4 (G.v 33) [eRow r, eRow (prevRow rows k)] (eTs (pTwoTold r (prevRow rows k))))
    (hP1 : ∀ r ∈ rows, Pl 1 (eTs (ws.filter (pOneOf r)))) (hP2 : ∀ k r, rows[k]? = some r → Pl 1 (eTs (pTwoTold r (prevRow rows k)))) : Spec1 C 8 (G.v 34) [.lst (ns.map .int)] (.bool true) := by
  have hsz : sizeLine = 2 ^ 24 := rfl
  obtain ⟨hn1, hn2⟩ := pNumbers_lt ns
  refine Spec1.of ⟨_, _, rfl, rfl⟩ G.H (G.fn 34 (by decide)).2 d34 rfl ⟨noCells_map (f := D.int) (fun _ => trivial) ns, trivial⟩ trivial fun Γ F => ?_
  show X C 7 Γ (_ :: _ :: _ :: _ :: _ :: []) ⟨[("script", some (.lst (ns.map .int))), ("numbers", none), ("listing", none), ("rows", none), ("words", none)], [], []⟩ _
  have c10 : cut (ns.map D.int) none (some 10) = (ns.take 10).map D.int := (cut_to (hi := 10) (j := 10) rfl).trans (by rw [List.map_take])
  have hcomp : ∀ {elt : Expr} {p1 : Pos} {it : Expr} {sco : Scope} {pos : Pos}, True := trivial
  refine X.cons (X1.assign (d := .lst ((pNumbers ns).map eInt)) (E.or (d := .lst (((ns.take 10).map pNum).map eInt)) (p := !((ns.take 10).map pNum).isEmpty) ?_ ?_ (fun h => ?_) fun h => ?_) (by walk_at "upd") ?_)
  · have e : ((ns.take 10).map pNum).map eInt = (ns.take 10).map fun n => eInt (pNum n) := by rw [List.map_map]; rfl
    rw [e, ← outs_map D.int (fun n => eInt (pNum n)) (ns.take 10)]
    refine E.comp (locs := ["number"]) (gl := []) (Src.list (E.eq (E.cut (by walk_at "ev") .none (.some (by walk_at "ev")) (Cut.lst (.lst _) (by rw [List.length_map]; exact Nat.le_trans (by assumption) (by decide)))) (by rw [c10])) (.inl fun _ _ => rfl)) (CSt.of (gn := []) F (by decide +kernel) (by decide) (fun p hp => by cases hp) (fun d hd => ?_) ?_) (CRun.one (Bnd.name fun d hd => ?_) _ (fun Γ' hin i d cells hd => ?_) (by simp; lia))
    · (refine elEA (List.mem_map.mp hd) fun a _ z1 => ?_; subst z1); trivial
    · rw [outs_map]; exact noCells_map (f := fun n => eInt (pNum n)) (fun _ => trivial) _
    · (refine elEA (List.mem_map.mp hd) fun a _ z2 => ?_; subst z2); trivial
    · rw [List.getElem?_map] at hd
      cases hm : (ns.take 10)[i]? with
      | none => rw [hm] at hd; cases hd
      | some n =>
      rw [hm] at hd; cases hd
      refine ⟨true, Tests.nil, fun _ => ⟨eInt (pNum n), by first | rfl | (rw [hm]; rfl), trivial, E.eq (E.bin (by walk_at "ev") (E.eq (E.bin (by walk_at "ev") (by walk_at "ev") (pow_i (by decide) (by decide))) (by exact congrArg D.int p108)) (mod_i (by decide))) ?_⟩, fun h => by cases h⟩
      exact congrArg D.int (pNum_lt n).1.symm
  · refine Tr.eqv (Tr.seq (.lst _) (by simp; lia)) (by cases ns.take 10 <;> rfl)
  · have h : ns.take 10 ≠ [] := by
      intro z; rw [z] at h; cases h
    rw [pNumbers, if_neg h]
  · have h : ns.take 10 = [] := by simpa using h
    rw [pNumbers, if_pos h]
    exact E.bool1 (E.eq (b := .lst [.int 3, .int 15, .int 6, .int 16, .int 6, .int 9, .int 5, .int 20, .int 13, .int 7]) (E.list (.cons E.int (.cons E.int (.cons E.int (.cons E.int (.cons E.int (.cons E.int (.cons E.int (.cons E.int (.cons E.int (.cons E.int .nil)))))))))) (szLe rfl)) (by rfl))
  refine X.cons (X1.assign (E.callF G.H (E.gf G 12 (kind_of F rfl)) (by walk_at "ev") (drawn_spec G hn1 (by exact Nat.le_trans (by assumption) (Nat.le_add_left _ _))) (by exact Nat.le_add_left _ _) ⟨noCells_map (f := eInt) (fun _ => trivial) _, trivial⟩ (noCells_map noCell_ent _)) (by walk_at "upd") ?_)
  rw [hls]
  refine X.cons (X1.assign (E.callF G.H (E.gf G 14 (kind_of F rfl)) (by walk_at "ev") (folded_spec G (fun e he => (hEnt.1 e he).1) hEnt.2) (by exact Nat.le_add_left _ _) ⟨noCells_map noCell_ent _, trivial⟩ (noCells_map noCell_row _)) (by walk_at "upd") ?_)
  refine X.cons (X1.assign (E.callF G.H (E.gf G 21 (kind_of F rfl)) (by walk_at "ev") (words_spec G (fun e he => (hEnt.1 e he).2) (by lia)) (by exact Nat.le_add_left _ _) ⟨noCells_map noCell_ent _, trivial⟩ (noCells_str _)) (by walk_at "upd") ?_)
  rw [hrows, hws]
  have hrm : (rows.map eRow).length = rows.length := List.length_map ..
  have hprev : ∀ {σ : St} {k : Nat} {r : Row} {n : Nat} {Γ' : Fx} {q1 q2 q3 q4 q5 : Pos} {kk : Nat}, rows[k]? = some r → E C n Γ' (.Name "rows" q1) σ (.lst (rows.map eRow)) → E C n Γ' (.Name "place" q2) σ (.int k) → E C n Γ' (.Subscript (.Name "rows" q1) (.BinOp (.Name "place" q2) .Sub (.Constant (.int 1) kk q3) q4) q5) σ (eRow (prevRow rows k)) := by
    intro σ k r n Γ' q1 q2 q3 q4 q5 kk hr he hp
    have hlt := (List.getElem?_eq_some_iff.mp hr).1
    by_cases h0 : k = 0
    · subst h0
      refine E.sub he (E.bin hp E.int sub_i) (sub_lst_neg (.lst _) (by decide) (by rw [hrm]; lia) ?_ (by lia))
      rw [hrm, show ((((0 : Nat) : Int) - 1) + (rows.length : Nat)).toNat = rows.length - 1 from negone _, List.getElem?_map, prevRow, if_pos rfl, List.getLastD_eq_getLast?, List.getLast?_eq_getElem?, List.getElem?_eq_getElem (by exact Nat.sub_lt (by assumption) (by decide))]; rfl
    · refine E.sub he (E.bin hp E.int sub_i) (sub_lst (.lst _) (by lia) ?_ (by lia))
      rw [show ((k : Int) - 1).toNat = k - 1 by simp, List.getElem?_map, prevRow, if_neg h0, List.getD_eq_getElem?_getD, List.getElem?_eq_getElem (by exact Nat.lt_of_le_of_lt (Nat.sub_le _ _) (by assumption))]; rfl
  have hR1 : ∀ d ∈ rows.map eRow, NoCell d := fun d hd => by (refine elEA (List.mem_map.mp hd) fun a _ z3 => ?_; subst z3); exact noCell_row a
  have hR2 : ∀ d ∈ (rows.map eRow).mapIdx fun i d => D.tup [.int i, d], NoCell d := fun d hd => by
    obtain ⟨i, hi, rfl⟩ := List.mem_mapIdx.mp hd
    rw [List.getElem_map]
    exact ⟨trivial, noCell_row _, trivial⟩
  have hR3 : ∀ d ∈ (rows.map eRow).mapIdx fun i d => D.tup [.int i, d], ∃ a b, d = .tup [a, b] := fun d hd => by
    obtain ⟨i, hi, rfl⟩ := List.mem_mapIdx.mp hd
    exact ⟨_, _, rfl⟩
  have hml : ((rows.map eRow).mapIdx fun i d => D.tup [.int i, d]).length = rows.length := by rw [List.length_mapIdx, hrm]
  have hN1 : NoCells (rows.map fun r => eTs (ws.filter (pOneOf r))) := noCells_map (f := fun r : Row => eTs (ws.filter (pOneOf r))) (fun r => noCell_ts _) rows
  have hN2 : NoCells (rows.mapIdx fun k r => eTs (pTwoTold r (prevRow rows k))) := noCells_iff.mpr fun d hd => by
    obtain ⟨i, hi, rfl⟩ := List.mem_mapIdx.mp hd
    exact noCell_ts _
  have hP3 : Pl 2 (.lst (rows.map fun r => eTs (ws.filter (pOneOf r)))) := fun d hd => by (refine elEA (List.mem_map.mp hd) fun r hr z4 => ?_; subst z4); exact hP1 r hr
  have hP4 : Pl 2 (.lst (rows.mapIdx fun k r => eTs (pTwoTold r (prevRow rows k)))) := fun d hd => by
    obtain ⟨i, hi, rfl⟩ := List.mem_mapIdx.mp hd
    exact hP2 i _ (List.getElem?_eq_getElem hi)
  refine X.cons (X1.ret (E.eq (E.and (p := true) (q := true) (E.cmp ?_ ?_ (eq_pl (k := 2) (by decide) hP3 hP3 (by simp))) fun _ => E.bool1 (E.cmp ?_ ?_ (eq_pl (k := 2) (by decide) hP4 hP4 (by simp)))) rfl) rfl)
  · rw [← outs_map eRow (fun r => eTs (ws.filter (pOneOf r))) rows]
    refine E.comp (locs := ["row"]) (gl := [("words", eTs ws)]) (Src.list (E.loc (by walk_at "in")) (.inl fun _ _ => rfl)) (CSt.of (gn := ["words"]) F (by decide +kernel) (by decide) (fun p hp => ?_) hR1 ?_) (CRun.one (Bnd.name hR1) _ (fun Γ' hin i d cells hd => ?_) (by rw [hrm]; exact Nat.le_trans (by assumption) (by decide)))
    · cases List.mem_singleton.mp hp; exact ⟨noCell_ts _, by walk_at "in"⟩
    · rw [outs_map]; exact hN1
    · rw [List.getElem?_map] at hd
      cases hm : rows[i]? with
      | none => rw [hm] at hd; cases hd
      | some r =>
      rw [hm] at hd; cases hd
      exact ⟨true, Tests.nil, fun _ => ⟨_, (by first | rfl | (rw [hm]; rfl)), noCell_ts _, E.callF G.H (E.gf G 29 (hin.kind _ _ rfl (by decide))) (.cons (E.loc (by walk_at "in")) (.cons (E.ro G.H (by walk_at "in")) .nil)) (hK r (List.mem_of_getElem? hm)) (by exact Nat.le_refl _) ⟨noCell_row r, noCell_ts _, trivial⟩ (noCell_ts _)⟩, fun h => by cases h⟩
  · rw [← outs_map eRow (fun r => eTs (ws.filter (pOneOf r))) rows]
    refine E.comp (locs := ["row"]) (gl := [("words", eTs ws)]) (Src.list (E.loc (by walk_at "in")) (.inl fun _ _ => rfl)) (CSt.of (gn := ["words"]) F (by decide +kernel) (by decide) (fun p hp => ?_) hR1 ?_) (CRun.one (Bnd.name hR1) _ (fun Γ' hin i d cells hd => ?_) (by rw [hrm]; exact Nat.le_trans (by assumption) (by decide)))
    · cases List.mem_singleton.mp hp; exact ⟨noCell_ts _, by walk_at "in"⟩
    · rw [outs_map]; exact hN1
    · rw [List.getElem?_map] at hd
      cases hm : rows[i]? with
      | none => rw [hm] at hd; cases hd
      | some r =>
      rw [hm] at hd; cases hd
      exact ⟨true, Tests.nil, fun _ => ⟨_, (by first | rfl | (rw [hm]; rfl)), noCell_ts _, E.callF G.H (E.gf G 30 (hin.kind _ _ rfl (by decide))) (.cons (E.loc (by walk_at "in")) (.cons (E.ro G.H (by walk_at "in")) .nil)) (hT r (List.mem_of_getElem? hm)) (by exact Nat.le_add_left _ _) ⟨noCell_row r, noCell_ts _, trivial⟩ (noCell_ts _)⟩, fun h => by cases h⟩
  · rw [← outs_enum rows (fun k r => eTs (pTwoTold r (prevRow rows k))) _ hml]
    refine E.comp (locs := ["place", "row"]) (gl := [("rows", .lst (rows.map eRow))]) (ds := (rows.map eRow).mapIdx fun i d => .tup [.int i, d]) (Src.enum (E.gb G (kind_of F rfl) boot_enumerate') (.cons (E.loc (by walk_at "in")) .nil)) (CSt.of (gn := ["rows"]) F (by decide +kernel) (by decide) (fun p hp => ?_) hR2 ?_) (CRun.one (Bnd.two hR2 hR3) _ (fun Γ' hin i d cells hd => ?_) (by rw [hml]; exact Nat.le_trans (by assumption) (by decide)))
    · cases List.mem_singleton.mp hp; exact ⟨noCells_map noCell_row _, by walk_at "in"⟩
    · rw [outs_enum _ _ _ hml]; exact hN2
    · rw [List.getElem?_mapIdx, List.getElem?_map] at hd
      cases hm : rows[i]? with
      | none => rw [hm] at hd; cases hd
      | some r =>
      rw [hm] at hd; cases hd
      show ∃ b, Tests C 7 Γ' _ ⟨[("place", some (.int i)), ("row", some (eRow r))], [("rows", .lst (rows.map eRow))], cells⟩ b ∧ _ ∧ _
      refine ⟨true, Tests.nil, fun _ => ⟨_, (by first | rfl | (rw [hm]; rfl)), noCell_ts _, ?_⟩, fun h => by cases h⟩
      show E C 7 Γ' _ ⟨[("place", some (.int i)), ("row", some (eRow r))], [("rows", .lst (rows.map eRow))], cells⟩ _
      exact E.callF G.H (E.gf G 31 (hin.kind _ _ rfl (by decide))) (.cons (E.loc (by walk_at "in")) (.cons (hprev hm (E.ro G.H (by walk_at "in")) (E.loc (by walk_at "in"))) .nil)) (hK2 i r hm) (by exact Nat.le_refl _) ⟨noCell_row r, noCell_row _, trivial⟩ (noCell_ts _)
  · rw [← outs_enum rows (fun k r => eTs (pTwoTold r (prevRow rows k))) _ hml]
    refine E.comp (locs := ["place", "row"]) (gl := [("rows", .lst (rows.map eRow))]) (ds := (rows.map eRow).mapIdx fun i d => .tup [.int i, d]) (Src.enum (E.gb G (kind_of F rfl) boot_enumerate') (.cons (E.loc (by walk_at "in")) .nil)) (CSt.of (gn := ["rows"]) F (by decide +kernel) (by decide) (fun p hp => ?_) hR2 ?_) (CRun.one (Bnd.two hR2 hR3) _ (fun Γ' hin i d cells hd => ?_) (by rw [hml]; exact Nat.le_trans (by assumption) (by decide)))
    · cases List.mem_singleton.mp hp; exact ⟨noCells_map noCell_row _, by walk_at "in"⟩
    · rw [outs_enum _ _ _ hml]; exact hN2
    · rw [List.getElem?_mapIdx, List.getElem?_map] at hd
      cases hm : rows[i]? with
      | none => rw [hm] at hd; cases hd
      | some r =>
      rw [hm] at hd; cases hd
      show ∃ b, Tests C 7 Γ' _ ⟨[("place", some (.int i)), ("row", some (eRow r))], [("rows", .lst (rows.map eRow))], cells⟩ b ∧ _ ∧ _
      refine ⟨true, Tests.nil, fun _ => ⟨_, (by first | rfl | (rw [hm]; rfl)), noCell_ts _, ?_⟩, fun h => by cases h⟩
      show E C 7 Γ' _ ⟨[("place", some (.int i)), ("row", some (eRow r))], [("rows", .lst (rows.map eRow))], cells⟩ _
      exact E.callF G.H (E.gf G 33 (hin.kind _ _ rfl (by decide))) (.cons (E.loc (by walk_at "in")) (.cons (hprev hm (E.ro G.H (by walk_at "in")) (E.loc (by walk_at "in"))) .nil)) (hT2 i r hm) (by exact Nat.le_add_left _ _) ⟨noCell_row r, noCell_row _, trivial⟩ (noCell_ts _)
end
section
theorem lookup_object_new : typeLookup (.type "object") "__new__" = pure (some (.builtin "object.__new__")) := by rw [typeLookup_type, builtinLookup_eq_fast]; kernel_rfl
theorem mro_object : mroOf (.type "object") = pure [.type "object"] := by rw [mroOf_type]; kernel_rfl
theorem entry_object_new : entryFor table "object.__new__" = some Builtin.«object.__new__» := entryFor_of_tree (by kernel_rfl)
theorem typeCall_object_0 : checkTypeCall "object" ⟨[], []⟩ = pure () := by kernel_rfl
theorem newCall_object_0 : checkBuiltinCall "object.__new__" ⟨[.type "object"], []⟩ = pure () := by kernel_rfl
theorem args_object_init_1 (obj : Value) : argsOk "object.__init__" ⟨[obj], []⟩ := by unfold argsOk; kernel_rfl
theorem slot_object_init : Slot "object" "__init__" "object.__init__" :=
  .of (owner := "object") (n := "__init__") (by rw [typeLookup_type, builtinLookup_eq_fast]; kernel_rfl) (by decide +kernel) (by decide +kernel) (by decide +kernel)
    (by first | exact .inl (by decide +kernel) | exact .inr (by decide +kernel)) (by rw [isSubtype_type]; kernel_rfl)
theorem called_object : TypeCalled "object" "object.__new__" "object.__init__" :=
  ⟨by decide +kernel, by decide +kernel, ⟨_, _, mro_object⟩, madeBy_type mro_object lookup_object_new (by decide +kernel), by decide +kernel, by rw [isSubtype_type]; kernel_rfl, slot_object_init⟩
theorem madeHere_object : Bind.madeHere "object.__new__" (.type "object") = pure () := by
  unfold Bind.madeHere
  have e : Bind.staticBase (.type "object") = pure (.type "object") := by first | rfl | kernel_rfl
  rw [e]
  simp only [pure_bind, called_object.made]
  first | rfl | kernel_rfl | (simp; rfl)
noncomputable def objO : Obj := { cls := .type "object", data := .plain }
theorem meets_object_new : Meets (Builtin.«object.__new__» ⟨[.type "object"], []⟩) (fun _ R s => R (.ok (.ret (.ref s.heap.objs.size))) { s with heap := s.heap.push objO }) :=
  .of_wp fun prog w A R s h => by
    have hmh := madeHere_object
    have h1 : typeHasDict (.type "object") = false := by decide +kernel
    have h2 : diesByItsTypesDel "object" = false := by decide +kernel
    have h3 : ((Manifest.find? "object").elim false (fun m => m.mro.any fun t => (Manifest.find? t).elim false (·.noNew))) = false := by decide +kernel
    have h4 : isType (.type "object") = pure true := by rfl
    unfold Builtin.«object.__new__»
    simp only [h4, hmh, h1, h2, h3, pure_bind, List.isEmpty_nil, Bool.not_true, Bool.false_eq_true, if_false, Bool.or_false]
    refine wpAny_bind ?_
    show wpAny _ _ (newObj (.type "object") .plain none) _ _ _
    refine wpAny_bind (wpAny_alloc ?_)
    exact wpAny_pure (wpAny_pure ⟨_, rfl, h⟩)
theorem call_object {prog : Program} {w : World} {A : Around} {E : Value → Shared → Prop} {s : Shared} {Q : Value → Shared → Prop} (h : Q (.ref s.heap.objs.size) { s with heap := s.heap.push objO }) : wpAny (model prog w) A (call (.type "object") []) Q E s := by
  refine callType_meets (Q₁ := fun obj s₁ => obj = .ref s.heap.objs.size ∧ s₁ = { s with heap := s.heap.push objO }) called_object typeCall_object_0 newCall_object_0 entry_object_new F.entry_object_init meets_object_new ⟨rfl, rfl⟩ ?_
  rintro obj s₁ ⟨rfl, rfl⟩
  refine ⟨⟨_, Heap.get?_push_size _ rfl, rfl⟩, args_object_init_1 _, _, Meets.of_wp (S := fun _ R s => R (.ok (.ret .none)) s) (fun prog w A R s hs => ?_), ⟨rfl, h⟩⟩
  exact wpAny_pure ⟨_, rfl, hs⟩
end
section
theorem slot_md_get : Slot "method_descriptor" "__get__" "method_descriptor.__get__" :=
  .of (owner := "method_descriptor") (n := "__get__") (by rw [typeLookup_type, builtinLookup_eq_fast]; kernel_rfl) (by decide +kernel) (by decide +kernel) (by decide +kernel)
    (by first | exact .inl (by decide +kernel) | exact .inr (by decide +kernel)) (by rw [isSubtype_type]; kernel_rfl)
theorem md_set_none : typeLookup (.type "method_descriptor") "__set__" = pure none := by rw [typeLookup_type, builtinLookup_eq_fast]; kernel_rfl
theorem md_delete_none : typeLookup (.type "method_descriptor") "__delete__" = pure none := by rw [typeLookup_type, builtinLookup_eq_fast]; kernel_rfl
theorem entry_md_get : entryFor table "method_descriptor.__get__" = some Builtin.«method_descriptor.__get__» := entryFor_of_tree (by kernel_rfl)
theorem args_md_get (a b c : Value) : argsOk "method_descriptor.__get__" ⟨[a, b, c], []⟩ := by unfold argsOk; kernel_rfl
theorem typeOf_list_append : typeOf (.builtin "list.append") = pure (.type "method_descriptor") := F.type_list_append
theorem told_append : Manifest.toldItsClass.contains "list.append" = false := by decide +kernel
theorem cut_list_append : "list.append".cutAt '.' = ["list", "append"] := by decide +kernel
section
variable {prog : Program} {w : World} {A : Around} {E : Value → Shared → Prop} {h : Heap} {g : Array GenState} {d : Drawn} {t : Nat} {os : OsState} {a : Addr} {o : Obj}
noncomputable def boundO (a : Addr) : Obj := { cls := .type "builtin_function_or_method", data := .fields #[.builtin "list.append", .ref a] }
theorem append_get {R : Result → Shared → Prop} (hx : h.get? a = some o) (hc : o.cls = .type "list") (hq : R (.ok (.ret (.ref h.objs.size))) ⟨h.push (boundO a), g, d, t, os⟩) :
    codeAny (model prog w) A (.call (.builtin "method_descriptor.__get__") ⟨[.builtin "list.append", .ref a, .type "list"], []⟩) R ⟨h, g, d, t, os⟩ := by
  have hT : (⟨h, g, d, t, os⟩ : Shared).TypeIs (.ref a) "list" := ⟨_, hx, hc⟩
  have hT5 : (⟨h, g, d, t, os⟩ : Shared).TypeIs (.builtin "list.append") "method_descriptor" := typeOf_list_append
  have e1 := told_append
  have e2 := cut_list_append
  refine codeAny_call_builtin slot_md_get.plain entry_md_get (slot_md_get.check _ _ _ _ _ _ _ _ hT5 (args_md_get _ _ _) ?_)
  unfold Builtin.«method_descriptor.__get__»
  have hself : isSubtype (.type "list") (.type "list") = pure true := by rw [isSubtype_type]; kernel_rfl
  iterate 14 (any_goals (first | assumption | wp_step))
  refine wpAny_of_eq (a := (Str.ofString "append", .type "list")) (by kernel_rfl) ?_
  refine wpAny_bind (wpAny_isInstance hT hself ?_)
  refine wpAny_pure (wpAny_bind ?_)
  show wpAny _ _ (newFields "builtin_function_or_method" [Value.builtin "list.append", Value.ref a]) _ _ _
  refine wpAny_newObj_type (wpAny_pure hq) ?_
  show 2 ≤ sizeLine + 2
  exact Nat.le_add_left _ _
theorem lk_list_append : typeLookup (.type "list") "append" = pure (some (.builtin "list.append")) := F.slot_list_append.lookup
theorem append_entry {tk : Tok} {xs : Array Value} {k : Nat} {sl : Array (Option Value)} {Q : Fin → Shared → Prop} (hx : h.get? a = some ⟨.type "list", none, .seq xs k, sl⟩) (hq : Q (.done (.ret (.ref h.objs.size))) ⟨h.push (boundO a), g, d, t, os⟩) :
    wpAny (model prog w) A (Builtin.«object.__getattribute__» ⟨[.ref a, .str "append" tk], []⟩) Q E ⟨h, g, d, t, os⟩ := by
  have hT : (⟨h, g, d, t, os⟩ : Shared).TypeIs (.ref a) "list" := ⟨_, hx, rfl⟩
  have hT5 : (⟨h, g, d, t, os⟩ : Shared).TypeIs (.builtin "list.append") "method_descriptor" := typeOf_list_append
  have f4 := lk_list_append
  have f5 := typeOf_list_append
  have f6 := slot_md_get.lookup
  have f7 := md_set_none
  have f8 := md_delete_none
  have f9 : (["__module__", "__name__", "__qualname__", "__doc__", "__annotations__"] : List Str).contains (Str.ofString "append") = false := by decide +kernel
  iterate 30 (any_goals (first | assumption | wp_step))
  show wpAny _ _ (Builtin.ObjectAttr.ownThenClass (Value.ref a) (Str.ofString "append") (some (Value.builtin "list.append")) (some (Value.builtin "method_descriptor.__get__"))) _ _ _
  iterate 12 (any_goals (first | assumption | wp_step))
  refine wpAny_pure (wpAny_pure ?_)
  show wpAny _ _ (do
      Builtin.ObjectAttr.copiedAttributeGuard (Str.ofString "append") (Value.ref a)
      Builtin.ObjectAttr.byTheClass (some (Value.builtin "list.append")) (some (Value.builtin "method_descriptor.__get__"))) _ _ _
  refine wpAny_bind (wpAny_pure ?_)
  refine wpAny_bind (wpAny_rule (wpAny_pure ?_))
  show wpAny _ _ (Builtin.ObjectAttr.bindTo (Value.builtin "method_descriptor.__get__") (Value.builtin "list.append") (Value.ref a) (Value.type "list")) _ _ _
  refine wpAny_bind ?_
  show wpAny _ _ (holding [.builtin "list.append"] (call (Value.builtin "method_descriptor.__get__") [.builtin "list.append", .ref a, .type "list"])) _ _ _
  refine wpAny_holding ?_
  exact wpAny_call (append_get hx rfl (wpAny_pure hq))
end
end
section
section
variable {prog : Program} {w : World} {A : Around} {E : Value → Shared → Prop} {s : Shared} {a : Addr}
theorem append_call {tk : Tok} {xs : Array Value} {k : Nat} {sl : Array (Option Value)} {R : Result → Shared → Prop} (hx : s.heap.get? a = some ⟨.type "list", none, .seq xs k, sl⟩)
    (hq : R (.ok (.ret (.ref s.heap.objs.size))) { s with heap := s.heap.push (boundO a) }) :
    codeAny (model prog w) A (.call (.builtin "list.__getattribute__") ⟨[.ref a, .str "append" tk], []⟩) R s := by
  obtain ⟨h, g, d, t, os⟩ := s
  exact codeAny_call_builtin F.slot_list_getattribute.plain F.entry_list_ga (F.slot_list_getattribute.check _ _ _ _ _ _ _ _ (show (⟨h, g, d, t, os⟩ : Shared).TypeIs (.ref a) "list" from ⟨_, hx, rfl⟩) (F.args_list_getattribute_2 _ _) (append_entry hx hq))
theorem getAttr_append {xs : Array Value} {k : Nat} {sl : Array (Option Value)} {Q : Value → Shared → Prop} (hx : s.heap.get? a = some ⟨.type "list", none, .seq xs k, sl⟩)
    (h : ∀ t, Q (.ref s.heap.objs.size) { s with heap := s.heap.push (boundO a), toks := t }) : wpAny (model prog w) A (getAttr (.ref a) "append" true) Q E s := by
  obtain ⟨hp, g, d, tk, os⟩ := s
  have hT : ∀ tk', (⟨hp, g, d, tk', os⟩ : Shared).TypeIs (.ref a) "list" := fun _ => ⟨_, hx, rfl⟩
  have f3 := F.slot_list_getattribute.lookup
  have f4 := F.slot_list_getattribute.bind (.ref a)
  have f5 := am_list_getattr_none
  unfold getAttr getAttrBy
  iterate 12 (any_goals (first | assumption | exact hT _ | wp_step))
  refine wpAny_of_eq f3 ?_
  show wpAny _ _ (getAttrByItsOwn (Value.ref a) (Value.str (Str.ofString "append") tk) (.type "list") (.builtin "list.__getattribute__") true true) _ _ _
  unfold getAttrByItsOwn
  iterate 12 (any_goals (first | assumption | exact hT _ | wp_step))
  refine wpAny_call (append_call hx ?_)
  show wpAny _ _ (handedOut (.ref hp.objs.size)) _ _ _
  exact wpAny_pure (h _)
end
variable {C : Cx} {n : Nat} {Γ : Fx} {σ : St} {Q : Fl → St → Prop}
theorem obj_eta {o : Obj} {xs : Array Value} {k : Nat} (h1 : o.cls = .type "list") (h2 : o.dict = none) (h3 : o.data = .seq xs k) : o = ⟨.type "list", none, .seq xs k, o.slots⟩ := by
  obtain ⟨c, d, dt, sl⟩ := o; simp only at h1 h2 h3; subst h1 h2 h3; rfl
theorem E.appendM {x : Str} {px pos : Pos} {k : Nat} {ds : List D} (ho : E C n Γ (.Name x px) σ (.cell k)) (hk : σ.cells[k]? = some (some ds)) : E C n Γ (.Attribute (.Name x px) "append" pos) σ (.meth k) := by
  intro κ g s R
  refine Attribute_name (thn (ho κ g s R) ?_)
  rintro v s₁ ⟨g₁, l₁, R₁, hv⟩
  (refine elEA (id hv) fun a ha z0 => ?_; subst z0)
  obtain ⟨a', vs, h1, _, _, _, _, ⟨oo, mm, hoo, hc, hdi, hda⟩, _, _⟩ := R₁.live k ds hk
  rw [ha] at h1; cases h1
  rw [obj_eta hc hdi hda] at hoo
  refine of_toks (getAttr_append hoo fun t ht => ?_)
  obtain ⟨l2, R2⟩ := R₁.pushF (boundO a) rfl (t := t) ht
  exact ⟨_, l₁.trans l2, R2, a, _, boundO a, ha, rfl, FZ.set_self _ _ _, rfl, rfl⟩
theorem sig_append : ∃ sig, Manifest.signature? "list.append" = some sig ∧ ∀ a b : Value, Bind.checkArgs "list.append" { sig with full := s!"{Bind.lastOf "list"}.{Bind.lastOf "list.append"}" } ⟨[a, b], []⟩ = pure () := by
  rw [signature?_of (id := "list.append") (n := ['d', 'n', 'e', 'p', 'p', 'a']) (o := ['t', 's', 'i', 'l']) (by kernel_rfl) F.owner_list]
  refine ⟨Option.get _ (by kernel_rfl), (Option.some_get _).symm, fun a b => ?_⟩
  kernel_rfl
theorem kind_append : builtinKind "list.append" = some .method := by kernel_rfl
theorem check_append {M : Model} {A : Around} {E : Value → Shared → Prop} {s : Shared} {a : Addr} {v : Value} {xs : Array Value} {k : Nat} {sl : Array (Option Value)} {Q : Unit → Shared → Prop} (hx : s.heap.get? a = some ⟨.type "list", none, .seq xs k, sl⟩)
    (h : Q () s) : wpAny M A (checkBoundCall "list.append" ⟨[.ref a, v], []⟩) Q E s := by
  have hT : s.TypeIs (.ref a) "list" := ⟨_, hx, rfl⟩
  (refine elEA sig_append fun sig h1 h2 => ?_)
  have h3 : Manifest.varargsMethods.contains "list.append" = false := by decide +kernel
  have h4 : isSubtype (.type "list") (.type "module") = pure false := by rw [isSubtype_type]; kernel_rfl
  have hk := kind_append
  delta checkBoundCall
  generalize Manifest.signature? "list.append" = y at h1 ⊢
  generalize builtinKind "list.append" = kd at hk ⊢
  subst h1 hk
  refine wpAny_ite_false (by rfl) ?_
  refine wpAny_bind (wpAny_isInstance hT h4 ?_)
  refine wpAny_ite_false (decide_eq_false (by rw [h3]; decide)) ?_
  refine wpAny_bind (wpAny_bind (wpAny_loadPart hx (wpAny_pure ?_)))
  show wpAny M A (do let cls ← typeOf (.ref a); _) _ _ _
  refine wpAny_bind (wpAny_typeOf hT ?_)
  exact wpAny_of_eq (h2 _ _) h
theorem bm1 : decide ((Value.type "builtin_function_or_method" != Value.type "method") = true) = true := by decide
theorem bm2 : (Value.type "builtin_function_or_method" == Value.type "builtin_function_or_method" || Value.type "builtin_function_or_method" == Value.type "method-wrapper") = true := by decide
theorem bm3 : decide ((Value.type "builtin_function_or_method" == Value.type "method" || Value.type "builtin_function_or_method" == Value.type "builtin_function_or_method" || Value.type "builtin_function_or_method" == Value.type "method-wrapper") = true) = true := by decide
theorem keeper_bound {M : Model} {A : Around} {E : Value → Shared → Prop} {s : Shared} {q : Addr} {o : Obj} {vs : Array Value} {Q : Keeper → Shared → Prop} (h : s.heap.get? q = some o) (hd : o.data = .fields vs) (hc : o.cls = .type "builtin_function_or_method") (k : Q .machine s) : wpAny M A (keeperOf (.ref q)) Q E s := by
  have h := h.trans (congrArg some (Obj.of2 hc hd))
  refine wpAny_bind (wpAny_load h ?_)
  refine wpAny_ite_true bm1 (wpAny_pure ?_)
  rw [if_pos bm2]
  exact k
theorem callWith_bound {M : Model} {A : Around} {E : Value → Shared → Prop} {s : Shared} {pos : Pos} {q : Addr} {o : Obj} {vs : Array Value} {args : List (Bool × Sem Value)} {Q : Value → Shared → Prop} (hns : args.any (·.1) = false)
    (h : wpAny M A (evalArgs (.ref q) true args []) (fun x s₁ => (s₁.heap.get? q = some o ∧ o.data = .fields vs ∧ o.cls = .type "builtin_function_or_method") ∧ wpAny M A (call (.ref q) x.pos x.kw) Q E s₁) E s) :
    wpAny M A (callWith pos (.ref q) [] args []) Q E s := by
  have hst : (args.any (·.1) || ([] : List (Option Str × Sem Value)).any (·.1.isNone)) = false := by rw [hns]; rfl
  delta callWith
  generalize (args.any (·.1) || ([] : List (Option Str × Sem Value)).any (·.1.isNone)) = st at hst ⊢
  subst hst
  refine wpAny_bind (wpAny_holding (wpAny_mono h (fun x s₁ h₁ => wpAny_bind (wpAny_standAt ?_)) fun _ _ x => x))
  refine wpAny_bind (keeper_bound h₁.1.1 h₁.1.2.1 h₁.1.2.2 (wpAny_bind ?_))
  exact wpAny_mono h₁.2 (fun r s₂ hr => wpAny_bind (wpAny_holding (wpAny_point (wpAny_pure hr)))) fun _ _ x => x
theorem call_bound {prog : Program} {w : World} {A : Around} {E : Value → Shared → Prop} {s : Shared} {q a : Addr} {o : Obj} {v : Value} {its : Array Value} {Q : Value → Shared → Prop} (hq : s.heap.get? q = some o) (hc : o.cls = .type "builtin_function_or_method")
    (hd : o.data = .fields #[.builtin "list.append", .ref a]) (hl : PlainL s.heap a its) (hsz : its.size ≤ sizeLine)
    (hQ : ∀ h', PlainL h' a (its.push v) → Heap.SameBut a s.heap h' → Q .none { s with heap := h' }) : wpAny (model prog w) A (call (.ref q) [v]) Q E s := by
  (refine elEEAAA (id hl) fun oo n hoo hcc hdn hdd => ?_)
  have e0 := obj_eta hcc hdn hdd
  rw [e0] at hoo
  refine wpAny_call (codeAny_of_tree ?_)
  refine wpAny_bind (wpAny_load (hq.trans (congrArg some (Obj.of2 hc hd))) ?_)
  refine wpAny_ite_true bm3 ?_
  refine wpAny_ite_true bm1 ?_
  refine wpAny_bind (check_append hoo ?_)
  refine wpAny_pure ⟨Code.quiet_builtin _ (by decide +kernel), codeAny_builtin F.entry_list_append ?_⟩
  obtain ⟨n', hd'⟩ := Obj.data_mapSeq hdd (·.push v)
  show wpAny _ _ (updateSeq a (·.push v) >>= fun _ => ret .none) _ _ s
  refine wpAny_bind ?_
  have hoo' := hoo
  rw [← e0] at hoo'
  refine wpAny_updateSeq hoo' hdd (wpAny_pure ?_)
  refine hQ _ ?_ (Heap.SameBut.update ..)
  refine ⟨_, n', Heap.get?_update_self _ hoo' (Obj.isFreed_of_seq hd'), (Obj.cls_mapSeq ..).trans hcc, ?_, hd'⟩
  obtain ⟨c, d, dt, sl⟩ := oo
  subst hdd
  exact hdn
variable {C : Cx} {n : Nat} {Γ : Fx} {σ : St} {Q : Fl → St → Prop}
theorem X1.callM {x : Str} {px p pos : Pos} {e : Expr} {k : Nat} {ds : List D} {d : D} (ho : E C n Γ (.Name x px) σ (.meth k)) (he : E C n Γ e σ d) (hk : σ.cells[k]? = some (some ds)) (hsz : ds.length ≤ sizeLine) (q : Q .next ⟨σ.loc, σ.glb, σ.cells.set k (some (ds ++ [d]))⟩)
    (hs : autoParam (starEach [e] Γ.env = [(false, eval e Γ.env)]) tacD) : X1 C n Γ (.Expr (.Call (.Name x px) [e] [] p) pos) σ Q := by
  intro κ g s R
  have hi : interactive Γ.env = false := by unfold interactive; rw [R.ok.kind]; rfl
  refine wpAny_Expr_any ?_ hi rfl
  show wpAny _ _ (do callWith p (← eval (.Name x px) Γ.env) [] (backTo p (starEach [e] Γ.env)) []) _ _ s
  refine wpAny_bind (thn (ho κ g s R) ?_)
  rintro v s₁ ⟨g₁, l₁, R₁, a, u, o, ha, rfl, hu, hc, hd⟩
  refine callWith_bound (o := o) (vs := #[.builtin "list.append", .ref a]) (by rw [hs]; rfl) ?_
  rw [hs]
  refine Calls.evalArgs_plain (Calls.spliced_cons (thn (he κ g₁ s₁ R₁) ?_))
  rintro w s₂ ⟨g₂, l₂, R₂, hw⟩
  refine Calls.spliced_nil ?_
  refine ⟨⟨R₂.sok.sub _ _ (l₂.1 _ _ hu), hd, hc⟩, ?_⟩
  obtain ⟨a', vs, h1, _, _, _, _, hl, hds, _⟩ := R₂.live k ds hk
  have ha2 := l₂.2.1 _ _ ha
  rw [ha2] at h1; cases h1
  refine call_bound (R₂.sok.sub _ _ (l₂.1 _ _ hu)) hc hd hl (by rw [List.size_toArray, hds.length]; exact hsz) fun h' hl' hs' => ?_
  exact ⟨g₂, _, .next, l₁.trans l₂, R₂.setCell (ws := vs ++ [w]) hk ha2 (Nat.le_refl _) (fun b o hb e => hs'.extBut b o hb e) (by simpa using hl') (hds.append (.one hw)), rfl, q⟩
noncomputable def NotRef : D → Prop
  | .str _ => True
  | .none => True
  | .bool _ => True
  | .int _ => True
  | _ => False
theorem is_self {a : Addr} : Bop C n Γ (compareOp .Is) σ (.raw (.ref a)) (.raw (.ref a)) (.bool true) := by
  rintro κ g s _ _ R rfl rfl
  exact wpAny_is_ref_self ⟨g, .refl _ _, R, rfl⟩
theorem isNot_self {a : Addr} : Bop C n Γ (compareOp .IsNot) σ (.raw (.ref a)) (.raw (.ref a)) (.bool false) := by
  rintro κ g s _ _ R rfl rfl
  exact wpAny_isNot_ref_self ⟨g, .refl _ _, R, rfl⟩
theorem is_str {a : Addr} {x : List Nat} : Bop C n Γ (compareOp .Is) σ (.str x) (.raw (.ref a)) (.bool false) := by
  rintro κ g s _ _ R ⟨t, rfl⟩ rfl
  exact wpAny_is_other rfl (by simp) ⟨g, .refl _ _, R, rfl⟩
theorem isNot_str {a : Addr} {x : List Nat} : Bop C n Γ (compareOp .IsNot) σ (.str x) (.raw (.ref a)) (.bool true) := by
  rintro κ g s _ _ R ⟨t, rfl⟩ rfl
  exact wpAny_isNot_other rfl (by simp) ⟨g, .refl _ _, R, rfl⟩
theorem X1.object {x : Str} {p p1 p2 pos : Pos} {l' : Addr → List (Str × Option D)} (hf : E C n Γ (.Name "object" p1) σ (.raw (.type "object"))) (U : ∀ a, Upd x (some (.raw (.ref a))) σ.loc (l' a)) (q : ∀ a, Q .next ⟨l' a, σ.glb, σ.cells⟩) :
    X1 C n Γ (.Assign [.Name x p] (.Call (.Name "object" p1) [] [] p2) pos) σ Q := by
  intro κ g s R
  refine wpAny_Assign_Name (Q := fun f s' => XP C n Γ κ g Q f s') ?_ rfl
  show wpAny _ _ (do callWith p2 (← eval (.Name "object" p1) Γ.env) [] (backTo p2 (starEach [] Γ.env)) []) _ _ s
  refine wpAny_bind (thn (hf κ g s R) ?_)
  rintro v s₁ ⟨g₁, l₁, R₁, rfl⟩
  refine PySem.callWith_type rfl ?_
  refine wpAny_of_eq (a := ⟨[], []⟩) (by rfl) ?_
  refine call_object ?_
  obtain ⟨l2, R2⟩ := R₁.pushF objO rfl (t := s₁.toks) (Nat.le_refl _)
  exact store (d := .raw (.ref s₁.heap.objs.size)) R2 rfl (U _) fun s'' R'' => ⟨_, _, .next, l₁.trans l2, R'', rfl, q _⟩
end
section
section
variable {prog : Program} {w : World} {A : Around} {E : Value → Shared → Prop} {s : Shared} {d : Addr} {f : Int → Option Value} {c : Nat}
noncomputable def Kept (s s' : Shared) : Prop := ∃ h' t, (∀ b o, s.heap.get? b = some o → h'.get? b = some o) ∧ s.toks ≤ t ∧ s' = { s with heap := h', toks := t }
theorem Kept.refl (s : Shared) : Kept s s := ⟨s.heap, s.toks, fun _ _ e => e, Nat.le_refl _, rfl⟩
theorem Kept.trans {s s' s'' : Shared} (x : Kept s s') (y : Kept s' s'') : Kept s s'' := by
  (refine elEEAA x fun h t h1 h2 z0 => ?_; clear x; subst z0)
  (refine elEEAA y fun h' t' h1' h2' z1 => ?_; clear y; subst z1)
  exact ⟨h', t', fun b o e => h1' b o (h1 b o e), Nat.le_trans h2 h2', rfl⟩
theorem MapOf.kept {s s' : Shared} (hm : s.heap.MapOf (intKind prog w) d f) (k : Kept s s') : s'.heap.MapOf (intKind prog w) d f := by
  (refine elEEAA k fun h' t h1 _ z2 => ?_; clear k; subst z2)
  (refine elEEEA hm fun o es ep ho r => ?_; clear hm)
  exact ⟨o, es, ep, h1 _ _ ho, r⟩
theorem sub_KeyError_Lookup : isSubtype (.type "KeyError") (.type "LookupError") = pure true := by rw [isSubtype_type]; kernel_rfl
theorem tl_hit {x : Str} {u : Tok} {Q : Builtin.Str.Mapped → Shared → Prop} (hm : s.heap.MapOf (intKind prog w) d f) (hf : f (c : Int) = some (.str x u)) (h : ∀ s', Kept s s' → Q (.text x) s') :
    wpAny (model prog w) A (Builtin.Str.tableLookup (.ref d) c) Q E s := by
  refine wpAny_bind (wpAny_attempt ?_)
  refine wpAny_bind (wpAny_mkInt ?_)
  refine wpAny_getItem_of (knd := intKind prog w) (k := (c : Int)) (by simp [intKind, Value.isInt]) (s := { s with toks := s.toks + 1 }) hm hf ?_
  show wpAny _ _ (asInt? (.str x u) >>= _) _ _ _
  refine wpAny_bind (wpAny_of_eq (a := Option.none) (by rfl) ?_)
  show wpAny _ _ (asStr? (.str x u) >>= _) _ _ _
  refine wpAny_bind (wpAny_of_eq (a := some x) (by rfl) ?_)
  exact wpAny_pure (h _ ⟨s.heap, s.toks + 1 + 1, fun _ _ e => e, by simp +arith, rfl⟩)
theorem tl_miss {Q : Builtin.Str.Mapped → Shared → Prop} (hm : s.heap.MapOf (intKind prog w) d f) (hd : (d == sysModules) = false) (hh : A.handled = none) (hf : f (c : Int) = none) (h : ∀ s', Kept s s' → Q .keep s') :
    wpAny (model prog w) A (Builtin.Str.tableLookup (.ref d) c) Q E s := by
  refine wpAny_bind (wpAny_attempt ?_)
  refine wpAny_bind (wpAny_mkInt ?_)
  refine wpAny_getItem_missing_of (knd := intKind prog w) (k := (c : Int)) (by simp [intKind, Value.isInt]) (s := { s with toks := s.toks + 1 }) hd hh hm hf fun h' e hx => ?_
  (refine elEEAA hx.there fun ob t ho hc _ => ?_)
  show wpAny _ _ (isInstance (.ref e) (.type "LookupError") >>= _) _ _ _
  refine wpAny_bind (wpAny_isInstance (T := "KeyError") ⟨ob, ho, hc⟩ sub_KeyError_Lookup ?_)
  exact wpAny_bind (wpAny_rule (wpAny_pure (h _ ⟨h', s.toks + 1 + 1, hx.keeps, by simp +arith, rfl⟩)))
noncomputable def esc1 (f : Int → Option Value) (c : Nat) : List Nat := if (f (c : Int)).isSome then [92, c] else [c]
theorem two_line : 2 ≤ sizeLine := by decide +kernel
theorem tl0 : decide (Builtin.Str.tooLong 0 = true) = false := by decide +kernel
theorem tl1 : decide (Builtin.Str.tooLong 1 = true) = false := by decide +kernel
theorem tl2 : decide (Builtin.Str.tooLong 2 = true) = false := by decide +kernel
theorem wp_forIn1 {β : Type} {M : Model} {b : β} {g : Nat → β → Sem (ForInStep β)} {Q : β → Shared → Prop} (h : wpAny M A (g c b) (fun r s' => match r with | .done b => Q b s' | .yield b => Q b s') E s) : wpAny M A (forIn (#[c] : Array Nat) b g) Q E s := by
  rw [← Array.forIn_toList]
  simp only [List.forIn_cons, List.forIn_nil]
  refine wpAny_bind (wpAny_mono h (fun r s' hr => ?_) fun _ _ h => h)
  cases r <;> exact wpAny_pure hr
theorem call_translate {t : Tok} {Q : Value → Shared → Prop} (hm : s.heap.MapOf (intKind prog w) d f) (hd : (d == sysModules) = false) (hh : A.handled = none) (hf : ∀ v, f (c : Int) = some v → ∃ u, v = .str ⟨#[92, c]⟩ u)
    (h : ∀ s' u, Kept s s' → Q (.str ⟨(esc1 f c).toArray⟩ u) s') : wpAny (model prog w) A (call (.builtin "str.translate") [.str ⟨#[c]⟩ t, .ref d]) Q E s := by
  refine wpAny_call_entry F.slot_str_translate (typeIs_str s _ t) F.entry_str_translate ?_ (F.args_str_translate_2 _ _)
  refine wpAny_bind (wpAny_of_eq (a := (Value.str ⟨#[c]⟩ t, (⟨#[c]⟩ : Str), Value.ref d)) (by rfl) ?_)
  refine wpAny_ite_false (by rfl) ?_
  have fin : ∀ (x : List Nat) s₁, esc1 f c = x → x.length ≤ 2 → Kept s s₁ → wpAny (model prog w) A.in1 (retStr ⟨x.toArray⟩) (fun fin s' => ∃ r, fin = .done (.ret r) ∧ Q r s') E s₁ := by
    rintro _ s₁ rfl hx k₁
    refine wpAny_bind (wpAny_mkStr ?_ (Nat.le_trans hx two_line))
    exact wpAny_pure ⟨_, rfl, h { s₁ with toks := s₁.toks + 1 } s₁.toks (k₁.trans ⟨s₁.heap, s₁.toks + 1, fun _ _ e => e, Nat.le_succ _, rfl⟩)⟩
  refine wpAny_bind (wp_forIn1 ?_)
  refine wpAny_ite_false tl0 ?_
  cases hfc : f (c : Int) with
  | some v =>
    obtain ⟨u, rfl⟩ := hf v hfc
    have hx : esc1 f c = [92, c] := by rw [esc1, hfc]; rfl
    by_cases hc : c < 128
    · refine wpAny_ite_true (decide_eq_true (by simpa using hc)) ?_
      show wpAny _ _ (Bind.bind (Builtin.Str.tableLookup (.ref d) c) _) _ _ _
      refine wpAny_bind (tl_hit hm hfc fun s₁ k₁ => ?_)
      show wpAny _ _ (Bind.bind (pure none) _) _ _ _
      refine wpAny_bind (wpAny_pure ?_)
      show wpAny _ _ (Bind.bind (rule _) _) _ _ _
      refine wpAny_bind (wpAny_rule ?_)
      refine wpAny_ite_false (by rfl) ?_
      refine wpAny_bind (tl_hit (MapOf.kept hm k₁) hfc fun s₂ k₂ => ?_)
      refine wpAny_pure ?_
      refine wpAny_ite_false tl2 ?_
      exact fin [92, c] s₂ hx (Nat.le_refl _) (k₁.trans k₂)
    · refine wpAny_ite_false (decide_eq_false (by simpa using hc)) ?_
      refine wpAny_ite_false (by rfl) ?_
      refine wpAny_bind (tl_hit hm hfc fun s₁ k₁ => ?_)
      refine wpAny_pure ?_
      refine wpAny_ite_false tl2 ?_
      exact fin [92, c] s₁ hx (Nat.le_refl _) k₁
  | none =>
    have hx : esc1 f c = [c] := by rw [esc1, hfc]; rfl
    by_cases hc : c < 128
    · refine wpAny_ite_true (decide_eq_true (by simpa using hc)) ?_
      show wpAny _ _ (Bind.bind (Builtin.Str.tableLookup (.ref d) c) _) _ _ _
      refine wpAny_bind (tl_miss hm hd hh hfc fun s₁ k₁ => ?_)
      show wpAny _ _ (Bind.bind (pure (some (some c))) _) _ _ _
      refine wpAny_bind (wpAny_pure ?_)
      refine wpAny_pure ?_
      refine wpAny_ite_false tl1 ?_
      exact fin [c] s₁ hx (Nat.le_succ _) k₁
    · refine wpAny_ite_false (decide_eq_false (by simpa using hc)) ?_
      refine wpAny_ite_false (by rfl) ?_
      refine wpAny_bind (tl_miss hm hd hh hfc fun s₁ k₁ => ?_)
      refine wpAny_pure ?_
      refine wpAny_ite_false tl1 ?_
      exact fin [c] s₁ hx (Nat.le_succ _) k₁
end
end
section
noncomputable def pRep (c : Nat) (z : List Nat) (x : List Nat) : List Nat := x.flatMap fun d => if d = c then z else [d]
theorem pRep_append (c : Nat) (z a b : List Nat) : pRep c z (a ++ b) = pRep c z a ++ pRep c z b := by simp [pRep]
theorem pRep_free (c : Nat) (z : List Nat) : ∀ l : List Nat, c ∉ l → pRep c z l = l
  | [], _ => rfl
  | k :: r, h => by
    have h1 : ¬ k = c := fun e => h (e ▸ List.mem_cons_self ..)
    have := pRep_free c z r fun m => h (List.mem_cons_of_mem _ m)
    unfold pRep at this ⊢
    rw [List.flatMap_cons, this, if_neg h1]; rfl
theorem pRep_join (c : Nat) (z : Str) : ∀ parts : List Str, (∀ p ∈ parts, c ∉ p.cps.toList) → pRep c z.cps.toList (Str.join ⟨#[c]⟩ parts).cps.toList = (Str.join z parts).cps.toList
  | [], _ => rfl
  | [p], h => pRep_free c _ _ (h p (List.mem_singleton.mpr rfl))
  | p :: q :: r, h => by
    have ih := pRep_join c z (q :: r) fun a ha => h a (List.mem_cons_of_mem _ ha)
    show pRep c z.cps.toList (p ++ ⟨#[c]⟩ ++ Str.join ⟨#[c]⟩ (q :: r)).cps.toList = (p ++ z ++ Str.join z (q :: r)).cps.toList
    simp only [Str.cps_append, Array.toList_append]
    rw [pRep_append, pRep_append, ih, pRep_free c _ _ (h p (List.mem_cons_self ..))]
    congr 2
    simp [pRep]
theorem replace_rep (x : Str) (c : Nat) (z : Str) : (Txt.replace x ⟨#[c]⟩ z).cps.toList = pRep c z.cps.toList x.cps.toList := by
  rw [StrLaws.replace_one, ← pRep_join c z _ (StrLaws.split_free x c), StrLaws.join_split]
variable {C : Cx} {n : Nat} {Γ : Fx} {σ : St}
theorem E.replaceC {o : Expr} {apos pos p1 p2 : Pos} {k1 k2 : Nat} {y z : Str} {c : Nat} {x zl : List Nat} (ho : E C n Γ o σ (.str x)) (hy : y = ⟨#[c]⟩) (hz : z.cps.toList = zl) (hyz : (y == z) = false) (hz2 : zl.length ≤ 14) (hx : x.length ≤ 2 ^ 20)
    (he : ∀ env, ∃ pl, eval (.Call (.Attribute o "replace" apos) [.Constant (.str y) k1 p1, .Constant (.str z) k2 p2] [] pos) env = (do
      let ov ← eval o env
      standAt apos.atName
      let (f, first) ← holding [ov] (getMethod ov "replace" pl)
      callWith pos f first (backTo pos (starEach [.Constant (.str y) k1 p1, .Constant (.str z) k2 p2] env)) []) := by intro _; exact ⟨_, by with_unfolding_all rfl⟩) :
    E C n Γ (.Call (.Attribute o "replace" apos) [.Constant (.str y) k1 p1, .Constant (.str z) k2 p2] [] pos) σ (.str (pRep c zl x)) := by
  intro κ g s R
  obtain ⟨pl, he⟩ := he Γ.env
  refine MethodCall_ (thn (ho κ g s R) ?_) he
  rintro v s₁ ⟨g₁, l₁, R₁, t, rfl⟩
  refine gm_replace (PP := g₁.P) (cs := g₁.cs) (x := x) ⟨t, rfl⟩ ?_
  refine callWith_builtin (noStar_any rfl) (evalArgs_es rfl ?_)
  refine wpAny_items_cons (wpAny_Constant_str ?_) rfl
  refine wpAny_items_cons (wpAny_Constant_str ?_) rfl
  refine wpAny_items_nil ?_
  subst hy
  have hpos := R₁.sok.pos
  have hzl : z.length = zl.length := by rw [← hz]; rfl
  refine of_toks ?_
  refine SC.replaceW (by show s₁.toks ≠ 0; exact Nat.ne_of_gt (by assumption)) (by show s₁.toks + 1 ≠ 0; exact Nat.ne_of_gt (Nat.succ_pos _)) (by show s₁.toks ≠ s₁.toks + 1; exact Nat.ne_of_lt (Nat.lt_succ_self _)) hyz (by rw [str_len]; exact hx) (by simp_all) fun t' k hk => ?_
  have hk : s₁.toks + 1 + 1 ≤ k := hk
  refine ⟨g₁, l₁, R₁.toks (by lia), ?_⟩
  exact DV.strEq (by rw [replace_rep, hz])
theorem isinst_str {x : List Nat} : Blt C n Γ σ (.builtin "isinstance") [.str x, .raw (.type "str")] (.bool true) := Blt.plain (by
  rintro A s PP cs _ Q E' _ ⟨v, vs, rfl, ⟨t, rfl⟩, v2, vs2, rfl, rfl, rfl⟩ k
  exact IsiPair.str_str (k _ s.toks rfl))
theorem Rep.kept {κ : FZ} {g : Gh} {s s' : Shared} (R : Rep C n Γ κ g σ s) (k : Kept s s') : Rep C n Γ κ g σ s' := by
  (refine elEEAA k fun h' t h1 h2 z0 => ?_; clear k; subst z0)
  exact R.more h1 h2
theorem gm_translate {x : List Nat} {M : Model} {A : Around} {E' : Value → Shared → Prop} {s : Shared} {PP : FZ} {cs : List Addr} {v : Value} {pl : Sem Bool} {Q : Value × List Value → Shared → Prop} (h : DV PP cs (.str x) v) (q : Q (.builtin "str.translate", [v]) s) :
    wpAny M A (getMethod v "translate" pl) Q E' s := by
  obtain ⟨t, rfl⟩ := h
  with_reducible exact GM.of (.str _ t) (typeIs_str _ _ _) F.slot_str_translate F.type_str_translate GM.noRef q
noncomputable def MapIs (C : Cx) (d : Addr) (f : Int → Option Value) : Prop := (d == sysModules) = false ∧ C.hb.MapOf (intKind C.prog C.w) d f ∧ ∀ (c : Nat) v, f (c : Int) = some v → ∃ u, v = .str ⟨#[92, c]⟩ u
theorem translate_c {d : Addr} {f : Int → Option Value} {c : Nat} (M : MapIs C d f) : Blt C n Γ σ (.builtin "str.translate") [.str [c], .raw (.ref d)] (.str (esc1 f c)) := by
  rintro κ g s _ R ⟨v, vs, rfl, ⟨t, rfl⟩, v2, vs2, rfl, rfl, rfl⟩
  (refine elEEEA M.2.1 fun o es ep ho r => ?_)
  refine call_translate (f := f) (d := d) (c := c) (t := t) ⟨o, es, ep, R.sok.base _ _ ho, r⟩ M.1 R.ok.room.1 (M.2.2 c) fun s' u k => ?_
  exact ⟨g, .refl _ _, R.kept k, u, rfl⟩
theorem d6 : DefOk (sc 6) (stParams (st 6)) (bd 6) (stName (st 6)) ["pattern"] [] := DefOk.one rfl rfl rfl rfl (fun _ _ _ _ => rfl) (by decide +kernel) (by decide +kernel)
theorem escape_spec {C : Cx} (G : Gl C) {d : Addr} {f : Int → Option Value} {c : Nat} (hm : C.mg "_special_chars_map" = some (.ref d)) (M : MapIs C d f) : Spec C 1 (G.v 6) [.str [c]] (.str (esc1 f c)) := by
  refine Spec.of G.H (G.fn 6 (by decide)).2 d6 rfl ⟨trivial, trivial⟩ trivial fun Γ F => ?_
  show X C 0 Γ (_ :: []) ⟨[("pattern", some (.str [c]))], [], []⟩ _
  refine X.cons (X1.if (b := true) (T.val (E.callB (E.gb G (kind_of F rfl) boot_isinstance) (.cons (by walk_at "ev") (.cons (E.gb G (kind_of F rfl) boot_str) .nil)) isinst_str) Tr.bool) (fun _ => ?_) (fun h => by cases h))
  exact X.cons (X1.ret (E.meth (by walk_at "ev") (.cons (E.fn G.H (kind_of F rfl) hm) .nil) (fun M A E' s PP cs v pl Q => gm_translate) (translate_c M)) rfl)
end
section
theorem turnP (elt target iter : Expr) (scope : Scope) (pos : Pos) (it acc : Value) (env : Env) :
    compTurn (.GeneratorExp elt [⟨target, iter, [], 0⟩] scope pos) 0 it acc env = (do
      standAt iter.pos
      match ← pyNext it with
      | none => pure (.done .next)
      | some v =>
        letOwnedTupleGo target it v
        assign target env v
        let v ← eval elt env
        standAt elt.pos
        let _ ← yieldOut env v
        again (.compLoop (.GeneratorExp elt [⟨target, iter, [], 0⟩] scope pos) 0 it acc env)) := by
  rw [compTurn_gen]
  simp only [List.forIn_nil, pure_bind, if_true, bind_assoc]
  rfl
noncomputable def protoP (C : Addr) (fp wr : List Addr) (n₀ : Nat) (F : Nat → Value → Prop) : Protocol := fun m s₀ v s kap =>
  F (n₀ - 1 - m) v ∧ GenSince C wr s₀ s ∧ ∀ s'' : Shared, 0 < s''.toks → (∀ b ∈ C :: fp, ∀ o, s.heap.get? b = some o → s''.heap.get? b = some o) → kap (.send .none) s''
noncomputable abbrev endP (C : Addr) (wr : List Addr) : Nat → Shared → Except Value Flow → Shared → Prop := fun n s₀ r s₁ => r = .ok .next ∧ (n = 0 ∧ GenSince C wr s₀ s₁)
section
variable {prog : Program} {w : World} {A : Around}
noncomputable def EltP (prog : Program) (w : World) (cenv : Env) (x : Str) (elt : Expr) (P F : Nat → Value → Prop) : Prop :=
  ∀ (A' : Around) (E' : Value → Shared → Prop) i v (s₂ : Shared) m₂, A'.handled = none → P i v → 0 < s₂.toks → s₂.heap.Ns cenv.locals m₂ → m₂ x = some v →
    wpAny (model prog w) A' (eval elt cenv) (fun y s₃ => F i y ∧ Keeps s₂ s₃) E' s₂
theorem seg_loopP {elt iter : Expr} {x : Str} {px : Pos} {scope : Scope} {pos : Pos} {I : Addr} {fp wr : List Addr} {n₀ : Nat} {P F : Nat → Value → Prop} {St₀ : Nat → Heap → Prop} {cenv : Env}
    (hh : A.handled = none) (W₀ : ∀ A' : Around, A'.handled = none → Walks prog w A' I fp wr n₀ P St₀)
    (hx : cenv.kindOf x = some .local) (hp : (cenv.scope.kind == .class || (cenv.scope.kind == .module && cenv.locals != cenv.globals)) = false)
    (hco : cenv.scope.isCoroutine = false) (hCf : cenv.locals ∉ fp) (hq : EltP prog w cenv x elt P F) :
    ∀ (k i : Nat) (s₀ s : Shared) (m : Str → Option Value), n₀ - i = k → i ≤ n₀ → 0 < s.toks → St₀ i s.heap → s.heap.Ns cenv.locals m → GenSince cenv.locals wr s₀ s →
      PySem.Seg (model prog w) A (endP cenv.locals wr) (protoP cenv.locals fp wr n₀ F) k s₀
        (.compLoop (.GeneratorExp elt [⟨.Name x px, iter, [], 0⟩] scope pos) 0 (.ref I) .none cenv)
        ((model prog w).den (.compLoop (.GeneratorExp elt [⟨.Name x px, iter, [], 0⟩] scope pos) 0 (.ref I) .none cenv)) [] s := by
  have hh' : (A.over (.compLoop (.GeneratorExp elt [⟨.Name x px, iter, [], 0⟩] scope pos) 0 (.ref I) .none cenv) []).handled = none := hh
  have hCw : cenv.locals ∉ wr := fun h => hCf ((W₀ A hh).sub _ h)
  have hy : ∀ v, yieldOut cenv v = yieldValue v := fun v => by simp only [yieldOut, hco, Bool.false_eq_true, if_false]
  intro k
  induction k with
  | zero =>
    intro i s₀ s m hk hi htk hst hn hsince
    have hin : i = n₀ := by lia
    subst hin
    show PySem.Seg _ A _ _ _ s₀ _ ((compTurn (.GeneratorExp elt [⟨.Name x px, iter, [], 0⟩] scope pos) 0 (.ref I) .none cenv).onRaise (leaving cenv)) [] s
    rw [turnP, Sem.onRaise_eq_wrap]
    refine seg_bind_wrap (wpAny_standAt ?_)
    refine seg_bind_wrap ((W₀ _ hh').done s _ _ hst fun h' tk hk' => ?_)
    exact seg_end (.ok .next) ⟨rfl, rfl, hsince.step fun b o _ hw e => hk' b o hw e⟩
  | succ k ih =>
    intro i s₀ s m hk hi htk hst hn hsince
    have hlt : i < n₀ := by lia
    show PySem.Seg _ A _ _ _ s₀ _ ((compTurn (.GeneratorExp elt [⟨.Name x px, iter, [], 0⟩] scope pos) 0 (.ref I) .none cenv).onRaise (leaving cenv)) [] s
    rw [turnP, Sem.onRaise_eq_wrap]
    refine seg_bind_wrap (wpAny_standAt ?_)
    refine seg_bind_wrap (of_toks ((W₀ _ hh').item i s _ _ hlt hst fun v h₁ tk₁ hPv hst₁ hk₁ htk₁ => ?_))
    refine seg_bind_wrap (wpAny_of_eq (rfl : letOwnedTupleGo (.Name x px) (.ref I) v = pure ()) ?_)
    refine seg_bind_wrap (wpAny_assign_Name (wpAny_storeName_local hx (hn.at' fun o e => hk₁ _ o hCw e) (fun h₂ hn₂ hs₂ => ?_) hp))
    have up₂ : ∀ b o, b ≠ cenv.locals → b ∉ wr → s.heap.get? b = some o → h₂.get? b = some o := fun b o hbC hbw e => hs₂.extBut b o hbC (hk₁ b o hbw e)
    have hst₂ : St₀ (i + 1) h₂ := (W₀ A hh).frame _ _ _ hst₁ fun b hb o e => hs₂.extBut b o (fun h => hCf (h ▸ hb)) e
    have htk₁ : s.toks ≤ tk₁ := htk₁
    refine seg_bind_wrap (of_toks (wpAny_mono (hq _ _ i v _ _ hh' hPv (by show 0 < tk₁ + 1; exact Nat.succ_pos _) hn₂ (by simp)) (fun y s₄ h₄ => ?_) fun _ _ e => fun _ => e))
    obtain ⟨hFy, h₄, tk₄, rfl, hk₄⟩ := h₄
    intro htk₄
    have htk₄ : tk₁ + 1 ≤ tk₄ := htk₄
    have hsince₄ : GenSince cenv.locals wr s₀ { s with heap := h₄, toks := tk₄ } := hsince.step fun b o hbC hbw e => hk₄ b o (up₂ b o hbC hbw e)
    have hn₄ := hn₂.keeps hk₄
    have hst₄ : St₀ (i + 1) h₄ := (W₀ A hh).frame _ _ _ hst₂ fun b _ o e => hk₄ b o e
    refine seg_bind_wrap (wpAny_standAt ?_)
    rw [hy]
    rw [Sem.bind_eq_wrap', Sem.wrap_wrap]
    have hi' : n₀ - 1 - k = i := by grind
    refine seg_yield rfl rfl rfl ⟨by rw [hi']; exact hFy, hsince₄, fun s'' hpos hal => ?_⟩
    refine seg_again rfl (ih (i + 1) s'' s'' _ (by grind) hlt hpos ((W₀ A hh).frame _ _ _ hst₄ fun b hb o e => hal b (List.mem_cons_of_mem _ hb) o e)
        (hn₄.at' fun o e => hal _ (List.mem_cons_self ..) o e) (GenSince.refl _ _ _))
theorem seg_startP {elt iter : Expr} {x : Str} {px : Pos} {scope : Scope} {pos : Pos} {I : Addr} {fp wr : List Addr} {n₀ : Nat} {P F : Nat → Value → Prop} {St₀ : Nat → Heap → Prop} {cenv : Env}
    (hh : A.handled = none) (W₀ : ∀ A' : Around, A'.handled = none → Walks prog w A' I fp wr n₀ P St₀)
    (hx : cenv.kindOf x = some .local) (hp : (cenv.scope.kind == .class || (cenv.scope.kind == .module && cenv.locals != cenv.globals)) = false)
    (hco : cenv.scope.isCoroutine = false) (hCf : cenv.locals ∉ fp) (hq : EltP prog w cenv x elt P F)
    (s₀ s : Shared) (m : Str → Option Value) (htk : 0 < s.toks) (hst : St₀ 0 s.heap) (hn : s.heap.Ns cenv.locals m) (hsince : GenSince cenv.locals wr s₀ s) :
    PySem.Seg (model prog w) A (endP cenv.locals wr) (protoP cenv.locals fp wr n₀ F) n₀ s₀
      (.compStart (.GeneratorExp elt [⟨.Name x px, iter, [], 0⟩] scope pos) 0 (.ref I) .none cenv)
      ((model prog w).den (.compStart (.GeneratorExp elt [⟨.Name x px, iter, [], 0⟩] scope pos) 0 (.ref I) .none cenv)) [] s := by
  have hh' : (A.over (.compStart (.GeneratorExp elt [⟨.Name x px, iter, [], 0⟩] scope pos) 0 (.ref I) .none cenv) []).handled = none := hh
  have loop := seg_loopP (iter := iter) (px := px) (scope := scope) (pos := pos) hh W₀ hx hp hco hCf hq n₀ 0 s₀ s m (Nat.sub_zero _) (Nat.zero_le _) htk hst hn hsince
  show PySem.Seg _ A _ _ _ s₀ _ ((compStart (.GeneratorExp elt [⟨.Name x px, iter, [], 0⟩] scope pos) 0 (.ref I) .none cenv).onRaise (leaving cenv)) [] s
  unfold compStart
  rw [Sem.onRaise_eq_wrap]
  show PySem.Seg _ A _ _ _ s₀ _ ((ask >>= _).wrap _ _ _ _) [] s
  refine seg_bind_wrap (wpAny_askSetting ?_)
  split
  · exact seg_again rfl loop
  · refine seg_bind_wrap (wpAny_rule ?_)
    show PySem.Seg _ A _ _ _ s₀ _ ((standAt iter.pos >>= _).wrap _ _ _ _) [] s
    exact seg_bind_wrap (wpAny_standAt (seg_bind_wrap ((W₀ _ hh').self 0 s _ _ hst (seg_again rfl loop))))
noncomputable def GenP (prog : Program) (w : World) (A : Around) (a : Addr) (g : Nat) (C : Addr) (fp wr : List Addr) (n₀ : Nat) (F : Nat → Value → Prop) (j : Nat) (s : Shared) : Prop :=
  s.heap.IsGen a g ∧ s.heap.NoLimit ∧ 0 < s.toks ∧ ∃ gs, s.gens[g]? = some gs ∧ ∀ s'' : Shared, 0 < s''.toks → (∀ b ∈ C :: fp, ∀ o, s.heap.get? b = some o → s''.heap.get? b = some o) →
    gs.Goes (model prog w) A.in1 (endP C wr) (protoP C fp wr n₀ F) (n₀ - j) (.send .none) s''
theorem walksP (hh : A.handled = none) (a : Addr) (g : Nat) (C : Addr) (fp wr : List Addr) (n₀ : Nat) (F : Nat → Value → Prop) (haC : a ≠ C) (haf : a ∉ fp) (hsub : ∀ b ∈ wr, b ∈ fp)
    (hroom : A.depth < recursionLimit) (hcs : cStatics ∈ fp) (hcC : cStatics ≠ C) (hcw : cStatics ∉ wr) :
    WalksS prog w A a (a :: C :: fp) (C :: wr) (GenOnlyQ g) n₀ F (GenP prog w A a g C fp wr n₀ F) where
  sub := fun b hb => by
    rcases List.mem_cons.mp hb with rfl | hb
    · simp
    · exact List.mem_cons_of_mem _ (List.mem_cons_of_mem _ (hsub b hb))
  grefl := fun _ => .inl rfl
  gtrans := fun _ _ _ x y => x.trans y
  frame := by
    (intro j s h' tk z1 htk hk; refine elAAAEA z1 fun z2 z3 hpos gs hgs hgo => ?_; clear z1; refine elEEEA z2 fun o nm qn ho r => ?_; clear z2; refine elEA z3 fun mc hns hnn => ?_; clear z3)
    exact ⟨⟨o, nm, qn, hk a (List.mem_cons_self ..) o ho, r⟩, ⟨mc, hns.at' fun o e => hk cStatics (List.mem_cons_of_mem _ (List.mem_cons_of_mem _ hcs)) o e, hnn⟩, Nat.lt_of_lt_of_le hpos htk, gs, hgs,
      fun s'' hp hal => hgo s'' hp fun b hb o e => hal b hb o (hk b (List.mem_cons_of_mem _ hb) o e)⟩
  item := by
    (intro j s Q E hj z4 hQ; refine elAAAEA z4 fun hg hl hpos gs hgs hgo => ?_; clear z4)
    obtain ⟨m, hm⟩ : ∃ m, n₀ - j = m + 1 := ⟨n₀ - j - 1, by exact (Nat.sub_add_cancel (by lia)).symm⟩
    rw [hm] at hgo
    refine of_toks (wpAny_pyNext_genexpQ (P := fun n s₀ s₁ => n = 0 ∧ GenSince C wr s₀ s₁) hh hl hroom hg hgs (hgo _ hpos fun _ _ _ e => e) (fun v s₁ gs' hb hv => ?_) (fun s₁ hp h' hk => ?_))
    · (refine elAA hv fun hF z5 hkap => ?_; clear hv; refine elEEA z5 fun h₁ tk₁ z6 hk₁ => ?_; clear z5; subst z6)
      rw [show n₀ - 1 - (m + 1 - 1) = j by grind] at hF
      have haw : a ∉ wr := fun h => haf (hsub a h)
      intro htk
      have htk : s.toks ≤ tk₁ := htk
      (refine elEEEA (id hg) fun o nm qn ho r => ?_)
      (refine elEA (id hl) fun mc hns hnn => ?_)
      refine hQ v _ hF ⟨⟨o, nm, qn, hk₁ a o haC haw ho, r⟩, ⟨mc, hns.at' fun o e => hk₁ cStatics o hcC hcw e, hnn⟩, by show 0 < tk₁; exact Nat.lt_of_lt_of_le (by assumption) (by assumption), gs', setGen_self (gs := .running) (setGen_self hgs), fun s'' hp hal => ?_⟩
        ⟨fun b o hb e => hk₁ b o (fun h => hb (h ▸ List.mem_cons_self ..)) (fun h => hb (List.mem_cons_of_mem _ h)) e, GenOnlyQ.of ((GenOnly.setGen s g .running).trans (GenOnly.setGen _ g gs')) (setGen_self (gs := .running) (setGen_self hgs)) hb, rfl, rfl, htk⟩
      rw [show n₀ - (j + 1) = m by lia]
      exact hkap s'' hp hal
    · exact absurd hp.1 (Nat.succ_ne_zero m)
  done := by
    (intro s Q E z7 hQ; refine elAAAEA z7 fun hg hl hpos gs hgs hgo => ?_; clear z7)
    rw [Nat.sub_self] at hgo
    refine of_toks (wpAny_pyNext_genexpQ (P := fun n s₀ s₁ => n = 0 ∧ GenSince C wr s₀ s₁) hh hl hroom hg hgs (hgo _ hpos fun _ _ _ e => e) (fun v s₁ gs' hb hv => ?_) (fun s₁ hp h' hk => ?_))
    · (refine elAA hv fun _ _ hkap => ?_; clear hv)
      exact False.elim (hkap { s₁ with toks := s₁.toks + 1 } (Nat.succ_pos _) fun _ _ _ e => e)
    · (refine elAEEA hp fun _ h₁ tk₁ z8 hk₁ => ?_; clear hp; subst z8)
      intro htk
      exact hQ _ ⟨fun b o hb e => hk b o (hk₁ b o (fun h => hb (h ▸ List.mem_cons_self ..)) (fun h => hb (List.mem_cons_of_mem _ h)) e), GenOnlyQ.of ((GenOnly.setGen s g .running).trans (GenOnly.setGen _ g .finished)) (setGen_self (gs := .running) (setGen_self hgs)) rfl, rfl, rfl, htk⟩
  self := fun _ _ _ _ st hQ => wpAny_pyIter_gen st.1 hQ
theorem freshP {elt iter : Expr} {x : Str} {px : Pos} {scope : Scope} {pos : Pos} {I a : Addr} {g : Nat} {fp wr : List Addr} {n₀ : Nat} {P F : Nat → Value → Prop} {St₀ : Nat → Heap → Prop} {cenv : Env}
    (hh : A.handled = none) (W₀ : ∀ A' : Around, A'.handled = none → Walks prog w A' I fp wr n₀ P St₀)
    (hx : cenv.kindOf x = some .local) (hp : (cenv.scope.kind == .class || (cenv.scope.kind == .module && cenv.locals != cenv.globals)) = false)
    (hco : cenv.scope.isCoroutine = false) (hCf : cenv.locals ∉ fp) (hq : EltP prog w cenv x elt P F) {s : Shared} {m : Str → Option Value} (hpos : 0 < s.toks)
    (hg : s.heap.IsGen a g) (hgs : s.gens[g]? = some (.fresh (.compStart (.GeneratorExp elt [⟨.Name x px, iter, [], 0⟩] scope pos) 0 (.ref I) .none cenv)))
    (hst : St₀ 0 s.heap) (hn : s.heap.Ns cenv.locals m) (hl : s.heap.NoLimit) : GenP prog w A a g cenv.locals fp wr n₀ F 0 s :=
  ⟨hg, hl, hpos, _, hgs, fun s'' hp'' hal => ⟨rfl, seg_startP (A := A.in1) hh W₀ hx hp hco hCf hq s'' s'' m hp'' ((W₀ A hh).frame _ _ _ hst fun b hb o e => hal b (List.mem_cons_of_mem _ hb) o e)
    (hn.at' fun o e => hal _ (List.mem_cons_self ..) o e) (GenSince.refl _ _ _)⟩⟩
end
end
section
noncomputable def sameAt (p q : Pos) : Bool := (p.line : Int) == q.line && (p.col : Int) == q.col
theorem among_snoc {p q : Pos} {c : Value} : ∀ l : List Value, TriplesOk l → codeAmong p (l ++ [rawInt q.line, rawInt q.col, c]) = match codeAmong p l with | some v => some v | none => if sameAt p q then some c else none := by
  intro l h
  fun_induction TriplesOk l with
  | case1 =>
    simp only [List.nil_append, codeAmong, rawInt, sameAt]
    by_cases e1 : (q.line : Int) = p.line
    · by_cases e2 : (q.col : Int) = p.col
      · simp [e1, e2]
      · have : ¬ (p.col : Int) = q.col := fun z => e2 z.symm
        simp [e1, e2, this]
    · have : ¬ (p.line : Int) = q.line := fun z => e1 z.symm
      simp [e1, this]
  | case2 a t b u x rest ih =>
    simp only [List.cons_append, codeAmong]
    split
    · rfl
    · exact ih h
  | case3 l h1 h2 => exact h.elim
variable {C : Cx}
theorem SOk.code (H : C.Ok) {P : FZ} {s : Shared} (S : SOk C P s) : ∃ ps, s.heap.IsCode C.cT C.tb ps ∧ s.heap.TableAt C.cT C.tb ps ∧ s.heap.get? C.tb = some { cls := .none, data := .fields ps } ∧ TriplesOk ps.toList ∧
    (∀ v, codeAmong C.lp ps.toList = some v → CodeOf P v C.lq) ∧ (∀ v, codeAmong C.gp ps.toList = some v → CodeOf P v C.gq) := by
  (refine elEEEEEEEEE H.code fun o vs file tf flags tg inF text tt z0 => ?_; refine elAAAAAAAA z0 fun h1 h2 h3 h4 h5 h6 h7 h8 h9 => ?_; clear z0)
  (refine elEAAA S.tab fun ps t1 t2 t3 t4 => ?_)
  have h1' := S.base _ _ h1
  refine ⟨ps, ⟨o, vs, file, tf, flags, tg, inF, text, tt, _, h1', h3, ?_, h5, h6, h7, h8, t1, rfl, t2, h9⟩, ⟨⟨o, vs, h1', h2, h3, h4⟩, t1⟩, t1, t2, t3, t4⟩
  rw [Array.getD_eq_getD_getElem?, h4]; rfl
inductive CodeP (C : Cx) (P : FZ) (s : Shared) (q : Str) (v : Value) (s' : Shared) : Prop
  | mk (P' : FZ) (l : PLe P P') (S : SOk C P' s') (hn : ∀ a o, P' a = some o → P a = some o ∨ s.heap.get? a = none) (hk : ∀ a o, a ≠ C.tb → s.heap.get? a = some o → s'.heap.get? a = some o) (hc : CodeOf P' v q)
    (hz : s.heap.objs.size ≤ s'.heap.objs.size) (hg : s'.gens = s.gens) (ht : s'.toks ≥ s.toks) : CodeP C P s q v s'
theorem codeStep {A : Around} {E : Value → Shared → Prop} {s : Shared} {P : FZ} {m : Sem Value} {pos : Pos} {q : Str} (H : C.Ok) (S : SOk C P s) (hpq : (pos = C.lp ∧ q = C.lq) ∨ (pos = C.gp ∧ q = C.gq)) (hne : sameAt C.lp C.gp = false) (hne' : sameAt C.gp C.lp = false)
    (hit : ∀ (ps : Array Value) (c' : Value) (Q E : Value → Shared → Prop), s.heap.IsCode C.cT C.tb ps → codeAmong pos ps.toList = some c' → Q c' s → wpAny (model C.prog C.w) A m Q E s)
    (mis : ∀ (ps : Array Value) (Q E : Value → Shared → Prop), s.heap.IsCode C.cT C.tb ps → s.heap.TableAt C.cT C.tb ps → codeAmong pos ps.toList = none →
      (∀ c' h' tk, Heap.ExtBut C.tb s.heap h' → s.heap.objs.size ≤ c' → c' < h'.objs.size → h'.IsCode C.cT C.tb (ps ++ #[rawInt pos.line, rawInt pos.col, .ref c']) → h'.CodeRec (.ref c') q →
        h'.TableAt C.cT C.tb (ps ++ #[rawInt pos.line, rawInt pos.col, .ref c']) → Q (.ref c') { s with heap := h', toks := tk }) → wpAny (model C.prog C.w) A m Q E s) :
    wpAny (model C.prog C.w) A m (fun v s' => CodeP C P s q v s') E s := by
  (refine elEAAAAA (S.code H) fun ps hc ht hg htr hl hgg => ?_)
  cases hf : codeAmong pos ps.toList with
  | some c' =>
    refine hit ps c' _ _ hc hf ⟨P, .refl _, S, fun _ _ e => .inl e, fun _ _ _ e => e, ?_, Nat.le_refl _, rfl, Nat.le_refl _⟩
    rcases hpq with ⟨rfl, rfl⟩ | ⟨rfl, rfl⟩
    · exact hl _ hf
    · exact hgg _ hf
  | none =>
    refine of_toks (mis ps _ _ hc ht hf fun c' h' tk hx hge hlt hcode hrec htab htk => ?_)
    have htk : s.toks ≤ tk := htk
    (refine elEEEE hrec fun c₂ o₂ vs₂ t₂ z1 => ?_; clear hrec; refine elAAA z1 fun e₂ g₂ d₂ r₂ => ?_; clear z1)
    cases e₂
    have hn := get_of_lt_none hge
    have hPn : P c' = none := by
      cases z : P c' with
      | none => rfl
      | some o => have := S.sub _ _ z; rw [hn] at this; cases this
    have hctb : c' ≠ C.tb := fun z => by rw [← z, hn] at hg; cases hg
    have hPtb : ∀ a o, P a = some o → a ≠ C.tb := fun a o e z => by rw [z, S.ptb] at e; cases e
    have hnew : CodeOf (P.set c' o₂) (.ref c') q := ⟨c', o₂, vs₂, t₂, rfl, FZ.set_self _ _ _, d₂, r₂⟩
    have hle : PLe P (P.set c' o₂) := FZ.le_set _ hPn
    have hsz : s.heap.objs.size ≤ h'.objs.size := by lia
    refine ⟨P.set c' o₂, hle, ⟨fun a o e => ?_, fun a o e => ?_, ?_, ?_, S.gens, S.os, by show 0 < tk; have := S.pos; exact Nat.lt_of_lt_of_le (by assumption) (by assumption)⟩, fun a o e => ?_, fun a o hne e => hx a o hne e, hnew, hsz, rfl, htk⟩
    · by_cases z : a = c'
      · subst z; rw [FZ.set_self] at e; cases e; exact g₂
      · rw [FZ.set_ne _ _ z] at e; exact hx _ _ (hPtb _ _ e) (S.sub _ _ e)
    · exact hx _ _ (fun z => by rw [z, H.tb] at e; cases e) (S.base _ _ e)
    · rw [FZ.set_ne _ _ (Ne.symm hctb)]; exact S.ptb
    · have hl2 : (ps ++ #[rawInt pos.line, rawInt pos.col, Value.ref c']).toList = ps.toList ++ [rawInt pos.line, rawInt pos.col, .ref c'] := by simp
      refine ⟨_, htab.2, by rw [hl2]; exact TriplesOk_snoc _ _ _ _ htr, fun v e => ?_, fun v e => ?_⟩
      · rw [hl2, among_snoc _ htr] at e
        cases z : codeAmong C.lp ps.toList with
        | some v' => rw [z] at e; cases e; exact (hl _ z).mono hle
        | none =>
          rw [z] at e
          rcases hpq with ⟨rfl, rfl⟩ | ⟨rfl, rfl⟩
          · by_cases b : sameAt C.lp C.lp = true
            · simp only [b, if_true] at e; cases e; exact hnew
            · simp only [b] at e; cases e
          · simp only [hne] at e; cases e
      · rw [hl2, among_snoc _ htr] at e
        cases z : codeAmong C.gp ps.toList with
        | some v' => rw [z] at e; cases e; exact (hgg _ z).mono hle
        | none =>
          rw [z] at e
          rcases hpq with ⟨rfl, rfl⟩ | ⟨rfl, rfl⟩
          · simp only [hne'] at e; cases e
          · by_cases b : sameAt C.gp C.gp = true
            · simp only [b, if_true] at e; cases e; exact hnew
            · simp only [b] at e; cases e
    · by_cases z : a = c'
      · subst z; exact .inr hn
      · rw [FZ.set_ne _ _ z] at e; exact .inl e
end
section
variable {C : Cx} {n : Nat} {Γ : Fx} {σ : St}
noncomputable def BMC (C : Cx) : Prop := ∃ bm ob, BMod C.hb mainGlobals C.mg bm ob
theorem cStatics_ne {h : Heap} {a : Addr} {ps : Array Value} (hl : h.NoLimit) (ht : h.get? a = some { cls := .none, data := .fields ps }) : cStatics ≠ a := fun e => by
  (refine elEA hl fun _ hns _ => ?_; clear hl)
  (refine elEEEAA hns fun o es ep ho hd _ => ?_; clear hns)
  rw [e, ht] at ho; cases ho; cases hd
noncomputable def EltS (C : Cx) (scope : Scope) (x : Str) (elt : Expr) (xs : List Txt) (f : Txt → Txt) : Prop :=
  ∀ (cenv : Env) (A' : Around) (E' : Value → Shared → Prop) (s₂ : Shared) (m₂ : Str → Option Value) (y : Txt) (t : Tok), cenv.scope = scope → A'.handled = none → y ∈ xs → 0 < s₂.toks → s₂.heap.Ns cenv.locals m₂ → m₂ x = some (.str ⟨y.toArray⟩ t) →
    wpAny (model C.prog C.w) A' (eval elt cenv) (fun v s₃ => (∃ u, v = .str ⟨(f y).toArray⟩ u) ∧ Keeps s₂ s₃) E' s₂
theorem genJoin {κ : FZ} {g : Gh} {s : Shared} {elt iter : Expr} {x : Str} {px : Pos} {scope : Scope} {pos : Pos} {d : D} {xs : List Txt} {f : Txt → Txt} {sep : Txt} {tsep : Tok} (H : C.Ok) (B : BMC C) (R : Rep C n Γ κ g σ s)
    (hiter : E C n Γ iter σ d) (S : Seqd σ d (xs.map .str)) (helt : EltS C scope x elt xs f) (hok : ((xs.map f).map (·.length)).sum + xs.length * sep.length ≤ 16777216) (hsz : xs.length ≤ sizeLine)
    (hcode : Γ.env.code = .ref C.cT) (hgp : pos = C.gp) (hgq : Γ.env.qual ++ "<genexpr>" = C.gq) (hne : sameAt C.lp C.gp = false) (hne' : sameAt C.gp C.lp = false)
    (hco : scope.isCoroutine = false) (hclos : closureFor scope Γ.env = pure []) (hcell : ∀ y ∈ scope.names, y.2 ≠ .cell) (h0 : scope.names.lookup (".0" : Str) = some NameKind.local)
    (hx : scope.names.lookup x = some .local) (hkind : scope.kind = .function) (hs : ∀ x, genFold iter Γ.env x = pure x) :
    wpAny (model C.prog C.w) Γ.A (eval (.GeneratorExp elt [⟨.Name x px, iter, [], 0⟩] scope pos) Γ.env) (fun v s₁ => wpAny (model C.prog C.w) Γ.A (call (.builtin "str.join") [.str ⟨sep.toArray⟩ tsep, v])
      (fun v s' => EP C n Γ κ g σ (fun g' => DV g'.P g'.cs (.str (pj sep (xs.map f))) v) s') (fun _ _ => False) s₁) (fun _ _ => False) s := by
  have hh := R.ok.room.1
  have hroom : Γ.A.depth < recursionLimit := by have := R.ok.room.2.1; exact Nat.lt_of_le_of_lt (Nat.le_add_right _ _) (by assumption)
  refine wpAny_GeneratorExp_make hco hclos hcell h0 hkind hroom (thn (hiter κ g s R) ?_) hs
  rintro v s₁ ⟨g₁, l₁, R₁, hv⟩
  (refine elEEAA (S.isList R₁ hv) fun l us z0 hl hd => ?_; subst z0)
  have hlt : l < s₁.heap.objs.size := by (refine elEA (id hl) fun _ e _ => ?_); exact Heap.lt_size e
  refine wpAny_pyIter_list hl ?_
  have R₂ := R₁.push { cls := .type "list_iterator", data := .fields #[.ref l, .int 0 0] } (t := s₁.toks)
  have hI : ({ s₁ with heap := s₁.heap.push { cls := .type "list_iterator", data := .fields #[.ref l, .int 0 0] } } : Shared).heap.IsListIter s₁.heap.objs.size l 0 := ⟨_, Heap.get?_push_size _ rfl, rfl, rfl⟩
  have hL : ({ s₁ with heap := s₁.heap.push { cls := .type "list_iterator", data := .fields #[.ref l, .int 0 0] } } : Shared).heap.IsList l us.toArray := hl.push _
  have k12 : ∀ b o, s₁.heap.get? b = some o → ({ s₁ with heap := s₁.heap.push { cls := .type "list_iterator", data := .fields #[.ref l, .int 0 0] } } : Shared).heap.get? b = some o := fun b o e => Heap.get?_push_of_some _ e
  have z12 : ({ s₁ with heap := s₁.heap.push { cls := .type "list_iterator", data := .fields #[.ref l, .int 0 0] } } : Shared).heap.objs.size = s₁.heap.objs.size + 1 := Heap.size_push ..
  have g12 : ({ s₁ with heap := s₁.heap.push { cls := .type "list_iterator", data := .fields #[.ref l, .int 0 0] } } : Shared).gens = s₁.gens := rfl
  have t12 : ({ s₁ with heap := s₁.heap.push { cls := .type "list_iterator", data := .fields #[.ref l, .int 0 0] } } : Shared).toks = s₁.toks := rfl
  replace R₂ : Rep C n Γ κ g₁ σ ({ s₁ with heap := s₁.heap.push { cls := .type "list_iterator", data := .fields #[.ref l, .int 0 0] } } : Shared) := R₂
  generalize ({ s₁ with heap := s₁.heap.push { cls := .type "list_iterator", data := .fields #[.ref l, .int 0 0] } } : Shared) = s₂ at *
  (refine elAAAA (R₁.fresh (Nat.le_refl s₁.heap.objs.size)) fun f1 f2 f3 f4 f5 => ?_)
  generalize hIdef : s₁.heap.objs.size = I at *
  refine ⟨H.lim.keeps R₂.sok.base, ?_⟩
  refine thn (codeStep H R₂.sok (.inr ⟨hgp, hgq⟩) hne hne' (fun ps c' Q E h1 h2 h3 => wpAny_genexprCode_hit hcode h1 h2 h3) (fun ps Q E h1 h2 h3 h4 => wpAny_genexprCodeX hcode h1 h2 h3 (fun c' h' tk a b c d e f _ => h4 c' h' tk a b c d e f))) ?_
  rintro code s₃ ⟨P₃, hP, S₃, hnew, hk₃, hco₃, hsz₃, hg₃, ht₃⟩
  (refine elEE B fun bm ob M => ?_; clear B)
  have M₃ := M.keeps S₃.base
  refine wpAny_builtinsFor (by rw [R.ok.glob]; exact M₃.ns) M₃.name M₃.ne M₃.obj M₃.cls M₃.dict M₃.data ?_
  intro h' hn' hs'
  have hz' : h'.objs.size = s₃.heap.objs.size + 1 := by rw [hs'.1, Heap.size_push]
  have k' : ∀ b o, s₃.heap.get? b = some o → h'.get? b = some o := fun b o e => hs'.extBut b o (Nat.ne_of_lt (Heap.lt_size e)) (Heap.get?_push_of_some _ e)
  have hIlt : I < s₃.heap.objs.size := by lia
  have hIl : l ≠ I := Nat.ne_of_lt hlt
  (refine elEAAA (R₂.sok.code H) fun ps₂ _ _ htb₂ _ => ?_)
  have hltb : l ≠ C.tb := fun z => by
    (refine elEAA hL fun o ho hc _ => ?_; clear hL)
    rw [z, htb₂] at ho; cases ho; cases hc
  (refine elEAAA (S₃.code H) fun ps₃ _ _ htb₃ _ => ?_)
  have hlim₃ := H.lim.keeps S₃.base
  have hcs : cStatics ≠ I := fun z => by
    have h1 : C.hb.get? I = none := by
      cases q : C.hb.get? I with
      | none => rfl
      | some o => have := R₁.sok.base _ _ q; rw [get_of_lt_none (h := s₁.heap) (a := I) (Nat.le_of_eq hIdef)] at this; cases this
    (refine elEA H.lim fun _ z1 _ => ?_; refine elEEEA z1 fun o _ _ ho _ => ?_; clear z1)
    rw [z, h1] at ho; cases ho
  have hcslt : cStatics < s₃.heap.objs.size := by (refine elEA hlim₃ fun _ hns _ => ?_; clear hlim₃); exact hns.lt
  have hgen : ∀ gv, (h'.push gv).IsList l us.toArray ∧ (h'.push gv).IsListIter I l 0 := by
    intro gv
    refine ⟨?_, ?_⟩
    · (refine elEA hL fun o ho r => ?_; clear hL)
      exact ⟨o, Heap.get?_push_of_some _ (k' _ _ (hk₃ _ _ hltb ho)), r⟩
    · (refine elEA hI fun o ho r => ?_; clear hI)
      exact ⟨o, Heap.get?_push_of_some _ (k' _ _ (hk₃ _ _ f4 ho)), r⟩
  generalize hgv : ({ cls := .type "generator", data := .fields #[.int s₃.gens.size 0, .str "<genexpr>" (s₃.toks + 1), .str (Γ.env.qual ++ "<genexpr>") (s₃.toks + 1 + 1)] } : Obj) = gv at *
  have hWalks : ∀ A' : Around, A'.handled = none → Walks C.prog C.w A' I (List.range s₃.heap.objs.size) [I] us.toArray.size (fun i v => us.toArray[i]? = some v) (fun i h => h.IsListIter I l i ∧ h.IsList l us.toArray) := fun A' hA =>
    (Walks.list hA I l hIl us.toArray).mono_fp fun b hb => by
      rcases List.mem_cons.mp hb with rfl | hb
      · exact List.mem_range.mpr hIlt
      · rcases List.mem_cons.mp hb with rfl | hb
        · exact List.mem_range.mpr (Nat.lt_trans hlt hIlt)
        · cases hb
  have hnl : us.toArray.size = xs.length := by rw [List.size_toArray, hd.length, List.length_map]
  have hat : ∀ (i : Nat) v, us.toArray[i]? = some v → ∃ t, i < xs.length ∧ v = .str ⟨(xs.getD i []).toArray⟩ t := fun i v e => by
    have e' : us[i]? = some v := by simpa using e
    (refine elEA (DVs.get' hd e') fun dd h1 h2 => ?_)
    rw [List.getElem?_map] at h1
    cases z : xs[i]? with
    | none => rw [z] at h1; cases h1
    | some y =>
      rw [z] at h1; cases h1
      obtain ⟨t, rfl⟩ := h2
      refine ⟨t, (List.getElem?_eq_some_iff.mp z).1, ?_⟩
      rw [List.getD_eq_getElem?_getD, z]; rfl
  have haf : h'.objs.size ∉ List.range s₃.heap.objs.size := fun hm => by have := List.mem_range.mp hm; simp_all +arith
  have haC : h'.objs.size ≠ s₃.heap.objs.size := by simp_all
  have hhA : Γ.A.in1.in1.handled = Option.none := hh
  have keep₅ : ∀ b o, s₃.heap.get? b = some o → (h'.push gv).get? b = some o := fun b o e => Heap.get?_push_of_some _ (k' b o e)
  have hcw : cStatics ∉ [I] := fun hm => by
    rcases List.mem_cons.mp hm with e | hm
    · exact hcs e
    · cases hm
  have hgs : (s₃.gens.push (GenState.fresh (Code.compStart (.GeneratorExp elt [⟨.Name x px, iter, [], 0⟩] scope pos) 0 (.ref I) .none (genEnv scope [] s₃.heap.objs.size code builtinsNs Γ.env))))[s₃.gens.size]? =
      some (GenState.fresh (Code.compStart (.GeneratorExp elt [⟨.Name x px, iter, [], 0⟩] scope pos) 0 (.ref I) .none (genEnv scope [] s₃.heap.objs.size code builtinsNs Γ.env))) := Array.getElem?_push_size ..
  have hElt : EltP C.prog C.w (genEnv scope [] s₃.heap.objs.size code builtinsNs Γ.env) x elt (fun i v => us.toArray[i]? = some v) (fun i y => ∃ u, y = .str ⟨(f (xs.getD i [])).toArray⟩ u) := by
    intro A' E' i v s₅ m₂ hA hP hpos hns hm
    (refine elEA (hat i v hP) fun t hi z2 => ?_; subst z2)
    exact helt _ A' E' s₅ m₂ (xs.getD i []) t rfl hA (by rw [List.getD_eq_getElem?_getD, List.getElem?_eq_getElem hi]; exact List.getElem_mem hi) hpos hns hm
  have W := walksP (prog := C.prog) (w := C.w) (A := Γ.A.in1.in1) hhA h'.objs.size s₃.gens.size s₃.heap.objs.size (List.range s₃.heap.objs.size) [I] us.toArray.size (fun i y => ∃ u, y = .str ⟨(f (xs.getD i [])).toArray⟩ u) haC haf
    (fun b hb => by
      rcases List.mem_cons.mp hb with rfl | hb
      · exact List.mem_range.mpr hIlt
      · cases hb) hroom (List.mem_range.mpr hcslt) (Nat.ne_of_lt hcslt) hcw
  have st := freshP (prog := C.prog) (w := C.w) (A := Γ.A.in1.in1) (elt := elt) (iter := iter) (x := x) (px := px) (scope := scope) (pos := pos) (cenv := genEnv scope [] s₃.heap.objs.size code builtinsNs Γ.env) (a := h'.objs.size) (g := s₃.gens.size) (m := fun y => if y = ".0" then some (.ref I) else none)
    (s := { s₃ with gens := s₃.gens.push (GenState.fresh (Code.compStart (.GeneratorExp elt [⟨.Name x px, iter, [], 0⟩] scope pos) 0 (.ref I) .none (genEnv scope [] s₃.heap.objs.size code builtinsNs Γ.env))), toks := s₃.toks + 1 + 1 + 1, heap := h'.push gv })
    hhA hWalks hx (by simp [genEnv, hkind]) hco (fun hm => Nat.lt_irrefl _ (List.mem_range.mp hm)) hElt (Nat.succ_pos _) (by subst hgv; exact ⟨_, _, _, Heap.get?_push_size _ rfl, rfl, rfl, rfl⟩) hgs ⟨(hgen gv).2, (hgen gv).1⟩ (hn'.push _) (hlim₃.keeps keep₅)
  refine of_toks (SC.joinGen W (fun i s hs => hs.1.typeIs) st (fun b hb => ?_) (List.mem_cons_self ..) (fun j v hv => let ⟨u, e⟩ := hv; ⟨_, u, e⟩) (fun s' lt hm hacc => ?_) (by rw [hnl]; exact hsz))
  · show b < (h'.push gv).objs.size
    rw [Heap.size_push, hz']
    rcases List.mem_cons.mp hb with rfl | hb
    · rw [hz']; exact Nat.lt_succ_self _
    · rcases List.mem_cons.mp hb with rfl | hb
      · exact Nat.lt_succ_of_lt (Nat.lt_succ_self _)
      · exact Nat.lt_succ_of_lt (Nat.lt_succ_of_lt (List.mem_range.mp hb))
  have hl2 : lt.map (·.1) = (xs.map f).map fun y => (⟨y.toArray⟩ : Str) := by
    apply List.ext_getElem?
    intro j
    have hlen : lt.length = xs.length := by have := hacc.1; rw [hnl] at this; simpa [strValues] using this
    by_cases hj : j < xs.length
    · have hj' : j < lt.length := hlen ▸ hj
      obtain ⟨u, hv⟩ := hacc.2 j (.str lt[j].1 lt[j].2) (by simp [strValues, List.getElem?_eq_getElem hj'])
      injection hv with h1 _
      rw [List.getElem?_map, List.getElem?_eq_getElem hj', List.getElem?_map, List.getElem?_map, List.getElem?_eq_getElem hj]
      show some lt[j].1 = some _
      rw [h1, List.getD_eq_getElem?_getD, List.getElem?_eq_getElem hj]; rfl
    · rw [List.getElem?_eq_none (by simpa [hlen] using Nat.le_of_not_lt hj), List.getElem?_eq_none (by simpa using Nat.le_of_not_lt hj)]
  rw [hl2]
  refine ⟨?_, fun t' k hk => ?_⟩
  · refine joinOk_of ?_
    rw [List.length_map, List.length_map, str_len, List.map_map]
    have : ((fun y : Str => y.length) ∘ fun x : Txt => (⟨x.toArray⟩ : Str)) = fun x : Txt => x.length := by funext x; exact str_len x
    rw [this]; exact hok
  · have hk : s₃.toks + 1 + 1 + 1 ≤ k := hk
    have hPI : P₃ I = none := by
      cases q : P₃ I with
      | none => rfl
      | some o =>
        rcases hnew _ _ q with e | e
        · rw [f1] at e; cases e
        · (refine elEA hI fun o' e' _ => ?_; clear hI); rw [e] at e'; cases e'
    have keepF : ∀ b o, b ≠ I → s₃.heap.get? b = some o → s'.heap.get? b = some o := fun b o hb e => hm.heap b o (fun q => by
      rcases List.mem_cons.mp q with z | q
      · exact absurd (Heap.lt_size e) (by rw [z]; exact Nat.lt_irrefl _)
      · rcases List.mem_cons.mp q with z | q
        · exact hb z
        · cases q) (keep₅ b o e)
    have SF : SOk C P₃ { s' with toks := k } := by
      refine ⟨fun b o e => keepF b o (fun z => ?_) (S₃.sub _ _ e), fun b o e => keepF b o (fun z => ?_) (S₃.base _ _ e), S₃.ptb, S₃.tab.step (.refl _) (fun o e => keepF _ o (Ne.symm f4) e), ?_, ?_, by show 0 < k; exact Nat.lt_of_le_of_lt (Nat.zero_le _) (by assumption)⟩
      · rw [z, hPI] at e; cases e
      · rw [z] at e; have := R₁.sok.base _ _ e; rw [get_of_lt_none (h := s₁.heap) (a := I) (Nat.le_of_eq hIdef)] at this; cases this
      · show AllBare s'.gens
        exact AllBare.movedS (s' := s') (s := { s₃ with gens := s₃.gens.push (GenState.fresh (Code.compStart (.GeneratorExp elt [⟨.Name x px, iter, [], 0⟩] scope pos) 0 (.ref I) .none (genEnv scope [] s₃.heap.objs.size code builtinsNs Γ.env))), toks := s₃.toks + 1 + 1 + 1, heap := h'.push gv }) (AllBare.push (gens := s₃.gens) (by rw [hg₃, g12]; exact R₁.sok.gens) rfl) hm
      · show s'.os = C.os
        rw [hm.os]; exact S₃.os
    obtain ⟨lF, RF⟩ := R₁.call SF hP (fun b o e => (hnew b o e).imp id fun q => by
        cases z : s₁.heap.get? b with
        | none => rfl
        | some o' => rw [k12 _ _ z] at q; cases q)
      (fun b o hb e => keepF b o (fun z => by rw [z, get_of_lt_none (h := s₁.heap) (a := I) (Nat.le_of_eq hIdef)] at e; cases e) (hk₃ _ _ hb (k12 _ _ e)))
    refine ⟨_, l₁.trans lF, RF, t', ?_⟩
    show Value.str (Txt.join _ _) t' = _
    unfold Txt.join
    rw [StrLaws.glued_eq_join, pj_str]
theorem E.joinGen {o : Expr} {apos pos : Pos} {elt iter : Expr} {x : Str} {px : Pos} {scope : Scope} {gpos : Pos} {d : D} {xs : List Txt} {f : Txt → Txt} {sep : Txt} (H : C.Ok) (B : BMC C) (ho : E C n Γ o σ (.str sep))
    (hiter : E C n Γ iter σ d) (S : Seqd σ d (xs.map .str)) (helt : EltS C scope x elt xs f) (hok : ((xs.map f).map (·.length)).sum + xs.length * sep.length ≤ 16777216) (hsz : xs.length ≤ sizeLine)
    (hcode : Γ.env.code = .ref C.cT) (hgp : gpos = C.gp) (hgq : Γ.env.qual ++ "<genexpr>" = C.gq) (hne : sameAt C.lp C.gp = false) (hne' : sameAt C.gp C.lp = false)
    (hco : scope.isCoroutine = false) (hclos : closureFor scope Γ.env = pure []) (hcell : ∀ y ∈ scope.names, y.2 ≠ .cell) (h0 : scope.names.lookup (".0" : Str) = some NameKind.local)
    (hx : scope.names.lookup x = some .local) (hkind : scope.kind = .function) (hs : ∀ x, genFold iter Γ.env x = pure x)
    (he : ∀ env, ∃ pl, eval (.Call (.Attribute o "join" apos) [.GeneratorExp elt [⟨.Name x px, iter, [], 0⟩] scope gpos] [] pos) env = (do
      let ov ← eval o env
      standAt apos.atName
      let (f, first) ← holding [ov] (getMethod ov "join" pl)
      callWith pos f first (backTo pos (starEach [.GeneratorExp elt [⟨.Name x px, iter, [], 0⟩] scope gpos] env)) []) := by intro _; exact ⟨_, by with_unfolding_all rfl⟩) :
    E C n Γ (.Call (.Attribute o "join" apos) [.GeneratorExp elt [⟨.Name x px, iter, [], 0⟩] scope gpos] [] pos) σ (.str (pj sep (xs.map f))) := by
  intro κ g s R
  obtain ⟨pl, he⟩ := he Γ.env
  refine MethodCall_ (thn (ho κ g s R) ?_) he
  rintro v s₁ ⟨g₁, l₁, R₁, t, rfl⟩
  refine gm_join (PP := g₁.P) (cs := g₁.cs) (x := sep) ⟨t, rfl⟩ ?_
  refine callWith_builtin (noStar_any rfl) (evalArgs_es rfl ?_)
  refine wpAny_items_cons (thn (genJoin (sep := sep) (tsep := t) H B R₁ hiter S helt hok hsz hcode hgp hgq hne hne' hco hclos hcell h0 hx hkind hs) ?_) rfl
  intro v s₂ hv
  refine wpAny_items_nil ?_
  refine thn hv ?_
  rintro v s' ⟨g', l', R', D'⟩
  exact ⟨g', l₁.trans l', R', D'⟩
end
section
open PySem.Sre
noncomputable def ampCode : List Nat := [14, 14, 4, 1, 1, 9, 0, 64, 0, 1342177280, 0, 0, 0, 0, 0, 17, 0, 13, 11, 9, 0, 64, 0, 1342177280, 0, 0, 0, 0, 0, 17, 1, 1]
noncomputable abbrev ampC : Array Nat := ampCode.toArray
noncomputable def isAmp (c : Nat) : Bool := c == 38 || c == 124 || c == 126
theorem amp_bits (b : Nat) (h : (b = 5 ∨ b = 19)) : ∀ c : Nat, (decide (c < 256) && (ampC.getD (b + (1 + c / 32)) 0).testBit (c % 32)) = isAmp c := by
  intro c
  by_cases hc : c < 256
  · have : ∀ c : Fin 256, (decide (c.val < 256) && (ampC.getD (b + (1 + c.val / 32)) 0).testBit (c.val % 32)) = isAmp c.val := by
      rcases h with rfl | rfl <;> decide +kernel
    exact this ⟨c, hc⟩
  · simp only [hc, decide_false, Bool.false_and, isAmp]
    have h1 : ¬ c = 38 := by lia
    have h2 : ¬ c = 124 := by lia
    have h3 : ¬ c = 126 := by lia
    simp [h1, h2, h3]
theorem inSet_amp (c : Nat) (b : Nat) (h : b = 5 ∨ b = 19) (seen : Sre.Seen) : ∃ seen', inSet ampC c 32 b true seen = .ok (isAmp c, seen') := by
  have hbit := amp_bits b h c
  have e : ∃ s1 s2, inSet ampC c 32 b true seen = if (decide (c < 256) && (ampC.getD (b + (1 + c / 32)) 0).testBit (c % 32)) = true then .ok (true, s1) else .ok (false, s2) := by
    rcases h with rfl | rfl <;> exact ⟨_, _, rfl⟩
  obtain ⟨s1, s2, e⟩ := e
  rw [e, hbit]
  cases isAmp c with
  | true => exact ⟨_, rfl⟩
  | false => exact ⟨_, rfl⟩
noncomputable def ampFrom (text : Array Nat) (lim : Nat) : Nat → Nat → Option Nat
  | 0, _ => none
  | f + 1, s => if s ≥ lim then none else if isAmp (text.getD s 0) then some s else ampFrom text lim f (s + 1)
theorem admitted_amp (m : M) (hc : m.code = ampC) : ∀ (fuel s : Nat) (seen : Sre.Seen), ∃ seen', M.admitted m fuel s seen = .ok (ampFrom m.text m.lim fuel s, seen')
  | 0, s, seen => ⟨seen, rfl⟩
  | f + 1, s, seen => by
    unfold M.admitted ampFrom
    by_cases h : s ≥ m.lim
    · rw [if_pos h, if_pos h]; exact ⟨_, rfl⟩
    · rw [if_neg h, if_neg h]
      obtain ⟨s1, e1⟩ := inSet_amp (m.text.getD s 0) 5 (.inl rfl) seen
      have e1' : inSet m.code (m.text.getD s 0) m.code.size 5 true seen = .ok (isAmp (m.text.getD s 0), s1) := by rw [hc]; exact e1
      rw [e1']
      cases hi : isAmp (m.text.getD s 0) with
      | true => exact ⟨_, rfl⟩
      | false =>
        obtain ⟨s2, e2⟩ := admitted_amp m hc f (s + 1) s1
        exact ⟨s2, e2⟩
theorem ampFrom_lt {text : Array Nat} {lim : Nat} : ∀ {f s i : Nat}, ampFrom text lim f s = some i → s ≤ i ∧ i < lim ∧ isAmp (text.getD i 0) = true
  | 0, _, _, h => by cases h
  | f + 1, s, i, h => by
    unfold ampFrom at h
    split at h
    · cases h
    · rename_i hs
      split at h
      · cases h; rename_i ha; exact ⟨Nat.le_refl _, by exact Nat.lt_of_not_le (by assumption), ha⟩
      · obtain ⟨h1, h2⟩ := ampFrom_lt h; exact ⟨by exact Nat.le_of_lt (by assumption), h2⟩
noncomputable def m0 (text : Array Nat) (start lim : Nat) (must : Bool) : M := { code := ampC, text, lim, start, pc := 15, pos := start, handed := start, marks := Array.replicate 2 none, mustAdvance := must, seen := ({} : Sre.Seen).add 14 }
noncomputable def m1 (text : Array Nat) (lim i : Nat) (seen : Sre.Seen) : M := { code := ampC, text, lim, start := i, lastStart := lim, pc := 15, pos := i, handed := i, marks := Array.replicate 2 none, mustAdvance := false, frames := [{ wait := .nextStart, pc := 15, pos := i, outermost := true }], weight := 1, seen }
theorem forSearch_eq (text : Array Nat) (start lim : Nat) (must : Bool) : forSearch ampC text 1 start lim must = if (decide (start > lim) || decide (lim - start < 1)) = true then (m0 text start lim must).say false else M.attemptFrom { m0 text start lim must with lastStart := lim } start true := rfl
noncomputable def mFail (text : Array Nat) (start lim : Nat) (must : Bool) (ls : Nat) (seen : Sre.Seen) : M := { m0 text start lim must with lastStart := ls, seen, answer := some false }
theorem from_some {m : M} {s i : Nat} {first : Bool} {seen : Sre.Seen} (h1 : m.hasFirstSet = true) (h2 : M.admitted m (m.lim + 1 - s) s m.seen = .ok (some i, seen)) : m.attemptFrom s first = M.attemptAt { m with mustAdvance := false, seen } i first := by
  unfold M.attemptFrom; rw [h1, h2]; rfl
theorem from_none {m : M} {s : Nat} {first : Bool} {seen : Sre.Seen} (h1 : m.hasFirstSet = true) (h2 : M.admitted m (m.lim + 1 - s) s m.seen = .ok (none, seen)) : m.attemptFrom s first = M.say { m with seen } false := by
  unfold M.attemptFrom; rw [h1, h2]; rfl
theorem search_none {text : Array Nat} {start lim : Nat} {must : Bool} (h : ampFrom text lim (lim + 1 - start) start = none) : ∃ ls seen, forSearch ampC text 1 start lim must = mFail text start lim must ls seen := by
  rw [forSearch_eq]
  split
  · exact ⟨_, _, rfl⟩
  · obtain ⟨s', e⟩ := admitted_amp { m0 text start lim must with lastStart := lim } rfl (lim + 1 - start) start (({} : Sre.Seen).add 14)
    have e2 : M.admitted { m0 text start lim must with lastStart := lim } (lim + 1 - start) start (({} : Sre.Seen).add 14) = .ok (none, s') := by rw [e]; exact congrArg (fun o => Except.ok (o, s')) h
    rw [from_none (m := { m0 text start lim must with lastStart := lim }) rfl e2]
    exact ⟨_, _, rfl⟩
theorem search_some {text : Array Nat} {start lim i : Nat} {must : Bool} (h : ampFrom text lim (lim + 1 - start) start = some i) : ∃ seen, forSearch ampC text 1 start lim must = m1 text lim i seen := by
  (refine elAA (ampFrom_lt h) fun h1 h2 h3 => ?_)
  rw [forSearch_eq, if_neg (by simp; lia)]
  obtain ⟨s', e⟩ := admitted_amp { m0 text start lim must with lastStart := lim } rfl (lim + 1 - start) start (({} : Sre.Seen).add 14)
  have e2 : M.admitted { m0 text start lim must with lastStart := lim } (lim + 1 - start) start (({} : Sre.Seen).add 14) = .ok (some i, s') := by rw [e]; exact congrArg (fun o => Except.ok (o, s')) h
  rw [from_some (m := { m0 text start lim must with lastStart := lim }) rfl e2]
  exact ⟨_, rfl⟩
theorem fail_run (text : Array Nat) (start lim : Nat) (must : Bool) (ls : Nat) (seen : Sre.Seen) : ((mFail text start lim must ls seen).runFor 4).outcome = some .failed := rfl
structure HitM (m : M) (i : Nat) : Prop where
  out : m.outcome = some .matched
  start : m.start = i
  handed : m.handed = i + 1
  marks : m.marks = #[some i, some (i + 1)]
  lastmark : m.lastmark = 1
  lastindex : m.lastindex = 1
theorem hit_run {text : Array Nat} {lim i : Nat} (seen : Sre.Seen) (hi : i < lim) (ha : isAmp (text.getD i 0) = true) : ((m1 text lim i seen).runFor 4).outcome = none ∧ HitM (((m1 text lim i seen).runFor 4).runFor 4) i := by
  have s1 : (m1 text lim i seen).step = { m1 text lim i seen with seen := seen.add 17, marks := #[some i, none], lastmark := 0, pc := 17 } := rfl
  obtain ⟨sn, e⟩ := inSet_amp (text.getD i 0) 19 (.inr rfl) ((seen.add 17).add 13)
  have s2 : M.step { m1 text lim i seen with seen := seen.add 17, marks := #[some i, none], lastmark := 0, pc := 17 } = { m1 text lim i seen with seen := sn, marks := #[some i, none], lastmark := 0, pc := 29, pos := i + 1 } := by
    show (if i ≥ lim then _ else match inSet ampC (text.getD i 0) 32 19 true ((seen.add 17).add 13) with | .error why => _ | .ok (false, seen) => _ | .ok (true, seen) => _) = _
    rw [if_neg (by exact Nat.not_le.mpr (by assumption)), e, ha]
    rfl
  have s3 : M.step { m1 text lim i seen with seen := sn, marks := #[some i, none], lastmark := 0, pc := 29, pos := i + 1 } = { m1 text lim i seen with seen := sn.add 17, marks := #[some i, some (i + 1)], lastmark := 1, lastindex := 1, pc := 31, pos := i + 1 } := by kernel_rfl
  have s4 : M.step { m1 text lim i seen with seen := sn.add 17, marks := #[some i, some (i + 1)], lastmark := 1, lastindex := 1, pc := 31, pos := i + 1 } = { m1 text lim i seen with seen := (sn.add 17).add 1, marks := #[some i, some (i + 1)], lastmark := 1, lastindex := 1, pc := 31, pos := i + 1, handed := i + 1, answer := some true } := rfl
  have r4 : (m1 text lim i seen).runFor 4 = { m1 text lim i seen with seen := (sn.add 17).add 1, marks := #[some i, some (i + 1)], lastmark := 1, lastindex := 1, pc := 31, pos := i + 1, handed := i + 1, answer := some true } := by
    show M.runFor 3 ((m1 text lim i seen).step) = _
    rw [s1]
    show M.runFor 2 (M.step { m1 text lim i seen with seen := seen.add 17, marks := #[some i, none], lastmark := 0, pc := 17 }) = _
    rw [s2]
    show M.runFor 1 (M.step { m1 text lim i seen with seen := sn, marks := #[some i, none], lastmark := 0, pc := 29, pos := i + 1 }) = _
    rw [s3]
    show M.step { m1 text lim i seen with seen := sn.add 17, marks := #[some i, some (i + 1)], lastmark := 1, lastindex := 1, pc := 31, pos := i + 1 } = _
    rw [s4]
  rw [r4]
  exact ⟨rfl, ⟨rfl, rfl, rfl, rfl, rfl, rfl⟩⟩
end
section
open PySem.Sre PySem.Builtin.Re
section
variable {M : Model} {A : Around} {E : Value → Shared → Prop} {s : Shared}
theorem rules_loop (b : Nat → Bool) (nm : Nat → String) : ∀ (l : List Nat) (Q : PUnit → Shared → Prop) (s : Shared), Q ⟨⟩ s →
    wpAny M A (forIn l PUnit.unit fun i r => if b i = true then do rule (nm i); pure (ForInStep.yield PUnit.unit) else pure (ForInStep.yield PUnit.unit)) Q E s
  | [], Q, s, h => by rw [List.forIn_nil]; exact wpAny_pure h
  | a :: l, Q, s, h => by
    rw [List.forIn_cons]
    refine wpAny_bind ?_
    split
    · exact wpAny_bind (wpAny_rule (wpAny_pure (rules_loop b nm l Q s h)))
    · exact wpAny_pure (rules_loop b nm l Q s h)
theorem drive_one {m : Sre.M} {k : Nat} {Q : Sre.M → Shared → Prop} (h1 : (m.runFor 4).outcome.isSome = true) (h : Q (m.runFor 4) s) : wpAny M A (reDrive (k + 1) m) Q E s := by
  show wpAny M A (if (m.runFor 4).outcome.isSome = true then pure (m.runFor 4) else _) Q E s
  rw [if_pos h1]; exact wpAny_pure h
theorem drive_two {m : Sre.M} {k : Nat} {Q : Sre.M → Shared → Prop} (h0 : (m.runFor 4).outcome = none) (h1 : ((m.runFor 4).runFor 4).outcome.isSome = true) (h : Q ((m.runFor 4).runFor 4) s) : wpAny M A (reDrive (k + 2) m) Q E s := by
  show wpAny M A (reDrive ((k + 1) + 1) m) Q E s
  show wpAny M A (if (m.runFor 4).outcome.isSome = true then pure (m.runFor 4) else do rule "sre.turn"; reDrive (k + 1) (m.runFor 4)) Q E s
  rw [h0, if_neg (by simp)]
  exact wpAny_bind (wpAny_rule (drive_one h1 h))
theorem pow64 : ∃ k, 2 ^ 64 = k + 2 := ⟨2 ^ 64 - 2, by rfl⟩
theorem toEnd_fail {m : Sre.M} {Q : Option Sre.M → Shared → Prop} (h0 : (m.runFor 4).outcome = some .failed) (h : Q none s) : wpAny M A (reRunToEnd m) Q E s := by
  unfold reRunToEnd
  obtain ⟨k, hk⟩ := pow64
  rw [hk]
  refine wpAny_bind (drive_one (k := k + 1) (by rw [h0]; rfl) ?_)
  refine wpAny_bind (rules_loop (fun i => (m.runFor 4).seen.has i) (fun i => Sre.names.getD i "") _ _ _ ?_)
  rw [h0]
  exact wpAny_pure h
theorem toEnd_hit {m : Sre.M} {Q : Option Sre.M → Shared → Prop} (h0 : (m.runFor 4).outcome = none) (h1 : ((m.runFor 4).runFor 4).outcome = some .matched) (h : Q (some ((m.runFor 4).runFor 4)) s) : wpAny M A (reRunToEnd m) Q E s := by
  unfold reRunToEnd
  obtain ⟨k, hk⟩ := pow64
  rw [hk]
  refine wpAny_bind (drive_two (k := k) h0 (by rw [h1]; rfl) ?_)
  refine wpAny_bind (rules_loop (fun i => ((m.runFor 4).runFor 4).seen.has i) (fun i => Sre.names.getD i "") _ _ _ ?_)
  rw [h1]
  exact wpAny_pure h
theorem nextFound {t : ReTarget} {start : Nat} {must : Bool} {Q : Option Sre.M → Shared → Prop} (hc : t.code = ampC) (hg : t.groups = 1) (h0 : ampFrom t.text t.lim (t.lim + 1 - start) start = none → Q none s)
    (h1 : ∀ i m, ampFrom t.text t.lim (t.lim + 1 - start) start = some i → HitM m i → Q (some m) s) : wpAny M A (reNextFound t start must) Q E s := by
  unfold reNextFound
  rw [hc, hg]
  cases h : ampFrom t.text t.lim (t.lim + 1 - start) start with
  | none =>
    (refine elEE (search_none (must := must) h) fun ls seen e => ?_)
    rw [e]
    exact toEnd_fail (fail_run _ _ _ _ _ _) (h0 h)
  | some i =>
    obtain ⟨seen, e⟩ := search_some (must := must) h
    rw [e]
    (refine elAA (ampFrom_lt h) fun _ q2 q3 => ?_)
    obtain ⟨r1, r2⟩ := hit_run (text := t.text) seen q2 q3
    exact toEnd_hit r1 r2.out (h1 i _ h r2)
end
end
section
open PySem.Sre PySem.Builtin.Re
theorem slot_match_group : Slot "re.Match" "group" "re.Match.group" :=
  .of (owner := "re.Match") (n := "group") (by rw [typeLookup_type, builtinLookup_eq_fast]; kernel_rfl) (by decide +kernel) (by decide +kernel) (by decide +kernel)
    (by first | exact .inl (by decide +kernel) | exact .inr (by decide +kernel)) (by rw [isSubtype_type]; kernel_rfl)
theorem slot_pattern_sub : Slot "re.Pattern" "sub" "re.Pattern.sub" :=
  .of (owner := "re.Pattern") (n := "sub") (by rw [typeLookup_type, builtinLookup_eq_fast]; kernel_rfl) (by decide +kernel) (by decide +kernel) (by decide +kernel)
    (by first | exact .inl (by decide +kernel) | exact .inr (by decide +kernel)) (by rw [isSubtype_type]; kernel_rfl)
theorem type_match_group : typeOf (.builtin "re.Match.group") = pure (.type "method_descriptor") := by show builtinType _ = _; rw [builtinType_eq_fast]; kernel_rfl
theorem type_pattern_sub : typeOf (.builtin "re.Pattern.sub") = pure (.type "method_descriptor") := by show builtinType _ = _; rw [builtinType_eq_fast]; kernel_rfl
theorem entry_match_group : entryFor table "re.Match.group" = some Builtin.«re.Match.group» := entryFor_of_tree (by kernel_rfl)
theorem entry_pattern_sub : entryFor table "re.Pattern.sub" = some Builtin.«re.Pattern.sub» := entryFor_of_tree (by kernel_rfl)
theorem entry_sub_loop : entryFor table "re.Pattern.sub.loop" = some Builtin.«re.Pattern.sub.loop» := entryFor_of_tree (by kernel_rfl)
theorem args_match_group (a b : Value) : argsOk "re.Match.group" ⟨[a, b], []⟩ := by unfold argsOk; kernel_rfl
theorem args_pattern_sub (a b c : Value) : argsOk "re.Pattern.sub" ⟨[a, b, c], []⟩ := by unfold argsOk; kernel_rfl
theorem plainAttrs_match : PlainAttrs "re.Match" := by
  first
    | exact ⟨⟨"object.__getattribute__", by rw [typeLookup_type, builtinLookup_eq_fast]; kernel_rfl, by decide +kernel⟩, by rw [typeLookup_type, builtinLookup_eq_fast]; kernel_rfl⟩
    | exact ⟨⟨"re.Match.__getattribute__", by rw [typeLookup_type, builtinLookup_eq_fast]; kernel_rfl, by decide +kernel⟩, by rw [typeLookup_type, builtinLookup_eq_fast]; kernel_rfl⟩
theorem plainAttrs_pattern : PlainAttrs "re.Pattern" := by
  first
    | exact ⟨⟨"object.__getattribute__", by rw [typeLookup_type, builtinLookup_eq_fast]; kernel_rfl, by decide +kernel⟩, by rw [typeLookup_type, builtinLookup_eq_fast]; kernel_rfl⟩
    | exact ⟨⟨"re.Pattern.__getattribute__", by rw [typeLookup_type, builtinLookup_eq_fast]; kernel_rfl, by decide +kernel⟩, by rw [typeLookup_type, builtinLookup_eq_fast]; kernel_rfl⟩
section
variable {prog : Program} {w : World} {A : Around} {E : Value → Shared → Prop} {s : Shared}
structure MatchAt (h : Heap) (m : Addr) (x : Str) (i : Nat) : Prop where
  rcd : ∃ o t lim li T pv sl, h.get? m = some ⟨.type "re.Match", none, .fields #[.str x t, pv, rawInt 0, lim, li, .ref T], sl⟩ ∧ h.get? T = some o ∧ ∃ n, o.data = .seq #[rawInt i, rawInt (i + 1 : Nat), rawInt i, rawInt (i + 1 : Nat)] n
theorem MatchAt.keeps {h h' : Heap} {m : Addr} {x : Str} {i : Nat} (M : MatchAt h m x i) (k : ∀ b o, h.get? b = some o → h'.get? b = some o) : MatchAt h' m x i := by
  (refine elEEEEEEE M.rcd fun o t lim li T pv sl z0 => ?_; refine elAA z0 fun h1 h2 h3 => ?_; clear z0)
  exact ⟨o, t, lim, li, T, pv, sl, k _ _ h1, k _ _ h2, h3⟩
theorem group_number {r : ReFound} {u : Tok} {Q : Nat → Shared → Prop} (h : r.spans.size = 4) (q : Q 1 s) : wpAny (model prog w) A (reGroupNumber r (.int 1 u)) Q E s := by
  unfold reGroupNumber
  refine wpAny_bind (wpAny_of_eq (a := some (1 : Int)) (by rfl) ?_)
  simp only [Option.isSome_some, if_true, h]
  refine wpAny_bind (wpAny_of_eq (a := (1 : Int)) (by rfl) ?_)
  exact wpAny_pure q
theorem call_group {m : Addr} {x : Str} {i : Nat} {u : Tok} {Q : Value → Shared → Prop} (M : MatchAt s.heap m x i) (hx : i + 1 ≤ x.length) (hxs : x.length ≤ sizeLine) (q : Q (.str ⟨x.cps.extract i (i + 1)⟩ s.toks) { s with toks := s.toks + 1 }) :
    wpAny (model prog w) A (call (.builtin "re.Match.group") [.ref m, .int 1 u]) Q E s := by
  (refine elEEEEEEE M.rcd fun o t lim li T pv sl z1 => ?_; refine elAA z1 fun h1 h2 z2 => ?_; clear z1; refine elE z2 fun n h3 => ?_; clear z2)
  refine wpAny_call_entry slot_match_group ⟨_, h1, rfl⟩ entry_match_group ?_ (args_match_group _ _)
  unfold Builtin.«re.Match.group»
  refine wpAny_bind (wpAny_of_eq (a := ()) (by rfl) ?_)
  show wpAny _ _ (do let r ← reFound (.ref m); ret (← reGroupText r (← reGroupNumber r (.int 1 u)) .none)) _ _ _
  refine wpAny_bind ?_
  unfold reFound
  refine wpAny_bind (wpAny_fieldsOf h1 rfl ?_)
  refine wpAny_bind ?_
  unfold reRawItems
  refine wpAny_bind (wpAny_seqItems h2 h3 ?_)
  have es : Array.map reRawOf #[rawInt (i : Int), rawInt ((i + 1 : Nat) : Int), rawInt (i : Int), rawInt ((i + 1 : Nat) : Int)] = #[(i : Int), ((i + 1 : Nat) : Int), (i : Int), ((i + 1 : Nat) : Int)] := by simp [reRawOf, rawInt]
  refine wpAny_pure (wpAny_pure ?_)
  simp only [Option.getD_some, es]
  refine wpAny_bind (group_number (by rfl) ?_)
  refine wpAny_bind ?_
  unfold reGroupText
  show wpAny _ _ (if (decide ((i : Int) < 0) || decide (((i + 1 : Nat) : Int) < 0)) = true then _ else do
    let (text, kind) ← reTextOf (.str x t)
    reSlice text kind (i : Int).toNat ((i + 1 : Nat) : Int).toNat) _ _ _
  rw [if_neg (by simp; exact Int.natCast_nonneg _)]
  refine wpAny_bind (wpAny_of_eq (a := (x.cps, 0)) (by rfl) ?_)
  show wpAny _ _ (reSlice x.cps 0 (i : Int).toNat ((i + 1 : Nat) : Int).toNat) _ _ _
  rw [Int.toNat_natCast, Int.toNat_natCast]
  show wpAny _ _ (mkStr ⟨x.cps.extract i (i + 1)⟩) _ _ _
  refine wpAny_mkStr (wpAny_pure ⟨_, rfl, q⟩) ?_
  show (x.cps.extract i (i + 1)).size ≤ sizeLine
  have : (x.cps.extract i (i + 1)).size ≤ 1 := by simp; lia
  have : (1 : Nat) ≤ sizeLine := by decide +kernel
  exact Nat.le_trans (by assumption) (by assumption)
end
end
section
open PySem.Sre PySem.Builtin.Re
noncomputable def lamFd (qual : Str) (params : Arguments) (body : Expr) (scope : Scope) (pm code : Value) : FuncData :=
  { name := "<lambda>", qualname := qual, params, body := .expr body, scope, globals := mainGlobals, closure := [], defaults := .none, kwdefaults := .none, doc := .none, pyModule := pm, annotations := none, code, closureTuple := .none, builtins := builtinsNs }
section
variable {prog : Program} {w : World} {A : Around} {E : Value → Shared → Prop} {s : Shared}
theorem codeExpr {R : Result → Shared → Prop} {e : Expr} {env : Env} (h : wpAny (model prog w) (A.deeper env) (eval e env) (fun v s' => R (.ok (.ret v)) s') (fun _ _ => False) s) : codeAny (model prog w) A (.expr e env) R s := by
  refine codeAny_of_tree ?_
  show wpAny _ (A.deeper env) (do point; ret (← (eval e env).onRaise (leaving env))) _ _ s
  exact wpAny_bind (wpAny_point (wpAny_bind (wpAny_onRaise (wpAny_mono h (fun v s' h' => wpAny_pure h') fun _ _ h' => h'.elim))))
theorem callExpr {a : Addr} {args : Args} {o : Obj} {fd : FuncData} {body : Expr} {binds : List (Str × Value)} {R : Result → Shared → Prop} (hroom : A.depth < recursionLimit) (ho : s.heap.get? a = some o)
    (hd' : o.data = .func fd) (hco : fd.scope.isCoroutine = false) (hgen : fd.scope.isGenerator = false) (hbody : fd.body = .expr body) (hcd : s.heap.CodeRec fd.code fd.qualname) (hlim : s.heap.NoLimit) (hbind : bindArgs fd args = pure binds)
    (hc : ∀ x ∈ fd.scope.names, x.2 ≠ .cell) (hl : ∀ x ∈ binds, fd.scope.names.lookup x.1 = some .local) (hk : fd.scope.kind = .function)
    (h : ∀ h', h'.Ns s.heap.objs.size (fun x => binds.reverse.lookup x) → (∀ b o, s.heap.get? b = some o → h'.get? b = some o) →
      codeAny (model prog w) A (.expr body (newEnv fd.scope s.heap.objs.size fd.globals fd.closure (fd.qualname ++ ".<locals>.") (some a) fd.code none fd.builtins)) R { s with heap := h', toks := s.toks + binds.length }) :
    codeAny (model prog w) A (.call (.ref a) args) R s := by
  refine codeAny_of_tree ?_
  refine wpAny_bind (wpAny_load (ho.trans (congrArg some (Obj.of2 rfl hd'))) ?_)
  show wpAny _ A.in1 (callFunction a fd args) _ _ s
  (refine elEEEE hcd fun c oc vs tq z0 => ?_; clear hcd; refine elAAA z0 fun hcc hoc hdc hq => ?_; clear z0)
  delta callFunction
  rw [hcc, hbind]
  refine wpAny_bind (m := field (.ref c) 1) (wpAny_field hoc hdc hq (wpAny_bind (wpAny_pure ?_)))
  refine wpAny_bind (wpAny_pure ?_)
  refine wpAny_bind (wpAny_newFunctionEnv hc hl (fun h' hns hsb => ?_) hk)
  have k' : ∀ b o, s.heap.get? b = some o → h'.get? b = some o := fun b o e => hsb.extBut b o (Nat.ne_of_lt (Heap.lt_size e)) (Heap.get?_push_of_some _ e)
  refine wpAny_bind (wpAny_enterFrame (hlim.keeps k') hroom ?_)
  rw [hbody, hgen, hco]
  refine wpAny_pure ⟨rfl, ?_⟩
  have := h h' hns k'
  rw [hcc] at this
  exact this
theorem lam_call {fn m : Addr} {o : Obj} {qual mv : Str} {params : Arguments} {scope : Scope} {pm code : Value} {bs es : Str} {k1 k2 k3 : Nat} {p1 pn pa p2 p3 p4 p5 p6 : Pos} {x : Str} {i c : Nat} {Q : Value → Shared → Prop}
    (ho : s.heap.get? fn = some o) (hd : o.data = .func (lamFd qual params (.BinOp (.Constant (.str bs) k1 p1) .Add (.BoolOp .Or [.Call (.Attribute (.Name mv pn) "group" pa) [.Constant (.int 1) k2 p2] [] p3, .Constant (.str es) k3 p4] p5) p6) scope pm code))
    (hbs : bs = ⟨#[92]⟩) (hcd : s.heap.CodeRec code qual) (hlim : s.heap.NoLimit) (hroom : A.depth < recursionLimit) (M : MatchAt s.heap m x i) (hx : x.length ≤ sizeLine) (hxc : x.cps.toList[i]? = some c)
    (hco : scope.isCoroutine = false) (hgen : scope.isGenerator = false) (hk : scope.kind = .function) (hcell : ∀ x ∈ scope.names, x.2 ≠ .cell) (hmv : scope.names.lookup mv = some .local) (hdb : (mv == ("__debug__" : Str)) = false)
    (hbind : ∀ v, bindArgs (lamFd qual params (.BinOp (.Constant (.str bs) k1 p1) .Add (.BoolOp .Or [.Call (.Attribute (.Name mv pn) "group" pa) [.Constant (.int 1) k2 p2] [] p3, .Constant (.str es) k3 p4] p5) p6) scope pm code) ⟨[v], []⟩ = pure [(mv, v)])
    (he : ∀ env, ∃ pl, eval (.Call (.Attribute (.Name mv pn) "group" pa) [.Constant (.int 1) k2 p2] [] p3) env = (do
      let ov ← eval (.Name mv pn) env
      standAt pa.atName
      let (f, first) ← holding [ov] (getMethod ov "group" pl)
      callWith p3 f first (backTo p3 (starEach [.Constant (.int 1) k2 p2] env)) []))
    (hQ : ∀ s' u, Keeps s s' → Q (.str ⟨#[92, c]⟩ u) s') : wpAny (model prog w) A (call (.ref fn) [.ref m]) Q E s := by
  refine wpAny_call (callExpr hroom ho hd hco hgen rfl hcd hlim (hbind _) hcell (fun y hy => by cases List.mem_singleton.mp hy; exact hmv) hk fun h' hns k' => codeExpr ?_)
  have hi : i + 1 ≤ x.length := (List.getElem?_eq_some_iff.mp hxc).1
  generalize henv : newEnv (lamFd qual params _ scope pm code).scope s.heap.objs.size _ _ _ _ _ _ _ = env
  have e1 : env.scope = scope := by subst henv; rfl
  have e2 : env.locals = s.heap.objs.size := by subst henv; rfl
  have hh' : h'.Ns env.locals (fun y => ([(mv, Value.ref m)] : List (Str × Value)).reverse.lookup y) := by rw [e2]; exact hns
  have hmm : (fun y => ([(mv, Value.ref m)] : List (Str × Value)).reverse.lookup y) mv = some (.ref m) := by simp
  obtain ⟨pl, he⟩ := he env
  refine wpAny_BinOp (wpAny_Constant_str ?_)
  refine BoolOp_or (MethodCall_ (wpAny_Name (wpAny_loadName_local (by rw [e1]; exact hk) (by rw [Env.kindOf, e1]; exact hmv) hh' hmm ?_) hdb) he)
  (refine elEEEEEEE ((M.keeps k').rcd) fun _ _ _ _ _ _ _ z1 => ?_; refine elAA z1 fun hm1 _ _ => ?_; clear z1)
  refine getMethod_builtin (T := "re.Match") (id := "re.Match.group") ⟨_, hm1, rfl⟩ plainAttrs_match slot_match_group type_match_group (fun a e => by cases e; exact ⟨_, hm1, rfl⟩) ?_
  refine callWith_builtin (noStar_any rfl) (evalArgs_es rfl ?_)
  refine wpAny_items_cons (wpAny_Constant_int ?_) rfl
  refine wpAny_items_nil ?_
  refine call_group (M.keeps k') hi hx ?_
  have hext : (⟨x.cps.extract i (i + 1)⟩ : Str) = ⟨#[c]⟩ := by
    have : x.cps.extract i (i + 1) = #[c] := by
      apply Array.ext'
      rw [Array.toList_extract]
      obtain ⟨h1, h2⟩ := List.getElem?_eq_some_iff.mp hxc
      rw [List.extract_eq_drop_take, List.drop_eq_getElem_cons h1, h2]
      simp
    rw [this]
  rw [hext]
  refine SBL.truthy (show ((1 : Nat) : Int) < 9223372036854775808 by decide) ?_
  have ht : (((⟨#[c]⟩ : Str).length : Int) != 0) = true := by rfl
  rw [ht]
  show wpAny _ _ (binaryOp .Add (.str bs _) (.str ⟨#[c]⟩ _)) _ _ _
  subst hbs
  refine add_str (fun t' tk => ?_) (by show 1 + 1 ≤ sizeLine; decide +kernel)
  exact hQ _ t' ⟨h', tk, rfl, k'⟩
end
end
section
open PySem.Sre PySem.Builtin.Re
noncomputable def pAmp (x : List Nat) : List Nat := x.flatMap fun c => if isAmp c = true then [92, c] else [c]
theorem pAmp_free : ∀ l : List Nat, (∀ c ∈ l, isAmp c = false) → pAmp l = l
  | [], _ => rfl
  | k :: r, h => by
    have h1 := h k (.head _)
    have := pAmp_free r fun c hc => h c (.tail _ hc)
    unfold pAmp at this ⊢
    rw [List.flatMap_cons, this, h1]; rfl
theorem pAmp_append (a b : List Nat) : pAmp (a ++ b) = pAmp a ++ pAmp b := by simp [pAmp]
theorem ampFrom_none {text : Array Nat} {lim : Nat} : ∀ {f s : Nat}, ampFrom text lim f s = none → ∀ j, s ≤ j → j < lim → j < s + f → isAmp (text.getD j 0) = false
  | 0, s, _, j, h1, _, h3 => by exact absurd (by assumption) (Nat.not_lt.mpr (by assumption))
  | f + 1, s, h, j, h1, h2, h3 => by
    unfold ampFrom at h
    split at h
    · lia
    · split at h
      · cases h
      · rename_i ha
        by_cases e : s = j
        · subst e; simpa using ha
        · exact ampFrom_none h j (by lia) h2 (by simp_all +arith)
theorem ampFrom_before {text : Array Nat} {lim : Nat} : ∀ {f s i : Nat}, ampFrom text lim f s = some i → ∀ j, s ≤ j → j < i → isAmp (text.getD j 0) = false
  | 0, s, i, h, j, _, _ => by cases h
  | f + 1, s, i, h, j, h1, h2 => by
    unfold ampFrom at h
    split at h
    · cases h
    · split at h
      · cases h; exact absurd (by assumption) (Nat.not_lt.mpr (by assumption))
      · rename_i ha
        by_cases e : s = j
        · subst e; simpa using ha
        · exact ampFrom_before h j (by lia) h2
noncomputable def SameElse (L : Addr) (s s' : Shared) : Prop := ∃ h' tk, s' = { s with heap := h', toks := tk } ∧ ∀ b o, b ≠ L → s.heap.get? b = some o → h'.get? b = some o
theorem SameElse.refl (L : Addr) (s : Shared) : SameElse L s s := ⟨_, _, rfl, fun _ _ _ e => e⟩
theorem SameElse.trans {L : Addr} {s s' s'' : Shared} (x : SameElse L s s') (y : SameElse L s' s'') : SameElse L s s'' := by
  (refine elEEA x fun h t z0 h1 => ?_; clear x; subst z0)
  (refine elEEA y fun h' t' z1 h2 => ?_; clear y; subst z1)
  exact ⟨h', t', rfl, fun b o hb e => h2 b o hb (h1 b o hb e)⟩
theorem SameElse.of {L : Addr} {s s' : Shared} (x : Keeps s s') : SameElse L s s' := by
  (refine elEEA x fun h t z2 h1 => ?_; clear x; subst z2)
  exact ⟨h, t, rfl, fun b o _ e => h1 b o e⟩
structure PatAt (h : Heap) (L p : Addr) : Prop where
  is : ∃ fs T ws n sl d oT, h.get? p = some ⟨.type "re.Pattern", d, .fields fs, sl⟩ ∧ fs.getD 5 .none = .ref T ∧ reRawNat (fs.getD 2 .none) = 1 ∧ reRawNat (fs.getD 6 .none) = 0 ∧ h.get? T = some oT ∧ oT.data = .seq ws n ∧ (ws.map reRawOf).map (·.toNat) = ampC ∧ p ≠ L ∧ T ≠ L
theorem PatAt.keeps {h h' : Heap} {L p : Addr} (P : PatAt h L p) (k : ∀ b o, b ≠ L → h.get? b = some o → h'.get? b = some o) : PatAt h' L p := by
  (refine elEEEEEEE P.is fun fs T ws n sl d oT z3 => ?_; refine elAAAAAAAA z3 fun h1 h2 h3 h4 h5 h6 h7 h8 h9 => ?_; clear z3)
  exact ⟨fs, T, ws, n, sl, d, oT, k _ _ h8 h1, h2, h3, h4, k _ _ h9 h5, h6, h7, h8, h9⟩
section
variable {prog : Program} {w : World}
noncomputable def LamDoes (prog : Program) (w : World) (L : Addr) (h : Heap) (fn : Addr) : Prop := ∀ (A : Around) (E : Value → Shared → Prop) (s : Shared) (m : Addr) (x : Str) (i c : Nat) (Q : Value → Shared → Prop), (∀ b o, b ≠ L → h.get? b = some o → s.heap.get? b = some o) → A.depth < recursionLimit →
  MatchAt s.heap m x i → x.length ≤ sizeLine → x.cps.toList[i]? = some c → (∀ s' u, Keeps s s' → Q (.str ⟨#[92, c]⟩ u) s') → wpAny (model prog w) A (call (.ref fn) [.ref m]) Q E s
noncomputable def ampT (p : Addr) (x : Str) (t : Tok) : ReTarget := { pattern := .ref p, string := .str x t, code := ampC, text := x.cps, kind := 0, groups := 1, pos := 0, lim := x.cps.size }
theorem wholeTarget {A : Around} {E : Value → Shared → Prop} {s : Shared} {L p : Addr} {x : Str} {t : Tok} {Q : ReTarget → Shared → Prop} (P : PatAt s.heap L p) (q : Q (ampT p x t) s) : wpAny (model prog w) A (reWholeTarget (.ref p) (.str x t)) Q E s := by
  (refine elEEEEEEE P.is fun fs T ws n sl d oT z4 => ?_; refine elAAAAAAAA z4 fun h1 h2 h3 h4 h5 h6 h7 h8 h9 => ?_; clear z4)
  refine wpAny_bind (wpAny_fieldsOf h1 rfl ?_)
  refine wpAny_bind (wpAny_of_eq (a := (x.cps, 0)) (by rfl) ?_)
  simp only [h4]
  have e1 : ((0 : Nat) == 0 && (0 : Nat) == 1) = false := rfl
  have e2 : ((0 : Nat) == 1 && (0 : Nat) == 0) = false := rfl
  refine wpAny_bind (wpAny_of_eq (a := ()) (by rfl) ?_)
  rw [h2, h3]
  refine wpAny_bind (wpAny_bind (wpAny_seqItems h5 h6 (wpAny_pure (wpAny_pure ?_))))
  simp only [Option.getD_some, h7]
  exact q
end
end
section
open PySem.Sre PySem.Builtin.Re
section
variable {prog : Program} {w : World} {A : Around} {E : Value → Shared → Prop} {s : Shared}
theorem push_piece {L : Addr} {vs : List Value} {v : Value} {Q : Unit → Shared → Prop} (hl : PlainL s.heap L vs.toArray) (hsz : vs.length ≤ sizeLine)
    (h : ∀ s', SameElse L s s' → PlainL s'.heap L (vs ++ [v]).toArray → Q () s') : wpAny (model prog w) A (updateSeq L (·.push v)) Q E s := by
  (refine elEEAAA (id hl) fun o n ho hc hdn hd => ?_)
  obtain ⟨n', hd'⟩ := Obj.data_mapSeq hd (·.push v)
  refine wpAny_updateSeq ho hd ?_ (by rw [List.size_toArray]; exact hsz) (by rw [Array.size_push, List.size_toArray]; exact Nat.succ_le_succ (by assumption))
  refine h _ ⟨_, _, rfl, fun b o hb e => (Heap.SameBut.update ..).extBut b o hb e⟩ ?_
  refine ⟨_, n', Heap.get?_update_self _ ho (Obj.isFreed_of_seq hd'), (Obj.cls_mapSeq ..).trans hc, ?_, by rw [hd']; simp⟩
  obtain ⟨c, d, dt, sl⟩ := o
  simp only at hd; subst hd
  exact hdn
theorem new_match {p : Addr} {x : Str} {t : Tok} {m : Sre.M} {i : Nat} {Q : Value → Shared → Prop} (H : HitM m i) (h : ∀ a s', Keeps s s' → MatchAt s'.heap a x i → Q (.ref a) s') :
    wpAny (model prog w) A (reNewMatch (.ref p) (.str x t) 1 0 x.cps.size m) Q E s := by
  unfold reNewMatch
  have e0 : m.marks.getD 0 none = some i := by rw [H.marks]; rfl
  have e1 : m.marks.getD 1 none = some (i + 1) := by rw [H.marks]; rfl
  have c1 : ((2 * 0 + 1 : Nat) : Int) ≤ m.lastmark := by rw [H.lastmark]; decide
  have l1 : List.range 1 = [0] := by decide
  simp only [l1, List.flatMap_cons, List.flatMap_nil, List.append_nil, List.any_cons, List.any_nil, Bool.or_false, Nat.mul_zero, Nat.zero_add, e0, e1]
  have c2 : (((1 : Nat) : Int) ≤ m.lastmark) := c1
  simp only [c2, if_true, decide_true, Bool.true_and]
  rw [if_neg (by simp)]
  refine wpAny_bind ?_
  simp only [H.start, H.handed, newTuple]
  refine wpAny_newObj_type ?_ (by show 4 ≤ sizeLine; decide +kernel)
  unfold newFields
  refine wpAny_newObj_type ?_ (by show 6 ≤ sizeLine + 2; decide +kernel)
  refine h _ _ ⟨_, _, rfl, fun b o e => Heap.get?_push_of_some _ (Heap.get?_push_of_some _ e)⟩ ⟨⟨_, t, _, _, _, _, _, Heap.get?_push_size _ rfl, Heap.get?_push_of_some _ (Heap.get?_push_size _ rfl), _, rfl⟩⟩
theorem isNone_str {x : Str} {t : Tok} : (Value.str x t != Value.none) = true := by rfl
theorem plain_loop : plainId "re.Pattern.sub.loop" = true := by decide +kernel
theorem extract_list (x : Str) (a b : Nat) : (⟨x.cps.extract a b⟩ : Str).cps.toList = (x.cps.toList.drop a).take (b - a) := by
  show (x.cps.extract a b).toList = _
  rw [Array.toList_extract, List.extract_eq_take_drop]
noncomputable abbrev sOf (y : List Nat) : Str := ⟨y.toArray⟩
theorem sub_end {x : Str} {L : Addr} {vs : List Value} {ys : List (List Nat)} {Q : PySem.Fin → Shared → Prop} (hpl : PlainL s.heap L vs.toArray) (hst : StrsAre vs (ys.map sOf)) (hys : (ys.map (·.length)).sum ≤ 2 ^ 22)
    (h : ∀ s' u, SameElse L s s' → Q (.done (.ret (.str ⟨ys.flatten.toArray⟩ u))) s') :
    wpAny (model prog w) A (do
      let joiner ← reSlice x.cps 0 0 0
      let it ← seqItems? (.ref L)
      if (it.getD #[]).isEmpty = true then do
        let v ← pure joiner
        ret v
      else do
        let v ← call (.builtin (if ((0 : Nat) == 0) = true then "str.join" else "bytes.join")) [joiner, .ref L]
        ret v) Q E s := by
  have e0 : (x.cps.extract 0 0) = ([] : List Nat).toArray := by simp
  refine wpAny_bind ?_
  show wpAny _ _ (mkStr ⟨x.cps.extract 0 0⟩) _ _ _
  rw [e0]
  refine wpAny_mkStr ?_ (by show 0 ≤ sizeLine; exact Nat.zero_le _)
  (refine elEEAAA (id hpl) fun o n ho hc hdn hd => ?_)
  refine wpAny_bind (wpAny_seqItems ho hd ?_)
  simp only [Option.getD_some]
  have hvl := hst.length
  rw [List.length_map] at hvl
  cases vs with
  | nil =>
    cases ys with
    | nil => exact wpAny_bind (wpAny_pure (wpAny_pure (h _ _ ⟨_, _, rfl, fun _ _ _ e => e⟩)))
    | cons _ _ => simp at hvl
  | cons v vs =>
    have e1 : ((v :: vs).toArray).isEmpty = false := by rfl
    rw [if_neg (by exact of_decide_eq_false (by assumption))]
    refine wpAny_bind ?_
    show wpAny _ _ (call (.builtin "str.join") [.str ⟨([] : List Nat).toArray⟩ _, .ref L]) _ _ _
    refine PyProof.Rows.join_list (ys := ys.map sOf) (items := (v :: vs).toArray) hpl.isList hst ?_ fun t' k => ?_
    · rw [List.map_map, List.length_map, str_len]
      have : ((fun y : Str => y.length) ∘ sOf) = fun x : Txt => x.length := by funext x; exact str_len x
      rw [this]
      exact Nat.le_trans (Nat.le_of_eq (by simp)) (Nat.le_trans hys (by decide))
    · refine wpAny_pure ?_
      have e2 : Txt.join (⟨([] : List Nat).toArray⟩ : Str) (ys.map sOf) = ⟨ys.flatten.toArray⟩ := by
        unfold Txt.join
        rw [StrLaws.glued_eq_join, pj_str, pj_nil]
      rw [e2]
      exact h _ _ ⟨_, _, rfl, fun _ _ _ e => e⟩
theorem mkSlice {x : Str} {a b : Nat} {Q : Value → Shared → Prop} (hx : x.cps.size ≤ 2 ^ 20) (h : ∀ tk u, Q (.str (sOf ((x.cps.toList.drop a).take (b - a))) u) { s with toks := tk }) : wpAny (model prog w) A (reSlice x.cps 0 a b) Q E s := by
  show wpAny _ _ (mkStr ⟨x.cps.extract a b⟩) _ _ _
  have e : (⟨x.cps.extract a b⟩ : Str) = sOf ((x.cps.toList.drop a).take (b - a)) := by
    have := extract_list x a b
    unfold sOf
    rw [← this]
  rw [e]
  refine wpAny_mkStr (h _ _) ?_
  rw [str_len, List.length_take, List.length_drop]
  exact Nat.le_trans (Nat.min_le_right _ _) (Nat.le_trans (Nat.sub_le _ _) (Nat.le_trans hx (by decide +kernel)))
theorem wpAny_under {M : Model} {A A' : Around} {α : Type} {t : Sem α} {Q : α → Shared → Prop} {E : Value → Shared → Prop} {s : Shared} (e : A' = A) (h : wpAny M A t Q E s) : wpAny M A' t Q E s := e ▸ h
theorem sub_loop {x : Str} {t : Tok} (hx : x.cps.size ≤ 2 ^ 20) {p fn L : Addr} {h₀ : Heap} (hp : PatAt h₀ L p) (hl : LamDoes prog w L h₀ fn) : ∀ (k d : Nat), x.cps.size - d < k → d ≤ x.cps.size → ∀ (A : Around) (R : Result → Shared → Prop) (s : Shared) (n : Int) (vs : List Value) (ys : List (List Nat)),
    A.depth < recursionLimit → (∀ b o, b ≠ L → h₀.get? b = some o → s.heap.get? b = some o) → PlainL s.heap L vs.toArray → StrsAre vs (ys.map sOf) → ys.length ≤ 2 * d → (ys.map (·.length)).sum ≤ 2 * d →
    (∀ s' u, SameElse L s s' → R (.ok (.ret (.str ⟨(ys.flatten ++ pAmp (x.cps.toList.drop d)).toArray⟩ u))) s') →
    codeAny (model prog w) A (.builtin "re.Pattern.sub.loop" ⟨[.ref p, .str x t, .ref fn, rawInt 1, rawInt 0, rawInt n, rawInt d, rawInt d, .bool false, .ref L, .bool false], []⟩) R s := by
  have hsz : sizeLine = 2 ^ 24 := rfl
  intro k
  induction k with
  | zero =>
    intro d hk; exact absurd (by assumption) (Nat.not_lt_zero _)
  | succ k ih =>
    intro d hk hd A R s n vs ys hroom hkeep hpl hst hyl hys hR
    have hvl := hst.length
    rw [List.length_map] at hvl
    refine codeAny_builtin entry_sub_loop ?_
    refine wpAny_under (Around.under_plainId plain_loop _) ?_
    refine wpAny_bind (wholeTarget (hp.keeps hkeep) ?_)
    refine wpAny_ite_false (by rfl) ?_
    refine wpAny_bind (wpAny_ite_false (by rfl) ?_)
    show wpAny _ _ (Builtin.Re.reNextFound (ampT p x t) d false) _ _ _
    refine (nextFound (t := ampT p x t) rfl rfl (fun hn => ?_) fun i m hi H => ?_)
    · have hfree : pAmp (x.cps.toList.drop d) = x.cps.toList.drop d := pAmp_free _ fun c hc => by
        obtain ⟨j, hj⟩ := List.getElem?_of_mem hc
        rw [List.getElem?_drop] at hj
        obtain ⟨h1, h2⟩ := List.getElem?_eq_some_iff.mp hj
        have h1' : d + j < x.cps.size := h1
        have := ampFrom_none hn (d + j) (by exact Nat.le_add_right _ _) h1' (by show d + j < d + (x.cps.size + 1 - d); lia)
        rw [← h2]
        have e : (ampT p x t).text.getD (d + j) 0 = x.cps.toList[d + j] := by
          show x.cps.getD (d + j) 0 = _
          simp [Array.getD, h1']
        rw [← e]; exact this
      rw [hfree] at hR
      show wpAny _ _ (if d < x.cps.size then _ else _) _ _ _
      split
      · rename_i hlt
        refine wpAny_bind (mkSlice hx fun tk₁ u₁ => ?_)
        refine wpAny_bind (push_piece (vs := vs) hpl (by lia) fun s₂ k₂ hpl₂ => ?_)
        have hlen : ((x.cps.toList.drop d).take (x.cps.size - d)).length = x.cps.size - d := by
          rw [List.length_take, List.length_drop]
          have : x.cps.toList.length = x.cps.size := rfl
          simp
        refine sub_end (ys := ys ++ [(x.cps.toList.drop d).take (x.cps.size - d)]) hpl₂ (by rw [List.map_append]; exact hst.append' (.cons _ _ .nil)) ?_ fun s' u k' => ?_
        · rw [List.map_append, List.sum_append, List.map_singleton, List.sum_singleton, hlen]; grind
        · have k₁ : SameElse L s { s with toks := tk₁ } := ⟨_, _, rfl, fun _ _ _ e => e⟩
          have := hR s' u ((k₁.trans k₂).trans k')
          rw [List.flatten_append, List.flatten_singleton, List.take_of_length_le (by rw [List.length_drop]; exact Nat.le_refl _)]
          exact this
      · rename_i hge
        refine sub_end hpl hst (by lia) fun s' u k' => ?_
        have := hR s' u k'
        rw [List.drop_of_length_le (by show x.cps.size ≤ d; exact Nat.le_of_not_lt (by assumption)), List.append_nil] at this
        exact this
    · (refine elAA (ampFrom_lt hi) fun hi1 hi2 hi3 => ?_)
      have hi2 : i < x.cps.size := hi2
      have hbef := ampFrom_before hi
      have hgetD : ∀ j (hj : j < x.cps.size), (ampT p x t).text.getD j 0 = x.cps.toList[j]'hj := fun j hj => by
        show x.cps.getD j 0 = _
        simp [Array.getD, hj]
      have hci : x.cps.toList[i]? = some (x.cps.toList[i]'hi2) := List.getElem?_eq_getElem hi2
      have hamp : isAmp (x.cps.toList[i]'hi2) = true := by rw [← hgetD i hi2]; exact hi3
      have hsplit : pAmp (x.cps.toList.drop d) = (x.cps.toList.drop d).take (i - d) ++ ([92, x.cps.toList[i]'hi2] ++ pAmp (x.cps.toList.drop (i + 1))) := by
        have h1 : x.cps.toList.drop d = (x.cps.toList.drop d).take (i - d) ++ (x.cps.toList.drop d).drop (i - d) := (List.take_append_drop _ _).symm
        have h2 : (x.cps.toList.drop d).drop (i - d) = x.cps.toList[i]'hi2 :: x.cps.toList.drop (i + 1) := by
          rw [List.drop_drop, show d + (i - d) = i by lia, List.drop_eq_getElem_cons hi2]
        conv => lhs; rw [h1, h2]
        rw [pAmp_append]
        congr 1
        · refine pAmp_free _ fun c hc => ?_
          obtain ⟨j, hj⟩ := List.getElem?_of_mem hc
          rw [List.getElem?_take] at hj
          split at hj
          · rename_i hlt
            rw [List.getElem?_drop] at hj
            obtain ⟨q1, q2⟩ := List.getElem?_eq_some_iff.mp hj
            have := hbef (d + j) (by exact Nat.le_add_right _ _) (by lia)
            rw [hgetD _ q1, q2] at this
            exact this
          · cases hj
        · show pAmp ([x.cps.toList[i]'hi2] ++ _) = _
          rw [pAmp_append]
          congr 1
          show (if isAmp (x.cps.toList[i]'hi2) = true then [92, x.cps.toList[i]'hi2] else [x.cps.toList[i]'hi2]) ++ [] = _
          rw [if_pos hamp]; rfl
      simp only [H.start, H.handed]
      have eb : (i + 1 == i) = false := by simp
      simp only [eb]
      have tail : ∀ (s₁ : Shared) (vs₁ : List Value) (ys₁ : List (List Nat)), SameElse L s s₁ → PlainL s₁.heap L vs₁.toArray → StrsAre vs₁ (ys₁.map sOf) → ys₁.length ≤ 2 * d + 1 → (ys₁.map (·.length)).sum ≤ 2 * d + (i - d) → ys₁.flatten = ys.flatten ++ (x.cps.toList.drop d).take (i - d) →
          wpAny (model prog w) A.in1 (do
            let found ← reNewMatch (Value.ref p) (Value.str x t) (ampT p x t).groups 0 (ampT p x t).lim m
            let item ← holding [found] (if ((1 : Int) == 1) = true then call (Value.ref fn) [found] else do reExpand (Value.ref fn) (← reFound found))
            if (item != Value.none) = true then do
              updateSeq L fun x => x.push item
              again (Code.builtin "re.Pattern.sub.loop" { pos := [Value.ref p, Value.str x t, Value.ref fn, Value.int 1 0, Value.int 0 0, Value.int (n + 1) 0, Value.int ((i + 1 : Nat) : Int) 0, Value.int ((i + 1 : Nat) : Int) 0, Value.bool false, Value.ref L, Value.bool false] })
            else
              again (Code.builtin "re.Pattern.sub.loop" { pos := [Value.ref p, Value.str x t, Value.ref fn, Value.int 1 0, Value.int 0 0, Value.int (n + 1) 0, Value.int ((i + 1 : Nat) : Int) 0, Value.int ((i + 1 : Nat) : Int) 0, Value.bool false, Value.ref L, Value.bool false] }))
          (fun fin s' => match fin with | .done f => R (.ok f) s' | .again c' => c'.quiet = true ∧ codeAny (model prog w) A c' R s') (fun e s' => R (.error e) s') s₁ := by
        intro s₁ vs₁ ys₁ k₁ hpl₁ hst₁ hyl₁ hys₁ hfl₁
        have hvl₁ := hst₁.length
        rw [List.length_map] at hvl₁
        refine wpAny_bind (new_match H fun a s₂ k₂ hM => ?_)
        have k₂' := SameElse.of (L := L) k₂
        refine wpAny_bind (wpAny_holding ?_)
        show wpAny _ _ (call (Value.ref fn) [.ref a]) _ _ _
        have hk2 : ∀ b o, b ≠ L → h₀.get? b = some o → s₂.heap.get? b = some o := fun b o hb e => by
          (refine elEEA (k₁.trans k₂') fun h' tk z0 hh => ?_; subst z0)
          exact hh b o hb (hkeep b o hb e)
        refine hl A.in1 _ s₂ a x i _ _ hk2 hroom hM (by show x.cps.size ≤ sizeLine; exact Nat.le_trans (by assumption) (by decide)) hci fun s₃ u k₃ => ?_
        rw [if_pos isNone_str]
        have k₃' := SameElse.of (L := L) k₃
        have hpl₃ : PlainL s₃.heap L vs₁.toArray := by
          (refine elEEA k₂ fun h' tk z1 hh => ?_; clear k₂; subst z1)
          (refine elEEA k₃ fun h'' tk' z2 hh' => ?_; clear k₃; subst z2)
          exact hpl₁.keeps fun b o e => hh' b o (hh b o e)
        refine wpAny_bind (push_piece (vs := vs₁) hpl₃ (by lia) fun s₄ k₄ hpl₄ => ?_)
        have kk := ((k₁.trans k₂').trans k₃').trans k₄
        refine wpAny_pure ⟨Code.quiet_builtin _ (by decide +kernel), ?_⟩
        refine ih (i + 1) (by lia) (by trivial) A R s₄ (n + 1) (vs₁ ++ [.str ⟨#[92, _]⟩ u]) (ys₁ ++ [[92, x.cps.toList[i]'hi2]]) hroom (fun b o hb e => ?_) hpl₄ (by rw [List.map_append]; exact hst₁.append' (.cons _ _ .nil)) ?_ ?_ fun s' u' k' => ?_
        · (refine elEEA kk fun h' tk z3 hh => ?_; clear kk; subst z3)
          exact hh b o hb (hkeep b o hb e)
        · rw [List.length_append]; simp; lia
        · rw [List.map_append, List.sum_append]; simp; lia
        · have := hR s' u' (kk.trans k')
          rw [hsplit] at this
          rw [List.flatten_append, List.flatten_singleton, hfl₁]
          simpa using this
      show wpAny _ _ (if d < i then _ else _) _ _ _
      split
      · rename_i hlt
        refine wpAny_bind (mkSlice hx fun tk₁ u₁ => ?_)
        refine wpAny_bind (push_piece (vs := vs) hpl (by lia) fun s₂ k₂ hpl₂ => ?_)
        have k₁ : SameElse L s { s with toks := tk₁ } := ⟨_, _, rfl, fun _ _ _ e => e⟩
        refine tail s₂ _ (ys ++ [(x.cps.toList.drop d).take (i - d)]) (k₁.trans k₂) hpl₂ (by rw [List.map_append]; exact hst.append' (.cons _ _ .nil)) (by rw [List.length_append]; simp; omega) ?_ (by simp)
        rw [List.map_append, List.sum_append, List.map_singleton, List.sum_singleton, List.length_take, List.length_drop]; exact Nat.add_le_add hys (Nat.min_le_left _ _)
      · rename_i hge
        refine tail s vs ys (.refl _ _) hpl hst (by exact Nat.le_succ_of_le (by assumption)) (by exact Nat.le_trans (by assumption) (Nat.le_add_right _ _)) ?_
        rw [show i - d = 0 by simp_all]; simp
end
end
section
open PySem.Sre PySem.Builtin.Re
section
variable {prog : Program} {w : World} {A : Around} {E : Value → Shared → Prop} {s : Shared}
theorem fn_call_lookup : ∃ v, typeLookup (.type "function") "__call__" = pure (some v) := ⟨.builtin "function.__call__", by rw [typeLookup_type, builtinLookup_eq_fast]; kernel_rfl⟩
theorem str_bytearray_sub : isSubtype (.type "str") (.type "bytearray") = pure false := by rw [isSubtype_type]; kernel_rfl
theorem named_sub (a b : Value) : reNamed "re.Pattern.sub" "sub" ["repl", "string", "count"] 2 [a, b] [] = pure [some a, some b, none] := by
  rfl
theorem call_sub {p fn : Addr} {x : Str} {t : Tok} {Q : Value → Shared → Prop} (hx : x.cps.size ≤ 2 ^ 20) (hp : PatAt s.heap s.heap.objs.size p) (hl : LamDoes prog w s.heap.objs.size s.heap fn) (hfn : s.TypeIs (.ref fn) "function") (hroom : A.depth < recursionLimit)
    (h : ∀ s' u, Keeps s s' → Q (.str ⟨(pAmp x.cps.toList).toArray⟩ u) s') : wpAny (model prog w) A (call (.builtin "re.Pattern.sub") [.ref p, .ref fn, .str x t]) Q E s := by
  (refine elEEEEEEE (id hp.is) fun fs T ws n sl d oT z0 => ?_; refine elA z0 fun hp1 _ => ?_; clear z0)
  refine wpAny_call (codeAny_call_builtin slot_pattern_sub.plain entry_pattern_sub (slot_pattern_sub.check _ _ _ _ _ _ _ _ ⟨_, hp1, rfl⟩ (args_pattern_sub _ _ _) ?_))
  refine wpAny_bind (wpAny_of_eq (named_sub _ _) ?_)
  refine wpAny_bind (wpAny_pure ?_)
  obtain ⟨cv, hcv⟩ := fn_call_lookup
  refine wpAny_bind (wpAny_specialOf hfn hcv ?_)
  refine wpAny_ite_true (by rfl) (wpAny_bind (wpAny_pure ?_))
  refine wpAny_ite_true (by rfl) (wpAny_bind (wpAny_pure ?_))
  refine wpAny_bind (wpAny_holding (wholeTarget hp ?_))
  refine wpAny_ite_true (by rfl) ?_
  refine wpAny_bind ?_
  refine wpAny_bind (wpAny_isInstance (typeIs_str s x t) str_bytearray_sub ?_)
  refine wpAny_ite_false (by rfl) ?_
  refine wpAny_pure ?_
  refine wpAny_bind ?_
  refine wpAny_newObj_type ?_ (by show 0 ≤ sizeLine; exact Nat.zero_le _)
  refine wpAny_pure ⟨Code.quiet_builtin _ (by decide +kernel), ?_⟩
  refine sub_loop (t := t) hx hp hl (x.cps.size + 1) 0 (by exact Nat.lt_succ_self _) (Nat.zero_le _) A _ { s with heap := s.heap.push { cls := .type "list", data := .seq #[] } } 0 [] [] hroom (fun b o hb e => Heap.get?_push_of_some _ e) ⟨_, 0, Heap.get?_push_size _ rfl, rfl, rfl, rfl⟩ .nil (Nat.zero_le _) (Nat.zero_le _) fun s' u k => ?_
  (refine elEEA k fun h' tk z1 hk => ?_; clear k; subst z1)
  refine h _ u ⟨h', tk, rfl, fun b o e => hk b o (Nat.ne_of_lt (Heap.lt_size e)) (Heap.get?_push_of_some _ e)⟩
end
end
section
open PySem.Sre PySem.Builtin.Re
variable {C : Cx} {n : Nat} {Γ : Fx} {σ : St}
structure PatIs (C : Cx) (p : Addr) : Prop where
  is : ∃ fs T ws n sl oT, C.hb.get? p = some ⟨.type "re.Pattern", Option.none, .fields fs, sl⟩ ∧ fs.getD 5 .none = .ref T ∧ reRawNat (fs.getD 2 .none) = 1 ∧ reRawNat (fs.getD 6 .none) = 0 ∧ C.hb.get? T = some oT ∧ oT.data = .seq ws n ∧ (ws.map reRawOf).map (·.toNat) = ampC
theorem PatIs.at {p : Addr} (P : PatIs C p) {h : Heap} (k : ∀ b o, C.hb.get? b = some o → h.get? b = some o) : PatAt h h.objs.size p := by
  (refine elEEEEEE P.is fun fs T ws n sl oT z0 => ?_; refine elAAAAAA z0 fun h1 h2 h3 h4 h5 h6 h7 => ?_; clear z0)
  exact ⟨⟨fs, T, ws, n, sl, _, oT, k _ _ h1, h2, h3, h4, k _ _ h5, h6, h7, Nat.ne_of_lt (Heap.lt_size (k _ _ h1)), Nat.ne_of_lt (Heap.lt_size (k _ _ h5))⟩⟩
theorem lamMade {κ : FZ} {g : Gh} {s : Shared} {params : Arguments} {body : Expr} {scope : Scope} {pos : Pos} {Q : Value → Shared → Prop} (H : C.Ok) (B : BMC C) (R : Rep C n Γ κ g σ s)
    (hcode : Γ.env.code = .ref C.cT) (hlp : pos = C.lp) (hlq : Γ.env.qual ++ "<lambda>" = C.lq) (hne : sameAt C.lp C.gp = false) (hne' : sameAt C.gp C.lp = false)
    (hdef : defaultsOf params Γ.env = ([], [])) (hclos : closureFor scope Γ.env = pure [])
    (h : ∀ fn code pm o s' g', GLe κ g g' → Rep C n Γ κ g' σ s' → g'.P fn = some o → o.cls = .type "function" → o.data = .func (lamFd C.lq params body scope pm code) → CodeOf g'.P code C.lq → Q (.ref fn) s') :
    wpAny (model C.prog C.w) Γ.A (eval (.Lambda params body scope pos) Γ.env) Q (fun _ _ => False) s := by
  rw [arm_eval_Lambda, hdef]
  show wpAny _ _ (do let dv ← evalAll []; let kdv ← holding dv (evalAllOpt []); makeFunction "<lambda>" (Γ.env.qual ++ "<lambda>") params (.expr body) scope Γ.env dv kdv [] pos pos.line) _ _ _
  refine wpAny_bind (wpAny_pure (wpAny_bind (wpAny_holding (wpAny_pure ?_))))
  rw [makeFunction_eq, hlq]
  simp only [List.zip_nil_right, List.filterMap_nil, List.isEmpty_nil, if_true, pure_bind]
  unfold makeTail
  rw [hclos]
  refine wpAny_bind (wpAny_pure ?_)
  refine wpAny_bind (wpAny_pure ?_)
  refine wpAny_bind (thn (codeStep (pos := pos) (q := C.lq) H R.sok (.inl ⟨hlp, rfl⟩) hne hne' (fun ps c' Q E h1 h2 h3 => wpAny_functionCode_hit hcode h1 h2 h3) (fun ps Q E h1 h2 h3 h4 => wpAny_functionCodeX hcode h1 h2 h3 (fun c' h' tk a b c d e f _ => h4 c' h' tk a b c d e f))) ?_)
  rintro code s₃ ⟨P₃, hP, S₃, hnew, hk₃, hco₃, hsz₃, hg₃, ht₃⟩
  obtain ⟨l₃, R₃⟩ := R.call S₃ hP hnew hk₃
  (refine elEE B fun bm ob M => ?_; clear B)
  have M₃ := M.keeps S₃.base
  refine wpAny_bind (wpAny_builtinsFor (by rw [R.ok.glob]; exact M₃.ns) M₃.name M₃.ne M₃.obj M₃.cls M₃.dict M₃.data ?_)
  refine wpAny_bind (wpAny_nsGet (by rw [R.ok.glob]; exact M₃.ns) ?_)
  refine wpAny_bind (wpAny_pure ?_)
  refine wpAny_newObj_type ?_ (by size_fits)
  rw [R.ok.glob]
  obtain ⟨l₄, R₄⟩ := R₃.pushF { cls := .type "function", data := .func (lamFd C.lq params body scope ((C.mg "__name__").getD .none) code) } rfl (t := s₃.toks) (Nat.le_refl _)
  exact h _ _ _ _ _ _ (l₃.trans l₄) R₄ (FZ.set_self _ _ _) rfl rfl (hco₃.mono l₄.1)
theorem kept_of {s s' : Shared} (k : Keeps s s') (h : s.toks ≤ s'.toks) : Kept s s' := by
  (refine elEEA k fun h' tk z1 hk => ?_; clear k; subst z1)
  exact ⟨h', tk, hk, h, rfl⟩
theorem E.sub_amp {rn mv : Str} {pr apos pos lpos p1 pn pa p2 p3 p4 p5 p6 : Pos} {params : Arguments} {scope : Scope} {bs es : Str} {k1 k2 k3 : Nat} {e : Expr} {x : List Nat} {p : Addr} (H : C.Ok) (B : BMC C)
    (hre : E C n Γ (.Name rn pr) σ (.raw (.ref p))) (hp : PatIs C p) (hE : E C n Γ e σ (.str x)) (hx : x.length ≤ 2 ^ 20)
    (hcode : Γ.env.code = .ref C.cT) (hlp : lpos = C.lp) (hlq : Γ.env.qual ++ "<lambda>" = C.lq) (hne : sameAt C.lp C.gp = false) (hne' : sameAt C.gp C.lp = false)
    (hdef : defaultsOf params Γ.env = ([], [])) (hclos : closureFor scope Γ.env = pure [])
    (hbs : bs = ⟨#[92]⟩) (hco : scope.isCoroutine = false) (hgen : scope.isGenerator = false) (hk : scope.kind = .function) (hcell : ∀ x ∈ scope.names, x.2 ≠ .cell) (hmv : scope.names.lookup mv = some .local) (hdb : (mv == ("__debug__" : Str)) = false)
    (hbind : ∀ qual pm code v, bindArgs (lamFd qual params (.BinOp (.Constant (.str bs) k1 p1) .Add (.BoolOp .Or [.Call (.Attribute (.Name mv pn) "group" pa) [.Constant (.int 1) k2 p2] [] p3, .Constant (.str es) k3 p4] p5) p6) scope pm code) ⟨[v], []⟩ = pure [(mv, v)])
    (hg : ∀ env, ∃ pl, eval (.Call (.Attribute (.Name mv pn) "group" pa) [.Constant (.int 1) k2 p2] [] p3) env = (do
      let ov ← eval (.Name mv pn) env
      standAt pa.atName
      let (f, first) ← holding [ov] (getMethod ov "group" pl)
      callWith p3 f first (backTo p3 (starEach [.Constant (.int 1) k2 p2] env)) []))
    (hns : noStar [.Lambda params (.BinOp (.Constant (.str bs) k1 p1) .Add (.BoolOp .Or [.Call (.Attribute (.Name mv pn) "group" pa) [.Constant (.int 1) k2 p2] [] p3, .Constant (.str es) k3 p4] p5) p6) scope lpos, e] = true)
    (he : ∀ env, ∃ pl, eval (.Call (.Attribute (.Name rn pr) "sub" apos) [.Lambda params (.BinOp (.Constant (.str bs) k1 p1) .Add (.BoolOp .Or [.Call (.Attribute (.Name mv pn) "group" pa) [.Constant (.int 1) k2 p2] [] p3, .Constant (.str es) k3 p4] p5) p6) scope lpos, e] [] pos) env = (do
      let ov ← eval (.Name rn pr) env
      standAt apos.atName
      let (f, first) ← holding [ov] (getMethod ov "sub" pl)
      callWith pos f first (backTo pos (starEach [.Lambda params (.BinOp (.Constant (.str bs) k1 p1) .Add (.BoolOp .Or [.Call (.Attribute (.Name mv pn) "group" pa) [.Constant (.int 1) k2 p2] [] p3, .Constant (.str es) k3 p4] p5) p6) scope lpos, e] env)) [])) :
    E C n Γ (.Call (.Attribute (.Name rn pr) "sub" apos) [.Lambda params (.BinOp (.Constant (.str bs) k1 p1) .Add (.BoolOp .Or [.Call (.Attribute (.Name mv pn) "group" pa) [.Constant (.int 1) k2 p2] [] p3, .Constant (.str es) k3 p4] p5) p6) scope lpos, e] [] pos) σ (.str (pAmp x)) := by
  intro κ g s R
  obtain ⟨pl, he⟩ := he Γ.env
  refine MethodCall_ (thn (hre κ g s R) ?_) he
  rintro v s₁ ⟨g₁, l₁, R₁, rfl⟩
  (refine elEEEEEE (id hp.is) fun fs T ws nn sl oT z2 => ?_; refine elA z2 fun hp1 _ => ?_; clear z2)
  have hp1' := R₁.sok.base _ _ hp1
  refine getMethod_builtin (T := "re.Pattern") (id := "re.Pattern.sub") ⟨_, hp1', rfl⟩ plainAttrs_pattern slot_pattern_sub type_pattern_sub (fun a e => by cases e; exact ⟨_, hp1', rfl⟩) ?_
  refine callWith_builtin (noStar_any hns) (evalArgs_es hns ?_)
  refine wpAny_items_cons (lamMade H B R₁ hcode hlp hlq hne hne' hdef hclos fun fn code pm o s₂ g₂ l₂ R₂ hfn hoc hod hcd => ?_) rfl
  refine wpAny_items_cons (thn (hE κ g₂ s₂ R₂) ?_) ((noStar_cons ((noStar_cons hns).2)).1 _)
  rintro _ s₃ ⟨g₃, l₃, R₃, t, rfl⟩
  refine wpAny_items_nil ?_
  have hfn₃ := R₃.sok.sub _ _ (l₃.1 _ _ hfn)
  have hroom : Γ.A.depth < recursionLimit := by have := R₃.ok.room.2.1; exact Nat.lt_of_le_of_lt (Nat.le_add_right _ _) (by assumption)
  refine of_toks (call_sub (x := ⟨x.toArray⟩) (by show x.toArray.size ≤ _; omega) (hp.at R₃.sok.base) ?_ ⟨_, hfn₃, hoc⟩ hroom fun s' u k hk => ?_)
  · intro A E s₄ m y i c Q hkeep hA hM hy hc hQ
    have hlt : ∀ {b : Addr} {o : Obj}, s₃.heap.get? b = some o → b ≠ s₃.heap.objs.size := fun e => Nat.ne_of_lt (Heap.lt_size e)
    (refine elEEEE hcd fun cc oc vs tt z4 => ?_; clear hcd; refine elAAA z4 fun z3 hcc hcd1 hcd2 => ?_; clear z4; subst z3)
    have hcc₃ := R₃.sok.sub _ _ (l₃.1 _ _ hcc)
    have hlim : s₄.heap.NoLimit := H.lim.keeps fun b o e => hkeep b o (hlt (R₃.sok.base _ _ e)) (R₃.sok.base _ _ e)
    exact lam_call (hkeep _ _ (hlt hfn₃) hfn₃) hod hbs ⟨cc, oc, vs, tt, rfl, hkeep _ _ (hlt hcc₃) hcc₃, hcd1, hcd2⟩ hlim hA hM hy hc hco hgen hk hcell hmv hdb (hbind _ _ _) hg hQ
  · exact ⟨g₃, (l₁.trans l₂).trans l₃, R₃.kept (kept_of k hk), u, rfl⟩
end
section
variable {C : Cx} {n : Nat} {Γ : Fx} {σ : St} {Q : Fl → St → Prop}
theorem div_mm (z : Int) : z / - -1 = z := by rw [show (- -1 : Int) = 1 by decide, Int.ediv_one]
theorem small_down {k : Nat} (hk : k < 2 ^ 62) : Builtin.Range.small k 0 (-1) = true := by
  unfold Builtin.Range.small Builtin.Range.rangeSize
  simp only [Builtin.Range.rangeFitsLong, Bool.and_eq_true, Bool.or_eq_true, decide_eq_true_eq, beq_iff_eq]
  rw [if_neg (by decide), div_mm]
  split
  · refine ⟨by lia, .inr ?_⟩
    rw [if_neg (by decide)]
    simp only [Bool.and_eq_true, decide_eq_true_eq]
    decide
  · exact ⟨by simp_all, .inl rfl⟩
theorem Src.rangeDown {tgt : Expr} {x : Str} {p pos : Pos} {e e2 e3 : Expr} {k : Nat} (hf : E C n Γ (.Name x p) σ (.raw (.type "range"))) (ha : Es C n Γ [e, e2, e3] σ [.int k, .int 0, .int (-1)]) (hk : k < 2 ^ 62)
    (hs : autoParam (noStar [e, e2, e3] = true) tacD)
    (hL : autoParam (∀ it v, letOwnedTupleGo tgt it v = pure ()) tacC) : Src C n Γ σ tgt (.Call (.Name x p) [e, e2, e3] [] pos) ((List.range k).map fun (i : Nat) => .int (k - i)) := by
  intro κ g s R
  refine callTy hf ha hs R ?_
  rintro g' s' _ l R' ⟨v, _, rfl, ⟨t, rfl⟩, w, _, rfl, ⟨u, rfl⟩, w3, _, rfl, ⟨u3, rfl⟩, rfl⟩
  refine call_range_3 (by decide) ?_ (.inl (PyProof.noPylong_small (by exact Nat.le_add_left _ _)))
  have R₁ := R'.push { cls := .type "range", data := .fields #[.int k t, .int 0 u, .int (-1) u3] } (t := s'.toks)
  refine thn (Src.ranged (tgt := tgt) (k := k) R₁ (IsRange.new ..) (small_down hk) ?_ hL) ?_
  · unfold Builtin.Range.rangeSize
    rw [if_neg (by decide), div_mm]
    split <;> simp_all
  rintro it s₂ ⟨g₂, I, wr, S, e1, l2, R2, W, hS, U⟩
  refine ⟨g₂, I, wr, S, e1, l.trans l2, R2, fun A' hA => ?_, hS, U⟩
  have := W A' hA
  have e : ((List.range k).map fun (i : Nat) => D.int ((k : Int) + i * -1)) = (List.range k).map fun (i : Nat) => D.int ((k : Int) - i) := by
    apply List.map_congr_left; intro i _; congr 1; simp +arith
  rw [e] at this
  exact this
theorem X1.augNeg {o i e : Expr} {p pos : Pos} {k : Nat} {ds : List D} {j : Int} {a b d : D} (ho : E C n Γ o σ (.cell k)) (hi : E C n Γ i σ (.int j)) (hk : σ.cells[k]? = some (some ds)) (h0 : j < 0) (h1 : -(ds.length : Int) ≤ j) (hfit : -(2 ^ 63) ≤ j)
    (ha : ds[(j + ds.length).toNat]? = some a) (he : E C n Γ e σ b) (hb : Bop C n Γ (inplaceOp .Add) σ a b d) (hf : ds.length < 9223372036854775808)
    (q : Q .next ⟨σ.loc, σ.glb, σ.cells.set k (some (ds.set (j + ds.length).toNat d))⟩)
    (hs : autoParam (∀ ov iv new, augStore i ov iv new = (do holding [new, ov, iv] (setItem ov iv new); release [new, ov, iv] []; pure .next)) tacG) : X1 C n Γ (.AugAssign (.Subscript o i p) .Add e pos) σ Q := by
  intro κ g s R
  refine wpAny_AugAssign_SubscriptAny (thn (ho κ g s R) ?_) hs
  rintro ov s₁ ⟨g₁, l₁, R₁, hov⟩
  refine thn (hi κ g₁ s₁ R₁) ?_
  rintro _ s₂ ⟨g₂, l₂, R₂, t, rfl⟩
  (refine elEA (hov.mono l₂.1 l₂.2.1) fun c hc z0 => ?_; subst z0)
  obtain ⟨c', vs, q1, _, _, _, _, hl, hd, _⟩ := R₂.live k ds hk
  rw [hc] at q1; cases q1
  have hlen := hd.length
  (refine elEA (hd.get ha) fun va hva hda => ?_)
  refine (wpAny_getItem_list_neg hl.isList h0 (by rw [List.size_toArray, hlen]; exact h1) hfit (x := va) (by rw [List.size_toArray, hlen]; simpa using hva) ?_)
  refine thn (he κ g₂ _ R₂) ?_
  rintro vb s₃ ⟨g₃, l₃, R₃, hvb⟩
  refine thn (hb κ g₃ s₃ va vb R₃ (hda.mono l₃.1 l₃.2.1) hvb) ?_
  rintro vd s₄ ⟨g₄, l₄, R₄, hvd⟩
  have hc4 := l₄.2.1 _ _ (l₃.2.1 _ _ hc)
  obtain ⟨c', vs, q1, _, _, _, _, hl, hd, _⟩ := R₄.live k ds hk
  rw [hc4] at q1; cases q1
  have hlen := hd.length
  refine setItem_neg hl h0 (by rw [List.size_toArray, hlen]; exact h1) hfit fun h' hl' hs' => ?_
  rw [List.size_toArray, hlen] at hl'
  have R₅ := R₄.setCell (k := k) (ws := vs.set (j + ds.length).toNat vd) (es := ds.set (j + ds.length).toNat d) (h' := h') (t := s₄.toks) hk hc4 (Nat.le_refl _) (fun b o hb e => hs'.extBut b o hb e) (by simpa using hl') (hd.set _ hvd)
  exact ⟨g₄, _, .next, ((l₁.trans l₂).trans l₃).trans l₄, R₅, rfl, q⟩
end
section
noncomputable abbrev It := Nat × Option Nat
noncomputable def itT1 (p : It) : Txt := match p.2 with | none => [p.1] | some d => [p.1, 45, d]
noncomputable def itsT (l : List It) : Txt := l.flatMap itT1
noncomputable def e1 (c : Nat) : Txt := if c = 92 then [92, 92] else if c = 45 then [92, 45] else [c]
noncomputable def f1 (y : Txt) : Txt := y.flatMap e1
noncomputable def itE1 (p : It) : Txt := match p.2 with | none => e1 p.1 | some d => e1 p.1 ++ 45 :: e1 d
noncomputable def itsE1 (l : List It) : Txt := l.flatMap itE1
theorem f1_append (a b : Txt) : f1 (a ++ b) = f1 a ++ f1 b := by simp [f1]
theorem f1_one (c : Nat) : f1 [c] = e1 c := by exact List.append_nil _
theorem rep2 (y : Txt) : pRep 45 [92, 45] (pRep 92 [92, 92] y) = f1 y := by
  induction y with
  | nil => rfl
  | cons c y ih =>
    have h1 : pRep 92 [92, 92] (c :: y) = (if c = 92 then [92, 92] else [c]) ++ pRep 92 [92, 92] y := by rfl
    rw [h1, pRep_append, ih]
    show _ = e1 c ++ f1 y
    congr 1
    unfold e1
    by_cases h : c = 92
    · subst h; rfl
    · rw [if_neg h, if_neg h]; exact List.append_nil _
theorem rep1 : ∀ {y : Txt}, 45 ∉ y → pRep 92 [92, 92] y = f1 y
  | [], _ => rfl
  | c :: y, h => by
    have ih := rep1 (y := y) fun q => h (.tail _ q)
    have h1 : pRep 92 [92, 92] (c :: y) = (if c = 92 then [92, 92] else [c]) ++ pRep 92 [92, 92] y := by rfl
    rw [h1, ih]
    show _ = e1 c ++ f1 y
    congr 1
    unfold e1
    by_cases h1 : c = 92
    · rw [if_pos h1, if_pos h1]
    · rw [if_neg h1, if_neg h1, if_neg (show ¬ c = 45 from fun z => h (by rw [z]; exact .head _))]
noncomputable def cks : Txt → List It → List Txt
  | cur, [] => [cur]
  | cur, (c, none) :: r => cks (cur ++ [c]) r
  | cur, (c, some d) :: r => (cur ++ [c]) :: cks [d] r
theorem cks_ne : ∀ (cur : Txt) (l : List It), cks cur l ≠ []
  | _, [] => by exact List.cons_ne_nil _ _
  | cur, (c, none) :: r => cks_ne (cur ++ [c]) r
  | _, (c, some d) :: r => by exact List.cons_ne_nil _ _
theorem pj_cons {sep x : Txt} {l : List Txt} (h : l ≠ []) : pj sep (x :: l) = x ++ (sep ++ pj sep l) := by
  cases l with
  | nil => exact absurd rfl h
  | cons y l => rfl
theorem pj_cks : ∀ (cur : Txt) (l : List It), pj [45] ((cks cur l).map f1) = f1 cur ++ itsE1 l
  | cur, [] => by simp [cks, pj, itsE1]
  | cur, (c, none) :: r => by
    rw [cks, pj_cks (cur ++ [c]) r, f1_append, f1_one]
    exact List.append_assoc ..
  | cur, (c, some d) :: r => by
    rw [cks, List.map_cons, pj_cons (by simpa using cks_ne [d] r), pj_cks [d] r, f1_append, f1_one, f1_one]
    simp [itsE1, itE1]
theorem itsT_cks : ∀ (cur : Txt) (l : List It), pj [45] (cks cur l) = cur ++ itsT l
  | cur, [] => by simp [cks, pj, itsT]
  | cur, (c, none) :: r => by
    rw [cks, itsT_cks (cur ++ [c]) r]
    exact List.append_assoc ..
  | cur, (c, some d) :: r => by
    rw [cks, pj_cons (cks_ne [d] r), itsT_cks [d] r]
    exact List.append_assoc ..
structure ItsOk (its : List It) : Prop where
  ne : its ≠ []
  first : ∀ p, its.head? = some p → p.1 ≠ 33
  br : ∀ i p, its[i]? = some p → i ≠ 0 ∨ p.2 ≠ none → p.1 ≠ 93
  hy : ∀ i, its[i]? = some (45, none) → i = 0 ∨ i + 1 = its.length
  rg : ∀ c d, (c, some d) ∈ its → c ≠ 45 ∧ d ≠ 45 ∧ d ≠ 93 ∧ c < d
theorem free_E {its : List It} (h : 45 ∉ itsT its) : f1 (itsT its) = itsE1 its := by
  induction its with
  | nil => rfl
  | cons p r ih =>
    have hr : 45 ∉ itsT r := fun q => h (by rw [itsT, List.flatMap_cons]; exact List.mem_append_right _ q)
    show f1 (itT1 p ++ itsT r) = itE1 p ++ itsE1 r
    rw [f1_append, ih hr]
    congr 1
    obtain ⟨c, o⟩ := p
    cases o with
    | none => exact f1_one c
    | some d => exact absurd (by rw [itsT, List.flatMap_cons]; simp [itT1]) h
inductive Tk where
  | star
  | any
  | bare (c : Nat)
  | br (its : List It)
noncomputable def tkP : Tk → Txt
  | .star => [42]
  | .any => [63]
  | .bare c => [c]
  | .br its => 91 :: (itsT its ++ [93])
noncomputable def fixI (its : List It) : Txt := match its with | [] => [] | p :: _ => if p.1 = 94 ∨ p.1 = 91 then [92] else []
noncomputable def tkO (f : Int → Option Value) : Tk → Txt
  | .star => []
  | .any => [46]
  | .bare c => esc1 f c
  | .br its => 91 :: (fixI its ++ pAmp (itsE1 its) ++ [93])
noncomputable def TkOk : Tk → Prop
  | .star => True
  | .any => True
  | .bare c => c ≠ 42 ∧ c ≠ 63 ∧ c ≠ 91
  | .br its => ItsOk its
noncomputable abbrev Pc := Option Txt
noncomputable def addPc (f : Int → Option Value) (ps : List Pc) : Tk → List Pc
  | .star => if ps.getLast? = some none then ps else ps ++ [none]
  | t => ps ++ [some (tkO f t)]
noncomputable def pieces (f : Int → Option Value) (ts : List Tk) : List Pc := ts.foldl (addPc f) []
noncomputable def ePc (a : Addr) : Pc → D
  | none => .raw (.ref a)
  | some x => .str x
theorem noCell_pc (a : Addr) (p : Pc) : NoCell (ePc a p) := by cases p <;> trivial
theorem noCells_pcs (a : Addr) (ps : List Pc) : NoCells (ps.map (ePc a)) := noCells_map (noCell_pc a) ps
theorem e1_len (c : Nat) : (e1 c).length ≤ 2 := by unfold e1; split <;> (try split) <;> exact Nat.le_add_left _ _
theorem f1_len : ∀ y : Txt, (f1 y).length ≤ 2 * y.length
  | [] => by exact Nat.zero_le _
  | c :: y => by
    have := f1_len y
    have := e1_len c
    show (e1 c ++ f1 y).length ≤ _
    rw [List.length_append, List.length_cons]; lia
theorem pAmp_len : ∀ y : Txt, (pAmp y).length ≤ 2 * y.length
  | [] => by exact Nat.zero_le _
  | c :: y => by
    have := pAmp_len y
    show ((if isAmp c = true then [92, c] else [c]) ++ pAmp y).length ≤ _
    rw [List.length_append, List.length_cons]
    split <;> simp <;> lia
theorem itsE1_len : ∀ l : List It, (itsE1 l).length ≤ 2 * (itsT l).length
  | [] => by exact Nat.zero_le _
  | p :: r => by
    have := itsE1_len r
    show (itE1 p ++ itsE1 r).length ≤ 2 * (itT1 p ++ itsT r).length
    rw [List.length_append, List.length_append]
    have : (itE1 p).length ≤ 2 * (itT1 p).length := by
      obtain ⟨c, o⟩ := p
      have h1 := e1_len c
      cases o with
      | none => trivial
      | some d =>
        have h2 := e1_len d
        simp [itE1, itT1]; lia
    lia
theorem its_head {its : List It} (h : ItsOk its) : ∃ c o r z, its = (c, o) :: r ∧ pAmp (itsE1 its) = (if c = 92 ∨ c = 45 ∨ isAmp c = true then 92 else c) :: z := by
  cases its with
  | nil => exact absurd rfl h.ne
  | cons p r =>
    obtain ⟨c, o⟩ := p
    refine ⟨c, o, r, ?_⟩
    have key : ∃ z, pAmp (e1 c) = (if c = 92 ∨ c = 45 ∨ isAmp c = true then 92 else c) :: z := by
      unfold e1
      by_cases h1 : c = 92
      · subst h1; exact ⟨[92], by decide⟩
      · by_cases h2 : c = 45
        · subst h2; exact ⟨[45], by decide⟩
        · rw [if_neg h1, if_neg h2]
          simp only [h1, h2, false_or]
          cases h3 : isAmp c with
          | true => exact ⟨[c], by simp [pAmp, h3]⟩
          | false => exact ⟨[], by simp [pAmp, h3]⟩
    obtain ⟨z, hz⟩ := key
    cases o with
    | none =>
      refine ⟨z ++ pAmp (itsE1 r), rfl, ?_⟩
      show pAmp (e1 c ++ itsE1 r) = _
      rw [pAmp_append, hz]; rfl
    | some d =>
      refine ⟨z ++ pAmp (45 :: e1 d) ++ pAmp (itsE1 r), rfl, ?_⟩
      show pAmp ((e1 c ++ 45 :: e1 d) ++ itsE1 r) = _
      rw [pAmp_append, pAmp_append, hz]; rfl
end
section
theorem swap_of {Γ : Fx} {i : Nat} (F : Frm Γ (sc i)) {env0 : Env} (h0 : env0.scope = sc i) {ts : List Expr} {v : Expr} {r : Option (List Str)} (h : swappedStores ts v env0 = pure r) : swappedStores ts v Γ.env = pure r := by
  have : ∀ e1 e2 : Env, e1.scope = e2.scope → swappedStores ts v e1 = swappedStores ts v e2 := by
    intro e1 e2 h
    cases e1
    cases e2
    cases h
    rfl
  exact (this _ _ (F.scopeIs.trans h0.symm)).trans h
noncomputable def env0 (i : Nat) : Env := newEnv (sc i) 0 0 [] "" Option.none .none Option.none 0
noncomputable def hdS : List Stmt → Stmt | s :: _ => s | [] => .Pass default
noncomputable def thenB (s : Stmt) : List Stmt := stBody s
noncomputable def elseB (s : Stmt) : List Stmt := stElse s
noncomputable def whB (s : Stmt) : List Stmt := stBody s
noncomputable def w8 : List Stmt := whB (nthS (bd 8) 3)
noncomputable def brk8 : List Stmt := thenB (hdS (elseB (hdS (elseB (nthS w8 2)))))
noncomputable def in8 : List Stmt := elseB (nthS brk8 4)
noncomputable def ch8 : List Stmt := elseB (nthS in8 1)
section
variable {prog : Program} {w : World} {A : Around} {E : Value → Shared → Prop} {s : Shared}
theorem repl_any {o : Expr} {env : Env} {apos pos p1 p2 : Pos} {k1 k2 : Nat} {y z : Str} {c : Nat} {zl : List Nat} {Q : Value → Shared → Prop} (hy : y = ⟨#[c]⟩) (hz : z.cps.toList = zl) (hyz : (y == z) = false) (hz2 : zl.length ≤ 14)
    (he : ∀ env, ∃ pl, eval (.Call (.Attribute o "replace" apos) [.Constant (.str y) k1 p1, .Constant (.str z) k2 p2] [] pos) env = (do
      let ov ← eval o env
      standAt apos.atName
      let (f, first) ← holding [ov] (getMethod ov "replace" pl)
      callWith pos f first (backTo pos (starEach [.Constant (.str y) k1 p1, .Constant (.str z) k2 p2] env)) []))
    (ho : wpAny (model prog w) A (eval o env) (fun v s₁ => 0 < s₁.toks ∧ ∃ x t, v = .str ⟨x.toArray⟩ t ∧ x.length ≤ 2 ^ 20 ∧ ∀ tk u, s₁.toks ≤ tk → Q (.str ⟨(pRep c zl x).toArray⟩ u) { s₁ with toks := tk }) E s) :
    wpAny (model prog w) A (eval (.Call (.Attribute o "replace" apos) [.Constant (.str y) k1 p1, .Constant (.str z) k2 p2] [] pos) env) Q E s := by
  obtain ⟨pl, he⟩ := he env
  refine MethodCall_ (wpAny_mono ho ?_ fun _ _ e => e) he
  (intro v s₁ z0; refine elAEEAA z0 fun hpos x t z1 hx hQ => ?_; clear z0; subst z1)
  refine gm_replace (PP := fun _ => Option.none) (cs := []) (x := x) ⟨t, rfl⟩ ?_
  refine callWith_builtin (noStar_any rfl) (evalArgs_es rfl ?_)
  refine wpAny_items_cons (wpAny_Constant_str ?_) rfl
  refine wpAny_items_cons (wpAny_Constant_str ?_) rfl
  refine wpAny_items_nil ?_
  subst hy
  have hzl : z.length = zl.length := by rw [← hz]; rfl
  refine wpAny_mono (of_toks (E := fun _ _ => False) (Q := fun v s' => Q v s') (SC.replaceW (by show s₁.toks ≠ 0; exact Nat.ne_of_gt (by assumption)) (by show s₁.toks + 1 ≠ 0; exact Nat.ne_of_gt (Nat.succ_pos _)) (by show s₁.toks ≠ s₁.toks + 1; exact Nat.ne_of_lt (Nat.lt_succ_self _)) hyz (by rw [str_len]; exact hx) (by simp_all) fun t' k => ?_)) (fun _ _ h => h) fun _ _ h => h.elim
  intro hk
  have hk : s₁.toks + 1 + 1 ≤ k := hk
  have e : Txt.replace ⟨x.toArray⟩ ⟨#[c]⟩ z = ⟨(pRep c zl x).toArray⟩ := by
    have := replace_rep ⟨x.toArray⟩ c z
    rw [hz] at this
    cases hr : Txt.replace ⟨x.toArray⟩ ⟨#[c]⟩ z with
    | mk r =>
      rw [hr] at this
      have h2 : r.toList = pRep c zl x := this
      rw [← h2]
  rw [e]
  exact hQ k t' (by lia)
end
theorem pRep_len (c : Nat) (z x : List Nat) (hz : z.length ≤ 2) : (pRep c z x).length ≤ 2 * x.length := by
  induction x with
  | nil => exact Nat.zero_le _
  | cons d x ih =>
    have : pRep c z (d :: x) = (if d = c then z else [d]) ++ pRep c z x := by rfl
    rw [this, List.length_append, List.length_cons]
    split <;> simp <;> lia
noncomputable def genE (ss : List Stmt) : Expr := argE (stExpr (nthS ss 0)) 0
noncomputable def genElt (ss : List Stmt) : Expr := (exprP (genE ss)).2.1
noncomputable def genSc (ss : List Stmt) : Scope := (exprP (genE ss)).2.2.1
noncomputable def genPos (ss : List Stmt) : Pos := (exprP (genE ss)).2.2.2
noncomputable def jn8 : List Stmt := [nthS ch8 6]
theorem elt8 {C : Cx} {xs : List Txt} (hx : ∀ x ∈ xs, x.length ≤ 2 ^ 19) : EltS C (genSc jn8) "s" (genElt jn8) xs f1 := by
  intro cenv A' E' s₂ m₂ y t hsc hA hy hpos hns hm
  show wpAny _ _ (eval (.Call (.Attribute (.Call (.Attribute (.Name "s" _) "replace" _) [.Constant (.str "\\") _ _, .Constant (.str "\\\\") _ _] [] _) "replace" _) [.Constant (.str "-") _ _, .Constant (.str "\\-") _ _] [] _) cenv) _ _ _
  refine repl_any (c := 45) (zl := [92, 45]) rfl (by decide) (by decide) (by decide) (by intro _; exact ⟨_, by with_unfolding_all rfl⟩) ?_
  refine repl_any (c := 92) (zl := [92, 92]) rfl (by decide) (by decide) (by decide) (by intro _; exact ⟨_, by with_unfolding_all rfl⟩) ?_
  refine wpAny_Name (wpAny_loadName_local (by rw [hsc]; rfl) (by rw [Env.kindOf, hsc]; rfl) hns hm ?_) (by decide)
  refine ⟨hpos, y, t, rfl, Nat.le_trans (hx y hy) (by decide), fun tk u htk => ⟨Nat.lt_of_lt_of_le hpos htk, _, u, rfl, ?_, fun tk' u' _ => ?_⟩⟩
  · have := pRep_len 92 [92, 92] y (by decide)
    have := hx y hy
    lia
  · rw [rep2]
    exact ⟨⟨u', rfl⟩, s₂.heap, tk', rfl, fun _ _ e => e⟩
end
section
noncomputable def spanS : List It → List Nat × List It
  | (c, none) :: r => (c :: (spanS r).1, (spanS r).2)
  | l => ([], l)
theorem spanS_some (c d : Nat) (r : List It) : spanS ((c, some d) :: r) = ([], (c, some d) :: r) := rfl
theorem spanS_T : ∀ r : List It, itsT r = (spanS r).1 ++ itsT (spanS r).2
  | [] => rfl
  | (c, none) :: r => by
    have := spanS_T r
    show itT1 (c, none) ++ itsT r = c :: (spanS r).1 ++ itsT (spanS r).2
    rw [this]; simp [itT1]
  | (c, some d) :: r => rfl
theorem spanS_cks : ∀ (cur : Txt) (r : List It), cks cur r = cks (cur ++ (spanS r).1) (spanS r).2
  | cur, [] => by simp [spanS]
  | cur, (c, none) :: r => by
    rw [cks, spanS_cks (cur ++ [c]) r]
    simp [spanS]
  | cur, (c, some d) :: r => by rw [spanS_some]; simp
theorem spanS_get : ∀ (r : List It) (i c : Nat), (spanS r).1[i]? = some c → r[i]? = some (c, none)
  | [], i, c, h => by trivial
  | (x, none) :: r, 0, c, h => by simp [spanS] at h ⊢; exact h
  | (x, none) :: r, i + 1, c, h => by
    have : (spanS r).1[i]? = some c := by simpa [spanS] using h
    simpa using spanS_get r i c this
  | (x, some d) :: r, i, c, h => by rw [spanS_some] at h; trivial
theorem spanS_app : ∀ r : List It, r = (spanS r).1.map (fun c => (c, Option.none)) ++ (spanS r).2
  | [] => rfl
  | (c, none) :: r => by
    conv => lhs; rw [spanS_app r]
    rfl
  | (c, some d) :: r => rfl
theorem spanS_rest : ∀ r : List It, (spanS r).2 = [] ∨ ∃ c d r', (spanS r).2 = (c, some d) :: r'
  | [] => .inl rfl
  | (c, none) :: r => spanS_rest r
  | (c, some d) :: r => .inr ⟨c, d, r, rfl⟩
structure PR (r : List It) : Prop where
  hy : ∀ i, 1 ≤ i → r[i]? = some (45, none) → i + 1 = r.length
  rg : ∀ c d, (c, some d) ∈ r → c ≠ 45 ∧ d ≠ 45
theorem PR.of {its : List It} (h : ItsOk its) : PR its := ⟨fun i hi e => (h.hy i e).elim (fun z => by simp_all) id, fun c d hm => ⟨(h.rg c d hm).1, (h.rg c d hm).2.1⟩⟩
theorem PR.span {r : List It} (h : PR r) {c d : Nat} {r' : List It} (e : (spanS r).2 = (c, some d) :: r') : PR r' ∧ c ≠ 45 ∧ ∀ x ∈ (spanS r).1.drop 1, x ≠ 45 := by
  have ha := spanS_app r
  have hg := spanS_get r
  rw [e] at ha
  generalize (spanS r).1 = S at *
  have hl : (S.map fun c => ((c, Option.none) : It)).length = S.length := List.length_map ..
  have h2 : r.length = S.length + (r'.length + 1) := by rw [ha]; simp
  refine ⟨⟨fun i hi q => ?_, fun x y hm => h.rg x y (by rw [ha]; exact List.mem_append_right _ (.tail _ hm))⟩, (h.rg c d (by rw [ha]; grind)).1, fun x hx z => ?_⟩
  · have : r[S.length + (i + 1)]? = some (45, none) := by
      rw [ha, List.getElem?_append_right (by rw [hl]; exact Nat.le_add_right _ _), hl, show S.length + (i + 1) - S.length = i + 1 by simp]
      trivial
    have h1 := h.hy _ (by exact Nat.succ_pos _) this
    simp_all +arith
  · obtain ⟨i, hi⟩ := List.getElem?_of_mem hx
    rw [List.getElem?_drop, z] at hi
    have h1 := h.hy (1 + i) (by exact Nat.le_add_right _ _) (hg _ _ hi)
    have h3 := (List.getElem?_eq_some_iff.mp hi).1
    simp_all +arith
theorem PR.end {r : List It} (h : PR r) (e : (spanS r).2 = []) : (∀ x ∈ (spanS r).1.drop 1, x ≠ 45) ∨ ∃ s0 S, (spanS r).1 = s0 :: (S ++ [45]) ∧ 45 ∉ S := by
  have ha := spanS_app r
  rw [e, List.append_nil] at ha
  have hl : r.length = (spanS r).1.length := by conv => lhs; rw [ha]; simp
  cases hS : (spanS r).1 with
  | nil => exact .inl fun x hx => by cases hx
  | cons s0 S' =>
    have key : ∀ i, S'[i]? = some 45 → i + 1 = S'.length := fun i hi => by
      have := h.hy (i + 1) (by exact Nat.succ_pos _) (spanS_get r (i + 1) 45 (by rw [hS]; trivial))
      rw [hl, hS] at this; exact Nat.add_right_cancel (by assumption)
    by_cases hm : 45 ∈ S'
    · obtain ⟨i, hi⟩ := List.getElem?_of_mem hm
      have h1 := key i hi
      refine .inr ⟨s0, S'.dropLast, ?_, fun q => ?_⟩
      · congr 1
        have hne : S' ≠ [] := by intro z; rw [z] at hm; cases hm
        conv => lhs; rw [← List.dropLast_concat_getLast hne]
        congr 1
        rw [List.getLast_eq_getElem]
        have h2 := (List.getElem?_eq_some_iff.mp hi).2
        congr 1
        rw [← h2]; congr 1; lia
      · obtain ⟨k, hk1, hk2⟩ := List.mem_iff_getElem.mp q
        have hk1' : k < S'.length - 1 := by simpa using hk1
        rw [List.getElem_dropLast] at hk2
        have := key k (by rw [List.getElem?_eq_getElem (by grind), hk2])
        lia
    · exact .inl fun x hx z => hm (by rw [← z]; exact hx)
theorem found_at {U V W : Txt} {lo hi : Nat} (h1 : lo = U.length) (h2 : U.length + V.length < hi) (hV : 45 ∉ V) : Found 45 (U ++ (V ++ 45 :: W)) lo hi ((U.length + V.length : Nat) : Int) := by
  subst h1
  refine .inr ⟨U.length + V.length, rfl, by exact Nat.le_add_right _ _, h2, ?_, fun i a b q => ?_⟩
  · rw [List.getElem?_append_right (by exact Nat.le_add_right _ _), show U.length + V.length - U.length = V.length by simp, List.getElem?_append_right (Nat.le_refl _)]; simp
  · rw [List.getElem?_append_right a, List.getElem?_append_left (by lia)] at q
    exact hV (List.mem_of_getElem? q)
theorem found_no {U V W : Txt} {lo hi : Nat} (h1 : lo = U.length) (h2 : hi = U.length + V.length) (hV : 45 ∉ V) : Found 45 (U ++ (V ++ W)) lo hi (-1) := by
  subst h1 h2
  refine .inl ⟨rfl, fun i a b q => ?_⟩
  rw [List.getElem?_append_right a, List.getElem?_append_left (by lia)] at q
  exact hV (List.mem_of_getElem? q)
theorem found_out {x : Txt} {lo hi : Nat} (h : hi ≤ lo) : Found 45 x lo hi (-1) := .inl ⟨rfl, fun i a b => by lia⟩
theorem cks_head : ∀ (z : Nat) (cur : Txt) (r : List It), ∃ y, (cks (z :: cur) r)[0]? = some (z :: y)
  | z, cur, [] => ⟨cur, rfl⟩
  | z, cur, (c, none) :: r => by
    rw [cks]; exact cks_head z (cur ++ [c]) r
  | z, cur, (c, some d) :: r => ⟨cur ++ [c], rfl⟩
theorem cks_mid : ∀ (cur : Txt) (r : List It), (∀ c d, (c, some d) ∈ r → c < d) → ∀ m, m + 1 < (cks cur r).length → ∃ x c d y, (cks cur r)[m]? = some (x ++ [c]) ∧ (cks cur r)[m + 1]? = some (d :: y) ∧ c < d
  | cur, [], h, m, hm => by simp [cks] at hm
  | cur, (c, none) :: r, h, m, hm => by
    rw [cks] at hm ⊢
    exact cks_mid (cur ++ [c]) r (fun c d q => h c d (.tail _ q)) m hm
  | cur, (c, some d) :: r, h, 0, hm => by
    rw [cks]
    obtain ⟨y, hy⟩ := cks_head d [] r
    exact ⟨cur, c, d, y, rfl, by trivial, h c d (.head _)⟩
  | cur, (c, some d) :: r, h, m + 1, hm => by
    rw [cks] at hm ⊢
    (refine elEEEEAA (cks_mid [d] r (fun c d q => h c d (.tail _ q)) m (by exact Nat.le_of_lt_succ (by assumption))) fun x c' d' y h1 h2 h3 => ?_)
    exact ⟨x, c', d', y, by trivial, by trivial, h3⟩
theorem pj_len : ∀ (l : List Txt), (l.map (·.length)).sum + l.length ≤ (pj [45] l).length + 1
  | [] => by exact Nat.zero_le _
  | [x] => by exact Nat.lt_succ_self _
  | x :: y :: r => by
    have := pj_len (y :: r)
    rw [pj_cons (by exact List.cons_ne_nil _ _)]
    simp only [List.map_cons, List.sum_cons, List.length_cons, List.length_append, List.length_nil] at *
    simp_all +arith
theorem sumLe {l : List Txt} {x : Txt} (h : x ∈ l) : x.length ≤ (l.map (·.length)).sum := by
  induction l with
  | nil => cases h
  | cons y l ih =>
    rw [List.map_cons, List.sum_cons]
    rcases List.mem_cons.mp h with e | h
    · subst e; exact Nat.le_add_right _ _
    · have := ih h; exact Nat.le_trans (by assumption) (Nat.le_add_left _ _)
end
section
section
variable {C : Cx} {n : Nat} {Γ : Fx} {σ : St} {Q : Fl → St → Prop}
theorem X1.appendE {o e : Expr} {apos pos p : Pos} {k : Nat} {ds : List D} {d : D} {cells : List (Option (List D))} (ho : E C n Γ o σ (.cell k)) (he : E C n Γ e σ d) (hk : σ.cells[k]? = some (some ds)) (hsz : ds.length ≤ sizeLine) (hc : σ.cells.set k (some (ds ++ [d])) = cells) (q : Q .next ⟨σ.loc, σ.glb, cells⟩)
    (hs : autoParam (starEach [e] Γ.env = [(false, eval e Γ.env)]) tacD)
    (hm : ∃ pl, eval (.Call (.Attribute o "append" apos) [e] [] pos) Γ.env = (do
      let ov ← eval o Γ.env
      standAt apos.atName
      let (f, first) ← holding [ov] (getMethod ov "append" pl)
      callWith pos f first (backTo pos (starEach [e] Γ.env)) []) := by exact ⟨_, by with_unfolding_all rfl⟩) :
    X1 C n Γ (.Expr (.Call (.Attribute o "append" apos) [e] [] pos) p) σ Q := by
  subst hc; exact X1.append ho he hk hsz q hs hm
theorem X1.augNegE {o i e : Expr} {p pos : Pos} {k : Nat} {ds : List D} {j : Int} {a b d : D} {cells : List (Option (List D))} (ho : E C n Γ o σ (.cell k)) (hi : E C n Γ i σ (.int j)) (hk : σ.cells[k]? = some (some ds)) (h0 : j < 0) (h1 : -(ds.length : Int) ≤ j) (hfit : -(2 ^ 63) ≤ j)
    (ha : ds[(j + ds.length).toNat]? = some a) (he : E C n Γ e σ b) (hb : Bop C n Γ (inplaceOp .Add) σ a b d) (hf : ds.length < 9223372036854775808) (hc : σ.cells.set k (some (ds.set (j + ds.length).toNat d)) = cells) (q : Q .next ⟨σ.loc, σ.glb, cells⟩)
    (hs : autoParam (∀ ov iv new, augStore i ov iv new = (do holding [new, ov, iv] (setItem ov iv new); release [new, ov, iv] []; pure .next)) tacG) : X1 C n Γ (.AugAssign (.Subscript o i p) .Add e pos) σ Q := by
  subst hc; exact X1.augNeg ho hi hk h0 h1 hfit ha he hb hf q hs
theorem X1.callME {x : Str} {px p pos : Pos} {e : Expr} {k : Nat} {ds : List D} {d : D} {cells : List (Option (List D))} (ho : E C n Γ (.Name x px) σ (.meth k)) (he : E C n Γ e σ d) (hk : σ.cells[k]? = some (some ds)) (hsz : ds.length ≤ sizeLine) (hc : σ.cells.set k (some (ds ++ [d])) = cells) (q : Q .next ⟨σ.loc, σ.glb, cells⟩)
    (hs : autoParam (starEach [e] Γ.env = [(false, eval e Γ.env)]) tacD) : X1 C n Γ (.Expr (.Call (.Name x px) [e] [] p) pos) σ Q := by
  subst hc; exact X1.callM ho he hk hsz q hs
end
noncomputable abbrev S8 (pat : Txt) (a : Addr) (nn : D) (c i j st ch k ck : Option D) (ds : List D) (rest : List (Option (List D))) : St :=
  ⟨[("pat", some (.str pat)), ("STAR", some (.raw (.ref a))), ("QUESTION_MARK", some (.str [46])), ("res", some (.cell 0)), ("add", some (.meth 0)), ("i", i), ("n", some nn), ("c", c), ("j", j), ("stuff", st), ("chunks", ch), ("k", k), ("chunk", ck)], [], some ds :: rest⟩
theorem cell_get (ds L : List D) (rest : List (Option (List D))) : (some ds :: (rest ++ [some L]))[rest.length + 1]? = some (some L) := by simp
theorem cell_set (ds L L' : List D) (rest : List (Option (List D))) : (some ds :: (rest ++ [some L])).set (rest.length + 1) (some L') = some ds :: (rest ++ [some L']) := by simp
structure T8 (C : Cx) (Γ : Fx) : Prop where
  F : Frm Γ (sc 8)
  B : BMC C
  code : Γ.env.code = .ref C.cT
  gp : genPos jn8 = C.gp
  gq : Γ.env.qual ++ "<genexpr>" = C.gq
  ne : sameAt C.lp C.gp = false
  ne' : sameAt C.gp C.lp = false
set_option maxHeartbeats 4000000 in
theorem ch_rest {C : Cx} (G : Gl C) {Γ : Fx} (W : T8 C Γ) {pat : Txt} {a : Addr} {nn : D} {c ck : Option D} {k : Option D} {ds : List D} {rest : List (Option (List D))} {its : List It} {L : List Txt} {i' j : Nat} {x : Txt} {Q : Fl → St → Prop} (hI : ItsOk its) (hpl : pat.length ≤ 2 ^ 16)
    (hTl : (itsT its).length ≤ 2 ^ 16) (hcut : cut pat (some (i' : Int)) (some (j : Int)) = x) (h : (x ≠ [] ∧ L ++ [x] = cks [] its) ∨ (x = [] ∧ ∃ X cur, L = X ++ [cur] ∧ X ++ [cur ++ [45]] = cks [] its)) (hk : Op k)
    (hQ : ∀ k' ck', Op k' → Op ck' → Q .next (S8 pat a nn c (some (.int i')) (some (.int j)) (some (.str (itsE1 its))) (some (.cell (rest.length + 1))) k' ck' ds (rest ++ [some ((cks [] its).map D.str)]))) :
    X C 1 Γ (ch8.drop 3) (S8 pat a nn c (some (.int i')) (some (.int j)) (some (.str (itsT its))) (some (.cell (rest.length + 1))) k ck ds (rest ++ [some (L.map D.str)])) Q := by
  have hsz : sizeLine = 2 ^ 24 := rfl
  have F := W.F
  have hlen : ((cks [] its).map (·.length)).sum + (cks [] its).length ≤ (itsT its).length + 1 := by
    have := pj_len (cks [] its)
    rw [itsT_cks] at this
    trivial
  have hxl : x.length ≤ 2 ^ 17 := by
    rcases h with ⟨_, e⟩ | ⟨e, _⟩
    · have := sumLe (l := cks [] its) (x := x) (by rw [← e]; simp)
      lia
    · rw [e]; simp
  show X C 1 Γ (_ :: _ :: _ :: _ :: []) (S8 pat a nn c (some (.int i')) (some (.int j)) (some (.str (itsT its))) (some (.cell (rest.length + 1))) k ck ds (rest ++ [some (L.map D.str)])) Q
  refine X.cons (X1.assign (d := .str x) (E.eq (E.cut (by walk_at "ev") (.some (by walk_at "ev")) (.some (by walk_at "ev")) (Cut.str (by exact Nat.le_trans (by assumption) (by decide)))) (by rw [hcut])) (by walk_at "upd") ?_)
  have tail : X C 1 Γ [nthS ch8 5, nthS ch8 6] (S8 pat a nn c (some (.int i')) (some (.int j)) (some (.str (itsT its))) (some (.cell (rest.length + 1))) k (some (.str x)) ds (rest ++ [some ((cks [] its).map D.str)])) Q := by
    show X C 1 Γ (_ :: _ :: []) (S8 pat a nn c (some (.int i')) (some (.int j)) (some (.str (itsT its))) (some (.cell (rest.length + 1))) k (some (.str x)) ds (rest ++ [some ((cks [] its).map D.str)])) Q
    have hLn : (cks [] its).length ≤ 2 ^ 17 := by lia
    have hne := cks_ne [] its
    have hpos : 0 < (cks [] its).length := List.length_pos_iff.mpr hne
    have hat : ∀ m y, (cks [] its)[m]? = some y → ((cks [] its).map D.str)[m]? = some (D.str y) := fun m y e => by rw [List.getElem?_map, e]; rfl
    have hyl : ∀ y ∈ cks [] its, y.length ≤ 2 ^ 17 := fun y hy => by have := sumLe hy; lia
    refine X.cons (X1.for (ds := (List.range ((cks [] its).length - 1)).map fun (i : Nat) => .int (((cks [] its).length - 1 : Nat) - i)) (Src.rangeDown (E.gb G (kind_of F rfl) boot_range) (.cons (E.eq (E.bin (E.callB (E.gb G (kind_of F rfl) boot_len) (.cons (E.loc (by walk_at "in")) .nil) (len_l (.cell _ _ (cell_get ds ((cks [] its).map D.str) rest)) (by rw [List.length_map]; exact Nat.lt_of_le_of_lt (by assumption) (by decide)))) E.int sub_i) ?_) (.cons E.int (.cons (E.neg E.int) .nil))) (by exact Nat.lt_of_le_of_lt (Nat.le_trans (Nat.sub_le _ _) (by assumption)) (by decide)))
      (fun _ σ' => ∃ k', Op k' ∧ σ' = S8 pat a nn c (some (.int i')) (some (.int j)) (some (.str (itsT its))) (some (.cell (rest.length + 1))) k' (some (.str x)) ds (rest ++ [some ((cks [] its).map D.str)])) ⟨k, hk, rfl⟩ ?_ ?_)
    · exact congrArg D.int (by rw [List.length_map]; lia)
    · (intro m d _ hd z0; refine elEA z0 fun k' hk' z1 => ?_; clear z0; subst z1)
      rw [List.getElem?_map] at hd
      cases hr : (List.range ((cks [] its).length - 1))[m]? with
      | none => rw [hr] at hd; cases hd
      | some m' =>
      rw [hr] at hd; cases hd
      obtain ⟨hm1, hm2⟩ := List.getElem?_eq_some_iff.mp hr
      rw [List.length_range] at hm1
      rw [List.getElem_range] at hm2
      subst hm2
      (refine elEEEEAA (cks_mid [] its (fun c d h => (hI.rg c d h).2.2.2) ((cks [] its).length - 1 - m - 1) (by omega)) fun u p q v h1 h2 h3 => ?_)
      have e1 : (cks [] its).length - 1 - m - 1 + 1 = (cks [] its).length - 1 - m := Nat.sub_add_cancel (Nat.sub_pos_of_lt hm1)
      rw [e1] at h2
      have hul := hyl _ (List.mem_of_getElem? h1)
      have hvl := hyl _ (List.mem_of_getElem? h2)
      refine ⟨_, Asg.name (by walk_at "upd"), X.cons (X1.if (b := false) ?_ (fun h => by cases h) fun _ => X.nil (X.nil ⟨_, Op.some (d := .int _) trivial, rfl⟩))⟩
      have hS : ∀ {k2 : Option D}, Seqd (S8 pat a nn c (some (.int i')) (some (.int j)) (some (.str (itsT its))) (some (.cell (rest.length + 1))) k2 (some (.str x)) ds (rest ++ [some ((cks [] its).map D.str)])) (.cell (rest.length + 1)) ((cks [] its).map D.str) := .cell _ _ (cell_get ds _ rest)
      have hL63 : ((cks [] its).map D.str).length < 9223372036854775808 := by rw [List.length_map]; exact Nat.lt_of_le_of_lt (by assumption) (by decide)
      have g1 : ((cks [] its).map D.str)[(((cks [] its).length - 1 : Nat) - (m : Int) - 1).toNat]? = some (.str (u ++ [p])) := by
        rw [show (((cks [] its).length - 1 : Nat) - (m : Int) - 1).toNat = (cks [] its).length - 1 - m - 1 by simp]; exact hat _ _ h1
      have g2 : ((cks [] its).map D.str)[(((cks [] its).length - 1 : Nat) - (m : Int)).toNat]? = some (.str (q :: v)) := by
        rw [show (((cks [] its).length - 1 : Nat) - (m : Int)).toNat = (cks [] its).length - 1 - m by simp]; exact hat _ _ h2
      refine T.eq (T.cmp (E.sub (E.sub (E.loc (by walk_at "in")) (E.bin (E.loc (by walk_at "in")) E.int sub_i) (sub_lst hS (by lia) g1 hL63)) (E.neg E.int) (Sub.str (c := p) (by rw [List.length_append, List.length_singleton]; simp +arith) (by exact Nat.lt_of_le_of_lt (by assumption) (by decide)) ?_ (by rw [List.length_append, List.length_singleton]; exact Int.natCast_nonneg _)))
        (E.sub (E.sub (E.loc (by walk_at "in")) (E.loc (by walk_at "in")) (sub_lst hS (by lia) g2 hL63)) E.int (Sub.str (c := q) (by rw [List.length_cons]; exact Int.natCast_nonneg _) (by exact Nat.lt_of_le_of_lt (by assumption) (by decide)) (by rfl) (by rw [List.length_cons]; simp))) gt_s) ?_
      · rw [if_pos (by decide), List.length_append, List.length_singleton, show ((-1 : Int) + ((u.length + 1 : Nat) : Int)).toNat = u.length by simp +arith, List.getElem?_append_right (Nat.le_refl _)]; simp
      · refine decide_eq_false fun z => ?_
        rcases List.cons_lt_cons_iff.mp z with h | ⟨_, h⟩
        · lia
        · exact absurd h (by simp)
    · (intro _ z2; refine elEA z2 fun k' hk' z3 => ?_; clear z2; subst z3)
      have hS : Seqd (S8 pat a nn c (some (.int i')) (some (.int j)) (some (.str (itsT its))) (some (.cell (rest.length + 1))) k' (some (.str x)) ds (rest ++ [some ((cks [] its).map D.str)])) (.cell (rest.length + 1)) ((cks [] its).map .str) := .cell _ _ (cell_get ds _ rest)
      have hfl : ∀ l : List Txt, ((l.map f1).map (·.length)).sum ≤ 2 * (l.map (·.length)).sum := by
        intro l
        induction l with
        | nil => exact Nat.zero_le _
        | cons y l ih =>
          simp only [List.map_cons, List.sum_cons] at ih ⊢
          have := f1_len y
          lia
      have hjl : pj [45] ((cks [] its).map f1) = itsE1 its := by rw [pj_cks]; rfl
      refine X.cons (X1.assign (d := .str (itsE1 its)) (E.eq (E.joinGen (sep := [45]) (f := f1) (xs := cks [] its) G.H W.B (E.str lit_hy) (E.loc (by walk_at "in")) hS (elt8 fun y hy => Nat.le_trans (hyl y hy) (by decide)) ?_ (by exact Nat.le_trans (by assumption) (by decide)) W.code W.gp W.gq W.ne W.ne' rfl rfl (by decide) rfl rfl rfl (by intro _; with_unfolding_all rfl)) (by rw [hjl])) (by walk_at "upd") (X.nil (hQ k' _ hk' (Op.some (d := .str x) trivial))))
      have := hfl (cks [] its)
      simp only [List.length_singleton]
      lia
  refine X.cons (X1.if (b := !x.isEmpty) (T.val (E.loc (by walk_at "in")) (Tr.str (by exact Nat.lt_of_le_of_lt (by assumption) (by decide)))) (fun hb => ?_) fun hb => ?_)
  · rcases h with ⟨hx, e⟩ | ⟨hx, _⟩
    · refine X.cons (X1.appendE (E.loc (by walk_at "in")) (E.loc (by walk_at "in")) (cell_get ds (L.map D.str) rest) (by rw [List.length_map]; have := congrArg List.length e; simp at this; lia) (cell_set ds (L.map D.str) _ rest) ?_)
      have e2 : L.map D.str ++ [D.str x] = (cks [] its).map D.str := by rw [← e]; simp
      rw [e2]
      exact X.nil tail
    · rw [hx] at hb; cases hb
  · rcases h with ⟨hx, _⟩ | ⟨_, Z, cur, rfl, e⟩
    · rw [Bool.not_eq_eq_eq_not, Bool.not_false, List.isEmpty_iff] at hb; exact absurd hb hx
    · have hXl : (Z ++ [cur]).length = (cks [] its).length := by rw [← e]; simp only [List.length_append, List.length_cons, List.length_nil]
      have hcl : (cur ++ [45]).length ≤ 2 ^ 17 := by have := sumLe (l := cks [] its) (x := cur ++ [45]) (by rw [← e]; simp); lia
      have hm1 : ((-1 : Int) + (((Z ++ [cur]).map D.str).length : Nat)).toNat = Z.length := by rw [List.length_map, List.length_append, List.length_singleton]; simp +arith
      have hl2 : ((Z ++ [cur]).map D.str).length = Z.length + 1 := by simp
      have hz1 : Z.length + 1 ≤ 2 ^ 17 := by rw [List.length_append, List.length_singleton] at hXl; lia
      have hz2 : ((Z ++ [cur]).map D.str).length < 9223372036854775808 := by lia
      refine X.cons ?_
      refine X1.augNegE (k := rest.length + 1) (j := -1) (ds := (Z ++ [cur]).map D.str) (a := .str cur) (b := .str [45]) (d := .str (cur ++ [45])) ?_ ?_ (cell_get ds ((Z ++ [cur]).map D.str) rest) (by decide) (by rw [hl2]; simp +arith) (by decide) ?_ (E.str lit_hy) (iadd_s ?_) hz2 (cell_set ds ((Z ++ [cur]).map D.str) _ rest) ?_
      · exact E.loc (by walk_at "in")
      · exact E.neg E.int
      · rw [hm1, List.getElem?_map, List.getElem?_append_right (Nat.le_refl _)]; simp
      · rw [List.length_append] at hcl; simp at hcl ⊢; exact Nat.lt_of_le_of_lt (by assumption) (by decide)
      · have e2 : ((Z ++ [cur]).map D.str).set ((-1 : Int) + (((Z ++ [cur]).map D.str).length : Nat)).toNat (D.str (cur ++ [45])) = (cks [] its).map D.str := by
          rw [hm1, ← e, List.map_append, List.map_append, List.set_append_right _ _ (by rw [List.length_map]; exact Nat.le_refl _)]
          simp
        rw [e2]
        exact X.nil tail
end
section
theorem cutMid {U V W : Txt} {i k : Nat} (hi : i = U.length) (hk : k = U.length + V.length) : cut (U ++ (V ++ W)) (some (i : Int)) (some (k : Int)) = V := by
  rw [cut_ij rfl rfl]
  subst hi hk
  rw [List.drop_left, show U.length + V.length - U.length = V.length by simp, List.take_left]
theorem get_at {U W : Txt} {c : Nat} : (U ++ c :: W)[U.length]? = some c := by
  rw [List.getElem?_append_right (Nat.le_refl _)]; simp
inductive I71 (pat pre T : Txt) (a : Addr) (nn : D) (c ck : Option D) (ds : List D) (rest : List (Option (List D))) (L : List Txt) (m : Nat) (σ' : St) : Prop
  | run (A lead : Txt) (r : List It) (done : List Txt) (hm : m = 2 * r.length + 2) (hTA : T = A ++ (lead ++ itsT r)) (hld : lead.length ≤ 1) (hPR : PR r) (hne : lead ++ itsT r ≠ []) (hLd : done ++ cks lead r = L)
    (e : σ' = S8 pat a nn c (some (.int (pre.length + A.length : Nat))) (some (.int (pre.length + T.length : Nat))) (some (.str T)) (some (.cell (rest.length + 1))) (some (.int (pre.length + A.length + lead.length + 1 : Nat))) ck ds (rest ++ [some (done.map D.str)])) : I71 pat pre T a nn c ck ds rest L m σ'
  | last (Z : List Txt) (cur : Txt) (kv : Nat) (hm : m = 1) (hZ : Z ++ [cur ++ [45]] = L) (hkv : pre.length + T.length ≤ kv)
    (e : σ' = S8 pat a nn c (some (.int (pre.length + T.length : Nat))) (some (.int (pre.length + T.length : Nat))) (some (.str T)) (some (.cell (rest.length + 1))) (some (.int (kv : Nat))) ck ds (rest ++ [some ((Z ++ [cur]).map D.str)])) : I71 pat pre T a nn c ck ds rest L m σ'
set_option maxHeartbeats 4000000 in
theorem ch_walk {C : Cx} (G : Gl C) {Γ : Fx} (W : T8 C Γ) {pat pre post : Txt} {a : Addr} {nn : D} {c ch ck k : Option D} {ds : List D} {rest : List (Option (List D))} {its : List It} {Q : Fl → St → Prop} (hI : ItsOk its) (hpl : pat.length ≤ 2 ^ 16)
    (hp : pat = pre ++ (itsT its ++ 93 :: post)) (hck : Op ck)
    (hQ : ∀ (i' : Nat) k' ck', Op k' → Op ck' → Q .next (S8 pat a nn c (some (.int i')) (some (.int (pre.length + (itsT its).length : Nat))) (some (.str (itsE1 its))) (some (.cell (rest.length + 1))) k' ck' ds (rest ++ [some ((cks [] its).map D.str)]))) :
    X C 1 Γ ch8 (S8 pat a nn c (some (.int (pre.length : Nat))) (some (.int (pre.length + (itsT its).length : Nat))) (some (.str (itsT its))) ch k ck ds rest) Q := by
  have hsz : sizeLine = 2 ^ 24 := rfl
  have F := W.F
  have hpl2 : pre.length + (itsT its).length + 1 + post.length = pat.length := by rw [hp]; simp; simp +arith
  have hTl : (itsT its).length ≤ 2 ^ 16 := by lia
  obtain ⟨p0, r0, rfl⟩ : ∃ p r, its = p :: r := by
    cases its with
    | nil => exact absurd rfl hI.ne
    | cons p r => exact ⟨p, r, rfl⟩
  have hfirst : pat[pre.length]? = some p0.1 := by
    rw [hp]
    obtain ⟨x, o⟩ := p0
    cases o <;> simp [itsT, itT1]
  have h33 := hI.first p0 rfl
  show X C 1 Γ (_ :: _ :: _ :: ch8.drop 3) _ Q
  refine X.cons (X1.newCell .nil (Nat.zero_le _) (by walk_at "upd") ?_)
  refine X.cons (X1.assign (d := .int (pre.length + 1 : Nat)) (E.ifx (b := false) (T.eq (T.cmp (E.sub (E.loc (by walk_at "in")) (E.loc (by walk_at "in")) (Sub.str (c := p0.1) (by simp) (by exact Nat.lt_of_le_of_lt (by assumption) (by decide)) ?_ (by lia))) (E.str lit_ex) eq_s) ?_) (fun h => by cases h) fun _ => E.eq (E.bin (E.loc (by walk_at "in")) E.int add_i) rfl) (by walk_at "upd") ?_)
  · rw [if_neg (by simp), Int.toNat_natCast]; exact hfirst
  · simpa using h33
  have hTne : itsT (p0 :: r0) ≠ [] := by
    obtain ⟨x, o⟩ := p0
    cases o <;> exact List.cons_ne_nil _ _
  generalize hT : itsT (p0 :: r0) = T at *
  generalize hL : cks [] (p0 :: r0) = L at *
  have exit : ∀ (i' : Nat) (x : Txt) (done : List Txt) (kk : Option D), Op kk → cut pat (some (i' : Int)) (some ((pre.length + T.length : Nat) : Int)) = x → ((x ≠ [] ∧ done ++ [x] = L) ∨ (x = [] ∧ ∃ X cur, done = X ++ [cur] ∧ X ++ [cur ++ [45]] = L)) →
      X C 1 Γ (ch8.drop 3) (S8 pat a nn c (some (.int i')) (some (.int (pre.length + T.length : Nat))) (some (.str T)) (some (.cell (rest.length + 1))) kk ck ds (rest ++ [some (done.map D.str)])) Q := by
    intro i' x done kk hkk hcut h
    subst hT hL
    exact ch_rest G W hI hpl hTl hcut h hkk fun k' ck' h1 h2 => hQ i' k' ck' h1 h2
  refine X.cons (X1.whileH (I71 pat pre T a nn c ck ds rest L)
    (k₀ := 2 * (p0 :: r0).length + 2) (.run [] [] (p0 :: r0) [] rfl (by rw [← hT]; rfl) (by simp) (PR.of hI) (by rw [hT]; exact hTne) hL (by rfl)) ?_)
  have hit : ∀ (i0 k0 q : Nat) (done : List Txt) (y : Txt) (Q' : Fl → St → Prop), Found 45 pat k0 (pre.length + T.length) ((q : Nat) : Int) → cut pat (some (i0 : Int)) (some (q : Int)) = y → done.length ≤ 2 ^ 17 →
      Q' .next (S8 pat a nn c (some (.int (q + 1 : Nat))) (some (.int (pre.length + T.length : Nat))) (some (.str T)) (some (.cell (rest.length + 1))) (some (.int (q + 3 : Nat))) ck ds (rest ++ [some ((done ++ [y]).map D.str)])) →
      X C 1 Γ (whB (nthS ch8 2)) (S8 pat a nn c (some (.int (i0 : Nat))) (some (.int (pre.length + T.length : Nat))) (some (.str T)) (some (.cell (rest.length + 1))) (some (.int (k0 : Nat))) ck ds (rest ++ [some (done.map D.str)])) Q' := by
    intro i0 k0 q done y Q' hF hcut hdl hq
    show X C 1 Γ (_ :: _ :: _ :: _ :: _ :: []) _ Q'
    refine X.cons (X1.assign (d := .int (q : Nat)) (E.meth (E.loc (by walk_at "in")) (.cons (E.str lit_hy) (.cons (E.loc (by walk_at "in")) (.cons (E.loc (by walk_at "in")) .nil))) (fun M A E' s PP cs v pl Q => gm_find) (find4 (Int.natCast_nonneg _) (Int.natCast_nonneg _) (by lia) (by rw [Int.toNat_natCast, Int.toNat_natCast]; exact hF))) (by walk_at "upd") ?_)
    refine X.cons (X1.if (b := false) (Fn.Internal.T.eq (Fn.Internal.T.cmp (E.loc (by walk_at "in")) E.int lt_i) (decide_eq_false (by simp))) (fun h => by cases h) fun _ => X.nil ?_)
    refine X.cons (X1.appendE (d := .str y) (E.loc (by walk_at "in")) (E.eq (E.cut (E.loc (by walk_at "in")) (.some (E.loc (by walk_at "in"))) (.some (E.loc (by walk_at "in"))) (Cut.str (by exact Nat.le_trans (by assumption) (by decide)))) (by rw [hcut])) (cell_get ds (done.map D.str) rest) (by rw [List.length_map]; exact Nat.le_trans (by assumption) (by decide)) (cell_set ds (done.map D.str) _ rest) ?_)
    refine X.cons (X1.assign (d := .int (q + 1 : Nat)) (E.eq (E.bin (E.loc (by walk_at "in")) E.int add_i) rfl) (by walk_at "upd") ?_)
    refine X.cons (X1.assign (d := .int (q + 3 : Nat)) (E.eq (E.bin (E.loc (by walk_at "in")) E.int add_i) rfl) (by walk_at "upd") (X.nil ?_))
    have e : (done ++ [y]).map D.str = done.map D.str ++ [D.str y] := by exact List.map_append ..
    rw [e] at hq
    exact hq
  have miss : ∀ (i0 k0 : Nat) (done : List Txt) (Q' : Fl → St → Prop), Found 45 pat k0 (pre.length + T.length) (-1) →
      Q' .brk (S8 pat a nn c (some (.int (i0 : Nat))) (some (.int (pre.length + T.length : Nat))) (some (.str T)) (some (.cell (rest.length + 1))) (some (.int (-1))) ck ds (rest ++ [some (done.map D.str)])) →
      X C 1 Γ (whB (nthS ch8 2)) (S8 pat a nn c (some (.int (i0 : Nat))) (some (.int (pre.length + T.length : Nat))) (some (.str T)) (some (.cell (rest.length + 1))) (some (.int (k0 : Nat))) ck ds (rest ++ [some (done.map D.str)])) Q' := by
    intro i0 k0 done Q' hF hq
    show X C 1 Γ (_ :: _ :: _ :: _ :: _ :: []) _ Q'
    refine X.cons (X1.assign (d := .int (-1)) (E.meth (E.loc (by walk_at "in")) (.cons (E.str lit_hy) (.cons (E.loc (by walk_at "in")) (.cons (E.loc (by walk_at "in")) .nil))) (fun M A E' s PP cs v pl Q => gm_find) (find4 (Int.natCast_nonneg _) (Int.natCast_nonneg _) (by lia) (by rw [Int.toNat_natCast, Int.toNat_natCast]; exact hF))) (by walk_at "upd") ?_)
    exact X.cons (X1.if (b := true) (Fn.Internal.T.eq (Fn.Internal.T.cmp (E.loc (by walk_at "in")) E.int lt_i) (by decide)) (fun _ => X.cons (X1.brk hq)) fun h => by cases h)
  have hLl : L.length ≤ 2 ^ 16 + 1 := by
    have := pj_len L
    rw [← hL, itsT_cks, hT] at this
    rw [← hL]
    simp at this ⊢
    lia
  rintro m σ' (⟨A, lead, r, done, rfl, hTA, hld, hPR, hne, hLd, rfl⟩ | ⟨Z, cur, kv, rfl, hZ, hkv, rfl⟩) K Q' hK hQ'
  · refine ⟨true, Fn.Internal.T.val E.bool Tr.bool, fun _ => ?_, fun h => by cases h⟩
    have hdl : done.length ≤ 2 ^ 17 := by
      have := congrArg List.length hLd
      rw [List.length_append] at this; lia
    have hpat : pat = (pre ++ A) ++ ((lead ++ itsT r) ++ 93 :: post) := by rw [hp, hTA]; simp
    have hTlen : T.length = A.length + (lead.length + (itsT r).length) := by rw [hTA]; simp only [List.length_append, List.length_cons, List.length_nil]
    have hspT := spanS_T r
    have hspc := spanS_cks lead r
    rcases spanS_rest r with hr | ⟨x, d, r', hr⟩
    · have hend := hPR.end hr
      have happ := spanS_app r
      rw [hr] at hspT hspc happ
      generalize (spanS r).1 = S at *
      have e1 : itsT r = S := by rw [hspT]; exact List.append_nil _
      have hck1 : cks lead r = [lead ++ S] := by rw [hspc]; rfl
      have hexit : ∀ kk : Option D, Op kk → X C 1 Γ (ch8.drop 3) (S8 pat a nn c (some (.int (pre.length + A.length : Nat))) (some (.int (pre.length + T.length : Nat))) (some (.str T)) (some (.cell (rest.length + 1))) kk ck ds (rest ++ [some (done.map D.str)])) Q := fun kk hkk => by
        refine exit _ (lead ++ S) done kk hkk ?_ (.inl ⟨by rw [← e1]; exact hne, by rw [← hLd, hck1]⟩)
        rw [hpat, e1]
        exact cutMid (by simp only [List.length_append, List.length_cons, List.length_nil]) (by rw [hTlen, e1]; simp; exact (Nat.add_assoc _ _ _).symm)
      rcases hend with h45 | ⟨s0, S', rfl, h45⟩
      · cases S with
        | nil =>
          refine miss _ _ _ _ (found_out ?_) (hQ' _ _ (hexit _ (Op.some (d := .int _) trivial)))
          rw [hTlen, e1]; simp; simp +arith
        | cons s0 S' =>
          have hpU : pat = (pre ++ A ++ lead ++ [s0]) ++ (S' ++ (93 :: post)) := by rw [hpat, e1]; simp
          have := found_no (U := pre ++ A ++ lead ++ [s0]) (V := S') (W := 93 :: post) (lo := pre.length + A.length + lead.length + 1) (hi := pre.length + T.length) (by simp; simp +arith) (by rw [hTlen, e1]; simp; simp +arith) (fun q => h45 45 (by trivial) rfl)
          rw [← hpU] at this
          exact miss _ _ _ _ this (hQ' _ _ (hexit _ (Op.some (d := .int _) trivial)))
      · have hpU : pat = (pre ++ A ++ lead ++ [s0]) ++ (S' ++ 45 :: (93 :: post)) := by rw [hpat, e1]; simp
        have hF := found_at (U := pre ++ A ++ lead ++ [s0]) (V := S') (W := 93 :: post) (lo := pre.length + A.length + lead.length + 1) (hi := pre.length + T.length) (by simp; simp +arith) (by rw [hTlen, e1]; simp; simp +arith) h45
        rw [← hpU] at hF
        refine hit (pre.length + A.length) _ _ done (lead ++ s0 :: S') _ hF ?_ hdl ?_
        · have : pat = (pre ++ A) ++ ((lead ++ s0 :: S') ++ (45 :: 93 :: post)) := by rw [hpat, e1]; simp
          rw [this]
          exact cutMid (by simp only [List.length_append, List.length_cons, List.length_nil]) (by simp; simp +arith)
        · have q1 : (pre ++ A ++ lead ++ [s0]).length + S'.length + 1 = pre.length + T.length := by rw [hTlen, e1]; simp; simp +arith
          refine hK 1 _ (by exact Nat.le_add_left _ _) (.last done (lead ++ s0 :: S') ((pre ++ A ++ lead ++ [s0]).length + S'.length + 3) rfl ?_ (by lia) (by rw [q1]))
          rw [← hLd, hck1]; simp
    · (refine elAA (hPR.span hr) fun hPR' hx45 hS45 => ?_)
      have happ := spanS_app r
      have hrg : r'.length < r.length := by rw [happ, hr]; simp; exact Nat.le_add_left _ _
      rw [hr] at hspT hspc
      generalize (spanS r).1 = S at *
      have e1 : itsT r = S ++ x :: 45 :: d :: itsT r' := by rw [hspT]; rfl
      obtain ⟨h, V, hV, hV45⟩ : ∃ h V, S ++ [x] = h :: V ∧ 45 ∉ V := by
        cases S with
        | nil => exact ⟨x, [], rfl, by simp⟩
        | cons s0 S' => exact ⟨s0, S' ++ [x], rfl, fun q => by
            rcases List.mem_append.mp q with q | q
            · exact hS45 45 q rfl
            · exact hx45 (List.mem_singleton.mp q).symm⟩
      have e2 : itsT r = (h :: V) ++ 45 :: d :: itsT r' := by rw [e1, ← hV]; simp
      have hVl : V.length = S.length := by have := congrArg List.length hV; simpa using this.symm
      have hpU : pat = (pre ++ A ++ lead ++ [h]) ++ (V ++ 45 :: (d :: itsT r' ++ 93 :: post)) := by rw [hpat, e2]; simp
      have hUl : (pre ++ A ++ lead ++ [h]).length = pre.length + A.length + lead.length + 1 := by simp; exact (Nat.add_assoc _ _ _).symm
      refine hit (pre.length + A.length) _ (pre.length + A.length + lead.length + 1 + V.length) done (lead ++ S ++ [x]) _ ?_ ?_ hdl ?_
      · have := found_at (U := pre ++ A ++ lead ++ [h]) (V := V) (W := d :: itsT r' ++ 93 :: post) (lo := pre.length + A.length + lead.length + 1) (hi := pre.length + T.length) hUl.symm (by rw [hUl, hTlen, e2]; simp; simp +arith) hV45
        rw [← hpU, hUl] at this
        exact this
      · have : pat = (pre ++ A) ++ ((lead ++ S ++ [x]) ++ (45 :: d :: itsT r' ++ 93 :: post)) := by rw [hpat, e1]; simp
        rw [this]
        exact cutMid (by simp only [List.length_append, List.length_cons, List.length_nil]) (by simp; lia)
      · refine hK (2 * r'.length + 2) _ (by lia) (.run (A ++ lead ++ S ++ [x, 45]) [d] r' (done ++ [lead ++ S ++ [x]]) rfl ?_ (by exact Nat.succ_pos _) hPR' (by exact List.cons_ne_nil _ _) ?_ ?_)
        · rw [hTA, e1]; simp
        · rw [← hLd, hspc, cks]; exact List.append_assoc ..
        · have q1 : pre.length + (A ++ lead ++ S ++ [x, 45]).length = pre.length + A.length + lead.length + 1 + V.length + 1 := by simp; lia
          have q2 : pre.length + (A ++ lead ++ S ++ [x, 45]).length + [d].length + 1 = pre.length + A.length + lead.length + 1 + V.length + 3 := by simp; lia
          rw [q2, q1]
  · refine ⟨true, Fn.Internal.T.val E.bool Tr.bool, fun _ => miss _ _ _ _ (found_out hkv) (hQ' _ _ ?_), fun h => by cases h⟩
    refine exit _ [] _ _ (Op.some (d := .int _) trivial) ?_ (.inr ⟨rfl, Z, cur, rfl, hZ⟩)
    rw [cut_ij rfl rfl]; simp
end
section
structure Jk (ch k ck : Option D) (rest : List (Option (List D))) : Prop where
  ch : ch = none ∨ ∃ m, ch = some (.cell m) ∧ m ≠ 0
  k : Op k
  ck : Op ck
  rest : ∀ es, some es ∈ rest → NoCells es
noncomputable def subE (ss : List Stmt) : Expr := stExpr (nthS ss 0)
noncomputable def lamPos (ss : List Stmt) : Pos := (exprP (argE (stExpr (nthS ss 0)) 0)).2.2.2
noncomputable def sb8 : List Stmt := [nthS in8 2]
structure R8 (C : Cx) (Γ : Fx) (p : Addr) : Prop extends T8 C Γ where
  lp : lamPos sb8 = C.lp
  lq : Γ.env.qual ++ "<lambda>" = C.lq
  re : C.mg "_twin_re_1" = some (.ref p)
  pat : PatIs C p
theorem sub8 {C : Cx} (G : Gl C) {Γ : Fx} {p : Addr} (W : R8 C Γ p) {σ : St} {x : Txt} (hx : x.length ≤ 2 ^ 20) (hm : (Str.ofString "stuff", some (D.str x)) ∈ σ.loc) : E C 1 Γ (subE sb8) σ (.str (pAmp x)) := by
  have F := W.F
  show E C 1 Γ (.Call (.Attribute (.Name _ _) "sub" _) [.Lambda _ (.BinOp (.Constant (.str _) _ _) .Add (.BoolOp .Or [.Call (.Attribute (.Name _ _) "group" _) [.Constant (.int 1) _ _] [] _, .Constant (.str _) _ _] _) _) _ _, _] [] _) σ (.str (pAmp x))
  exact E.sub_amp G.H W.B (E.fn G.H (kind_of F rfl) W.re) W.pat (E.loc hm) hx W.code W.lp W.lq W.ne W.ne' rfl rfl rfl rfl rfl rfl (by decide) rfl (by decide) (fun _ _ _ _ => rfl) (by intro _; exact ⟨_, by with_unfolding_all rfl⟩) (by with_unfolding_all rfl) (by intro _; exact ⟨_, by with_unfolding_all rfl⟩)
end
section
set_option maxHeartbeats 4000000 in
theorem in_tail {C : Cx} (G : Gl C) {Γ : Fx} {p : Addr} (W : R8 C Γ p) {pat : Txt} {a : Addr} {nn : D} {c ch k ck : Option D} {i' j : Nat} {ds : List D} {rest : List (Option (List D))} {its : List It} {Q : Fl → St → Prop} (hI : ItsOk its) (hcp : ∀ x ∈ itsT its, x < 1114112)
    (hTl : (itsT its).length ≤ 2 ^ 16) (hdl : ds.length ≤ 2 ^ 17)
    (hQ : ∀ st', Op st' → Q .next (S8 pat a nn c (some (.int (j + 1 : Nat))) (some (.int (j : Nat))) st' ch k ck (ds ++ [.str (91 :: (fixI its ++ pAmp (itsE1 its) ++ [93]))]) rest)) :
    X C 1 Γ (in8.drop 2) (S8 pat a nn c (some (.int (i' : Nat))) (some (.int (j : Nat))) (some (.str (itsE1 its))) ch k ck ds rest) Q := by
  have hsz : sizeLine = 2 ^ 24 := rfl
  have F := W.F
  have h1 := itsE1_len its
  have h2 := pAmp_len (itsE1 its)
  (refine elEEEEA (its_head hI) fun x o r z z0 hz => ?_; subst z0)
  have hx33 : x ≠ 33 := hI.first _ rfl
  have hxm : x ∈ itsT ((x, o) :: r) := by cases o <;> exact List.mem_cons_self
  have hxc := hcp x hxm
  generalize hS : pAmp (itsE1 ((x, o) :: r)) = S at *
  generalize hh : (if x = 92 ∨ x = 45 ∨ isAmp x = true then 92 else x) = h at hz
  have hh33 : h ≠ 33 := by
    rw [← hh]; split
    · decide
    · exact hx33
  have hhc : h < 1114112 := by
    rw [← hh]; split
    · decide
    · exact hxc
  have hfix : fixI ((x, o) :: r) = if h = 94 ∨ h = 91 then [92] else [] := by
    show (if x = 94 ∨ x = 91 then [92] else []) = _
    have : (x = 94 ∨ x = 91) ↔ (h = 94 ∨ h = 91) := by
      rw [← hh]
      split
      · rename_i q
        constructor
        · rintro (rfl | rfl) <;> trivial
        · intro q'; exact absurd q' (by decide)
      · exact Iff.rfl
    simp only [this]
  have hSl : S.length ≤ 2 ^ 18 := by lia
  show X C 1 Γ (_ :: _ :: _ :: []) _ Q
  refine X.cons (X1.assign (d := .str S) (E.eq (sub8 G W (x := itsE1 ((x, o) :: r)) (by lia) (by walk_at "in")) (by rw [hS])) (by walk_at "upd") ?_)
  refine X.cons (X1.assign (d := .int (j + 1 : Nat)) (E.eq (E.bin (E.loc (by walk_at "in")) E.int add_i) rfl) (by walk_at "upd") ?_)
  subst hz
  refine X.cons (X1.if (b := false) (T.eq (T.not (T.val (E.loc (by walk_at "in")) (Tr.str (by exact Nat.lt_of_le_of_lt (by assumption) (by decide))))) rfl) (fun q => by cases q) fun _ => ?_)
  refine X.cons (X1.if (b := false) (T.eq (T.cmp (E.loc (by walk_at "in")) (E.str lit_ex) eq_s) (decide_eq_false fun q => ?_)) (fun q => by cases q) fun _ => ?_)
  · injection q with q _; exact hh33 q
  have fin : ∀ y : Txt, y = fixI ((x, o) :: r) ++ h :: z → X C 1 Γ ((elseB (hdS (elseB (nthS in8 4)))).drop 1) (S8 pat a nn c (some (.int (j + 1 : Nat))) (some (.int (j : Nat))) (some (.str y)) ch k ck ds rest) (Then Γ C 1 [] (Then Γ C 1 [] Q)) := by
    intro y hy
    have hyl : y.length ≤ 2 ^ 18 + 1 := by
      have : (fixI ((x, o) :: r)).length ≤ 1 := by rw [hfix]; split <;> exact Nat.le_add_left _ _
      rw [hy, List.length_append]; lia
    show X C 1 Γ (_ :: []) _ _
    refine X.cons (X1.callME (k := 0) (ds := ds) (d := .str (91 :: (fixI ((x, o) :: r) ++ (h :: z) ++ [93]))) (E.loc (by walk_at "in")) (E.eq (E.fstr (Fs.cons (E.str lit_ob) (Fs.cons (E.fv (E.loc (by walk_at "in")) (by exact Nat.le_trans (by assumption) (by decide))) (Fs.cons (E.str lit_br) Fs.nil))) (by simp; lia)) ?_) rfl (by exact Nat.le_trans (by assumption) (by decide)) rfl ?_)
    · rw [hy]; rfl
    · exact X.nil (X.nil (X.nil (hQ _ (Op.some (d := .str y) trivial))))
  refine X.cons (X1.if (b := false) (T.eq (T.cmp (E.sub (E.loc (by walk_at "in")) E.int (Sub.str (c := h) (by rw [List.length_cons]; exact Int.natCast_nonneg _) (by exact Nat.lt_of_le_of_lt (by assumption) (by decide)) (by rfl) (by rw [List.length_cons]; simp))) (E.str lit_ex) eq_s) (decide_eq_false fun q => ?_)) (fun q => by cases q) fun _ => ?_)
  · injection q with q _; exact hh33 q
  refine X.cons (X1.if (b := decide (h = 94 ∨ h = 91)) (T.cmp (E.sub (E.loc (by walk_at "in")) E.int (Sub.str (c := h) (by rw [List.length_cons]; exact Int.natCast_nonneg _) (by exact Nat.lt_of_le_of_lt (by assumption) (by decide)) (by rfl) (by rw [List.length_cons]; simp))) (E.tuple (.cons (E.str lit_ca) (.cons (E.str lit_ob) .nil)) (by decide +kernel)) (in_tup (k := 1) (by decide) (fun e he => ?_) (fun y hy => by cases List.mem_singleton.mp hy; exact hhc) ?_)) (fun q => ?_) fun q => ?_)
  · rcases List.mem_cons.mp he with rfl | he
    · intro y hy; cases List.mem_singleton.mp hy; decide
    · cases List.mem_singleton.mp he; intro y hy; cases List.mem_singleton.mp hy; decide
  · simp
  · refine X.cons (X1.assign (d := .str (92 :: h :: z)) (E.eq (E.bin (E.str lit_bs) (E.loc (by walk_at "in")) (add_s (by simp at hSl ⊢; lia))) rfl) (by walk_at "upd") (X.nil (X.nil ?_)))
    refine fin _ ?_
    rw [hfix, if_pos (of_decide_eq_true q)]; rfl
  · refine X.nil (X.nil ?_)
    refine fin _ ?_
    rw [hfix, if_neg (of_decide_eq_false q)]; rfl
end
section
theorem its93 {its : List It} (hI : ItsOk its) : ∀ x, 1 ≤ x → (itsT its)[x]? ≠ some 93 := by
  obtain ⟨p0, r0, rfl⟩ : ∃ p r, its = p :: r := by
    cases its with
    | nil => exact absurd rfl hI.ne
    | cons p r => exact ⟨p, r, rfl⟩
  have hr : 93 ∉ itsT r0 := by
    intro q
    (refine elEA (List.mem_flatMap.mp q) fun y hy hm => ?_)
    obtain ⟨i, hi⟩ := List.getElem?_of_mem hy
    have h1 := hI.br (i + 1) y (by trivial) (.inl (by exact Nat.ne_of_gt (Nat.succ_pos _)))
    obtain ⟨c, o⟩ := y
    cases o with
    | none => simp [itT1] at hm; exact h1 hm.symm
    | some d =>
      have h2 := (hI.rg c d (.tail _ hy)).2.2.1
      simp [itT1] at hm
      rcases hm with e | e
      · exact h1 e.symm
      · exact h2 e.symm
  intro x hx q
  have e : itsT (p0 :: r0) = itT1 p0 ++ itsT r0 := rfl
  rw [e] at q
  by_cases hlt : x < (itT1 p0).length
  · rw [List.getElem?_append_left hlt] at q
    obtain ⟨c, o⟩ := p0
    cases o with
    | none => simp [itT1] at hlt; simp_all
    | some d =>
      have h2 := (hI.rg c d (.head _)).2.2.1
      simp [itT1] at hlt q
      match x, hx, hlt, q with
      | 1, _, _, q => simp at q
      | 2, _, _, q => simp at q; exact h2 q
  · rw [List.getElem?_append_right (by exact Nat.le_of_not_lt (by assumption))] at q
    exact hr (List.mem_of_getElem? q)
inductive I74 (hi j1 : Nat) (S : Nat → St) (m : Nat) (σ' : St) : Prop
  | mk (jj : Nat) (hm : m = hi - jj) (hj2 : j1 ≤ jj) (hj3 : jj ≤ hi) (e : σ' = S jj) : I74 hi j1 S m σ'
set_option maxHeartbeats 4000000 in
theorem brk_walk {C : Cx} (G : Gl C) {Γ : Fx} {p : Addr} (W : R8 C Γ p) {pat pre post : Txt} {a : Addr} {c j0 st0 ch k ck : Option D} {ds : List D} {rest : List (Option (List D))} {its : List It} {Q : Fl → St → Prop} (hI : ItsOk its) (hcp : ∀ x ∈ pat, x < 1114112)
    (hpl : pat.length ≤ 2 ^ 16) (hp : pat = pre ++ (itsT its ++ 93 :: post)) (hdl : ds.length ≤ 2 ^ 17) (hJ : Jk ch k ck rest)
    (hQ : ∀ j' st' ch' k' ck' rest', Op j' → Op st' → Jk ch' k' ck' rest' → Q .next (S8 pat a (.int (pat.length : Nat)) c (some (.int (pre.length + (itsT its).length + 1 : Nat))) j' st' ch' k' ck' (ds ++ [.str (91 :: (fixI its ++ pAmp (itsE1 its) ++ [93]))]) rest')) :
    X C 1 Γ brk8 (S8 pat a (.int (pat.length : Nat)) c (some (.int (pre.length : Nat))) j0 st0 ch k ck ds rest) Q := by
  have hsz : sizeLine = 2 ^ 24 := rfl
  have F := W.F
  have hpl2 : pre.length + (itsT its).length + 1 + post.length = pat.length := by rw [hp]; simp; simp +arith
  have hTl : (itsT its).length ≤ 2 ^ 16 := by lia
  have hcT : ∀ x ∈ itsT its, x < 1114112 := fun x hx => hcp x (by rw [hp]; simp [hx])
  have hgT : ∀ x, x < (itsT its).length → pat[pre.length + x]? = (itsT its)[x]? := fun x hx => by
    rw [hp, List.getElem?_append_right (by exact Nat.le_add_right _ _), show pre.length + x - pre.length = x by simp, List.getElem?_append_left hx]
  obtain ⟨c0, hc0, h33⟩ : ∃ c0, (itsT its)[0]? = some c0 ∧ c0 ≠ 33 := by
    (refine elEEEEA (its_head hI) fun x o r z z0 _ => ?_; subst z0)
    have := hI.first _ rfl
    cases o <;> exact ⟨x, by rfl, this⟩
  have hTpos : 0 < (itsT its).length := (List.getElem?_eq_some_iff.mp hc0).1
  have hp0 : pat[pre.length]? = some c0 := by have := hgT 0 hTpos; simpa [hc0] using this
  show X C 1 Γ (_ :: _ :: _ :: _ :: _ :: []) _ Q
  refine X.cons (X1.assign (d := .int (pre.length : Nat)) (E.loc (by walk_at "in")) (by walk_at "upd") ?_)
  have tst : ∀ {σ : St} {i1 i2 i3 : Pos} {e1 : Pos} {q1 q2 q3 q4 q5 q6 : Pos} {kk : Nat} {s1 : Str} {jj cc y : Nat}, (Str.ofString "pat", some (D.str pat)) ∈ σ.loc → (Str.ofString "n", some (D.int (pat.length : Nat))) ∈ σ.loc → (Str.ofString "j", some (D.int (jj : Nat))) ∈ σ.loc → jj < pat.length → pat[jj]? = some cc → s1.cps.toList = [y] →
      T C 1 Γ (.BoolOp .And [.Compare (.Name "j" q1) [.Lt] [.Name "n" q2] q3, .Compare (.Subscript (.Name "pat" q4) (.Name "j" q5) q6) [.Eq] [.Constant (.str s1) kk e1] i1] i2) σ (decide (cc = y)) := by
    intro σ i1 i2 i3 e1 q1 q2 q3 q4 q5 q6 kk s1 jj cc y m1 m2 m3 hlt hcc hy
    refine T.eq (T.and (T.cmp (E.loc m3) (E.loc m2) lt_i) fun _ => T.and (T.cmp (E.sub (E.loc m1) (E.loc m3) (Sub.str (c := cc) (by simp) (by exact Nat.lt_of_le_of_lt (by assumption) (by decide)) (by rw [if_neg (by simp), Int.toNat_natCast]; exact hcc) (by exact of_decide_eq_true (by assumption)))) (E.str hy) eq_s) fun _ => T.and_nil) ?_
    rw [decide_eq_true (by exact Int.ofNat_lt.mpr (by assumption) : (jj : Int) < (pat.length : Nat))]
    simp
  refine X.cons (X1.if (b := false) (T.eq (tst (i3 := default) (by walk_at "in") (by walk_at "in") (by walk_at "in") (by simp_all +arith) hp0 lit_ex) (decide_eq_false h33)) (fun q => by cases q) fun _ => X.nil ?_)
  have go : ∀ j1 : Nat, (j1 = pre.length ∧ c0 ≠ 93) ∨ j1 = pre.length + 1 → X C 1 Γ (brk8.drop 3) (S8 pat a (.int (pat.length : Nat)) c (some (.int (pre.length : Nat))) (some (.int (j1 : Nat))) st0 ch k ck ds rest) Q := by
    intro j1 hj1
    have hno : ∀ x, j1 ≤ x → x < pre.length + (itsT its).length → ∃ cc, pat[x]? = some cc ∧ cc ≠ 93 := fun x h1 h2 => by
      have e := hgT (x - pre.length) (by lia)
      rw [show pre.length + (x - pre.length) = x by lia] at e
      have hlt : x - pre.length < (itsT its).length := by lia
      rw [List.getElem?_eq_getElem hlt] at e
      refine ⟨_, e, fun z => ?_⟩
      by_cases h0 : x = pre.length
      · subst h0
        simp only [Nat.sub_self] at z
        have : c0 = 93 := by
          have h5 := (List.getElem?_eq_some_iff.mp hc0).2
          rw [← h5]; exact z
        rcases hj1 with ⟨_, h⟩ | h
        · exact h this
        · simp_all +arith
      · exact its93 hI (x - pre.length) (by lia) (by rw [List.getElem?_eq_getElem hlt, z])
    have hend : pat[pre.length + (itsT its).length]? = some 93 := by
      have := get_at (U := pre ++ itsT its) (W := post) (c := 93)
      rw [List.append_assoc, ← hp, List.length_append] at this
      exact this
    show X C 1 Γ (_ :: _ :: []) _ Q
    refine X.cons (X1.whileH (I74 (pre.length + (itsT its).length) j1 fun jj => S8 pat a (.int (pat.length : Nat)) c (some (.int (pre.length : Nat))) (some (.int (jj : Nat))) st0 ch k ck ds rest)
      (k₀ := pre.length + (itsT its).length - j1) ⟨j1, rfl, Nat.le_refl _, by lia, rfl⟩ ?_)
    rintro m _ ⟨jj, rfl, hj2, hj3, rfl⟩ K Q' hK hQ'
    have tst2 : ∀ cc, pat[jj]? = some cc → T C 1 Γ (match nthS brk8 3 with | .While t _ _ _ => t | _ => .Constant .none 0 default) (S8 pat a (.int (pat.length : Nat)) c (some (.int (pre.length : Nat))) (some (.int (jj : Nat))) st0 ch k ck ds rest) (!decide (cc = 93)) := by
      intro cc hcc
      have hlt := (List.getElem?_eq_some_iff.mp hcc).1
      show T C 1 Γ (.BoolOp .And [.Compare (.Name "j" _) [.Lt] [.Name "n" _] _, .Compare (.Subscript (.Name "pat" _) (.Name "j" _) _) [.NotEq] [.Constant (.str "]") _ _] _] _) _ _
      refine T.eq (T.and (T.cmp (E.loc (by walk_at "in")) (E.loc (by walk_at "in")) lt_i) fun _ => T.and (T.cmp (E.sub (E.loc (by walk_at "in")) (E.loc (by walk_at "in")) (Sub.str (c := cc) (by simp) (by exact Nat.lt_of_le_of_lt (by assumption) (by decide)) (by rw [if_neg (by exact of_decide_eq_false (by assumption)), Int.toNat_natCast]; exact hcc) (by exact of_decide_eq_true (by assumption)))) (E.str lit_br) ne_s) fun _ => T.and_nil) ?_
      rw [decide_eq_true (by exact Int.ofNat_lt.mpr (by assumption) : (jj : Int) < (pat.length : Nat))]
      simp
    by_cases hjj : jj = pre.length + (itsT its).length
    · subst hjj
      refine ⟨false, T.eq (tst2 93 hend) (by assumption), (fun q => by cases q), fun _ => hQ' _ _ ?_⟩
      clear hK hQ'
      refine X.cons (X1.if (b := false) (T.eq (T.cmp (E.loc (by walk_at "in")) (E.loc (by walk_at "in")) ge_i) (decide_eq_false (by simp_all +arith))) (fun q => by cases q) fun _ => ?_)
      show X C 1 Γ (_ :: _ :: in8.drop 2) _ _
      have hcut : cut pat (some ((pre.length : Nat) : Int)) (some ((pre.length + (itsT its).length : Nat) : Int)) = itsT its := by rw [hp]; exact cutMid rfl rfl
      refine X.cons (X1.assign (d := .str (itsT its)) (E.eq (E.cut (E.loc (by walk_at "in")) (.some (E.loc (by walk_at "in"))) (.some (E.loc (by walk_at "in"))) (Cut.str (by exact Nat.le_trans (by assumption) (by decide)))) (by rw [hcut])) (by walk_at "upd") ?_)
      have hsub : subB [45] (itsT its) = decide (45 ∈ itsT its) := by
        rw [Bool.eq_iff_iff, subB_iff, decide_eq_true_eq]
        constructor
        · (intro z4; refine elEE z4 fun x y e => ?_; clear z4); rw [← e]; simp
        · intro hm
          (refine elEE (List.append_of_mem hm) fun x y e => ?_)
          exact ⟨x, y, by rw [e]; exact List.append_assoc ..⟩
      refine X.cons (X1.if (b := !decide (45 ∈ itsT its)) (T.eq (T.cmp (E.str lit_hy) (E.loc (by walk_at "in")) notIn_s) (by rw [hsub])) (fun q => ?_) fun q => ?_)
      · have h45 : 45 ∉ itsT its := by simpa using q
        refine X.cons (X1.assign (d := .str (itsE1 its)) (E.eq (E.replaceC (c := 92) (zl := [92, 92]) (E.loc (by walk_at "in")) rfl (by decide) (by decide) (by decide) (by exact Nat.le_trans (by assumption) (by decide))) (by rw [rep1 h45, free_E h45])) (by walk_at "upd") (X.nil ?_))
        exact in_tail G W hI hcT hTl hdl fun st' hst' => X.nil (hQ _ st' ch k ck rest (Op.some (d := .int _) trivial) hst' hJ)
      · refine ch_walk G W.toT8 (its := its) (ch := ch) (k := k) hI hpl hp hJ.ck fun i' k' ck' hk' hck' => ?_
        refine in_tail G W hI hcT hTl hdl fun st' hst' => X.nil (hQ _ st' _ k' ck' _ (Op.some (d := .int _) trivial) hst' ⟨.inr ⟨rest.length + 1, rfl, by exact Nat.ne_of_gt (Nat.succ_pos _)⟩, hk', hck', fun es he => ?_⟩)
        rcases List.mem_append.mp he with q | q
        · exact hJ.rest es q
        · cases List.mem_singleton.mp q; exact noCells_str _
    · (refine elEA (hno jj hj2 (by lia)) fun cc hcc hc93 => ?_)
      refine ⟨true, T.eq (tst2 cc hcc) (by simpa using hc93), fun _ => ?_, fun q => by cases q⟩
      exact X.cons (X1.assign (d := .int (jj + 1 : Nat)) (E.eq (E.bin (E.loc (by walk_at "in")) E.int add_i) rfl) (by walk_at "upd") (X.nil (hK _ _ (by lia) ⟨jj + 1, rfl, by exact Nat.le_succ_of_le (by assumption), by lia, rfl⟩)))
  refine X.cons (X1.if (b := decide (c0 = 93)) (tst (i3 := default) (by walk_at "in") (by walk_at "in") (by walk_at "in") (by simp_all +arith) hp0 lit_br) (fun q => ?_) fun q => ?_)
  · exact X.cons (X1.assign (d := .int (pre.length + 1 : Nat)) (E.eq (E.bin (E.loc (by walk_at "in")) E.int add_i) rfl) (by walk_at "upd") (X.nil (go _ (.inr rfl))))
  · exact X.nil (go _ (.inl ⟨rfl, of_decide_eq_false q⟩))
end
section
theorem d8 : DefOk (sc 8) (stParams (st 8)) (bd 8) (stName (st 8)) ["pat", "STAR", "QUESTION_MARK"] ["res", "add", "i", "n", "c", "j", "stuff", "chunks", "k", "chunk"] := DefOk.three rfl rfl rfl rfl (fun _ _ _ _ _ _ => rfl) (by decide +kernel) (by decide +kernel)
structure P8 (C : Cx) (G : Gl C) (p d : Addr) (f : Int → Option Value) : Prop where
  fn : FnIsC C (G.v 8) (stName (st 8)) (stParams (st 8)) (bd 8) (sc 8) (.ref C.cT)
  B : BMC C
  gp : genPos jn8 = C.gp
  gq : envQual (stName (st 8)) ++ "<genexpr>" = C.gq
  ne : sameAt C.lp C.gp = false
  ne' : sameAt C.gp C.lp = false
  lp : lamPos sb8 = C.lp
  lq : envQual (stName (st 8)) ++ "<lambda>" = C.lq
  re : C.mg "_twin_re_1" = some (.ref p)
  pat : PatIs C p
  mp : C.mg "_special_chars_map" = some (.ref d)
  map : MapIs C d f
noncomputable def flatP (ts : List Tk) : Txt := ts.flatMap tkP
theorem pieces_snoc (f : Int → Option Value) (ts : List Tk) (t : Tk) : pieces f (ts ++ [t]) = addPc f (pieces f ts) t := by simp [pieces]
theorem addPc_len (f : Int → Option Value) (ps : List Pc) (t : Tk) : (addPc f ps t).length ≤ ps.length + 1 := by
  cases t <;> simp [addPc]
  split <;> simp
theorem pieces_len (f : Int → Option Value) (ts : List Tk) : (pieces f ts).length ≤ ts.length := by
  have : ∀ (ts : List Tk) (ps : List Pc), (ts.foldl (addPc f) ps).length ≤ ps.length + ts.length := by
    intro ts
    induction ts with
    | nil => intro ps; simp
    | cons t ts ih =>
      intro ps
      have := ih (addPc f ps t)
      have := addPc_len f ps t
      rw [List.foldl_cons, List.length_cons]; lia
  have := this ts []
  simpa [pieces] using this
theorem tkP_pos (t : Tk) : 1 ≤ (tkP t).length := by cases t <;> exact Nat.succ_pos _
theorem flatP_len : ∀ ts : List Tk, ts.length ≤ (flatP ts).length
  | [] => by simp
  | t :: ts => by
    have := flatP_len ts
    have := tkP_pos t
    show _ ≤ (tkP t ++ flatP ts).length
    rw [List.length_append, List.length_cons]; lia
inductive I8 (f : Int → Option Value) (a : Addr) (pat : Txt) (ts : List Tk) (m : Nat) (σ' : St) : Prop
  | mk (t1 t2 : List Tk) (c j st ch k ck : Option D) (rest : List (Option (List D))) (hts : ts = t1 ++ t2) (hm : m = t2.length) (hc : Op c) (hj : Op j) (hst : Op st) (hJ : Jk ch k ck rest)
    (e : σ' = S8 pat a (.int (pat.length : Nat)) c (some (.int ((flatP t1).length : Nat))) j st ch k ck ((pieces f t1).map (ePc a)) rest) : I8 f a pat ts m σ'
noncomputable def swp8 : Stmt := nthS (bd 8) 2
set_option maxHeartbeats 8000000 in
theorem tr8_spec {C : Cx} (G : Gl C) {p d : Addr} {f : Int → Option Value} (K : P8 C G p d f) {a : Addr} {ts : List Tk} (hok : ∀ t ∈ ts, TkOk t) (hcp : ∀ x ∈ flatP ts, x < 1114112) (hpl : (flatP ts).length ≤ 2 ^ 16) :
    Spec C 2 (G.v 8) [.str (flatP ts), .raw (.ref a), .str [46]] (.lst ((pieces f ts).map (ePc a))) := by
  have hsz : sizeLine = 2 ^ 24 := rfl
  refine Spec.ofC G.H K.fn d8 rfl ⟨trivial, trivial, trivial, trivial⟩ (noCells_pcs a _) fun Γ F hcode hqual => ?_
  have W : R8 C Γ p := { F := F, B := K.B, code := hcode, gp := K.gp, gq := by rw [hqual]; exact K.gq, ne := K.ne, ne' := K.ne', lp := K.lp, lq := by rw [hqual]; exact K.lq, re := K.re, pat := K.pat }
  show X C 1 Γ (_ :: _ :: _ :: _ :: _ :: _ :: []) ⟨[("pat", some (.str (flatP ts))), ("STAR", some (.raw (.ref a))), ("QUESTION_MARK", some (.str [46])), ("res", none), ("add", none), ("i", none), ("n", none), ("c", none), ("j", none), ("stuff", none), ("chunks", none), ("k", none), ("chunk", none)], [], []⟩ _
  refine X.hide fun Q hQ => ?_
  refine X.cons (X1.newCell .nil (Nat.zero_le _) (by walk_at "upd") ?_)
  show X C 1 Γ (_ :: _ :: _ :: _ :: _ :: []) ⟨[("pat", some (.str (flatP ts))), ("STAR", some (.raw (.ref a))), ("QUESTION_MARK", some (.str [46])), ("res", some (.cell 0)), ("add", none), ("i", none), ("n", none), ("c", none), ("j", none), ("stuff", none), ("chunks", none), ("k", none), ("chunk", none)], [], [some []]⟩ _
  refine X.cons (X1.assign (d := .meth 0) (E.appendM (E.loc (by walk_at "in")) rfl) (by walk_at "upd") ?_)
  refine X.cons (X1.assignSwap2 (d₁ := .int 0) (d₂ := .int ((flatP ts).length : Nat)) (E.tuple (.cons E.int (.cons (E.callB (E.gb G (kind_of F rfl) boot_len) (.cons (E.loc (by walk_at "in")) .nil) (len_s (by exact Nat.lt_of_le_of_lt (by assumption) (by decide)))) .nil)) (show (2 : Nat) ≤ sizeLine by decide +kernel)) (by walk_at "upd") (by walk_at "upd") ?_ (swap_of F (env0 := env0 8) rfl (by with_unfolding_all rfl)))
  generalize hpat : flatP ts = pat at *
  refine X.cons (X1.whileH (I8 f a pat ts)
    (k₀ := ts.length) ⟨[], ts, none, none, none, none, none, none, [], rfl, rfl, Op.none, Op.none, Op.none, ⟨.inl rfl, Op.none, Op.none, fun es h => by cases h⟩, rfl⟩ ?_)
  rintro m _ ⟨t1, t2, c, j, st, ch, k, ck, rest, hts, rfl, hc, hj, hst, hJ, rfl⟩ K' Q' hK hQ'
  have hlt : (flatP t1).length + (flatP t2).length = pat.length := by rw [← hpat, hts]; simp [flatP]
  have hdl : ((pieces f t1).map (ePc a)).length ≤ 2 ^ 17 := by
    rw [List.length_map]
    have := pieces_len f t1
    have := flatP_len t1
    lia
  cases t2 with
  | nil =>
    have h0 : (flatP t1).length = pat.length := by trivial
    have h1 : ts = t1 := by simpa using hts
    refine ⟨false, T.eq (T.cmp (E.loc (by walk_at "in")) (E.loc (by walk_at "in")) lt_i) (decide_eq_false (by simp_all)), (fun q => by cases q), fun _ => hQ' _ _ ?_⟩
    clear hK hQ' K' Q'
    refine X.cons (X1.assert (T.eq (T.cmp (E.loc (by walk_at "in")) (E.loc (by walk_at "in")) eq_i) (decide_eq_true (by rw [h0]))) ?_)
    subst h1
    have hch : FrzE 0 (.lst ((pieces f ts).map (ePc a))) ch ch := by
      rcases hJ.ch with rfl | ⟨m, rfl, hm⟩
      · exact .none
      · exact .other hm
    refine X.frz (k := 0) (ds := (pieces f ts).map (ePc a)) rfl (l' := [("pat", some (.str pat)), ("STAR", some (.raw (.ref a))), ("QUESTION_MARK", some (.str [46])), ("res", some (.lst ((pieces f ts).map (ePc a)))), ("add", none), ("i", some (.int ((flatP ts).length : Nat))), ("n", some (.int (pat.length : Nat))), ("c", c), ("j", j), ("stuff", st), ("chunks", ch), ("k", k), ("chunk", ck)])
      (.cons (.keep trivial) (.cons (.keep trivial) (.cons (.keep trivial) (.cons .cell (.cons .dropM (.cons (.keep trivial) (.cons (.keep trivial) (.cons (.op hc) (.cons (.op hj) (.cons (.op hst) (.cons hch (.cons (.op hJ.k) (.cons (.op hJ.ck) .nil))))))))))))) (fun es he => ?_) ?_
    · rcases List.mem_cons.mp he with q | q
      · cases q; exact noCells_pcs a _
      · exact hJ.rest es q
    · exact X.cons (X1.ret (E.loc (by walk_at "in")) (hQ _ _ rfl))
  | cons t t2 =>
    have htk := hok t (by rw [hts]; simp)
    have hpat' : pat = flatP t1 ++ (tkP t ++ flatP t2) := by rw [← hpat, hts]; simp [flatP]
    have htp := tkP_pos t
    have hl2 : (flatP (t :: t2)).length = (tkP t).length + (flatP t2).length := by exact List.length_append ..
    obtain ⟨c0, w0, hw⟩ : ∃ c0 w, tkP t = c0 :: w := by
      cases h : tkP t with
      | nil => rw [h] at htp; exact absurd (by assumption) (Nat.lt_irrefl _)
      | cons x y => exact ⟨x, y, rfl⟩
    have hc0 : pat[(flatP t1).length]? = some c0 := by rw [hpat', hw]; exact get_at
    have e1 : flatP (t1 ++ [t]) = flatP t1 ++ tkP t := by simp [flatP]
    refine ⟨true, T.eq (T.cmp (E.loc (by walk_at "in")) (E.loc (by walk_at "in")) lt_i) (decide_eq_true (by lia)), fun _ => ?_, (fun q => by cases q)⟩
    refine X.cons (X1.assign (d := .str [c0]) (E.sub (E.loc (by walk_at "in")) (E.loc (by walk_at "in")) (Sub.str (c := c0) (by simp) (by exact Nat.lt_of_le_of_lt (by assumption) (by decide)) (by rw [if_neg (by exact of_decide_eq_true (by assumption)), Int.toNat_natCast]; exact hc0) (by lia))) (by walk_at "upd") ?_)
    refine X.cons (X1.assign (d := .int ((flatP t1).length + 1 : Nat)) (E.eq (E.bin (E.loc (by walk_at "in")) E.int add_i) rfl) (by walk_at "upd") ?_)
    have next : ∀ (j st ch k ck : Option D) (rest : List (Option (List D))) (il : Nat) (ds : List D), (flatP (t1 ++ [t])).length = il → (addPc f (pieces f t1) t).map (ePc a) = ds → Op j → Op st → Jk ch k ck rest →
        K' (S8 pat a (.int (pat.length : Nat)) (some (.str [c0])) (some (.int il)) j st ch k ck ds rest) := by
      rintro j st ch k ck rest _ _ rfl rfl h1 h2 h3
      exact hK t2.length _ (by simp) ⟨t1 ++ [t], t2, some (.str [c0]), j, st, ch, k, ck, rest, by rw [hts]; simp, rfl, Op.some (d := .str [c0]) trivial, h1, h2, h3, by rw [pieces_snoc]⟩
    clear hK hQ' hQ
    have one : (tkP t).length = 1 → (flatP (t1 ++ [t])).length = (flatP t1).length + 1 := fun h => by rw [e1, List.length_append, h]
    cases t with
    | star =>
      cases hw
      refine X.cons (X1.if (b := true) (T.eq (T.cmp (E.loc (by walk_at "in")) (E.str lit_st) eq_s) (by decide)) (fun _ => ?_) (fun q => by cases q))
      have hsd : Seqd (S8 pat a (.int (pat.length : Nat)) (some (.str [42])) (some (.int ((flatP t1).length + 1 : Nat))) j st ch k ck ((pieces f t1).map (ePc a)) rest) (.cell 0) ((pieces f t1).map (ePc a)) := .cell 0 _ rfl
      have hmp : ((pieces f t1).map (ePc a)).length = (pieces f t1).length := List.length_map ..
      have hlast : ∀ (q1 q2 q3 q4 : Pos) (kk : Nat) (o : Pc), (pieces f t1).getLast? = some o → E C 1 Γ (.Subscript (.Name "res" q1) (.UnaryOp .USub (.Constant (.int 1) kk q2) q3) q4) (S8 pat a (.int (pat.length : Nat)) (some (.str [42])) (some (.int ((flatP t1).length + 1 : Nat))) j st ch k ck ((pieces f t1).map (ePc a)) rest) (ePc a o) := by
        intro q1 q2 q3 q4 kk o ho
        have hpos : 0 < (pieces f t1).length := by
          cases h : pieces f t1 with
          | nil => rw [h] at ho; cases ho
          | cons _ _ => simp
        refine E.sub (E.loc (by walk_at "in")) (E.neg E.int) (sub_lst_neg hsd (by decide) (by rw [hmp]; lia) ?_ (by exact Nat.lt_of_le_of_lt (by assumption) (by decide)))
        rw [hmp, show ((-1 : Int) + (pieces f t1).length).toNat = (pieces f t1).length - 1 from negone _, List.getElem?_map, ← List.getLast?_eq_getElem?, ho]; rfl
      refine X.cons (X1.if (b := !decide ((pieces f t1).getLast? = some none)) ?_ (fun q => ?_) fun q => ?_)
      · cases hg : (pieces f t1).getLast? with
        | none =>
          have h0 : pieces f t1 = [] := List.getLast?_eq_none_iff.mp hg
          refine T.eq (T.or (q := true) (T.not (T.val (E.loc (by walk_at "in")) (Tr.seq hsd (by exact Nat.lt_of_le_of_lt (by assumption) (by decide))))) fun q => ?_) ?_
          · rw [h0] at q; cases q
          · rw [h0]; rfl
        | some o =>
          have hne : (pieces f t1).isEmpty = false := by cases h : pieces f t1 with | nil => rw [h] at hg; cases hg | cons _ _ => rfl
          have hne2 : ((pieces f t1).map (ePc a)).isEmpty = false := by cases h : pieces f t1 with | nil => rw [h] at hg; cases hg | cons _ _ => rfl
          cases o with
          | none =>
            refine T.eq (T.or (T.not (T.val (E.loc (by walk_at "in")) (Tr.seq hsd (by exact Nat.lt_of_le_of_lt (by assumption) (by decide))))) fun q => T.or (T.cmp (hlast _ _ _ _ _ _ hg) (E.loc (by walk_at "in")) isNot_self) fun _ => T.or_nil) ?_
            rw [hne2]; rfl
          | some y =>
            refine T.eq (T.or (T.not (T.val (E.loc (by walk_at "in")) (Tr.seq hsd (by exact Nat.lt_of_le_of_lt (by assumption) (by decide))))) fun q => T.or (T.cmp (hlast _ _ _ _ _ _ hg) (E.loc (by walk_at "in")) isNot_str) fun _ => T.or_nil) ?_
            rw [hne2]; rfl
      · have hq : ¬ (pieces f t1).getLast? = some none := by simpa using q
        refine X.cons (X1.callME (k := 0) (d := .raw (.ref a)) (E.loc (by walk_at "in")) (E.loc (by walk_at "in")) rfl (by exact Nat.le_trans (by assumption) (by decide)) rfl (X.nil (X.nil (X.nil ?_))))
        exact next j st ch k ck rest _ _ (one rfl) (show (addPc f (pieces f t1) .star).map (ePc a) = (pieces f t1).map (ePc a) ++ [D.raw (.ref a)] from by simp [addPc, hq, ePc]) hj hst hJ
      · have hq : (pieces f t1).getLast? = some none := by simpa using q
        refine X.nil (X.nil (X.nil ?_))
        exact next j st ch k ck rest _ _ (one rfl) (show (addPc f (pieces f t1) .star).map (ePc a) = (pieces f t1).map (ePc a) from by simp [addPc, hq]) hj hst hJ
    | any =>
      cases hw
      refine X.cons (X1.if (b := false) (T.eq (T.cmp (E.loc (by walk_at "in")) (E.str lit_st) eq_s) (by decide)) (fun q => by cases q) fun _ => ?_)
      refine X.cons (X1.if (b := true) (T.eq (T.cmp (E.loc (by walk_at "in")) (E.str lit_qu) eq_s) (by decide)) (fun _ => ?_) (fun q => by cases q))
      refine X.cons (X1.callME (k := 0) (d := .str [46]) (E.loc (by walk_at "in")) (E.loc (by walk_at "in")) rfl (by exact Nat.le_trans (by assumption) (by decide)) rfl (X.nil (X.nil (X.nil ?_))))
      exact next j st ch k ck rest _ _ (one rfl) (show (addPc f (pieces f t1) .any).map (ePc a) = (pieces f t1).map (ePc a) ++ [D.str [46]] from by exact List.map_append ..) hj hst hJ
    | bare x =>
      cases hw
      (refine elAA htk fun h42 h63 h91 => ?_; clear htk)
      refine X.cons (X1.if (b := false) (T.eq (T.cmp (E.loc (by walk_at "in")) (E.str lit_st) eq_s) (decide_eq_false (by simpa using h42))) (fun q => by cases q) fun _ => ?_)
      refine X.cons (X1.if (b := false) (T.eq (T.cmp (E.loc (by walk_at "in")) (E.str lit_qu) eq_s) (decide_eq_false (by simpa using h63))) (fun q => by cases q) fun _ => ?_)
      refine X.cons (X1.if (b := false) (T.eq (T.cmp (E.loc (by walk_at "in")) (E.str lit_ob) eq_s) (decide_eq_false (by simpa using h91))) (fun q => by cases q) fun _ => ?_)
      refine X.cons (X1.callME (k := 0) (d := .str (esc1 f c0)) (E.loc (by walk_at "in")) (E.callF G.H (E.gf G 6 (kind_of F rfl)) (.cons (E.loc (by walk_at "in")) .nil) (escape_spec G K.mp K.map) (by assumption) ⟨trivial, trivial⟩ trivial) rfl (by exact Nat.le_trans (by assumption) (by decide)) rfl (X.nil (X.nil (X.nil (X.nil ?_)))))
      exact next j st ch k ck rest _ _ (one rfl) (show (addPc f (pieces f t1) (.bare c0)).map (ePc a) = (pieces f t1).map (ePc a) ++ [D.str (esc1 f c0)] from by exact List.map_append ..) hj hst hJ
    | br its =>
      cases hw
      refine X.cons (X1.if (b := false) (T.eq (T.cmp (E.loc (by walk_at "in")) (E.str lit_st) eq_s) (by decide)) (fun q => by cases q) fun _ => ?_)
      refine X.cons (X1.if (b := false) (T.eq (T.cmp (E.loc (by walk_at "in")) (E.str lit_qu) eq_s) (by decide)) (fun q => by cases q) fun _ => ?_)
      refine X.cons (X1.if (b := true) (T.eq (T.cmp (E.loc (by walk_at "in")) (E.str lit_ob) eq_s) (by decide)) (fun _ => ?_) (fun q => by cases q))
      have hl1 : (flatP t1 ++ [91]).length = (flatP t1).length + 1 := by exact List.length_append ..
      have hl3 : (flatP (t1 ++ [Tk.br its])).length = (flatP t1).length + 1 + (itsT its).length + 1 := by rw [e1]; simp [tkP]; exact (Nat.succ_add _ _).symm
      have hb := fun Q => brk_walk G W (Q := Q) (pat := pat) (its := its) (pre := flatP t1 ++ [91]) (post := flatP t2) (a := a) (c := some (.str [91])) (j0 := j) (st0 := st) (ch := ch) (k := k) (ck := ck) (ds := (pieces f t1).map (ePc a)) (rest := rest) htk hcp hpl (by rw [hpat']; simp [tkP]) hdl hJ
      rw [hl1] at hb
      refine hb _ fun j' st' ch' k' ck' rest' h1 h2 h3 => X.nil (X.nil (X.nil ?_))
      exact next j' st' ch' k' ck' rest' _ _ hl3 (show (addPc f (pieces f t1) (.br its)).map (ePc a) = (pieces f t1).map (ePc a) ++ [D.str (91 :: (fixI its ++ pAmp (itsE1 its) ++ [93]))] from by exact List.map_append ..) h1 h2 h3
end
section
noncomputable abbrev dotst : Txt := [46, 42]
noncomputable abbrev grp6 : Txt := [40, 63, 62, 46, 42, 63]
noncomputable def grp1 (g : List Txt) : Txt := grp6 ++ (g.flatten ++ [41])
noncomputable def gL : List (List Txt) → List Txt
  | [] => []
  | [g] => if g = [] then [dotst] else [dotst, g.flatten]
  | g :: g' :: r => grp1 g :: gL (g' :: r)
noncomputable def gT : List (List Txt) → Txt
  | [] => []
  | [g] => dotst ++ g.flatten
  | g :: g' :: r => grp1 g ++ gT (g' :: r)
theorem gL_flat : ∀ gs : List (List Txt), (gL gs).flatten = gT gs
  | [] => rfl
  | [g] => by
    unfold gL gT
    split
    · rename_i h; subst h; exact List.append_nil _
    · simp
  | g :: g' :: r => by rw [gL, gT, List.flatten_cons, gL_flat (g' :: r)]
noncomputable def gP (gs : List (List Txt)) : List Pc := gs.flatMap fun g => none :: g.map some
noncomputable def jP (h : List Txt) (gs : List (List Txt)) : List Pc := h.map some ++ gP gs
noncomputable def jB (h : List Txt) (gs : List (List Txt)) : Txt := h.flatten ++ gT gs
noncomputable def GsOk : List (List Txt) → Prop
  | [] => True
  | [_] => True
  | g :: g' :: r => g ≠ [] ∧ GsOk (g' :: r)
theorem GsOk.tail {g : List Txt} {r : List (List Txt)} (h : GsOk (g :: r)) : GsOk r := by
  cases r with
  | nil => trivial
  | cons g' r => exact h.2
theorem d9 : DefOk (sc 9) (stParams (st 9)) (bd 9) (stName (st 9)) ["inp", "STAR"] ["res", "add", "i", "n", "fixed"] := DefOk.two rfl rfl rfl rfl (fun _ _ _ _ _ => rfl) (by decide +kernel) (by decide +kernel)
noncomputable abbrev S9 (ps : List Pc) (a : Addr) (res : D) (i : Nat) (fx : Option D) (ds : List D) (rest : List (Option (List D))) : St :=
  ⟨[("inp", some (.lst (ps.map (ePc a)))), ("STAR", some (.raw (.ref a))), ("res", some res), ("add", some (.meth 0)), ("i", some (.int (i : Nat))), ("n", some (.int (ps.length : Nat))), ("fixed", fx)], [], some ds :: rest⟩
noncomputable def isTxt : Option Pc → Bool
  | some (some _) => true
  | _ => false
noncomputable def wh9 (i : Nat) : Stmt := nthS (bd 9) i
noncomputable def whT (s : Stmt) : Expr := stExpr s
noncomputable def inn9 : Stmt := nthS (whB (wh9 4)) 5
theorem sub9 {C : Cx} {Γ : Fx} {ps : List Pc} {a : Addr} {res : D} {i : Nat} {fx : Option D} {ds : List D} {rest : List (Option (List D))} {q1 q2 q3 : Pos} {o : Pc} (h : ps[i]? = some o) (hl : ps.length ≤ 2 ^ 20) :
    E C 0 Γ (.Subscript (.Name "inp" q1) (.Name "i" q2) q3) (S9 ps a res i fx ds rest) (ePc a o) := by
  refine E.sub (E.loc (by walk_at "in")) (E.loc (by walk_at "in")) (sub_lst (.lst _) (Int.natCast_nonneg _) ?_ (by rw [List.length_map]; exact Nat.lt_of_le_of_lt (by assumption) (by decide)))
  rw [Int.toNat_natCast, List.getElem?_map, h]; rfl
theorem tst9 {C : Cx} {Γ : Fx} {ps : List Pc} {a : Addr} {res : D} {i : Nat} {fx : Option D} {ds : List D} {rest : List (Option (List D))} {q1 q2 q3 q4 q5 q6 q7 q8 q9 : Pos} (hl : ps.length ≤ 2 ^ 20) :
    T C 0 Γ (.BoolOp .And [.Compare (.Name "i" q1) [.Lt] [.Name "n" q2] q3, .Compare (.Subscript (.Name "inp" q4) (.Name "i" q5) q6) [.IsNot] [.Name "STAR" q7] q8] q9) (S9 ps a res i fx ds rest) (isTxt ps[i]?) := by
  by_cases hlt : i < ps.length
  · obtain ⟨o, ho⟩ : ∃ o, ps[i]? = some o := ⟨_, List.getElem?_eq_getElem hlt⟩
    rw [ho]
    have hb : decide ((i : Int) < (ps.length : Nat)) = true := decide_eq_true (by exact Int.ofNat_lt.mpr (by assumption))
    cases o with
    | none =>
      refine T.eq (T.and (T.cmp (E.loc (by walk_at "in")) (E.loc (by walk_at "in")) lt_i) fun _ => T.and (T.cmp (sub9 ho hl) (E.loc (by walk_at "in")) isNot_self) fun _ => T.and_nil) ?_
      rw [hb]; rfl
    | some y =>
      refine T.eq (T.and (T.cmp (E.loc (by walk_at "in")) (E.loc (by walk_at "in")) lt_i) fun _ => T.and (T.cmp (sub9 ho hl) (E.loc (by walk_at "in")) isNot_str) fun _ => T.and_nil) ?_
      rw [hb]; rfl
  · have hb : decide ((i : Int) < (ps.length : Nat)) = false := decide_eq_false (by norm_cast)
    refine T.eq (T.and (q := false) (T.cmp (E.loc (by walk_at "in")) (E.loc (by walk_at "in")) lt_i) fun q => by rw [hb] at q; cases q) ?_
    rw [List.getElem?_eq_none (by exact Nat.le_of_not_lt (by assumption)), hb]; rfl
inductive I9a (ps : List Pc) (a : Addr) (h : List Txt) (m : Nat) (σ' : St) : Prop
  | mk (t1 t2 : List Txt) (ht : h = t1 ++ t2) (hm : m = t2.length) (e : σ' = S9 ps a (.cell 0) t1.length none (t1.map .str) []) : I9a ps a h m σ'
inductive I9b (ps : List Pc) (a : Addr) (h : List Txt) (gs : List (List Txt)) (m : Nat) (σ' : St) : Prop
  | mk (g1 g2 : List (List Txt)) (L : List Txt) (fx : Option D) (rest : List (Option (List D))) (hgs : gs = g1 ++ g2) (hm : m = g2.length) (hg2 : GsOk g2) (hL : L ++ gL g2 = h ++ gL gs)
    (e : σ' = S9 ps a (.cell 0) (h.length + (gP g1).length) fx (L.map .str) rest) : I9b ps a h gs m σ'
inductive I9c (ps : List Pc) (a : Addr) (b : Nat) (L : List Txt) (rest : List (Option (List D))) (g : List Txt) (m : Nat) (σ' : St) : Prop
  | mk (u v : List Txt) (huv : g = u ++ v) (hm : m = v.length) (e : σ' = S9 ps a (.cell 0) (b + u.length) (some (.cell (rest.length + 1))) (L.map .str) (rest ++ [some (u.map .str)])) : I9c ps a b L rest g m σ'
set_option maxHeartbeats 8000000 in
theorem join9_spec {C : Cx} (G : Gl C) {a : Addr} {h : List Txt} {gs : List (List Txt)} (hok : GsOk gs) (hl : (jP h gs).length ≤ 2 ^ 18) (hb : ((h.map (·.length)).sum + (gT gs).length) ≤ 2 ^ 20) :
    Spec C 1 (G.v 9) [.lst ((jP h gs).map (ePc a)), .raw (.ref a)] (.str (pre4 ++ (jB h gs ++ suf3))) := by
  have hsz : sizeLine = 2 ^ 24 := rfl
  refine Spec.of G.H (G.fn 9 (by decide)).2 d9 rfl ⟨noCells_pcs a _, trivial, trivial⟩ trivial fun Γ F => ?_
  show X C 0 Γ (_ :: _ :: _ :: _ :: _ :: _ :: _ :: _ :: []) ⟨[("inp", some (.lst ((jP h gs).map (ePc a)))), ("STAR", some (.raw (.ref a))), ("res", none), ("add", none), ("i", none), ("n", none), ("fixed", none)], [], []⟩ _
  refine X.hide fun Q hQ => ?_
  refine X.cons (X1.newCell .nil (Nat.zero_le _) (by walk_at "upd") ?_)
  show X C 0 Γ (_ :: _ :: _ :: _ :: _ :: _ :: _ :: []) ⟨[("inp", some (.lst ((jP h gs).map (ePc a)))), ("STAR", some (.raw (.ref a))), ("res", some (.cell 0)), ("add", none), ("i", none), ("n", none), ("fixed", none)], [], [some []]⟩ _
  refine X.cons (X1.assign (d := .meth 0) (E.appendM (E.loc (by walk_at "in")) rfl) (by walk_at "upd") ?_)
  refine X.cons (X1.assignSwap2 (d₁ := .int (0 : Nat)) (d₂ := .int ((jP h gs).length : Nat)) (E.tuple (.cons E.int (.cons (E.eq (E.callB (E.gb G (kind_of F rfl) boot_len) (.cons (E.loc (by walk_at "in")) .nil) (len_l (.lst _) (by rw [List.length_map]; exact Nat.lt_of_le_of_lt (by assumption) (by decide)))) (by rw [List.length_map])) .nil)) (show (2 : Nat) ≤ sizeLine by decide +kernel)) (by walk_at "upd") (by walk_at "upd") ?_ (swap_of F (env0 := env0 9) rfl (by with_unfolding_all rfl)))
  generalize hps : jP h gs = ps at *
  have hget1 : ∀ t1 x t2, h = t1 ++ x :: t2 → ps[t1.length]? = some (some x) := fun t1 x t2 e => by
    rw [← hps, jP, e]; simp
  have hend1 : ps.length = h.length + (gP gs).length := by rw [← hps]; simp [jP]
  refine X.cons (X1.whileH (I9a ps a h) (k₀ := h.length) ⟨[], h, rfl, rfl, rfl⟩ ?_)
  rintro m _ ⟨t1, t2, ht, rfl, rfl⟩ K Q' hK hQ'
  have hhl : h.length ≤ 2 ^ 18 := by lia
  have hht : t1.length + t2.length = h.length := by rw [ht]; simp only [List.length_append, List.length_cons, List.length_nil]
  cases t2 with
  | cons x t2 =>
    have hg := hget1 t1 x t2 ht
    refine ⟨true, T.eq (tst9 (by exact Nat.le_trans (by assumption) (by decide))) (by rw [hg]; rfl), fun _ => ?_, (fun q => by cases q)⟩
    refine X.cons (X1.callME (k := 0) (d := .str x) (E.loc (by walk_at "in")) (sub9 hg (by exact Nat.le_trans (by assumption) (by decide))) rfl (by rw [List.length_map]; lia) rfl ?_)
    refine X.cons (X1.aug (b := .int 1) (d := .int (t1.length + 1 : Nat)) (by walk_at "in") E.int (by exact iadd_i) (by walk_at "upd") (X.nil (hK t2.length _ (by simp) ⟨t1 ++ [x], t2, by rw [ht]; simp, rfl, by simp⟩)))
  | nil =>
    have h1 : h = t1 := by simpa using ht
    subst h1
    have hno : isTxt ps[h.length]? = false := by
      rw [← hps, jP, List.getElem?_append_right (by simp)]
      simp only [List.length_map, Nat.sub_self]
      cases gs <;> rfl
    refine ⟨false, T.eq (tst9 (by exact Nat.le_trans (by assumption) (by decide))) hno, (fun q => by cases q), fun _ => hQ' _ _ ?_⟩
    clear hK hQ' K Q'
    have fin : ∀ (fx : Option D) (rest : List (Option (List D))), X C 0 Γ ((bd 9).drop 5) (S9 ps a (.cell 0) ps.length fx ((h ++ gL gs).map D.str) rest) Q := by
      intro fx rest
      have hfl : (h ++ gL gs).flatten = jB h gs := by rw [List.flatten_append, gL_flat]; rfl
      have hsum : ((h ++ gL gs).map (·.length)).sum ≤ 2 ^ 20 := by
        rw [List.map_append, List.sum_append, ← List.length_flatten (L := gL gs), gL_flat]; exact hb
      have hjl : (jB h gs).length ≤ 2 ^ 20 := by
        rw [← hfl, List.length_flatten]; exact hsum
      show X C 0 Γ (_ :: _ :: _ :: []) _ _
      refine X.cons (X1.assert (T.eq (T.cmp (E.loc (by walk_at "in")) (E.loc (by walk_at "in")) eq_i) (decide_eq_true rfl)) ?_)
      refine X.cons (X1.assign (d := .str (jB h gs)) (E.eq (E.meth (E.str lit_e) (.cons (E.loc (by walk_at "in")) .nil) (fun M A E' s PP cs v pl Q => gm_join) (join0 (xs := h ++ gL gs) (.cell 0 _ rfl) (by simp only [List.length_nil, Nat.mul_zero, Nat.add_zero]; exact Nat.le_trans (by assumption) (Nat.le_add_left _ _)))) (by rw [hfl])) (by walk_at "upd") ?_)
      exact X.cons (X1.ret (E.eq (E.fstr (Fs.cons (E.str lit_dots) (Fs.cons (E.fv (E.loc (by walk_at "in")) (by exact Nat.le_trans (by assumption) (by decide))) (Fs.cons (E.str lit_z) Fs.nil))) (by simp; lia)) (by rfl)) (hQ _ _ rfl))
    have hLlen : ∀ (L : List Txt) (g2 : List (List Txt)), L ++ gL g2 = h ++ gL gs → L.length ≤ 2 ^ 20 := by
      intro L g2 e
      have h1 := congrArg List.length e
      rw [List.length_append, List.length_append] at h1
      have h2 : ∀ gs : List (List Txt), (gL gs).length ≤ (gP gs).length + 1 := by
        intro gs
        induction gs with
        | nil => exact Nat.le_succ _
        | cons g r ih =>
          cases r with
          | nil =>
            unfold gL; split
            · exact Nat.succ_pos _
            · rename_i q
              cases g with
              | nil => exact absurd rfl q
              | cons _ _ => exact Nat.le_add_left _ _
          | cons g' r =>
            rw [gL, List.length_cons]
            have : (gP (g :: g' :: r)).length = 1 + g.length + (gP (g' :: r)).length := by simp [gP]; simp +arith
            lia
      have := h2 gs
      lia
    refine X.cons (X1.whileH (I9b ps a h gs) (k₀ := gs.length) ⟨[], gs, h, none, [], rfl, rfl, hok, rfl, by rfl⟩ ?_)
    rintro m _ ⟨g1, g2, L, fx, rest, hgs, rfl, hg2, hL, rfl⟩ K Q' hK hQ'
    have hLl := hLlen L g2 hL
    have hpsl : ps.length = h.length + (gP g1).length + (gP g2).length := by rw [hend1, hgs]; simp [gP]; exact (Nat.add_assoc _ _ _).symm
    have hps2 : ps = (h.map some ++ gP g1) ++ gP g2 := by rw [← hps, jP, hgs]; simp [gP]
    have hpre : (h.map some ++ gP g1).length = h.length + (gP g1).length := by simp
    have hat : ∀ k, ps[h.length + (gP g1).length + k]? = (gP g2)[k]? := fun k => by
      rw [hps2, List.getElem?_append_right (by rw [hpre]; exact Nat.le_add_right _ _), hpre]; congr 1; simp
    cases g2 with
    | nil =>
      have h0 : ps.length = h.length + (gP g1).length := by trivial
      refine ⟨false, T.eq (T.cmp (E.loc (by walk_at "in")) (E.loc (by walk_at "in")) lt_i) (decide_eq_false (by lia)), (fun q => by cases q), fun _ => hQ' _ _ ?_⟩
      have e1 : L = h ++ gL gs := by simpa [gL] using hL
      rw [e1, ← h0]
      exact fin fx rest
    | cons g r =>
      have hgP : gP (g :: r) = none :: (g.map some ++ gP r) := by rfl
      have hgPl : (gP (g :: r)).length = 1 + g.length + (gP r).length := by rw [hgP]; simp; simp +arith
      have h0 : ps[h.length + (gP g1).length]? = some none := by have := hat 0; rw [hgP] at this; trivial
      refine ⟨true, T.eq (T.cmp (E.loc (by walk_at "in")) (E.loc (by walk_at "in")) lt_i) (decide_eq_true (by lia)), fun _ => ?_, (fun q => by cases q)⟩
      refine X.cons (X1.assert (T.cmp (sub9 h0 (by exact Nat.le_trans (by assumption) (by decide))) (E.loc (by walk_at "in")) is_self) ?_)
      refine X.cons (X1.aug (b := .int 1) (d := .int (h.length + (gP g1).length + 1 : Nat)) (by walk_at "in") E.int (by exact iadd_i) (by walk_at "upd") ?_)
      by_cases hgne : g = []
      · have hr : r = [] := by
          cases r with
          | nil => rfl
          | cons g' r => exact absurd hgne hg2.1
        subst hgne hr
        have hn : h.length + (gP g1).length + 1 = ps.length := by rw [hpsl, hgPl]; exact Nat.add_assoc _ _ _
        refine X.cons (X1.if (b := true) (T.eq (T.cmp (E.loc (by walk_at "in")) (E.loc (by walk_at "in")) eq_i) (decide_eq_true (by rw [hn]))) (fun _ => ?_) (fun q => by cases q))
        refine X.cons (X1.callME (k := 0) (d := .str dotst) (E.loc (by walk_at "in")) (E.str lit_any) rfl (by rw [List.length_map]; exact Nat.le_trans (by assumption) (by decide)) rfl ?_)
        refine X.cons (X1.brk (hQ' _ _ ?_))
        have e1 : L.map D.str ++ [D.str dotst] = (h ++ gL gs).map D.str := by rw [← hL]; simp [gL]
        have := fin fx rest
        rw [← e1, ← hn] at this
        exact this
      · have hglen : 1 ≤ g.length := List.length_pos_iff.mpr hgne
        have hy : ps[h.length + (gP g1).length + 1]? = some (some g[0]) := by
          have := hat 1
          rw [hgP] at this
          rw [this, List.getElem?_cons_succ, List.getElem?_append_left (by rw [List.length_map]; exact hglen), List.getElem?_map, List.getElem?_eq_getElem hglen]; rfl
        refine X.cons (X1.if (b := false) (T.eq (T.cmp (E.loc (by walk_at "in")) (E.loc (by walk_at "in")) eq_i) (decide_eq_false (by lia))) (fun q => by cases q) fun _ => X.nil ?_)
        refine X.cons (X1.assert (T.cmp (sub9 hy (by exact Nat.le_trans (by assumption) (by decide))) (E.loc (by walk_at "in")) isNot_str) ?_)
        refine X.cons (X1.newCell .nil (Nat.zero_le _) (by walk_at "upd") ?_)
        refine X.cons (X1.whileH (I9c ps a (h.length + (gP g1).length + 1) L rest g) (k₀ := g.length) ⟨[], g, rfl, rfl, rfl⟩ ?_)
        rintro m _ ⟨u, v, huv, rfl, rfl⟩ K2 Q2 hK2 hQ2
        have hgl : g.length ≤ 2 ^ 20 := by lia
        have hul : u.length + v.length = g.length := by rw [huv]; simp only [List.length_append, List.length_cons, List.length_nil]
        cases v with
        | cons x v =>
          have hx : ps[h.length + (gP g1).length + 1 + u.length]? = some (some x) := by
            have := hat (1 + u.length)
            rw [hgP, huv] at this
            rw [Nat.add_assoc (h.length + (gP g1).length), this, Nat.add_comm 1, List.getElem?_cons_succ, List.getElem?_append_left (by simp), List.getElem?_map, List.getElem?_append_right (Nat.le_refl _)]
            simp
          refine ⟨true, T.eq (tst9 (by exact Nat.le_trans (by assumption) (by decide))) (by rw [hx]; rfl), fun _ => ?_, (fun q => by cases q)⟩
          refine X.cons (X1.appendE (d := .str x) (E.loc (by walk_at "in")) (sub9 hx (by exact Nat.le_trans (by assumption) (by decide))) (cell_get (L.map .str) (u.map .str) rest) (by rw [List.length_map]; lia) (cell_set (L.map .str) (u.map .str) _ rest) ?_)
          refine X.cons (X1.aug (b := .int 1) (d := .int (h.length + (gP g1).length + 1 + u.length + 1 : Nat)) (by walk_at "in") E.int (by exact iadd_i) (by walk_at "upd") (X.nil (hK2 v.length _ (by simp) ⟨u ++ [x], v, by rw [huv]; simp, rfl, by simp +arith⟩)))
        | nil =>
          have hu : u = g := by simpa using huv.symm
          subst hu
          have hno : isTxt ps[h.length + (gP g1).length + 1 + u.length]? = false := by
            have := hat (1 + u.length)
            rw [hgP] at this
            rw [Nat.add_assoc (h.length + (gP g1).length), this, Nat.add_comm 1, List.getElem?_cons_succ, List.getElem?_append_right (by simp)]
            simp only [List.length_map, Nat.sub_self]
            cases r <;> rfl
          refine ⟨false, T.eq (tst9 (by exact Nat.le_trans (by assumption) (by decide))) hno, (fun q => by cases q), fun _ => hQ2 _ _ ?_⟩
          clear hK2 hQ2 K2 Q2
          have hgsum : u.flatten.length ≤ 2 ^ 20 := by
            have h2 : ∀ gs : List (List Txt), ∀ x ∈ gs, x.flatten.length ≤ (gT gs).length := by
              intro gs
              induction gs with
              | nil => intro x hx; cases hx
              | cons g r ih =>
                intro x hx
                cases r with
                | nil => cases List.mem_singleton.mp hx; simp [gT]; simp +arith
                | cons g' r =>
                  rw [gT, List.length_append]
                  rcases List.mem_cons.mp hx with e | hx
                  · rw [e]; simp [grp1]; simp +arith
                  · have := ih x hx; exact Nat.le_trans (by assumption) (Nat.le_add_left _ _)
            have := h2 gs u (by rw [hgs]; simp)
            lia
          have hgsum' : (u.map (·.length)).sum ≤ 2 ^ 20 := by rw [← List.length_flatten]; exact hgsum
          refine X.cons (X1.assign (d := .str u.flatten) (E.meth (E.str lit_e) (.cons (E.loc (by walk_at "in")) .nil) (fun M A E' s PP cs v pl Q => gm_join) (join0 (xs := u) (.cell _ _ (cell_get (L.map .str) (u.map .str) rest)) (by simp only [List.length_nil, Nat.mul_zero, Nat.add_zero]; exact Nat.le_trans (by assumption) (Nat.le_add_left _ _)))) (by walk_at "upd") ?_)
          have hposE : h.length + (gP (g1 ++ [u])).length = h.length + (gP g1).length + 1 + u.length := by simp [gP]; simp +arith
          cases r with
          | nil =>
            have hn : h.length + (gP g1).length + 1 + u.length = ps.length := by rw [hpsl, hgPl]; simp [gP]; exact Nat.add_assoc _ _ _
            refine X.cons (X1.if (b := true) (T.eq (T.cmp (E.loc (by walk_at "in")) (E.loc (by walk_at "in")) eq_i) (decide_eq_true (by rw [hn]))) (fun _ => ?_) (fun q => by cases q))
            refine X.cons (X1.callME (k := 0) (d := .str dotst) (E.loc (by walk_at "in")) (E.str lit_any) rfl (by rw [List.length_map]; exact Nat.le_trans (by assumption) (by decide)) rfl ?_)
            refine X.cons (X1.callME (k := 0) (d := .str u.flatten) (E.loc (by walk_at "in")) (E.loc (by walk_at "in")) rfl (by rw [List.length_append, List.length_map]; simp; exact Nat.lt_of_le_of_lt (by assumption) (by decide)) rfl (X.nil (X.nil (hK 0 _ (by exact Nat.lt_succ_self _) ⟨g1 ++ [u], [], L ++ [dotst, u.flatten], some (.str u.flatten), rest ++ [some (u.map .str)], by rw [hgs]; simp, rfl, trivial, by rw [← hL]; simp [gL, hgne], by rw [hposE]; simp⟩))))
          | cons g2 r =>
            have hn : h.length + (gP g1).length + 1 + u.length < ps.length := by
              rw [hpsl, hgPl]
              have : 1 ≤ (gP (g2 :: r)).length := by exact of_decide_eq_true (by assumption)
              lia
            refine X.cons (X1.if (b := false) (T.eq (T.cmp (E.loc (by walk_at "in")) (E.loc (by walk_at "in")) eq_i) (decide_eq_false (by lia))) (fun q => by cases q) fun _ => ?_)
            refine X.cons (X1.callME (k := 0) (d := .str (grp1 u)) (E.loc (by walk_at "in")) (E.eq (E.fstr (Fs.cons (E.str lit_grp) (Fs.cons (E.fv (E.loc (by walk_at "in")) (by exact Nat.le_trans (by assumption) (by decide))) (Fs.cons (E.str lit_cl) Fs.nil))) (by simp only [List.length_append, List.length_cons, List.length_nil]; lia)) (by rfl)) rfl (by rw [List.length_map]; exact Nat.le_trans (by assumption) (by decide)) rfl (X.nil (X.nil (hK (g2 :: r).length _ (by simp) ⟨g1 ++ [u], g2 :: r, L ++ [grp1 u], some (.str u.flatten), rest ++ [some (u.map .str)], by rw [hgs]; simp, rfl, hg2.tail, by rw [← hL]; exact List.append_assoc .., by rw [hposE]; simp⟩))))
end
section
theorem Spec.up {C : Cx} {m n : Nat} {v : Value} {ds : List D} {r : D} (h : Spec C m v ds r) (hm : m ≤ n) : Spec C n v ds r := ⟨h.1, fun A s P vs hA => h.2 A s P vs (hA.le hm)⟩
theorem d3 : DefOk (sc 3) (stParams (st 3)) (bd 3) (stName (st 3)) ["pat"] ["STAR", "parts"] := DefOk.one rfl rfl rfl rfl (fun _ _ _ _ => rfl) (by decide +kernel) (by decide +kernel)
theorem tr3_spec {C : Cx} (G : Gl C) {p d : Addr} {f : Int → Option Value} (K : P8 C G p d f) {ts : List Tk} {h : List Txt} {gs : List (List Txt)} (hok : ∀ t ∈ ts, TkOk t) (hcp : ∀ x ∈ flatP ts, x < 1114112) (hpl : (flatP ts).length ≤ 2 ^ 16)
    (hpc : pieces f ts = jP h gs) (hg : GsOk gs) (hb : ((h.map (·.length)).sum + (gT gs).length) ≤ 2 ^ 20) : Spec C 3 (G.v 3) [.str (flatP ts)] (.str (pre4 ++ (jB h gs ++ suf3))) := by
  have hjl : (jP h gs).length ≤ 2 ^ 18 := by
    rw [← hpc]
    have := pieces_len f ts
    have := flatP_len ts
    lia
  refine Spec.of G.H (G.fn 3 (by decide)).2 d3 rfl ⟨trivial, trivial⟩ trivial fun Γ F => ?_
  show X C 2 Γ (_ :: _ :: _ :: []) ⟨[("pat", some (.str (flatP ts))), ("STAR", none), ("parts", none)], [], []⟩ _
  refine X.cons (X1.object (l' := fun a => [("pat", some (.str (flatP ts))), ("STAR", some (.raw (.ref a))), ("parts", none)]) (E.gb G (kind_of F rfl) boot_object) (fun a => by walk_at "upd") fun a => ?_)
  refine X.cons (X1.assign (E.callF G.H (E.gf G 8 (kind_of F rfl)) (.cons (E.loc (by walk_at "in")) (.cons (E.loc (by walk_at "in")) (.cons (E.str lit_dot) .nil))) (tr8_spec G K (a := a) hok hcp hpl) (by exact Nat.le_refl _) ⟨trivial, trivial, trivial, trivial⟩ (noCells_pcs a _)) (by walk_at "upd") ?_)
  rw [hpc]
  exact X.cons (X1.ret (E.callF G.H (E.gf G 9 (kind_of F rfl)) (.cons (E.loc (by walk_at "in")) (.cons (E.loc (by walk_at "in")) .nil)) (join9_spec G (a := a) hg hjl hb) (by exact Nat.le_succ _) ⟨noCells_pcs a _, trivial, trivial⟩ trivial) rfl)
end
section
theorem d31 : DefOk (sc 31) (stParams (st 31)) (bd 31) (stName (st 31)) ["row", "other"] ["star", "pieces", "segments"] := DefOk.two rfl rfl rfl rfl (fun _ _ _ _ _ => rfl) (by decide +kernel) (by decide +kernel)
theorem twokept_spec {C : Cx} (G : Gl C) {p d : Addr} {f : Int → Option Value} (K : P8 C G p d f) {r o : Row} {n m : Txt} (hro : RowOk r) (hoo : RowOk o) (hr : r.2.2.head? = some n) (ho : o.2.2.getLast? = some m) (hn : n.length ≤ 2 ^ 20) (hm : m.length ≤ 2 ^ 20) (hol : o.2.2.length ≤ sizeLine) (hrl : r.2.2.length ≤ sizeLine)
    {t1 t2 : List Tk} (h1 : pPattern r = flatP t1) (h2 : pPattern o = flatP t2) (hok1 : ∀ t ∈ t1, TkOk t) (hok2 : ∀ t ∈ t2, TkOk t) (hc1 : ∀ x ∈ flatP t1, x < 1114112) (hc2 : ∀ x ∈ flatP t2, x < 1114112) (hl1 : (flatP t1).length ≤ 2 ^ 16) (hl2 : (flatP t2).length ≤ 2 ^ 16)
    {h : List Txt} {gs : List (List Txt)} (hpc : pieces f t1 ++ (some [47] :: pieces f t2) = jP h gs) (hg : GsOk gs) (hb : ((h.map (·.length)).sum + (gT gs).length) ≤ 2 ^ 20) (hbl : (jB h gs).length + 16 ≤ sizeLine) :
    Spec C 7 (G.v 31) [eRow r, eRow o] (.lst (((pCutWords r o).filter fun w => pKeeps (pRead (jB h gs)) w 0).map .str)) := by
  have hsz : sizeLine = 2 ^ 24 := rfl
  obtain ⟨hw, hws⟩ := pCutWords_len hr ho hn hm
  have hp1 : (pieces f t1).length ≤ 2 ^ 16 := by have := pieces_len f t1; have := flatP_len t1; exact Nat.le_trans (Nat.le_trans (by assumption) (by assumption)) (by assumption)
  have hp2 : (pieces f t2).length ≤ 2 ^ 16 := by have := pieces_len f t2; have := flatP_len t2; exact Nat.le_trans (Nat.le_trans (by assumption) (by assumption)) (by assumption)
  have hjl : (jP h gs).length ≤ 2 ^ 18 := by rw [← hpc, List.length_append, List.length_cons]; lia
  refine Spec.of G.H (G.fn 31 (by decide)).2 d31 rfl ⟨noCell_row r, noCell_row o, trivial⟩ (noCells_str _) fun Γ F => ?_
  show X C 6 Γ (_ :: _ :: _ :: _ :: []) ⟨[("row", some (eRow r)), ("other", some (eRow o)), ("star", none), ("pieces", none), ("segments", none)], [], []⟩ _
  refine X.cons (X1.object (l' := fun a => [("row", some (eRow r)), ("other", some (eRow o)), ("star", some (.raw (.ref a))), ("pieces", none), ("segments", none)]) (E.gb G (kind_of F rfl) boot_object) (fun a => by walk_at "upd") fun a => ?_)
  refine X.cons (X1.assign (d := .lst ((jP h gs).map (ePc a))) (E.eq (E.bin (E.bin
      (E.callF G.H (E.gf G 8 (kind_of F rfl)) (.cons (E.eq (E.callF G.H (E.gf G 16 (kind_of F rfl)) (.cons (E.loc (by walk_at "in")) .nil) (pattern_spec G hro) (by exact Nat.le_add_left _ _) ⟨noCell_row r, trivial⟩ trivial) (by rw [h1])) (.cons (E.loc (by walk_at "in")) (.cons (E.str lit_dot) .nil))) (tr8_spec G K (a := a) hok1 hc1 hl1) (by exact Nat.le_add_left _ _) ⟨trivial, trivial, trivial, trivial⟩ (noCells_pcs a _))
      (E.list (.cons (E.str lit_sl) .nil) (show (1 : Nat) ≤ sizeLine by decide +kernel)) (add_l (.lst _) (.lst _) (by rw [List.length_map]; simp; exact Nat.lt_of_le_of_lt (by assumption) (by decide))))
      (E.callF G.H (E.gf G 8 (kind_of F rfl)) (.cons (E.eq (E.callF G.H (E.gf G 16 (kind_of F rfl)) (.cons (E.loc (by walk_at "in")) .nil) (pattern_spec G hoo) (by exact Nat.le_add_left _ _) ⟨noCell_row o, trivial⟩ trivial) (by rw [h2])) (.cons (E.loc (by walk_at "in")) (.cons (E.str lit_dot) .nil))) (tr8_spec G K (a := a) hok2 hc2 hl2) (by exact Nat.le_add_left _ _) ⟨trivial, trivial, trivial, trivial⟩ (noCells_pcs a _))
      (add_l (.lst _) (.lst _) (by rw [List.length_append, List.length_map, List.length_map]; simp; lia))) ?_) (by walk_at "upd") ?_)
  · rw [← hpc]; simp [ePc]
  refine X.cons (X1.assign (E.callF G.H (E.gf G 25 (kind_of F rfl)) (.cons (E.callF G.H (E.gf G 9 (kind_of F rfl)) (.cons (E.loc (by walk_at "in")) (.cons (E.loc (by walk_at "in")) .nil)) (join9_spec G (a := a) hg hjl hb) (by exact Nat.succ_pos _) ⟨noCells_pcs a _, trivial, trivial⟩ trivial) .nil) (read_spec G hbl) (by exact Nat.le_add_left _ _) ⟨trivial, trivial⟩ (noCells_map noCell_seg _)) (by walk_at "upd") ?_)
  refine X.cons (X1.ret (d := .lst (((pCutWords r o).filter fun w => pKeeps (pRead (jB h gs)) w 0).map .str)) ?_ rfl)
  rw [← outs_filter D.str (fun w => pKeeps (pRead (jB h gs)) w 0) (pCutWords r o)]
  refine E.comp (locs := ["word"]) (gl := [("segments", .lst ((pRead (jB h gs)).map eSeg))]) (Src.list (E.callF G.H (E.gf G 22 (kind_of F rfl)) (.cons (E.loc (by walk_at "in")) (.cons (E.loc (by walk_at "in")) .nil)) (cutwords_spec G hr ho hn hm hol hrl) (by exact Nat.le_add_left _ _) ⟨noCell_row r, noCell_row o, trivial⟩ (noCells_str _)) (.inl fun _ _ => rfl)) (CSt.of (gn := ["segments"]) F (by decide +kernel) (by decide) (fun p hp => ?_) (fun d hd => ?_) ?_) (CRun.one (Bnd.name fun d hd => ?_) _ ?_ (by rw [List.length_map]; exact hws))
  · cases List.mem_singleton.mp hp; exact ⟨noCells_map noCell_seg _, by walk_at "in"⟩
  · (refine elEA (List.mem_map.mp hd) fun a _ z0 => ?_; subst z0); trivial
  · rw [outs_filter]; exact noCells_str _
  · (refine elEA (List.mem_map.mp hd) fun a _ z1 => ?_; subst z1); trivial
  · intro Γ' hin i d cells hd
    rw [List.getElem?_map] at hd
    cases hm : (pCutWords r o)[i]? with
    | none => rw [hm] at hd; cases hd
    | some w =>
    rw [hm] at hd; cases hd
    refine ⟨pKeeps (pRead (jB h gs)) w 0, Tests.one (T.val (E.callF G.H (E.gf G 28 (hin.kind _ _ rfl (by decide))) (by walk_at "ev") (keeps_spec G (segs := pRead (jB h gs)) (fun s hs => Nat.le_trans (pRead_cols _ s hs) (by lia)) (hw w (List.mem_of_getElem? hm))) (by exact Nat.le_add_left _ _) ⟨noCells_map noCell_seg _, trivial, trivial⟩ trivial) Tr.bool), fun h => ⟨.str w, ?_, trivial, by walk_at "ev"⟩, fun h => ?_⟩
    · simp [hm, h]
    · simp [hm, h]
end
section
noncomputable def runIt (r : List Nat) (a l : Nat) : List It := if l - a > 1 then [(r.getD a 0, some (r.getD l 0))] else if l > a then [(r.getD a 0, none), (r.getD l 0, none)] else [(r.getD a 0, none)]
noncomputable def rIts (r : List Nat) : Nat → Nat → List It
  | 0, _ => []
  | f + 1, a => if a < r.length then runIt r a (pLast r r.length a) ++ rIts r f (pLast r r.length a + 1) else []
theorem itsT_append (a b : List It) : itsT (a ++ b) = itsT a ++ itsT b := by simp [itsT]
theorem runIt_T (r : List Nat) (a l : Nat) : itsT (runIt r a l) = pRun r a l := by
  unfold runIt pRun
  split
  · rename_i h
    rw [if_pos (by lia : l > a)]; exact List.append_nil _
  · split <;> rfl
theorem pRuns_its (r : List Nat) : ∀ f a t, pRuns r f a t = t ++ itsT (rIts r f a)
  | 0, a, t => by simp [pRuns, rIts, itsT]
  | f + 1, a, t => by
    unfold pRuns rIts
    split
    · rw [pRuns_its r f, itsT_append, runIt_T, List.append_assoc]
    · simp [itsT]
theorem pLast_run (r : List Nat) : ∀ f l j, l ≤ j → j ≤ pLast r f l → r.getD j 0 = r.getD l 0 + (j - l)
  | 0, l, j, h1, h2 => by
    have : j = l := by unfold pLast at h2; exact Nat.le_antisymm (by assumption) (by assumption)
    subst this; simp
  | f + 1, l, j, h1, h2 => by
    unfold pLast at h2
    split at h2
    · rename_i hc
      simp only [Bool.and_eq_true, decide_eq_true_eq] at hc
      by_cases e : j = l
      · subst e; simp
      · have := pLast_run r f (l + 1) j (by lia) h2
        rw [this, hc.2]; lia
    · have : j = l := by exact Nat.le_antisymm (by assumption) (by assumption)
      subst this; simp
noncomputable def itHas (x : Nat) (p : It) : Prop := match p.2 with | none => x = p.1 | some d => p.1 ≤ x ∧ x ≤ d
theorem runIt_has {r : List Nat} {a : Nat} (ha : a < r.length) (x : Nat) : (∃ p ∈ runIt r a (pLast r r.length a), itHas x p) ↔ ∃ j, a ≤ j ∧ j ≤ pLast r r.length a ∧ x = r.getD j 0 := by
  have hge := pLast_ge r r.length a
  have hrun := fun j h1 h2 => pLast_run r r.length a j h1 h2
  generalize pLast r r.length a = l at *
  unfold runIt
  have hl := hrun l hge (Nat.le_refl _)
  split
  · simp only [List.mem_singleton, exists_eq_left, itHas]
    constructor
    · rintro ⟨h1, h2⟩
      refine ⟨a + (x - r.getD a 0), by exact Nat.le_add_right _ _, by grind, ?_⟩
      rw [hrun _ (by exact Nat.le_add_right _ _) (by grind)]; simp_all
    · (intro z0; refine elEAA z0 fun j h1 h2 z1 => ?_; clear z0; subst z1)
      rw [hrun j h1 h2]; simp_all
  · split
    · simp only [List.mem_cons, List.not_mem_nil, or_false, exists_eq_or_imp, exists_eq_left, itHas]
      constructor
      · rintro (rfl | rfl)
        · exact ⟨a, Nat.le_refl _, by omega, rfl⟩
        · exact ⟨l, by omega, Nat.le_refl _, rfl⟩
      · (intro z2; refine elEAA z2 fun j h1 h2 z3 => ?_; clear z2; subst z3)
        have : j = a ∨ j = l := by lia
        rcases this with rfl | rfl
        · exact .inl rfl
        · exact .inr rfl
    · simp only [List.mem_singleton, exists_eq_left, itHas]
      constructor
      · rintro rfl; exact ⟨a, Nat.le_refl _, by omega, rfl⟩
      · (intro z4; refine elEAA z4 fun j h1 h2 z5 => ?_; clear z4; subst z5)
        have : j = a := by lia
        rw [this]
theorem rIts_has (r : List Nat) (x : Nat) : ∀ f a, r.length < f + a → ((∃ p ∈ rIts r f a, itHas x p) ↔ ∃ j, a ≤ j ∧ j < r.length ∧ x = r.getD j 0)
  | 0, a, h => by
    simp only [rIts, List.not_mem_nil, false_and, exists_false, false_iff]
    (intro z6; refine elEAA z6 fun j h1 h2 _ => ?_; clear z6); lia
  | f + 1, a, h => by
    unfold rIts
    split
    · rename_i ha
      have hge := pLast_ge r r.length a
      have hlt := pLast_lt r r.length a ha
      have ih := rIts_has r x f (pLast r r.length a + 1) (by lia)
      have hh := runIt_has ha x
      constructor
      · (intro z7; refine elEA z7 fun p hp hx => ?_; clear z7)
        rcases List.mem_append.mp hp with q | q
        · (refine elEAA (hh.mp ⟨p, q, hx⟩) fun j h1 h2 h3 => ?_)
          exact ⟨j, h1, by exact Nat.lt_of_le_of_lt (by assumption) (by assumption), h3⟩
        · (refine elEAA (ih.mp ⟨p, q, hx⟩) fun j h1 h2 h3 => ?_)
          exact ⟨j, by lia, h2, h3⟩
      · (intro z8; refine elEAA z8 fun j h1 h2 h3 => ?_; clear z8)
        by_cases hj : j ≤ pLast r r.length a
        · (refine elEA (hh.mpr ⟨j, h1, hj, h3⟩) fun p hp hx => ?_)
          exact ⟨p, List.mem_append_left _ hp, hx⟩
        · (refine elEA (ih.mpr ⟨j, by exact Nat.lt_of_not_le (by assumption), h2, h3⟩) fun p hp hx => ?_)
          exact ⟨p, List.mem_append_right _ hp, hx⟩
    · simp only [List.not_mem_nil, false_and, exists_false, false_iff]
      (intro z9; refine elEAA z9 fun j h1 h2 _ => ?_; clear z9); lia
theorem getD_mem {r : List Nat} {j : Nat} (h : j < r.length) : r.getD j 0 ∈ r := by
  rw [List.getD_eq_getElem?_getD, List.getElem?_eq_getElem h]; exact List.getElem_mem h
theorem rIts_mem (r : List Nat) : ∀ f a p, p ∈ rIts r f a → p.1 ∈ r ∧ ∀ d, p.2 = some d → d ∈ r ∧ p.1 < d
  | 0, a, p, h => by cases h
  | f + 1, a, p, h => by
    unfold rIts at h
    split at h
    · rename_i ha
      rcases List.mem_append.mp h with q | q
      · have hge := pLast_ge r r.length a
        have hlt := pLast_lt r r.length a ha
        have hrun := pLast_run r r.length a _ hge (Nat.le_refl _)
        generalize pLast r r.length a = l at *
        unfold runIt at q
        split at q
        · cases List.mem_singleton.mp q
          refine ⟨getD_mem ha, fun d e => ?_⟩
          cases e
          exact ⟨getD_mem hlt, by rw [hrun]; show r.getD a 0 < _; lia⟩
        · split at q
          · rcases List.mem_cons.mp q with e | q
            · subst e; exact ⟨getD_mem ha, fun d e => by cases e⟩
            · cases List.mem_singleton.mp q; exact ⟨getD_mem hlt, fun d e => by cases e⟩
          · cases List.mem_singleton.mp q; exact ⟨getD_mem ha, fun d e => by cases e⟩
      · exact rIts_mem r f _ p q
    · cases h
noncomputable def brIts (cs : List Nat) : List It :=
  if pText cs = [] then [(45, none), (33, none)] else (if 93 ∈ cs then [(93, none)] else []) ++ (rIts (rest3 cs) ((rest3 cs).length + 1) 0 ++ ((if 33 ∈ cs then [(33, none)] else []) ++ (if 45 ∈ cs then [(45, none)] else [])))
noncomputable def tkOf (cs : List Nat) : Tk := match cs with
  | [c] => if c ∈ [42, 63, 91] then .br (brIts [c]) else .bare c
  | _ => .br (brIts cs)
theorem brIts_T (cs : List Nat) : itsT (brIts cs) = if pText cs = [] then [45, 33] else pText cs ++ ((if 33 ∈ cs then [33] else []) ++ (if 45 ∈ cs then [45] else [])) := by
  unfold brIts
  split
  · rfl
  · rw [itsT_append, itsT_append, itsT_append, pText, pRuns_its]
    have h1 : itsT (if 93 ∈ cs then [(93, none)] else []) = if 93 ∈ cs then [93] else [] := by split <;> rfl
    have h2 : itsT (if 33 ∈ cs then [(33, none)] else []) = if 33 ∈ cs then [33] else [] := by split <;> rfl
    have h3 : itsT (if 45 ∈ cs then [(45, none)] else []) = if 45 ∈ cs then [45] else [] := by split <;> rfl
    rw [h1, h2, h3]; exact (List.append_assoc ..).symm
theorem pText_one {c : Nat} (h : c ∈ [42, 63, 91]) : pText [c] ≠ [] := by
  simp only [List.mem_cons, List.not_mem_nil, or_false] at h
  rcases h with rfl | rfl | rfl <;> decide
theorem tkOf_P (cs : List Nat) : tkP (tkOf cs) = pBracket cs := by
  have gen : ∀ cs, tkP (.br (brIts cs)) = if pText cs = [] then [91, 45, 33, 93] else 91 :: (pText cs ++ ((if 33 ∈ cs then [33] else []) ++ ((if 45 ∈ cs then [45] else []) ++ [93]))) := by
    intro cs
    show 91 :: (itsT (brIts cs) ++ [93]) = _
    rw [brIts_T]
    split <;> simp
  match cs with
  | [] => rw [show tkOf [] = .br (brIts []) from rfl, gen]; rfl
  | [c] =>
    show tkP (if c ∈ [42, 63, 91] then Tk.br (brIts [c]) else Tk.bare c) = if c ∈ [42, 63, 91] then 91 :: (pText [c] ++ ((if 33 ∈ [c] then [33] else []) ++ ((if 45 ∈ [c] then [45] else []) ++ [93]))) else [c]
    by_cases h : c ∈ [42, 63, 91]
    · rw [if_pos h, if_pos h, gen, if_neg (pText_one h)]
    · rw [if_neg h, if_neg h]; rfl
  | c :: d :: r => rw [show tkOf (c :: d :: r) = .br (brIts (c :: d :: r)) from rfl, gen]; rfl
end
section
theorem rest3_mem {cs : List Nat} {x : Nat} : x ∈ rest3 cs ↔ x ∈ cs ∧ x ≠ 33 ∧ x ≠ 45 ∧ x ≠ 93 := by
  simp [rest3]
theorem mem_getD {r : List Nat} {x : Nat} : (∃ j, j < r.length ∧ x = r.getD j 0) ↔ x ∈ r := by
  constructor
  · (intro z0; refine elEA z0 fun j h z1 => ?_; clear z0; subst z1); exact getD_mem h
  · intro h
    obtain ⟨j, hj, rfl⟩ := List.getElem_of_mem h
    exact ⟨j, hj, by rw [List.getD_eq_getElem?_getD, List.getElem?_eq_getElem hj]; rfl⟩
theorem pText_nil {cs : List Nat} (h : pText cs = []) : 93 ∉ cs ∧ rest3 cs = [] := by
  unfold pText at h
  rw [pRuns_its] at h
  have h1 := List.append_eq_nil_iff.mp h
  refine ⟨(fun z => by rw [if_pos z] at h1; cases h1.1), ?_⟩
  cases hr : rest3 cs with
  | nil => rfl
  | cons c r =>
    exfalso
    rw [hr] at h1
    have h2 := h1.2
    unfold rIts at h2
    rw [if_pos (by simp), itsT_append, runIt_T] at h2
    trivial
theorem rIts3 (cs : List Nat) (x : Nat) : (∃ p ∈ rIts (rest3 cs) ((rest3 cs).length + 1) 0, itHas x p) ↔ x ∈ rest3 cs := by
  rw [rIts_has _ _ _ _ (by exact Nat.lt_succ_self _), ← mem_getD]
  constructor
  · (intro z2; refine elEA z2 fun j _ h => ?_; clear z2); exact ⟨j, h⟩
  · rintro ⟨j, h⟩; exact ⟨j, Nat.zero_le _, h⟩
theorem brIts_has {cs : List Nat} (h2 : pText cs = [] → 33 ∈ cs ∧ 45 ∈ cs) (x : Nat) : (∃ p ∈ brIts cs, itHas x p) ↔ x ∈ cs := by
  unfold brIts
  split
  · rename_i h
    obtain ⟨n93, nr⟩ := pText_nil h
    obtain ⟨a33, a45⟩ := h2 h
    simp only [List.mem_cons, List.not_mem_nil, or_false, exists_eq_or_imp, exists_eq_left, itHas]
    constructor
    · rintro (rfl | rfl) <;> assumption
    · intro hx
      have : x ∉ rest3 cs := by rw [nr]; simp
      rw [rest3_mem] at this
      by_cases e1 : x = 33
      · exact .inr e1
      · by_cases e2 : x = 45
        · exact .inl e2
        · exact absurd ⟨hx, e1, e2, fun e => n93 (e ▸ hx)⟩ this
  · have hr := rIts3 cs x
    simp only [List.mem_append]
    constructor
    · rintro ⟨p, (q | q | q | q), hx⟩
      · split at q
        · cases List.mem_singleton.mp q
          have : x = 93 := hx
          subst this; assumption
        · cases q
      · exact (rest3_mem.mp (hr.mp ⟨p, q, hx⟩)).1
      · split at q
        · cases List.mem_singleton.mp q
          have : x = 33 := hx
          subst this; assumption
        · cases q
      · split at q
        · cases List.mem_singleton.mp q
          have : x = 45 := hx
          subst this; assumption
        · cases q
    · intro hx
      by_cases e1 : x = 33
      · subst e1; exact ⟨(33, none), .inr (.inr (.inl (by rw [if_pos hx]; exact List.mem_cons_self))), rfl⟩
      by_cases e2 : x = 45
      · subst e2; exact ⟨(45, none), .inr (.inr (.inr (by rw [if_pos hx]; exact List.mem_cons_self))), rfl⟩
      by_cases e3 : x = 93
      · subst e3; exact ⟨(93, none), .inl (by rw [if_pos hx]; exact List.mem_cons_self), rfl⟩
      (refine elEA (hr.mpr (rest3_mem.mpr ⟨hx, e1, e2, e3⟩)) fun p hp h => ?_)
      exact ⟨p, .inr (.inl hp), h⟩
theorem brIts_ok (cs : List Nat) : ItsOk (brIts cs) := by
  unfold brIts
  split
  · refine ⟨by exact List.cons_ne_nil _ _, fun p h => ?_, fun i p h hc => ?_, fun i h => ?_, fun c d h => ?_⟩
    · cases h; decide
    · match i, h with
      | 0, h => cases h; decide
      | 1, h => cases h; decide
    · match i, h with
      | 0, h => exact .inl rfl
      | 1, h => exact Or.inr rfl
      | i + 2, h => trivial
    · simp at h
  · rename_i hT
    have hm := rIts_mem (rest3 cs) ((rest3 cs).length + 1) 0
    have hne : (if 93 ∈ cs then [((93 : Nat), (none : Option Nat))] else []) ++ rIts (rest3 cs) ((rest3 cs).length + 1) 0 ≠ [] := by
      intro e
      apply hT
      rw [pText, pRuns_its]
      obtain ⟨e1, e2⟩ := List.append_eq_nil_iff.mp e
      rw [e2]
      by_cases h : 93 ∈ cs
      · rw [if_pos h] at e1; cases e1
      · rw [if_neg h]; rfl
    generalize rIts (rest3 cs) ((rest3 cs).length + 1) 0 = R at hm hne
    have hm' : ∀ p ∈ R, p.1 ≠ 33 ∧ p.1 ≠ 45 ∧ p.1 ≠ 93 := fun p hp => (rest3_mem.mp (hm p hp).1).2
    have hd' : ∀ p ∈ R, ∀ d, p.2 = some d → d ≠ 45 ∧ d ≠ 93 ∧ p.1 < d := fun p hp d e => by
      obtain ⟨h1, h2⟩ := (hm p hp).2 d e
      have := rest3_mem.mp h1
      exact ⟨this.2.2.1, this.2.2.2, h2⟩
    have h33 : ∀ p ∈ (if 33 ∈ cs then [((33 : Nat), (none : Option Nat))] else []), p = (33, none) := fun p hp => by
      split at hp
      · exact List.mem_singleton.mp hp
      · cases hp
    have h45 : ∀ p ∈ (if 45 ∈ cs then [((45 : Nat), (none : Option Nat))] else []), p = (45, none) := fun p hp => by
      split at hp
      · exact List.mem_singleton.mp hp
      · cases hp
    have h45l : (if 45 ∈ cs then [((45 : Nat), (none : Option Nat))] else []).length ≤ 1 := by split <;> exact Nat.le_add_left _ _
    have h93 : ∀ p ∈ (if 93 ∈ cs then [((93 : Nat), (none : Option Nat))] else []), p = (93, none) := fun p hp => by
      split at hp
      · exact List.mem_singleton.mp hp
      · cases hp
    have h93l : (if 93 ∈ cs then [((93 : Nat), (none : Option Nat))] else []).length ≤ 1 := by split <;> exact Nat.le_add_left _ _
    generalize (if 33 ∈ cs then [((33 : Nat), (none : Option Nat))] else []) = A at *
    generalize (if 45 ∈ cs then [((45 : Nat), (none : Option Nat))] else []) = B at *
    generalize (if 93 ∈ cs then [((93 : Nat), (none : Option Nat))] else []) = Z at *
    refine ⟨fun e => hne ?_, fun p h => ?_, fun i p h hc => ?_, fun i h => ?_, fun c d h => ?_⟩
    · rw [← List.append_assoc] at e; exact (List.append_eq_nil_iff.mp e).1
    · rw [← List.append_assoc] at h
      have : p ∈ Z ++ R := by
        cases hZ : Z ++ R with
        | nil => exact absurd hZ hne
        | cons q l => rw [hZ] at h; cases h; exact .head _
      rcases List.mem_append.mp this with q | q
      · rw [h93 p q]; decide
      · exact (hm' p q).1
    · by_cases hi : i < Z.length
      · have hi0 : i = 0 := by lia
        rw [List.getElem?_append_left hi] at h
        have := h93 p (List.mem_of_getElem? h)
        subst this
        rcases hc with q | q
        · exact absurd hi0 q
        · exact absurd rfl q
      · rw [List.getElem?_append_right (by exact Nat.le_of_not_lt (by assumption))] at h
        have := List.mem_of_getElem? h
        simp only [List.mem_append] at this
        rcases this with q | q | q
        · exact (hm' p q).2.2
        · rw [h33 p q]; decide
        · rw [h45 p q]; decide
    · by_cases hi : i < Z.length
      · rw [List.getElem?_append_left hi] at h
        cases h93 _ (List.mem_of_getElem? h)
      · rw [List.getElem?_append_right (by exact Nat.le_of_not_lt (by assumption))] at h
        by_cases hi2 : i - Z.length < R.length
        · rw [List.getElem?_append_left hi2] at h
          exact absurd rfl (hm' _ (List.mem_of_getElem? h)).2.1
        · rw [List.getElem?_append_right (by exact Nat.le_of_not_lt (by assumption))] at h
          by_cases hi3 : i - Z.length - R.length < A.length
          · rw [List.getElem?_append_left hi3] at h
            cases h33 _ (List.mem_of_getElem? h)
          · rw [List.getElem?_append_right (by exact Nat.le_of_not_lt (by assumption))] at h
            have := (List.getElem?_eq_some_iff.mp h).1
            right
            simp only [List.length_append]; omega
    · simp only [List.mem_append] at h
      rcases h with q | q | q | q
      · cases h93 _ q
      · have := hd' _ q d rfl
        exact ⟨(hm' _ q).2.1, this⟩
      · cases h33 _ q
      · cases h45 _ q
theorem tkOf_ok (cs : List Nat) : TkOk (tkOf cs) := by
  unfold tkOf
  split
  · rename_i c
    split
    · exact brIts_ok _
    · rename_i h
      simp at h
      exact h
  · exact brIts_ok _
noncomputable def tkTakes : Tk → Nat → Prop
  | .star, _ => False
  | .any, _ => True
  | .bare c, x => x = c
  | .br its, x => ∃ p ∈ its, itHas x p
theorem tkOf_takes {cs : List Nat} (h0 : cs ≠ []) (hn : cs.Nodup) (x : Nat) : tkTakes (tkOf cs) x ↔ x ∈ cs := by
  unfold tkOf
  split
  · rename_i c
    split
    · rename_i h
      exact brIts_has (fun e => absurd e (pText_one h)) x
    · simp [tkTakes]
  · rename_i hs
    refine brIts_has (fun e => ?_) x
    obtain ⟨n93, nr⟩ := pText_nil e
    have hsub : ∀ y ∈ cs, y = 33 ∨ y = 45 := fun y hy => by
      have : y ∉ rest3 cs := by rw [nr]; simp
      rw [rest3_mem] at this
      by_cases e1 : y = 33
      · exact .inl e1
      · by_cases e2 : y = 45
        · exact .inr e2
        · exact absurd ⟨hy, e1, e2, fun e => n93 (e ▸ hy)⟩ this
    match cs, h0, hn, hsub, hs with
    | [c], _, _, _, hs => exact absurd rfl (hs c)
    | c :: d :: r, _, hn, hsub, _ =>
      have hcd : c ≠ d := fun e => by
        rw [e] at hn
        exact (List.nodup_cons.mp hn).1 (.head _)
      have hc := hsub c (.head _)
      have hd := hsub d (.tail _ (.head _))
      rcases hc with rfl | rfl <;> rcases hd with rfl | rfl
      · exact absurd rfl hcd
      · exact ⟨.head _, .tail _ (.head _)⟩
      · exact ⟨.tail _ (.head _), .head _⟩
      · exact absurd rfl hcd
end
section
noncomputable def isStar : Tk → Bool
  | .star => true
  | _ => false
noncomputable def cutT : List Tk → List Tk × List (List Tk)
  | [] => ([], [])
  | t :: r => if isStar t = true then (if (cutT r).1 = [] ∧ (cutT r).2 ≠ [] then cutT r else ([], (cutT r).1 :: (cutT r).2)) else (t :: (cutT r).1, (cutT r).2)
noncomputable def pcs (f : Int → Option Value) : Bool → List Tk → List Pc
  | _, [] => []
  | b, t :: r => if isStar t = true then (if b = true then pcs f true r else none :: pcs f true r) else some (tkO f t) :: pcs f false r
theorem foldl_pcs (f : Int → Option Value) : ∀ (ts : List Tk) (ps : List Pc), ts.foldl (addPc f) ps = ps ++ pcs f (decide (ps.getLast? = some none)) ts
  | [], ps => by simp [pcs]
  | t :: r, ps => by
    rw [List.foldl_cons, foldl_pcs f r]
    cases t with
    | star =>
      simp only [addPc, pcs, isStar, if_true]
      by_cases h : ps.getLast? = some none
      · simp [h]
      · simp [h]
    | any => simp [addPc, pcs, isStar]
    | bare c => simp [addPc, pcs, isStar]
    | br its => simp [addPc, pcs, isStar]
theorem pieces_pcs (f : Int → Option Value) (ts : List Tk) : pieces f ts = pcs f false ts := by
  rw [pieces, foldl_pcs]; rfl
theorem pcs_two (f : Int → Option Value) (t : Tk) (ht : isStar t = false) : ∀ (a b : List Tk) (p : Bool), pcs f p (a ++ t :: b) = pcs f p a ++ some (tkO f t) :: pcs f false b
  | [], b, p => by simp [pcs, ht]
  | x :: a, b, p => by
    have ih := fun p => pcs_two f t ht a b p
    rw [List.cons_append, pcs, pcs, ih, ih]
    split
    · split <;> rfl
    · rfl
noncomputable def oT (f : Int → Option Value) (l : List Tk) : List Txt := l.map (tkO f)
theorem pcs_cut (f : Int → Option Value) : ∀ ts : List Tk, pcs f false ts = jP (oT f (cutT ts).1) ((cutT ts).2.map (oT f)) ∧ none :: pcs f true ts = (if (cutT ts).1 = [] ∧ (cutT ts).2 ≠ [] then jP [] ((cutT ts).2.map (oT f)) else none :: jP (oT f (cutT ts).1) ((cutT ts).2.map (oT f)))
  | [] => by trivial
  | t :: r => by
    obtain ⟨ih1, ih2⟩ := pcs_cut f r
    cases ht : isStar t with
    | true =>
      simp only [pcs, cutT, ht, if_true, Bool.false_eq_true, if_false]
      constructor
      · rw [ih2]
        by_cases h : (cutT r).1 = [] ∧ (cutT r).2 ≠ []
        · rw [if_pos h, if_pos h, h.1]; rfl
        · rw [if_neg h, if_neg h]
          rfl
      · rw [ih2]
        by_cases h : (cutT r).1 = [] ∧ (cutT r).2 ≠ []
        · rw [if_pos h, if_pos h, if_pos h]
        · rw [if_neg h, if_neg h, if_pos ⟨rfl, by exact List.cons_ne_nil _ _⟩]
          rfl
    | false =>
      simp only [pcs, cutT, ht, Bool.false_eq_true, if_false]
      rw [ih1]
      constructor
      · rfl
      · rw [if_neg (by simp)]; rfl
theorem pieces_cut (f : Int → Option Value) (ts : List Tk) : pieces f ts = jP (oT f (cutT ts).1) ((cutT ts).2.map (oT f)) := by rw [pieces_pcs]; exact (pcs_cut f ts).1
theorem pieces_two (f : Int → Option Value) (h47 : f 47 = none) (a b : List Tk) : pieces f a ++ (some [47] :: pieces f b) = jP (oT f (cutT (a ++ .bare 47 :: b)).1) ((cutT (a ++ .bare 47 :: b)).2.map (oT f)) := by
  rw [← pieces_cut, pieces_pcs, pieces_pcs, pieces_pcs, pcs_two f (.bare 47) rfl]
  have : tkO f (.bare 47) = [47] := by
    show esc1 f 47 = _
    unfold esc1
    rw [show ((47 : Nat) : Int) = 47 from rfl, h47]; rfl
  rw [this]
theorem GsOk_cons {g : List Txt} {r : List (List Txt)} (h : GsOk r) (hg : r ≠ [] → g ≠ []) : GsOk (g :: r) := by
  cases r with
  | nil => trivial
  | cons x r => exact ⟨hg (by exact List.cons_ne_nil _ _), h⟩
theorem cut_ok (f : Int → Option Value) : ∀ ts : List Tk, GsOk ((cutT ts).2.map (oT f))
  | [] => trivial
  | t :: r => by
    have ih := cut_ok f r
    unfold cutT
    split
    · split
      · exact ih
      · rename_i h
        refine GsOk_cons ih fun h2 h3 => h ⟨?_, fun e => h2 (by rw [e]; rfl)⟩
        simpa [oT] using h3
    · exact ih
noncomputable def NoStar (l : List Tk) : Prop := ∀ t ∈ l, isStar t = false
theorem cut_noStar : ∀ ts : List Tk, NoStar (cutT ts).1 ∧ ∀ g ∈ (cutT ts).2, NoStar g
  | [] => ⟨(fun t h => by cases h), fun t h => by cases h⟩
  | t :: r => by
    obtain ⟨h1, h2⟩ := cut_noStar r
    unfold cutT
    split
    · split
      · exact ⟨h1, h2⟩
      · refine ⟨(fun t h => by cases h), fun g hg => ?_⟩
        rcases List.mem_cons.mp hg with rfl | q
        · exact h1
        · exact h2 g q
    · rename_i h
      refine ⟨fun x hx => ?_, h2⟩
      rcases List.mem_cons.mp hx with rfl | q
      · simpa using h
      · exact h1 x q
theorem cut_mem : ∀ ts : List Tk, (∀ t ∈ (cutT ts).1, t ∈ ts) ∧ ∀ g ∈ (cutT ts).2, ∀ t ∈ g, t ∈ ts
  | [] => ⟨(fun t h => by cases h), fun t h => by cases h⟩
  | t :: r => by
    obtain ⟨h1, h2⟩ := cut_mem r
    unfold cutT
    split
    · split
      · exact ⟨fun x hx => .tail _ (h1 x hx), fun g hg x hx => .tail _ (h2 g hg x hx)⟩
      · refine ⟨(fun t h => by cases h), fun g hg x hx => ?_⟩
        rcases List.mem_cons.mp hg with rfl | q
        · exact .tail _ (h1 x hx)
        · exact .tail _ (h2 g q x hx)
    · refine ⟨fun x hx => ?_, fun g hg x hx => .tail _ (h2 g hg x hx)⟩
      rcases List.mem_cons.mp hx with rfl | q
      · exact .head _
      · exact .tail _ (h1 x q)
theorem tkO_len (f : Int → Option Value) (t : Tk) : (tkO f t).length ≤ 4 * (tkP t).length + 1 := by
  cases t with
  | star => simp [tkO]
  | any => exact Nat.succ_pos _
  | bare c =>
    show (esc1 f c).length ≤ _
    unfold esc1
    split <;> exact Nat.le_add_left _ _
  | br its =>
    have h1 := pAmp_len (itsE1 its)
    have h2 := itsE1_len its
    have h3 : (fixI its).length ≤ 1 := by
      unfold fixI
      split
      · simp
      · split <;> exact Nat.le_add_left _ _
    show (91 :: (fixI its ++ pAmp (itsE1 its) ++ [93])).length ≤ 4 * (91 :: (itsT its ++ [93])).length + 1
    simp only [List.length_cons, List.length_append, List.length_nil]
    lia
theorem gT_len : ∀ gs : List (List Txt), (gT gs).length ≤ (gs.map fun g => g.flatten.length + 7).sum
  | [] => by exact Nat.le_refl _
  | [g] => by simp [gT]
  | g :: g' :: r => by
    have := gT_len (g' :: r)
    rw [gT, List.length_append, List.map_cons, List.sum_cons]
    have : (grp1 g).length = g.flatten.length + 7 := by simp [grp1]
    simp_all
theorem jB_len' (f : Int → Option Value) : ∀ ts : List Tk, (oT f (cutT ts).1).flatten.length + (((cutT ts).2.map (oT f)).map fun g => g.flatten.length + 7).sum ≤ 12 * (flatP ts).length
  | [] => by exact Nat.zero_le _
  | t :: r => by
    have ih := jB_len' f r
    have h1 := tkO_len f t
    have h2 := tkP_pos t
    have e : (flatP (t :: r)).length = (tkP t).length + (flatP r).length := by exact List.length_append ..
    rw [e]
    unfold cutT
    split
    · split
      · lia
      · simp only [List.map_cons, List.sum_cons]
        have : (oT f []).flatten.length = 0 := rfl
        lia
    · have : (oT f (t :: (cutT r).1)).flatten.length = (tkO f t).length + (oT f (cutT r).1).flatten.length := by exact List.length_append ..
      show (oT f (t :: (cutT r).1)).flatten.length + _ ≤ _
      rw [this]
      simp only at *
      lia
theorem jB_len (f : Int → Option Value) (ts : List Tk) : ((oT f (cutT ts).1).map (·.length)).sum + (gT ((cutT ts).2.map (oT f))).length ≤ 12 * (flatP ts).length := by
  have h1 := jB_len' f ts
  have h2 := gT_len ((cutT ts).2.map (oT f))
  rw [List.length_flatten] at h1
  exact Nat.le_trans (Nat.add_le_add_left h2 _) h1
end
section
noncomputable def Enc (y : Txt) (c : Nat) : Prop := y = [92, c] ∨ (y = [c] ∧ c ≠ 92)
theorem drop_drop' {b x y : Txt} {a : Nat} (h : b.drop a = x ++ y) : b.drop (a + x.length) = y := by
  rw [← List.drop_drop, h, List.drop_left]
theorem Enc.len {y : Txt} {c : Nat} (h : Enc y c) : y.length = 1 ∨ y.length = 2 := by
  rcases h with rfl | ⟨rfl, _⟩ <;> simp
theorem pOne_enc {b y r : Txt} {a c : Nat} (h : Enc y c) (e : b.drop a = y ++ r) : pOne b a = ([c], a + y.length) := by
  unfold pOne
  rcases h with rfl | ⟨rfl, hc⟩
  · rw [e]
    have e2 : b.drop (a + 1) = c :: r := by
      have := drop_drop' (x := [92]) (y := c :: r) e
      omega
    rw [e2]; rfl
  · rw [e]
    simp [hc]
theorem head_ne {r : Txt} {c : Nat} (h : r.head? ≠ some c) : r.take 1 ≠ [c] := by
  cases r with
  | nil => simp
  | cons x r => simpa using h
theorem pSetStep_none {b y r : Txt} {a c : Nat} (h : Enc y c) (e : b.drop a = y ++ r) (hr : r.head? ≠ some 45) : pSetStep b a = (([c], [c]), a + y.length) := by
  unfold pSetStep
  rw [pOne_enc h e]
  rw [if_neg]
  rintro ⟨h1, _⟩
  rw [drop_drop' e] at h1
  exact head_ne hr h1
theorem pSetStep_some {b y z r : Txt} {a c d : Nat} (h : Enc y c) (k : Enc z d) (hd : d ≠ 93) (e : b.drop a = y ++ 45 :: (z ++ r)) : pSetStep b a = (([c], [d]), a + y.length + 1 + z.length) := by
  have e1 : b.drop (a + y.length) = 45 :: (z ++ r) := drop_drop' e
  have e2 : b.drop (a + y.length + 1) = z ++ r := by
    have := drop_drop' (x := [45]) (y := z ++ r) e1
    omega
  unfold pSetStep
  rw [pOne_enc h e]
  simp only
  rw [if_pos, pOne_enc k e2]
  rw [e1, e2]
  refine ⟨rfl, ?_⟩
  rcases k with rfl | ⟨rfl, _⟩
  · simp
  · simpa using hd
noncomputable def e3 (c : Nat) : Txt := pAmp (e1 c)
theorem e3_enc (c : Nat) : Enc (e3 c) c := by
  unfold e3 e1
  by_cases h1 : c = 92
  · subst h1; left; decide
  · by_cases h2 : c = 45
    · subst h2; left; decide
    · rw [if_neg h1, if_neg h2]
      cases h3 : isAmp c with
      | true => left; simp [pAmp, h3]
      | false => right; exact ⟨by simp [pAmp, h3], h1⟩
theorem pAmp_cons45 (x : Txt) : pAmp (45 :: x) = 45 :: pAmp x := by
  have : isAmp 45 = false := by decide
  rfl
theorem pAmp_its_cons (p : It) (r : List It) : pAmp (itsE1 (p :: r)) = (match p.2 with | none => e3 p.1 | some d => e3 p.1 ++ 45 :: e3 d) ++ pAmp (itsE1 r) := by
  obtain ⟨c, o⟩ := p
  show pAmp (itE1 (c, o) ++ itsE1 r) = _
  rw [pAmp_append]
  cases o with
  | none => rfl
  | some d =>
    show pAmp (e1 c ++ 45 :: e1 d) ++ _ = _
    rw [pAmp_append, pAmp_cons45]; rfl
theorem e3_head {c x : Nat} (hx : c ≠ x ∨ x = 45) (h92 : x ≠ 92) (y : Txt) : (e3 c ++ y).head? ≠ some x := by
  by_cases h1 : c = x
  · rcases hx with q | rfl
    · exact absurd h1 q
    · subst h1
      have : e3 45 = [92, 45] := by decide
      rw [this]; simp
  · rcases e3_enc c with e | ⟨e, _⟩
    · rw [e]; simpa using fun z => h92 z.symm
    · rw [e]; simpa using h1
theorem its_first {x : Nat} (r : List It) (z : Txt) (h92 : x ≠ 92) (hx : ∀ p ∈ r, p.1 ≠ x ∨ x = 45) (hz : z.head? ≠ some x) : (pAmp (itsE1 r) ++ z).head? ≠ some x := by
  cases r with
  | nil => exact hz
  | cons p r =>
    rw [pAmp_its_cons, List.append_assoc]
    have := hx p (.head _)
    cases p.2 with
    | none => exact e3_head this h92 _
    | some d =>
      show (e3 p.1 ++ 45 :: e3 d ++ _).head? ≠ _
      rw [List.append_assoc]; exact e3_head this h92 _
noncomputable def itMem (p : It) : Txt × Txt := ([p.1], [p.2.getD p.1])
theorem drop_get {b r : Txt} {a c : Nat} (e : b.drop a = c :: r) : b[a]? = some c ∧ a < b.length := by
  have h : a < b.length := by
    rcases Nat.lt_or_ge a b.length with h | h
    · exact h
    · rw [List.drop_of_length_le h] at e; cases e
  rw [List.drop_eq_getElem_cons h] at e
  exact ⟨by rw [List.getElem?_eq_getElem h]; injection e with e1 _; rw [e1], h⟩
theorem Enc.cons {y : Txt} {c : Nat} (h : Enc y c) : ∃ x t, y = x :: t := by
  rcases h with rfl | ⟨rfl, _⟩ <;> exact ⟨_, _, rfl⟩
theorem pSetGo_its {b r : Txt} : ∀ (its : List It) (f a : Nat) (ms : List (Txt × Txt)), ms ≠ [] → (∀ p ∈ its, p.1 ≠ 93 ∧ ∀ d, p.2 = some d → d ≠ 93) → b.drop a = pAmp (itsE1 its) ++ 93 :: r → its.length < f →
    pSetGo b f a ms = (ms ++ its.map itMem, a + (pAmp (itsE1 its)).length)
  | [], f, a, ms, hm, _, e, hf => by
    obtain ⟨f, rfl⟩ : ∃ g, f = g + 1 := ⟨f - 1, by simp at hf; exact (Nat.succ_pred_eq_of_pos (by assumption)).symm⟩
    have e : b.drop a = 93 :: r := e
    obtain ⟨h1, h2⟩ := drop_get e
    unfold pSetGo
    have h0 : ms.isEmpty = false := by cases ms with | nil => exact absurd rfl hm | cons _ _ => rfl
    rw [h1, h0]
    simp [itsE1, pAmp]
  | p :: its, f, a, ms, hm, hi, e, hf => by
    obtain ⟨f, rfl⟩ : ∃ g, f = g + 1 := ⟨f - 1, by simp at hf; exact (Nat.succ_pred_eq_of_pos (Nat.lt_of_le_of_lt (Nat.zero_le _) (by assumption))).symm⟩
    have hp := hi p (.head _)
    have hr : ∀ q ∈ its, q.1 ≠ 93 ∧ ∀ d, q.2 = some d → d ≠ 93 := fun q hq => hi q (.tail _ hq)
    have hfirst : (pAmp (itsE1 its) ++ 93 :: r).head? ≠ some 45 := its_first its _ (by decide) (fun _ _ => .inr rfl) (by simp)
    have hne : (pAmp (itsE1 (p :: its)) ++ 93 :: r).head? ≠ some 93 ∨ True := .inr trivial
    rw [pAmp_its_cons] at e ⊢
    have h93 : ∀ z : Txt, (e3 p.1 ++ z).head? ≠ some 93 := fun z => e3_head (.inl hp.1) (by decide) z
    have hgo : ∀ z, b.drop a = e3 p.1 ++ z → (decide (a < b.length) && (ms.isEmpty || decide (b[a]? ≠ some 93))) = true := by
      intro z ez
      have h9 := h93 z
      (refine elEE ((e3_enc p.1).cons) fun x t ex => ?_)
      rw [ex] at ez h9
      obtain ⟨g1, g2⟩ := drop_get ez
      rw [g1]
      have : x ≠ 93 := by simpa using h9
      simp [g2, this]
    unfold pSetGo
    obtain ⟨c, o⟩ := p
    cases o with
    | none =>
      have e : b.drop a = e3 c ++ (pAmp (itsE1 its) ++ 93 :: r) := by rw [e]; exact List.append_assoc ..
      rw [if_pos (hgo _ e), pSetStep_none (e3_enc c) e hfirst]
      rw [pSetGo_its its f _ _ (by simp) hr (drop_drop' e) (by simp at hf; omega)]
      simp [itMem]; exact Nat.add_assoc _ _ _
    | some d =>
      have e : b.drop a = e3 c ++ 45 :: (e3 d ++ (pAmp (itsE1 its) ++ 93 :: r)) := by rw [e]; simp
      rw [if_pos (hgo _ e), pSetStep_some (e3_enc c) (e3_enc d) (hp.2 d rfl) e]
      have e' : b.drop (a + (e3 c).length + 1 + (e3 d).length) = pAmp (itsE1 its) ++ 93 :: r := by
        have h1 := drop_drop' e
        have h2 : b.drop (a + (e3 c).length + 1) = e3 d ++ (pAmp (itsE1 its) ++ 93 :: r) := by
          have := drop_drop' (x := [45]) h1
          omega
        exact drop_drop' h2
      rw [pSetGo_its its f _ _ (by simp) hr e' (by simp at hf; omega)]
      simp [itMem]; simp +arith
theorem its_len : ∀ its : List It, its.length ≤ (pAmp (itsE1 its)).length
  | [] => by simp
  | p :: r => by
    have := its_len r
    have h1 := (e3_enc p.1).len
    rw [pAmp_its_cons, List.length_append, List.length_cons]
    obtain ⟨c, o⟩ := p
    cases o with
    | none => show _ ≤ (e3 c).length + _; simp only at h1; lia
    | some d => show _ ≤ (e3 c ++ _).length + _; rw [List.length_append]; simp only at h1; grind
theorem pSet_its {b r : Txt} {a : Nat} {its : List It} (ok : ItsOk its) (e : b.drop a = fixI its ++ pAmp (itsE1 its) ++ 93 :: r) : pSet b a = ((false, its.map itMem), a + (fixI its ++ pAmp (itsE1 its) ++ [93]).length) := by
  match its, ok, e with
  | [], ok, _ => exact absurd rfl ok.ne
  | (c, o) :: its, ok, e =>
    have hi : ∀ p ∈ its, p.1 ≠ 93 ∧ ∀ d, p.2 = some d → d ≠ 93 := fun p hp => by
      obtain ⟨i, hi⟩ := List.mem_iff_getElem?.mp hp
      refine ⟨ok.br (i + 1) p (by trivial) (.inl (by exact Nat.ne_of_gt (Nat.succ_pos _))), fun d hd => (ok.rg p.1 d ?_).2.2.1⟩
      rw [← hd]; exact .tail _ hp
    have hd0 : ∀ d, o = some d → d ≠ 93 := fun d hd => (ok.rg c d (by rw [hd]; exact .head _)).2.2.1
    have hfirst : (pAmp (itsE1 its) ++ 93 :: r).head? ≠ some 45 := its_first its _ (by decide) (fun _ _ => .inr rfl) (by simp)
    -- the first sign's text
    have key : ∃ y, Enc y c ∧ y.head? ≠ some 94 ∧ fixI ((c, o) :: its) ++ e3 c = y := by
      unfold fixI
      by_cases h : c = 94 ∨ c = 91
      · refine ⟨[92, c], .inl rfl, by simp, ?_⟩
        simp only [h, if_true]
        rcases h with rfl | rfl <;> decide
      · refine ⟨e3 c, e3_enc c, ?_, by simp [h]⟩
        have := e3_head (c := c) (x := 94) (.inl fun z => h (.inl z)) (by decide) []
        simpa using this
    (refine elEAA key fun y hy hy94 ey => ?_; clear key)
    (refine elEE hy.cons fun x t ex => ?_)
    rw [pAmp_its_cons] at e ⊢
    have hlen : ∃ g, b.length = g := ⟨_, rfl⟩
    have hstart : ∀ z, b.drop a = y ++ z → (decide (a < b.length) && (([] : List (Txt × Txt)).isEmpty || decide (b[a]? ≠ some 93))) = true := by
      intro z ez
      rw [ex] at ez
      have := (drop_get ez).2
      simp [this]
    have hno : ∀ z, b.drop a = y ++ z → ¬ (b.drop a).take 1 = [94] := by
      intro z ez
      rw [ez, ex]
      rw [ex] at hy94
      simpa using hy94
    have hfuel : ∀ (a' : Nat), b.drop a' = pAmp (itsE1 its) ++ 93 :: r → its.length < b.length := by
      intro a' ea
      have h1 := congrArg List.length ea
      have h2 := its_len its
      simp at h1; lia
    cases o with
    | none =>
      have e : b.drop a = y ++ (pAmp (itsE1 its) ++ 93 :: r) := by
        rw [e, ← ey]; simp
      have e' := drop_drop' e
      unfold pSet
      rw [if_neg (hno _ e), decide_eq_false (hno _ e)]
      unfold pSetGo
      rw [if_pos (hstart _ e), pSetStep_none hy e hfirst, pSetGo_its its _ _ _ (by exact List.cons_ne_nil _ _) hi e' (hfuel _ e')]
      simp [itMem, ← ey]; simp +arith
    | some d =>
      have e : b.drop a = y ++ 45 :: (e3 d ++ (pAmp (itsE1 its) ++ 93 :: r)) := by
        rw [e, ← ey]; simp
      have e' : b.drop (a + y.length + 1 + (e3 d).length) = pAmp (itsE1 its) ++ 93 :: r := by
        have h1 := drop_drop' e
        have h2 : b.drop (a + y.length + 1) = e3 d ++ (pAmp (itsE1 its) ++ 93 :: r) := by
          have := drop_drop' (x := [45]) h1
          omega
        exact drop_drop' h2
      unfold pSet
      rw [if_neg (hno _ e), decide_eq_false (hno _ e)]
      unfold pSetGo
      rw [if_pos (hstart _ e), pSetStep_some hy (e3_enc d) (hd0 d rfl) e, pSetGo_its its _ _ _ (by simp) hi e' (hfuel _ e')]
      simp [itMem, ← ey]; simp +arith
end
section
noncomputable def specN : List Nat := [40, 41, 91, 93, 123, 125, 63, 42, 43, 45, 124, 94, 36, 92, 46, 38, 126, 35, 32, 9, 10, 13, 11, 12]
noncomputable def FOk (f : Int → Option Value) : Prop := ∀ c : Nat, (f (c : Int)).isSome = decide (c ∈ specN)
theorem esc1_enc {f : Int → Option Value} (hf : FOk f) (c : Nat) : Enc (esc1 f c) c ∧ ∀ x ∈ [40, 41, 42, 46, 91], (esc1 f c).head? ≠ some x := by
  unfold esc1
  rw [hf c]
  by_cases h : c ∈ specN
  · rw [if_pos (decide_eq_true h)]
    refine ⟨.inl rfl, fun x hx => ?_⟩
    simp only [List.mem_cons, List.not_mem_nil, or_false] at hx
    rcases hx with rfl | rfl | rfl | rfl | rfl <;> simp
  · rw [if_neg (by simpa using h)]
    have h92 : c ≠ 92 := fun e => h (by rw [e]; decide)
    refine ⟨.inr ⟨rfl, h92⟩, fun x hx e => ?_⟩
    have e : c = x := by simpa using e
    subst e
    simp only [List.mem_cons, List.not_mem_nil, or_false] at hx
    rcases hx with rfl | rfl | rfl | rfl | rfl <;> exact h (by decide)
noncomputable def tkCol : Tk → Col
  | .star => (false, [])
  | .any => (true, [])
  | .bare c => (false, [([c], [c])])
  | .br its => (false, its.map itMem)
theorem take_head {r : Txt} {c : Nat} {l : Txt} {n : Nat} (h : r.head? ≠ some c) : r.take n ≠ c :: l := by
  cases r with
  | nil => cases n <;> simp
  | cons x r =>
    cases n with
    | zero => simp
    | succ n => intro e; injection e with e1 _; exact h (by rw [e1]; rfl)
theorem pReadStep_tk {f : Int → Option Value} (hf : FOk f) {t : Tk} (ok : TkOk t) (hs : isStar t = false) {b r : Txt} {a : Nat} (e : b.drop a = tkO f t ++ r) (hr : r.head? ≠ some 42) : pReadStep b a = (.col (tkCol t), a + (tkO f t).length) := by
  cases t with
  | star => cases hs
  | any =>
    have e : b.drop a = 46 :: r := e
    have hg := (drop_get e).1
    unfold pReadStep
    rw [e, hg, if_neg (by exact of_decide_eq_false (by assumption)), if_neg (by exact of_decide_eq_false (by assumption)), if_neg ?_, if_neg (by exact of_decide_eq_false (by assumption)), if_pos rfl]
    · rfl
    · intro z
      have z : 46 :: r.take 1 = [46, 42] := z
      injection z with _ z
      exact head_ne hr z
  | bare c =>
    obtain ⟨h1, h2⟩ := esc1_enc hf c
    have e : b.drop a = esc1 f c ++ r := e
    have hh : ∀ x ∈ [40, 41, 42, 46, 91], (b.drop a).head? ≠ some x := by
      intro x hx
      have := h2 x hx
      (refine elEE h1.cons fun y t ey => ?_)
      rw [e, ey]; rw [ey] at this; trivial
    have hg : ∀ x ∈ [40, 41, 42, 46, 91], b[a]? ≠ some x := by
      intro x hx z
      refine hh x hx ?_
      rw [List.head?_drop]; exact z
    unfold pReadStep
    rw [if_neg (take_head (hh 40 (by decide))), if_neg (take_head (hh 40 (by decide))), if_neg (take_head (hh 46 (by decide))), if_neg (hg 41 (by decide)), if_neg (hg 46 (by decide)), if_neg (hg 91 (by decide)), pOne_enc h1 e]
    rfl
  | br its =>
    have e : b.drop a = 91 :: (fixI its ++ pAmp (itsE1 its) ++ 93 :: r) := by rw [e]; simp [tkO]
    have hg := (drop_get e).1
    have e2 : b.drop (a + 1) = fixI its ++ pAmp (itsE1 its) ++ 93 :: r := by
      have := drop_drop' (x := [91]) (y := fixI its ++ pAmp (itsE1 its) ++ 93 :: r) e
      omega
    unfold pReadStep
    rw [e, hg, if_neg (by exact of_decide_eq_false (by assumption)), if_neg (by exact of_decide_eq_false (by assumption)), if_neg (by exact of_decide_eq_false (by assumption)), if_neg (by exact of_decide_eq_false (by assumption)), if_neg (by exact of_decide_eq_false (by assumption)), if_pos rfl, pSet_its ok e2]
    simp [tkCol, tkO]; exact Nat.succ_add _ _
noncomputable def RG (b : Txt) (a : Nat) (segs : List Seg) (a' : Nat) (segs' : List Seg) : Prop := ∀ f, b.length < f + a → ∃ f', b.length < f' + a' ∧ pReadGo b f a segs = pReadGo b f' a' segs'
theorem RG.refl (b : Txt) (a : Nat) (segs : List Seg) : RG b a segs a segs := fun f h => ⟨f, h, rfl⟩
theorem RG.trans {b : Txt} {a a' a'' : Nat} {s s' s'' : List Seg} (h : RG b a s a' s') (k : RG b a' s' a'' s'') : RG b a s a'' s'' := fun f hf => by
  (refine elEA (h f hf) fun f1 h1 e1 => ?_)
  (refine elEA (k f1 h1) fun f2 h2 e2 => ?_)
  exact ⟨f2, h2, e1.trans e2⟩
theorem RG.step {b : Txt} {a a' : Nat} {s : List Seg} {x : Act} (hl : a < b.length) (h : pReadStep b a = (x, a')) : RG b a s a' (x.on s) := fun f hf => by
  cases f with
  | zero => lia
  | succ f =>
    have hgt := pReadStep_gt b a
    rw [h] at hgt
    refine ⟨f, by simp only at hgt; lia, ?_⟩
    rw [pReadGo, if_pos hl, h]
theorem addLast_snoc (S : List Seg) (k : SK) (cs : List Col) (c : Col) : addLast (S ++ [(k, cs)]) c = S ++ [(k, cs ++ [c])] := by
  unfold addLast
  rw [show (S ++ [(k, cs)]).length - 1 = S.length by simp]
  rw [List.modify_eq_take_cons_drop (by simp)]
  simp
theorem tkO_head {f : Int → Option Value} (hf : FOk f) {t : Tk} (hs : isStar t = false) (r : Txt) : (tkO f t ++ r).head? ≠ some 42 := by
  cases t with
  | star => cases hs
  | any => exact of_decide_eq_false (by assumption)
  | bare c =>
    obtain ⟨h1, h2⟩ := esc1_enc hf c
    have := h2 42 (by decide)
    (refine elEE h1.cons fun y t ey => ?_)
    show (esc1 f c ++ r).head? ≠ _
    rw [ey]; rw [ey] at this; trivial
  | br its => exact of_decide_eq_false (by assumption)
theorem flat_head {f : Int → Option Value} (hf : FOk f) {l : List Tk} (hs : NoStar l) {r : Txt} (hr : r.head? ≠ some 42) : ((oT f l).flatten ++ r).head? ≠ some 42 := by
  cases l with
  | nil => exact hr
  | cons t l =>
    show (((tkO f t) ++ (oT f l).flatten) ++ r).head? ≠ _
    rw [List.append_assoc]; exact tkO_head hf (hs t (.head _)) _
theorem tkO_pos {f : Int → Option Value} (hf : FOk f) {t : Tk} (hs : isStar t = false) (r : Txt) : ∃ c z, tkO f t ++ r = c :: z := by
  cases t with
  | star => cases hs
  | any => exact ⟨_, _, rfl⟩
  | bare c =>
    obtain ⟨h1, _⟩ := esc1_enc hf c
    (refine elEE h1.cons fun y t ey => ?_)
    exact ⟨y, t ++ r, by show esc1 f c ++ r = _; rw [ey]; rfl⟩
  | br its => exact ⟨_, _, rfl⟩
theorem RG.toks {f : Int → Option Value} (hf : FOk f) {b r : Txt} (hr : r.head? ≠ some 42) {S : List Seg} {k : SK} : ∀ {l : List Tk} {a : Nat} {cs : List Col}, (∀ t ∈ l, TkOk t) → NoStar l → b.drop a = (oT f l).flatten ++ r →
    RG b a (S ++ [(k, cs)]) (a + (oT f l).flatten.length) (S ++ [(k, cs ++ l.map tkCol)])
  | [], a, cs, _, _, _ => by simpa [oT] using RG.refl b a _
  | t :: l, a, cs, ok, hs, e => by
    have e : b.drop a = tkO f t ++ ((oT f l).flatten ++ r) := by rw [e]; exact List.append_assoc ..
    have hs0 := hs t (.head _)
    have hsl : NoStar l := fun x hx => hs x (.tail _ hx)
    have hst := pReadStep_tk hf (ok t (.head _)) hs0 e (flat_head hf hsl hr)
    (refine elEE (tkO_pos hf hs0 ((oT f l).flatten ++ r)) fun c z ez => ?_)
    have hlt := (drop_get (e.trans ez)).2
    have h1 := RG.step (s := S ++ [(k, cs)]) hlt hst
    have h2 := RG.toks (S := S) (k := k) (cs := cs ++ [tkCol t]) hf hr (l := l) (fun x hx => ok x (.tail _ hx)) hsl (drop_drop' e)
    have h3 : Act.on (S ++ [(k, cs)]) (.col (tkCol t)) = S ++ [(k, cs ++ [tkCol t])] := addLast_snoc S k cs _
    rw [h3] at h1
    have h4 := h1.trans h2
    have : a + (oT f (t :: l)).flatten.length = a + (tkO f t).length + (oT f l).flatten.length := by simp [oT]; exact (Nat.add_assoc _ _ _).symm
    rw [this]
    simpa using h4
noncomputable def segsOf : List (List Tk) → List Seg
  | [] => []
  | [g] => [(.tail, g.map tkCol)]
  | g :: g' :: r => (.group, g.map tkCol) :: segsOf (g' :: r)
theorem gT_head (f : Int → Option Value) (gs : List (List Tk)) : (gT (gs.map (oT f))).head? ≠ some 42 := by
  match gs with
  | [] => simp [gT]
  | [g] => simp [gT]
  | g :: g' :: r => simp [gT, grp1]
theorem RG.groups {f : Int → Option Value} (hf : FOk f) {b : Txt} : ∀ {gs : List (List Tk)} {a : Nat} {S : List Seg}, S ≠ [] → (∀ g ∈ gs, (∀ t ∈ g, TkOk t) ∧ NoStar g) → b.drop a = gT (gs.map (oT f)) → RG b a S (a + (gT (gs.map (oT f))).length) (S ++ segsOf gs)
  | [], a, S, _, _, _ => by simpa [gT, segsOf] using RG.refl b a S
  | [g], a, S, hS, hg, e => by
    obtain ⟨h1, h2⟩ := hg g (.head _)
    have e : b.drop a = [46, 42] ++ ((oT f g).flatten ++ []) := by rw [e]; simp [gT]
    have hst : pReadStep b a = (.new .tail, a + 2) := by
      unfold pReadStep
      rw [e, if_neg (by simp), if_neg (by simp), if_pos (by rfl)]
    have r1 := RG.step (s := S) (drop_get e).2 hst
    have r2 := RG.toks (S := S) (k := .tail) (cs := []) hf (r := []) (by simp) h1 h2 (drop_drop' e)
    have := r1.trans r2
    simpa [gT, segsOf, Nat.add_assoc, Nat.add_comm 2] using this
  | g :: g' :: r, a, S, hS, hg, e => by
    obtain ⟨h1, h2⟩ := hg g (.head _)
    have e : b.drop a = grp6 ++ ((oT f g).flatten ++ 41 :: gT ((g' :: r).map (oT f))) := by rw [e]; simp [gT, grp1]
    have hst : pReadStep b a = (.new .group, a + 6) := by
      unfold pReadStep
      rw [e, if_neg (by simp), if_pos (by rfl)]
    have r1 := RG.step (s := S) (drop_get e).2 hst
    have e1 : b.drop (a + 6) = (oT f g).flatten ++ 41 :: gT ((g' :: r).map (oT f)) := drop_drop' (x := grp6) e
    have r2 := RG.toks (S := S) (k := .group) (cs := []) hf (r := 41 :: gT ((g' :: r).map (oT f))) (by simp) h1 h2 e1
    have e2 := drop_drop' e1
    have hst3 : pReadStep b (a + 6 + (oT f g).flatten.length) = (.skip, a + 6 + (oT f g).flatten.length + 1) := by
      have hg := (drop_get e2).1
      unfold pReadStep
      rw [e2, hg, if_neg (by simp), if_neg (by simp), if_neg (by simp), if_pos rfl]
    have r3 := RG.step (s := S ++ [(.group, [] ++ g.map tkCol)]) (drop_get e2).2 hst3
    have e4 : b.drop (a + 6 + (oT f g).flatten.length + 1) = gT ((g' :: r).map (oT f)) := by
      have := drop_drop' (x := [41]) (y := gT ((g' :: r).map (oT f))) e2
      omega
    have r4 := RG.groups hf (S := S ++ [(.group, [] ++ g.map tkCol)]) (gs := g' :: r) (by simp) (fun x hx => hg x (.tail _ hx)) e4
    have := ((r1.trans r2).trans r3).trans r4
    have hl : a + (gT ((g :: g' :: r).map (oT f))).length = a + 6 + (oT f g).flatten.length + 1 + (gT ((g' :: r).map (oT f))).length := by
      simp [gT, grp1]; simp +arith
    rw [hl]
    simpa [segsOf] using this
theorem pRead_cut {f : Int → Option Value} (hf : FOk f) {ts : List Tk} (ok : ∀ t ∈ ts, TkOk t) : pRead (jB (oT f (cutT ts).1) ((cutT ts).2.map (oT f))) = (.head, (cutT ts).1.map tkCol) :: segsOf (cutT ts).2 := by
  obtain ⟨n1, n2⟩ := cut_noStar ts
  obtain ⟨m1, m2⟩ := cut_mem ts
  generalize (cutT ts).1 = h at *
  generalize (cutT ts).2 = gs at *
  generalize hb : jB (oT f h) (gs.map (oT f)) = b
  have e0 : b.drop 0 = (oT f h).flatten ++ gT (gs.map (oT f)) := by rw [← hb]; rfl
  have r1 := RG.toks (S := []) (k := .head) (cs := []) hf (r := gT (gs.map (oT f))) (gT_head f gs) (fun t ht => ok t (m1 t ht)) n1 e0
  have r2 := RG.groups hf (S := [(.head, [] ++ h.map tkCol)]) (gs := gs) (by exact List.cons_ne_nil _ _) (fun g hg => ⟨fun t ht => ok t (m2 g hg t ht), n2 g hg⟩) (drop_drop' e0)
  have r3 := r1.trans r2
  (refine elEA (r3 (b.length + 1) (by exact Nat.lt_succ_self _)) fun f' hf' e => ?_)
  show pReadGo b (b.length + 1) 0 ([] ++ [(.head, [])]) = _
  rw [e]
  have hl : 0 + (oT f h).flatten.length + (gT (gs.map (oT f))).length = b.length := by rw [← hb]; simp [jB]
  rw [hl]
  cases f' with
  | zero => rfl
  | succ f' => rw [pReadGo, if_neg (by simp)]; rfl
end
section
noncomputable def Lg : List Tk → Txt → Prop
  | [], w => w = []
  | t :: r, w => if isStar t = true then ∃ u v, w = u ++ v ∧ Lg r v else ∃ x v, w = x :: v ∧ tkTakes t x ∧ Lg r v
noncomputable def Fits : List Tk → Txt → Prop
  | [], [] => True
  | t :: g, x :: b => tkTakes t x ∧ Fits g b
  | _, _ => False
theorem Fits.len : ∀ {g : List Tk} {b : Txt}, Fits g b → b.length = g.length
  | [], [], _ => rfl
  | t :: g, x :: b, h => by simp [Fits.len h.2]
noncomputable def Sg : List (List Tk) → Txt → Prop
  | [], v => v = []
  | g :: r, v => ∃ a b c, v = a ++ (b ++ c) ∧ Fits g b ∧ Sg r c
theorem Sg.left {g : List Tk} {r : List (List Tk)} {v : Txt} (u : Txt) (h : Sg (g :: r) v) : Sg (g :: r) (u ++ v) := by
  (refine elEEEAA h fun a b c z0 h1 h2 => ?_; clear h; subst z0)
  exact ⟨u ++ a, b, c, by exact (List.append_assoc ..).symm, h1, h2⟩
theorem Lg_cut : ∀ (ts : List Tk) (w : Txt), Lg ts w ↔ ∃ u v, w = u ++ v ∧ Fits (cutT ts).1 u ∧ Sg (cutT ts).2 v
  | [], w => by
    constructor
    · intro h; exact ⟨[], [], h, trivial, rfl⟩
    · (intro z1; refine elEEAA z1 fun u v z2 h1 h2 => ?_; clear z1; subst z2)
      cases u with
      | nil => exact h2
      | cons _ _ => exact h1.elim
  | t :: r, w => by
    have ih := Lg_cut r
    unfold Lg cutT
    split
    · split
      · rename_i hc
        obtain ⟨c1, c2⟩ := hc
        obtain ⟨g, gs, eg⟩ : ∃ g gs, (cutT r).2 = g :: gs := by
          cases h : (cutT r).2 with
          | nil => exact absurd h c2
          | cons g gs => exact ⟨g, gs, rfl⟩
        rw [c1, eg] at ih ⊢
        constructor
        · (intro z3; refine elEEA z3 fun u v z4 h => ?_; clear z3; subst z4)
          (refine elEEAA ((ih v).mp h) fun u' v' z5 h1 h2 => ?_; subst z5)
          cases u' with
          | nil => exact ⟨[], u ++ v', rfl, trivial, h2.left u⟩
          | cons _ _ => exact h1.elim
        · (intro z6; refine elEEAA z6 fun u v z7 h1 h2 => ?_; clear z6; subst z7)
          exact ⟨[], u ++ v, rfl, (ih _).mpr ⟨u, v, rfl, h1, h2⟩⟩
      · constructor
        · (intro z8; refine elEEA z8 fun u v z9 h => ?_; clear z8; subst z9)
          (refine elEEAA ((ih v).mp h) fun b c z10 h1 h2 => ?_; subst z10)
          exact ⟨[], u ++ (b ++ c), rfl, trivial, u, b, c, rfl, h1, h2⟩
        · (intro z11; refine elEE z11 fun u v z14 => ?_; clear z11; refine elAA z14 fun z12 h1 z15 => ?_; clear z14; refine elEEE z15 fun a b c z16 => ?_; clear z15; refine elAA z16 fun z13 h2 h3 => ?_; clear z16; subst z12; subst z13)
          cases u with
          | nil => exact ⟨a, b ++ c, rfl, (ih _).mpr ⟨b, c, rfl, h2, h3⟩⟩
          | cons _ _ => exact h1.elim
    · constructor
      · (intro z17; refine elEEAA z17 fun x v z18 h1 h => ?_; clear z17; subst z18)
        (refine elEEAA ((ih v).mp h) fun u v' z19 h2 h3 => ?_; subst z19)
        exact ⟨x :: u, v', rfl, ⟨h1, h2⟩, h3⟩
      · (intro z20; refine elEEAA z20 fun u v z21 h1 h2 => ?_; clear z20; subst z21)
        cases u with
        | nil => exact h1.elim
        | cons x u => exact ⟨x, u ++ v, rfl, h1.1, (ih _).mpr ⟨u, v, rfl, h1.2, h2⟩⟩
theorem one_lt {a b : Nat} : (([a] : List Nat) < [b]) ↔ a < b := by
  constructor
  · intro h
    rcases h with _ | h | h
    · exact h
    · cases h
  · intro h; exact .rel h
theorem hit_one (x a b : Nat) : hit [x] ([a], [b]) = (decide (a ≤ x) && decide (x ≤ b)) := by
  unfold hit
  rw [Bool.eq_iff_iff]
  simp only [Bool.and_eq_true, Bool.not_eq_true', decide_eq_false_iff_not, decide_eq_true_eq, one_lt]
  simp
theorem tkCol_takes {t : Tk} (hs : isStar t = false) (x : Nat) : pTakes (tkCol t) [x] = true ↔ tkTakes t x := by
  cases t with
  | star => cases hs
  | any => simp [tkCol, pTakes, tkTakes]
  | bare c =>
    show (if [([c], [c])].any (hit [x]) = true then _ else _) = true ↔ x = c
    simp only [List.any_cons, List.any_nil, Bool.or_false, hit_one]
    by_cases h : x = c
    · subst h; simp [tkCol]
    · have : ¬ (c ≤ x ∧ x ≤ c) := by lia
      simp [h, this, tkCol]
  | br its =>
    show (if (its.map itMem).any (hit [x]) = true then !false else false) = true ↔ ∃ p ∈ its, itHas x p
    have : (its.map itMem).any (hit [x]) = true ↔ ∃ p ∈ its, itHas x p := by
      rw [List.any_eq_true]
      constructor
      · (intro z22; refine elEA z22 fun m hm h => ?_; clear z22)
        (refine elEA (List.mem_map.mp hm) fun p hp z23 => ?_; subst z23)
        refine ⟨p, hp, ?_⟩
        obtain ⟨c, o⟩ := p
        unfold itMem at h
        rw [hit_one] at h
        simp only [Bool.and_eq_true, decide_eq_true_eq] at h
        cases o with
        | none => exact Nat.le_antisymm h.2 h.1
        | some d => exact h
      · (intro z24; refine elEA z24 fun p hp h => ?_; clear z24)
        refine ⟨itMem p, List.mem_map.mpr ⟨p, hp, rfl⟩, ?_⟩
        obtain ⟨c, o⟩ := p
        unfold itMem
        rw [hit_one]
        simp only [Bool.and_eq_true, decide_eq_true_eq]
        cases o with
        | none => exact ⟨Nat.le_of_eq (Eq.symm h), Nat.le_of_eq h⟩
        | some d => exact h
    by_cases h : (its.map itMem).any (hit [x]) = true
    · rw [if_pos h]; exact ⟨fun _ => this.mp h, fun _ => rfl⟩
    · rw [if_neg h]; exact ⟨(fun z => by cases z), fun z => absurd (this.mpr z) h⟩
theorem zip_fits : ∀ {g : List Tk} (hs : NoStar g) {l : Txt}, g.length ≤ l.length → (((g.map tkCol).zip l).all (fun p => pTakes p.1 [p.2]) = true ↔ Fits g (l.take g.length))
  | [], _, l, _ => by simp [Fits]
  | t :: g, hs, [], h => by exact absurd (by assumption) (Nat.not_lt_zero _)
  | t :: g, hs, x :: l, h => by
    have ih := zip_fits (g := g) (fun y hy => hs y (.tail _ hy)) (l := l) (by exact Nat.le_of_lt_succ (by assumption))
    simp only [List.map_cons, List.zip_cons_cons, List.all_cons, Bool.and_eq_true, List.length_cons, List.take_succ_cons]
    rw [ih, tkCol_takes (hs t (.head _))]; rfl
theorem pStands_fits {g : List Tk} (hs : NoStar g) {w : Txt} {a : Nat} : pStands (g.map tkCol) w a = true ↔ a + g.length ≤ w.length ∧ Fits g ((w.drop a).take g.length) := by
  unfold pStands
  rw [Bool.and_eq_true, decide_eq_true_eq, List.length_map]
  constructor
  · rintro ⟨h1, h2⟩
    exact ⟨h1, (zip_fits hs (by rw [List.length_drop]; lia)).mp h2⟩
  · rintro ⟨h1, h2⟩
    exact ⟨h1, (zip_fits hs (by rw [List.length_drop]; lia)).mpr h2⟩
theorem pSkip_spec (cols : List Col) (w : Txt) : ∀ f a, w.length < f + a → a ≤ pSkip cols w f a ∧ (∀ i, a ≤ i → i < pSkip cols w f a → pStands cols w i = false) ∧ (pStands cols w (pSkip cols w f a) = true ∨ w.length < pSkip cols w f a + cols.length)
  | 0, a, h => ⟨Nat.le_refl _, fun i h1 h2 => absurd h2 (Nat.not_lt.mpr h1), .inr (by unfold pSkip; lia)⟩
  | f + 1, a, h => by
    unfold pSkip
    split
    · rename_i hc
      simp only [Bool.and_eq_true, decide_eq_true_eq, Bool.not_eq_true'] at hc
      (refine elAA (pSkip_spec cols w f (a + 1) (by simp_all +arith)) fun h1 h2 h3 => ?_)
      refine ⟨by exact Nat.le_of_lt (by assumption), fun i hi hlt => ?_, h3⟩
      by_cases e : i = a
      · subst e; exact hc.2
      · exact h2 i (by lia) hlt
    · rename_i hc
      refine ⟨Nat.le_refl _, fun i h1 h2 => absurd h2 (Nat.not_lt.mpr h1), ?_⟩
      simp only [Bool.and_eq_true, decide_eq_true_eq, Bool.not_eq_true'] at hc
      by_cases h1 : a + cols.length ≤ w.length
      · left
        cases hs : pStands cols w a with
        | true => rfl
        | false => exact absurd ⟨h1, hs⟩ hc
      · exact .inr (by exact Nat.lt_of_not_le (by assumption))
theorem Sg_at {g : List Tk} (hs : NoStar g) {r : List (List Tk)} {w : Txt} {a : Nat} (ha : a ≤ w.length) : Sg (g :: r) (w.drop a) ↔ ∃ j, a ≤ j ∧ pStands (g.map tkCol) w j = true ∧ Sg r (w.drop (j + g.length)) := by
  constructor
  · (intro z25; refine elEEEAA z25 fun x b c e h1 h2 => ?_; clear z25)
    have hb := h1.len
    refine ⟨a + x.length, by exact Nat.le_add_right _ _, ?_, ?_⟩
    · have e1 : w.drop (a + x.length) = b ++ c := drop_drop' e
      rw [pStands_fits hs]
      have hl := congrArg List.length e
      simp at hl
      refine ⟨by lia, ?_⟩
      rw [e1, ← hb, List.take_left]; exact h1
    · have e1 : w.drop (a + x.length) = b ++ c := drop_drop' e
      rw [← hb, drop_drop' e1]; exact h2
  · (intro z26; refine elEAA z26 fun j hj h1 h2 => ?_; clear z26)
    obtain ⟨h3, h4⟩ := (pStands_fits hs).mp h1
    refine ⟨(w.drop a).take (j - a), (w.drop j).take g.length, w.drop (j + g.length), ?_, h4, h2⟩
    rw [← List.drop_drop (l := w), List.take_append_drop]
    have : w.drop j = (w.drop a).drop (j - a) := by rw [List.drop_drop]; congr 1; simp_all
    rw [this, List.take_append_drop]
theorem pKeeps_segs : ∀ {gs : List (List Tk)} {w : Txt} {a : Nat}, (∀ g ∈ gs, NoStar g) → a ≤ w.length → (pKeeps (segsOf gs) w a = true ↔ Sg gs (w.drop a))
  | [], w, a, _, ha => by
    show decide (a = w.length) = true ↔ w.drop a = []
    rw [decide_eq_true_eq, List.drop_eq_nil_iff]; lia
  | [g], w, a, hs, ha => by
    have hg := hs g (.head _)
    rw [Sg_at hg ha]
    show (decide (a + (g.map tkCol).length ≤ w.length) && (pStands (g.map tkCol) w (w.length - (g.map tkCol).length) && decide (w.length - (g.map tkCol).length + (g.map tkCol).length = w.length))) = true ↔ _
    rw [List.length_map]
    simp only [Bool.and_eq_true, decide_eq_true_eq]
    constructor
    · (intro z27; refine elAA z27 fun h1 h2 h3 => ?_; clear z27)
      refine ⟨w.length - g.length, by exact Nat.le_sub_of_add_le (by assumption), h2, ?_⟩
      show w.drop _ = []
      rw [List.drop_eq_nil_iff]; simp_all
    · (intro z28; refine elEAA z28 fun j h1 h2 h3 => ?_; clear z28)
      have h4 := ((pStands_fits hg).mp h2).1
      have h3 : w.drop (j + g.length) = [] := h3
      rw [List.drop_eq_nil_iff] at h3
      have : j = w.length - g.length := by lia
      subst this
      exact ⟨by lia, h2, by exact Nat.le_antisymm (by assumption) (by assumption)⟩
  | g :: g' :: r, w, a, hs, ha => by
    have hg := hs g (.head _)
    have ih := fun {a} h => pKeeps_segs (gs := g' :: r) (w := w) (a := a) (fun x hx => hs x (.tail _ hx)) h
    rw [Sg_at hg ha]
    (refine elAA (pSkip_spec (g.map tkCol) w (w.length + 1) a (by exact Nat.le_add_right _ _)) fun k1 k2 k3 => ?_)
    show (pStands (g.map tkCol) w (pSkip (g.map tkCol) w (w.length + 1) a) && pKeeps (segsOf (g' :: r)) w (pSkip (g.map tkCol) w (w.length + 1) a + (g.map tkCol).length)) = true ↔ _
    generalize pSkip (g.map tkCol) w (w.length + 1) a = j at *
    rw [Bool.and_eq_true, List.length_map]
    constructor
    · rintro ⟨h1, h2⟩
      have := ((pStands_fits hg).mp h1).1
      exact ⟨j, k1, h1, (ih this).mp h2⟩
    · (intro z29; refine elEAA z29 fun i h1 h2 h3 => ?_; clear z29)
      have hi := ((pStands_fits hg).mp h2).1
      have hij : j ≤ i := by
        rcases Nat.lt_or_ge i j with q | q
        · rw [k2 i h1 q] at h2; cases h2
        · exact q
      have hj : pStands (g.map tkCol) w j = true := by
        rcases k3 with q | q
        · exact q
        · rw [List.length_map] at q; lia
      have hjl := ((pStands_fits hg).mp hj).1
      refine ⟨hj, (ih hjl).mpr ?_⟩
      have : w.drop (j + g.length) = (w.drop (j + g.length)).take (i - j) ++ w.drop (i + g.length) := by
        have e : w.drop (i + g.length) = (w.drop (j + g.length)).drop (i - j) := by rw [List.drop_drop]; congr 1; simp_all +arith
        rw [e, List.take_append_drop]
      rw [this]
      exact h3.left _
theorem keeps_Lg {ts : List Tk} (w : Txt) : pKeeps ((.head, (cutT ts).1.map tkCol) :: segsOf (cutT ts).2) w 0 = true ↔ Lg ts w := by
  obtain ⟨n1, n2⟩ := cut_noStar ts
  rw [Lg_cut]
  show (pStands ((cutT ts).1.map tkCol) w 0 && pKeeps (segsOf (cutT ts).2) w (0 + ((cutT ts).1.map tkCol).length)) = true ↔ _
  rw [Bool.and_eq_true, pStands_fits n1, List.length_map]
  constructor
  · rintro ⟨⟨h1, h2⟩, h3⟩
    exact ⟨w.take (cutT ts).1.length, w.drop (cutT ts).1.length, (List.take_append_drop _ _).symm, h2, by simpa using (pKeeps_segs n2 h1).mp h3⟩
  · (intro z30; refine elEEAA z30 fun u v z31 h1 h2 => ?_; clear z30; subst z31)
    have hu := h1.len
    refine ⟨⟨by simp; simp_all, ?_⟩, (pKeeps_segs n2 (by simp; simp_all)).mpr ?_⟩
    · rw [← hu]; simpa using h1
    · rw [← hu]; simpa using h2
end
section
theorem tkOf_star (cs : List Nat) : isStar (tkOf cs) = false := by
  unfold tkOf
  split
  · split <;> rfl
  · rfl
noncomputable def rT (r : Row) : List Tk := r.2.1.map tkOf
theorem rT_noStar (r : Row) : NoStar (rT r) := fun t ht => by
  (refine elEA (List.mem_map.mp ht) fun c _ z0 => ?_; subst z0)
  exact tkOf_star c
noncomputable def toks (r : Row) : List Tk :=
  if r.1 = 5 then (rT r).take ((rT r).length / 3) ++ (Tk.star :: (((rT r).drop ((rT r).length / 3)).take ((rT r).length - (rT r).length / 3 - (rT r).length / 3) ++ (Tk.star :: (rT r).drop ((rT r).length - (rT r).length / 3))))
  else (if r.1 = 2 ∨ r.1 = 3 then [Tk.star] else []) ++ (rT r ++ (if r.1 = 1 ∨ r.1 = 3 then [Tk.star] else if r.1 = 4 then [Tk.any] else []))
theorem flatP_append (a b : List Tk) : flatP (a ++ b) = flatP a ++ flatP b := by simp [flatP]
theorem flatP_map (l : List (List Nat)) : flatP (l.map tkOf) = (l.map pBracket).flatten := by
  induction l with
  | nil => rfl
  | cons c l ih =>
    show tkP (tkOf c) ++ flatP (l.map tkOf) = pBracket c ++ (l.map pBracket).flatten
    rw [tkOf_P, ih]
theorem toks_P (r : Row) : pPattern r = flatP (toks r) := by
  unfold pPattern toks rT
  simp only [List.length_map]
  split
  · simp only [← List.map_take, ← List.map_drop]
    rw [flatP_append, flatP_map]
    show _ = _ ++ (42 :: flatP _)
    rw [flatP_append, flatP_map]
    show _ = _ ++ (42 :: (_ ++ (42 :: flatP _)))
    rw [flatP_map]
  · rw [flatP_append, flatP_append, flatP_map]
    congr 1
    · split <;> rfl
    · congr 1
      split
      · rfl
      · split <;> rfl
theorem toks_ok (r : Row) : ∀ t ∈ toks r, TkOk t := by
  have h : ∀ t ∈ rT r, TkOk t := fun t ht => by
    (refine elEA (List.mem_map.mp ht) fun c _ z1 => ?_; subst z1)
    exact tkOf_ok c
  intro t ht
  unfold toks at ht
  split at ht
  · rcases List.mem_append.mp ht with q | q
    · exact h t (List.mem_of_mem_take q)
    · rcases List.mem_cons.mp q with rfl | q
      · trivial
      · rcases List.mem_append.mp q with q | q
        · exact h t (List.mem_of_mem_drop (List.mem_of_mem_take q))
        · rcases List.mem_cons.mp q with rfl | q
          · trivial
          · exact h t (List.mem_of_mem_drop q)
  · rcases List.mem_append.mp ht with q | q
    · split at q
      · cases List.mem_singleton.mp q; trivial
      · cases q
    · rcases List.mem_append.mp q with q | q
      · exact h t q
      · split at q
        · cases List.mem_singleton.mp q; trivial
        · split at q
          · cases List.mem_singleton.mp q; trivial
          · cases q
noncomputable def InP : List (List Nat) → Txt → Prop
  | [], [] => True
  | c :: cs, x :: u => x ∈ c ∧ InP cs u
  | _, _ => False
theorem InP.len : ∀ {cs : List (List Nat)} {u : Txt}, InP cs u → u.length = cs.length
  | [], [], _ => rfl
  | c :: cs, x :: u, h => by simp [InP.len h.2]
theorem Fits_InP : ∀ {cs : List (List Nat)} (h : ∀ c ∈ cs, c ≠ [] ∧ c.Nodup) {u : Txt}, Fits (cs.map tkOf) u ↔ InP cs u
  | [], _, [] => Iff.rfl
  | [], _, _ :: _ => Iff.rfl
  | c :: cs, h, [] => Iff.rfl
  | c :: cs, h, x :: u => by
    obtain ⟨h0, h1⟩ := h c (.head _)
    show tkTakes (tkOf c) x ∧ Fits (cs.map tkOf) u ↔ x ∈ c ∧ InP cs u
    rw [tkOf_takes h0 h1, Fits_InP fun y hy => h y (.tail _ hy)]
theorem Lg_cons {t : Tk} {r : List Tk} {w : Txt} : Lg (t :: r) w ↔ if isStar t = true then ∃ u v, w = u ++ v ∧ Lg r v else ∃ x v, w = x :: v ∧ tkTakes t x ∧ Lg r v := Iff.rfl
theorem Lg_append : ∀ (a b : List Tk) (w : Txt), Lg (a ++ b) w ↔ ∃ u v, w = u ++ v ∧ Lg a u ∧ Lg b v
  | [], b, w => by
    constructor
    · intro h; exact ⟨[], w, rfl, rfl, h⟩
    · (intro z2; refine elEEAA z2 fun u v z3 h1 h2 => ?_; clear z2; subst z3)
      have h1 : u = [] := h1
      subst h1; exact h2
  | t :: a, b, w => by
    have ih := Lg_append a b
    rw [List.cons_append, Lg_cons]
    simp only [Lg_cons (t := t) (r := a)]
    split
    · constructor
      · (intro z4; refine elEEA z4 fun u v z5 h => ?_; clear z4; subst z5)
        (refine elEEAA ((ih v).mp h) fun u' v' z6 h1 h2 => ?_; subst z6)
        exact ⟨u ++ u', v', by exact (List.append_assoc ..).symm, ⟨u, u', rfl, h1⟩, h2⟩
      · (intro z7; refine elEEAA z7 fun u v z8 z9 h2 => ?_; clear z7; subst z8; refine elEEA z9 fun u1 u2 z10 h1 => ?_; clear z9; subst z10)
        exact ⟨u1, u2 ++ v, by exact List.append_assoc .., (ih _).mpr ⟨u2, v, rfl, h1, h2⟩⟩
    · constructor
      · (intro z11; refine elEEAA z11 fun x v z12 h1 h => ?_; clear z11; subst z12)
        (refine elEEAA ((ih v).mp h) fun u' v' z13 h2 h3 => ?_; subst z13)
        exact ⟨x :: u', v', rfl, ⟨x, u', rfl, h1, h2⟩, h3⟩
      · (intro z14; refine elEEAA z14 fun u v z15 z16 h3 => ?_; clear z14; subst z15; refine elEEAA z16 fun x u' z17 h1 h2 => ?_; clear z16; subst z17)
        exact ⟨x, u' ++ v, rfl, h1, (ih _).mpr ⟨u', v, rfl, h2, h3⟩⟩
theorem Lg_fits : ∀ {g : List Tk} (hs : NoStar g) {w : Txt}, Lg g w ↔ Fits g w
  | [], _, [] => ⟨fun _ => trivial, fun _ => rfl⟩
  | [], _, _ :: _ => ⟨(fun h => by cases h), fun h => h.elim⟩
  | t :: g, hs, w => by
    have ih := fun {w} => Lg_fits (g := g) (fun y hy => hs y (.tail _ hy)) (w := w)
    rw [Lg_cons, if_neg (by rw [hs t (.head _)]; decide)]
    cases w with
    | nil => exact ⟨(fun ⟨x, v, h, _⟩ => by cases h), fun h => h.elim⟩
    | cons x w =>
      constructor
      · (intro z18; refine elEEAA z18 fun y v e h1 h2 => ?_; clear z18)
        cases e
        exact ⟨h1, ih.mp h2⟩
      · rintro ⟨h1, h2⟩
        exact ⟨x, w, rfl, h1, ih.mpr h2⟩
theorem Lg_star {b : List Tk} {w : Txt} : Lg (.star :: b) w ↔ ∃ u v, w = u ++ v ∧ Lg b v := by
  rw [Lg_cons, if_pos (show isStar .star = true from rfl)]
theorem Fits_append : ∀ {a b : List Tk} {u v : Txt}, u.length = a.length → (Fits (a ++ b) (u ++ v) ↔ Fits a u ∧ Fits b v)
  | [], b, [], v, _ => ⟨fun h => ⟨trivial, h⟩, fun h => h.2⟩
  | t :: a, b, x :: u, v, h => by
    have ih := Fits_append (a := a) (b := b) (u := u) (v := v) (by exact Nat.add_right_cancel (by assumption))
    show tkTakes t x ∧ Fits (a ++ b) (u ++ v) ↔ (tkTakes t x ∧ Fits a u) ∧ Fits b v
    rw [ih, and_assoc]
structure RowIs (r : Row) : Prop where
  kind : r.1 < 6
  cols : ∀ c ∈ r.2.1, c ≠ [] ∧ c.Nodup
  names : ∀ u, u ∈ r.2.2 ↔ InP r.2.1 u
theorem pOneOf_iff {r : Row} (R : RowIs r) (w : Txt) : pOneOf r w = true ↔ ∃ n, Fits (rT r) n ∧ pBelongs r.1 n w = true := by
  unfold pOneOf rT
  rw [List.any_eq_true]
  constructor
  · (intro z19; refine elEA z19 fun n hn h => ?_; clear z19); exact ⟨n, (Fits_InP R.cols).mpr ((R.names n).mp hn), h⟩
  · (intro z20; refine elEA z20 fun n hn h => ?_; clear z20); exact ⟨n, (R.names n).mpr ((Fits_InP R.cols).mp hn), h⟩
theorem told_Lg {r : Row} (R : RowIs r) (w : Txt) : pOneOf r w = true ↔ Lg (toks r) w := by
  rw [pOneOf_iff R]
  have hs := rT_noStar r
  have hk := R.kind
  unfold toks
  by_cases h5 : r.1 = 5
  · rw [if_pos h5]
    have pb : ∀ n, pBelongs r.1 n w = (decide (2 * third n ≤ w.length) && (decide (n.take (third n) <+: w) && (decide (n.drop (n.length - third n) <:+ w) && subB ((n.drop (third n)).take (n.length - third n - third n)) ((w.drop (third n)).take (w.length - third n - third n))))) := fun n => by
      unfold pBelongs
      rw [if_neg (by simp_all), if_neg (by simp_all), if_neg (by simp_all), if_neg (by simp_all), if_neg (by simp_all)]
    simp only [pb]
    generalize rT r = T at *
    generalize ht : T.length / 3 = t
    have h3 : t + t ≤ T.length := by lia
    have eT : T = T.take t ++ ((T.drop t).take (T.length - t - t) ++ T.drop (T.length - t)) := by
      have e : T.drop (T.length - t) = (T.drop t).drop (T.length - t - t) := by rw [List.drop_drop]; congr 1; exact (Nat.add_sub_of_le (Nat.le_sub_of_add_le h3)).symm
      rw [e, List.take_append_drop, List.take_append_drop]
    generalize hA : T.take t = A at *
    generalize hB : (T.drop t).take (T.length - t - t) = B at *
    generalize hC : T.drop (T.length - t) = C at *
    have lA : A.length = t := by rw [← hA]; simp; lia
    have lB : B.length = T.length - t - t := by rw [← hB, List.length_take, List.length_drop]; simp
    have lC : C.length = t := by rw [← hC]; simp; grind
    have sA : NoStar A := fun x hx => hs x (by rw [← hA] at hx; exact List.mem_of_mem_take hx)
    have sB : NoStar B := fun x hx => hs x (by rw [← hB] at hx; exact List.mem_of_mem_drop (List.mem_of_mem_take hx))
    have sC : NoStar C := fun x hx => hs x (by rw [← hC] at hx; exact List.mem_of_mem_drop hx)
    constructor
    · (intro z21; refine elEA z21 fun n hn h => ?_; clear z21)
      have ln := hn.len
      have tn : third n = t := by unfold third; rw [ln, ht]
      rw [tn, ln] at h
      simp only [Bool.and_eq_true, decide_eq_true_eq, subB_iff] at h
      (refine elAAA h fun h1 z22 z23 h4 => ?_; clear h; obtain ⟨w1, e1⟩ := z22; obtain ⟨w2, e2⟩ := z23)
      have en : n = n.take t ++ ((n.drop t).take (T.length - t - t) ++ n.drop (T.length - t)) := by
        have e : n.drop (T.length - t) = (n.drop t).drop (T.length - t - t) := by rw [List.drop_drop]; congr 1; exact (Nat.add_sub_of_le (Nat.le_sub_of_add_le h3)).symm
        rw [e, List.take_append_drop, List.take_append_drop]
      generalize ha : n.take t = a at *
      generalize hb : (n.drop t).take (T.length - t - t) = b at *
      generalize hc : n.drop (T.length - t) = c at *
      have la : a.length = t := by rw [← ha]; simp; grind
      have lb : b.length = T.length - t - t := by rw [← hb]; simp; grind
      have lc : c.length = t := by rw [← hc]; simp; grind
      rw [eT, en] at hn
      rw [Fits_append (by rw [la, lA]), Fits_append (by rw [lb, lB])] at hn
      (refine elAA hn fun f1 f2 f3 => ?_; clear hn)
      -- w = a ++ m ++ c
      have lw1 : w.length = a.length + w1.length := by rw [← e1]; exact List.length_append ..
      have lw2 : w.length = w2.length + c.length := by rw [← e2]; exact List.length_append ..
      have d1 : w.drop t = w1 := by rw [← e1, ← la, List.drop_left]
      have hm : w1 = w1.take (w.length - t - t) ++ c := by
        have e3 : w1.drop (w.length - t - t) = c := by
          rw [← d1, List.drop_drop]
          have : t + (w.length - t - t) = w2.length := by grind
          rw [this, ← e2, List.drop_left]
        rw [← e3, List.take_append_drop]
      rw [d1] at h4
      (refine elEE h4 fun x y exy => ?_; clear h4)
      rw [Lg_append]
      refine ⟨a, x ++ (b ++ (y ++ c)), ?_, (Lg_fits sA).mpr f1, Lg_star.mpr ⟨x, b ++ (y ++ c), rfl, (Lg_append _ _ _).mpr ⟨b, y ++ c, rfl, (Lg_fits sB).mpr f2, Lg_star.mpr ⟨y, c, rfl, (Lg_fits sC).mpr f3⟩⟩⟩⟩
      rw [← e1]
      rw [hm, ← exy]; simp
    · intro h
      (refine elEEAA ((Lg_append _ _ _).mp h) fun a v1 z24 f1 h1 => ?_; subst z24)
      (refine elEEA (Lg_star.mp h1) fun x v2 z25 h2 => ?_; subst z25)
      obtain ⟨b, v3, rfl, f2, h3⟩ := (Lg_append _ _ _).mp h2
      (refine elEEA (Lg_star.mp h3) fun y c z27 f3 => ?_; subst z27)
      clear h h1 h2 h3
      have f1 := (Lg_fits sA).mp f1
      have f2 := (Lg_fits sB).mp f2
      have f3 := (Lg_fits sC).mp f3
      have la := f1.len
      have lb := f2.len
      have lc := f3.len
      rw [lA] at la
      rw [lB] at lb
      rw [lC] at lc
      refine ⟨a ++ (b ++ c), ?_, ?_⟩
      · rw [eT, Fits_append (by rw [la, lA]), Fits_append (by rw [lb, lB])]; exact ⟨f1, f2, f3⟩
      · have ln : (a ++ (b ++ c)).length = T.length := by simp; grind
        have tn : third (a ++ (b ++ c)) = t := by unfold third; rw [ln, ht]
        rw [tn, ln]
        simp only [Bool.and_eq_true, decide_eq_true_eq, subB_iff]
        have g1 : (a ++ (b ++ c)).take t = a := by rw [← la, List.take_left]
        have g2 : (a ++ (b ++ c)).drop (T.length - t) = c := by
          rw [← List.append_assoc]
          have : T.length - t = (a ++ b).length := by simp; grind
          rw [this, List.drop_left]
        have g3 : ((a ++ (b ++ c)).drop t).take (T.length - t - t) = b := by
          rw [← la, List.drop_left, la, ← lb, List.take_left]
        rw [g1, g2, g3]
        refine ⟨by simp; lia, ⟨_, rfl⟩, ⟨a ++ (x ++ (b ++ y)), by simp⟩, ?_⟩
        have g4 : ((a ++ (x ++ (b ++ (y ++ c)))).drop t).take ((a ++ (x ++ (b ++ (y ++ c)))).length - t - t) = x ++ (b ++ y) := by
          have h1 : (a ++ (x ++ (b ++ (y ++ c)))).drop t = (x ++ (b ++ y)) ++ c := by rw [← la, List.drop_left]; simp
          have h2 : (a ++ (x ++ (b ++ (y ++ c)))).length - t - t = (x ++ (b ++ y)).length := by rw [List.length_append, la, Nat.add_sub_cancel_left, show x ++ (b ++ (y ++ c)) = (x ++ (b ++ y)) ++ c by simp, List.length_append, lc, Nat.add_sub_cancel]
          rw [h1, h2, List.take_left]
        rw [g4]
        exact ⟨x, y, by exact List.append_assoc ..⟩
  · rw [if_neg h5]
    have hk : r.1 = 0 ∨ r.1 = 1 ∨ r.1 = 2 ∨ r.1 = 3 ∨ r.1 = 4 := by lia
    rcases hk with e | e | e | e | e <;> rw [e]
    · show (∃ n, _ ∧ decide (w = n) = true) ↔ Lg ([] ++ (rT r ++ [])) w
      simp only [decide_eq_true_eq]
      rw [List.nil_append, List.append_nil, Lg_fits hs]
      constructor
      · (intro z28; refine elEA z28 fun n h z29 => ?_; clear z28; subst z29); exact h
      · intro h; exact ⟨w, h, rfl⟩
    · show (∃ n, _ ∧ decide (n <+: w) = true) ↔ Lg ([] ++ (rT r ++ [.star])) w
      rw [List.nil_append, Lg_append]
      simp only [decide_eq_true_eq]
      constructor
      · (intro z30; refine elEAE z30 fun n h v z31 => ?_; clear z30; subst z31)
        exact ⟨n, v, rfl, (Lg_fits hs).mpr h, Lg_star.mpr ⟨v, [], by simp, rfl⟩⟩
      · (intro z32; refine elEEAA z32 fun u v z33 h _ => ?_; clear z32; subst z33)
        exact ⟨u, (Lg_fits hs).mp h, v, rfl⟩
    · show (∃ n, _ ∧ decide (n <:+ w) = true) ↔ Lg (.star :: (rT r ++ [])) w
      rw [List.append_nil, Lg_star]
      simp only [decide_eq_true_eq]
      constructor
      · (intro z34; refine elEAE z34 fun n h v z35 => ?_; clear z34; subst z35)
        exact ⟨v, n, rfl, (Lg_fits hs).mpr h⟩
      · (intro z36; refine elEEA z36 fun u v z37 h => ?_; clear z36; subst z37)
        exact ⟨v, (Lg_fits hs).mp h, u, rfl⟩
    · show (∃ n, _ ∧ subB n w = true) ↔ Lg (.star :: (rT r ++ [.star])) w
      rw [Lg_star]
      simp only [subB_iff]
      constructor
      · (intro z38; refine elEAEE z38 fun n h u v z39 => ?_; clear z38; subst z39)
        exact ⟨u, n ++ v, by exact List.append_assoc .., (Lg_append _ _ _).mpr ⟨n, v, rfl, (Lg_fits hs).mpr h, Lg_star.mpr ⟨v, [], by simp, rfl⟩⟩⟩
      · (intro z40; refine elEEA z40 fun u v z41 h => ?_; clear z40; subst z41)
        obtain ⟨n, v, rfl, h, _⟩ := (Lg_append _ _ _).mp h
        exact ⟨n, (Lg_fits hs).mp h, u, v, by exact List.append_assoc ..⟩
    · show (∃ n, _ ∧ (decide (w.length = n.length + 1) && decide (n <+: w)) = true) ↔ Lg ([] ++ (rT r ++ [.any])) w
      rw [List.nil_append, Lg_append]
      simp only [Bool.and_eq_true, decide_eq_true_eq]
      constructor
      · (intro z43; refine elEAAE z43 fun n h hl v z44 => ?_; clear z43; subst z44)
        refine ⟨n, v, rfl, (Lg_fits hs).mpr h, ?_⟩
        have : v.length = 1 := by simp at hl; omega
        obtain ⟨x, rfl⟩ := List.length_eq_one_iff.mp this
        exact (Lg_fits (g := [.any]) (fun t ht => by cases List.mem_singleton.mp ht; rfl)).mpr ⟨trivial, trivial⟩
      · (intro z45; refine elEEAA z45 fun u v z46 h h2 => ?_; clear z45; subst z46)
        have := ((Lg_fits (g := [.any]) (fun t ht => by cases List.mem_singleton.mp ht; rfl)).mp h2).len
        exact ⟨u, (Lg_fits hs).mp h, by simp at this ⊢; omega, v, rfl⟩
theorem cuttold_Lg {r o : Row} (R : RowIs r) (O : RowIs o) (w : Txt) : pCutTold r o w = true ↔ Lg (toks r ++ .bare 47 :: toks o) w := by
  unfold pCutTold
  rw [List.any_eq_true, Lg_append]
  constructor
  · (intro z47; refine elEA z47 fun k hk h => ?_; clear z47)
    simp only [Bool.and_eq_true, decide_eq_true_eq] at h
    (refine elAA h fun h1 h2 h3 => ?_; clear h)
    refine ⟨w.take k, w.drop k, (List.take_append_drop _ _).symm, (told_Lg R _).mp h2, ?_⟩
    have hlt := (List.getElem?_eq_some_iff.mp h1).1
    rw [List.drop_eq_getElem_cons hlt, (List.getElem?_eq_some_iff.mp h1).2]
    rw [Lg_cons, if_neg (by decide)]
    exact ⟨47, _, rfl, rfl, (told_Lg O _).mp h3⟩
  · (intro z48; refine elEEAA z48 fun u v z49 h1 h2 => ?_; clear z48; subst z49)
    have h2 : (if isStar (.bare 47) = true then ∃ u' v', v = u' ++ v' ∧ Lg (toks o) v' else ∃ x v', v = x :: v' ∧ tkTakes (.bare 47) x ∧ Lg (toks o) v') := h2
    rw [if_neg (by decide)] at h2
    (refine elEEAA h2 fun x v' z50 h3 h4 => ?_; clear h2; subst z50)
    have h3 : x = 47 := h3
    subst h3
    refine ⟨u.length, by simp, ?_⟩
    simp only [Bool.and_eq_true, decide_eq_true_eq]
    refine ⟨by simp, (told_Lg R _).mpr (by simpa using h1), (told_Lg O _).mpr ?_⟩
    simpa using h4
end
section
noncomputable def Dj (a b : Row) : Prop := a.1 = b.1 → ∀ u ∈ a.2.2, u ∉ b.2.2
theorem Dj.symm {a b : Row} (h : Dj a b) : Dj b a := fun e u hu hb => h e.symm u hb hu
structure RsIs (rows : List Row) : Prop where
  each : ∀ r ∈ rows, RowIs r ∧ r.2.1.length ≤ 4 ∧ r.2.2 ≠ []
  dj : rows.Pairwise Dj
theorem InP_ex : ∀ {cs : List (List Nat)}, (∀ c ∈ cs, c ≠ []) → ∃ u, InP cs u
  | [], _ => ⟨[], trivial⟩
  | c :: cs, h => by
    obtain ⟨u, hu⟩ := InP_ex fun y hy => h y (.tail _ hy)
    cases hc : c with
    | nil => exact absurd hc (h c (.head _))
    | cons x r => exact ⟨x :: u, .head _, hu⟩
theorem InP_mid : ∀ {X : List (List Nat)} {c : List Nat} {Y : List (List Nat)} {u : Txt}, InP (X ++ c :: Y) u ↔ ∃ u1 x u2, u = u1 ++ x :: u2 ∧ InP X u1 ∧ x ∈ c ∧ InP Y u2
  | [], c, Y, u => by
    constructor
    · intro h
      cases u with
      | nil => exact h.elim
      | cons x u => exact ⟨[], x, u, rfl, trivial, h.1, h.2⟩
    · (intro z0; refine elEEEAAA z0 fun u1 x u2 z1 h1 h2 h3 => ?_; clear z0; subst z1)
      cases u1 with
      | nil => exact ⟨h2, h3⟩
      | cons _ _ => exact h1.elim
  | d :: X, c, Y, u => by
    have ih := fun {u} => InP_mid (X := X) (c := c) (Y := Y) (u := u)
    constructor
    · intro h
      cases u with
      | nil => exact h.elim
      | cons y u =>
        (refine elEEEAAA (ih.mp h.2) fun u1 x u2 z2 h1 h2 h3 => ?_; subst z2)
        exact ⟨y :: u1, x, u2, rfl, ⟨h.1, h1⟩, h2, h3⟩
    · (intro z3; refine elEEEAAA z3 fun u1 x u2 z4 h1 h2 h3 => ?_; clear z3; subst z4)
      cases u1 with
      | nil => exact h1.elim
      | cons y u1 => exact ⟨h1.1, ih.mpr ⟨u1, x, u2, rfl, h1.2, h2, h3⟩⟩
theorem InP_sing : ∀ {e u : Txt}, InP (e.map fun c => [c]) u ↔ u = e
  | [], [] => ⟨fun _ => rfl, fun _ => trivial⟩
  | [], _ :: _ => ⟨(fun h => h.elim), fun h => by cases h⟩
  | c :: e, [] => ⟨(fun h => h.elim), fun h => by cases h⟩
  | c :: e, x :: u => by
    show x ∈ [c] ∧ InP (e.map fun c => [c]) u ↔ x :: u = c :: e
    rw [InP_sing, List.mem_singleton]
    constructor
    · rintro ⟨rfl, rfl⟩; rfl
    · intro h; injection h with h1 h2; exact ⟨h1, h2⟩
theorem RsIs.start {ls : List Ent} (h : ∀ e ∈ ls, e.1 < 6 ∧ e.2.length ≤ 4) (hn : ls.Nodup) : RsIs (ls.map rowOf) := by
  refine ⟨fun r hr => ?_, ?_⟩
  · (refine elEA (List.mem_map.mp hr) fun e he z5 => ?_; subst z5)
    obtain ⟨h1, h2⟩ := h e he
    refine ⟨⟨h1, fun c hc => ?_, fun u => ?_⟩, by simpa [rowOf] using h2, by exact List.cons_ne_nil _ _⟩
    · (refine elEA (List.mem_map.mp hc) fun x _ z6 => ?_; subst z6)
      exact ⟨by exact List.cons_ne_nil _ _, by simp⟩
    · show u ∈ [e.2] ↔ InP (e.2.map fun c => [c]) u
      rw [InP_sing, List.mem_singleton]
  · rw [List.pairwise_map]
    refine List.Pairwise.imp (R := fun a b => a ≠ b) (fun {a b} hab e u hu hb => hab ?_) hn
    have h1 : u = a.2 := List.mem_singleton.mp hu
    have h2 : u = b.2 := List.mem_singleton.mp hb
    have e : a.1 = b.1 := e
    obtain ⟨a1, a2⟩ := a
    obtain ⟨b1, b2⟩ := b
    simp only at h1 h2 e
    rw [e, ← h1, h2]
theorem apart_one {c d : List (List Nat)} {p : Nat} (hl : c.length = d.length) (h : apartOf c d = [p]) (hp : p < c.length) : c = c.take p ++ c.getD p [] :: c.drop (p + 1) ∧ d = c.take p ++ d.getD p [] :: c.drop (p + 1) := by
  have same : ∀ i, i < c.length → i ≠ p → c[i]? = d[i]? := fun i hi hne => by
    have : i ∉ apartOf c d := by rw [h]; simpa using hne
    unfold apartOf at this
    rw [List.mem_filter] at this
    have h2 : ¬ (!decide (c[i]? = d[i]?)) = true := fun z => this ⟨List.mem_range.mpr hi, z⟩
    simpa using h2
  have cut : ∀ l : List (List Nat), p < l.length → l = l.take p ++ l.getD p [] :: l.drop (p + 1) := fun l hl => by
    have : l.getD p [] :: l.drop (p + 1) = l.drop p := by
      rw [List.drop_eq_getElem_cons hl, List.getD_eq_getElem?_getD, List.getElem?_eq_getElem hl]; rfl
    rw [this, List.take_append_drop]
  refine ⟨cut c hp, ?_⟩
  have h1 : d.take p = c.take p := by
    apply List.ext_getElem?
    intro i
    rw [List.getElem?_take, List.getElem?_take]
    split
    · exact (same i (by exact Nat.lt_trans (by assumption) (by assumption)) (by exact Nat.ne_of_lt (by assumption))).symm
    · rfl
  have h2 : d.drop (p + 1) = c.drop (p + 1) := by
    apply List.ext_getElem?
    intro i
    rw [List.getElem?_drop, List.getElem?_drop]
    by_cases hi : p + 1 + i < c.length
    · exact (same _ hi (by simp +arith)).symm
    · rw [List.getElem?_eq_none (by lia), List.getElem?_eq_none (by exact Nat.le_of_not_lt (by assumption))]
  rw [← h1, ← h2]; exact cut d (by lia)
theorem merge_is {a b : Row} {p : Nat} (A : RowIs a) (B : RowIs b) (hk : a.1 = b.1) (hl : a.2.1.length = b.2.1.length) (hap : apartOf a.2.1 b.2.1 = [p]) (hp : p < a.2.1.length) (hd : Dj a b) : RowIs (pMerge a b p) := by
  obtain ⟨ea, eb⟩ := apart_one hl hap hp
  have hA := A.names
  have hB := B.names
  have cA := A.cols
  have cB := B.cols
  generalize hX : a.2.1.take p = X at *
  generalize hY : a.2.1.drop (p + 1) = Y at *
  generalize hca : a.2.1.getD p [] = ca at *
  generalize hcb : b.2.1.getD p [] = cb at *
  rw [ea] at hA cA
  rw [eb] at hB cB
  have dis : ∀ x ∈ ca, x ∉ cb := fun x h1 h2 => by
    obtain ⟨u1, g1⟩ := InP_ex (cs := X) fun c hc => (cA c (List.mem_append_left _ hc)).1
    obtain ⟨u2, g2⟩ := InP_ex (cs := Y) fun c hc => (cA c (List.mem_append_right _ (.tail _ hc))).1
    exact hd hk (u1 ++ x :: u2) ((hA _).mpr (InP_mid.mpr ⟨_, _, _, rfl, g1, h1, g2⟩)) ((hB _).mpr (InP_mid.mpr ⟨_, _, _, rfl, g1, h2, g2⟩))
  have hm : ∀ x, x ∈ sortN (ca ++ cb) ↔ x ∈ ca ∨ x ∈ cb := fun x => by rw [(sortN_perm _).mem_iff, List.mem_append]
  have hcols : (pMerge a b p).2.1 = X ++ (sortN (ca ++ cb) :: Y) := by
    show a.2.1.take p ++ ([sortN (a.2.1.getD p [] ++ b.2.1.getD p [])] ++ a.2.1.drop (p + 1)) = _
    rw [hX, hY, hca, hcb]; rfl
  obtain ⟨na, da⟩ := cA ca (List.mem_append_right _ (.head _))
  obtain ⟨nb, db⟩ := cB cb (List.mem_append_right _ (.head _))
  refine ⟨A.kind, fun c hc => ?_, fun u => ?_⟩
  · rw [hcols] at hc
    rcases List.mem_append.mp hc with q | q
    · exact cA c (List.mem_append_left _ q)
    · rcases List.mem_cons.mp q with rfl | q
      · refine ⟨fun e => ?_, ?_⟩
        · cases hc' : ca with
          | nil => exact na hc'
          | cons x r =>
            have := (hm x).mpr (.inl (by rw [hc']; exact .head _))
            rw [e] at this; cases this
        · rw [(sortN_perm _).nodup_iff, List.nodup_append]
          exact ⟨da, db, fun x hx y hy e => dis x hx (e ▸ hy)⟩
      · exact cA c (List.mem_append_right _ (.tail _ q))
  · rw [hcols]
    show u ∈ a.2.2 ++ b.2.2 ↔ _
    rw [List.mem_append, hA, hB, InP_mid, InP_mid, InP_mid]
    constructor
    · rintro (⟨u1, x, u2, e, h1, h2, h3⟩ | ⟨u1, x, u2, e, h1, h2, h3⟩)
      · exact ⟨u1, x, u2, e, h1, (hm x).mpr (.inl h2), h3⟩
      · exact ⟨u1, x, u2, e, h1, (hm x).mpr (.inr h2), h3⟩
    · (intro z7; refine elEEEAAA z7 fun u1 x u2 e h1 h2 h3 => ?_; clear z7)
      rcases (hm x).mp h2 with q | q
      · exact .inl ⟨u1, x, u2, e, h1, q, h3⟩
      · exact .inr ⟨u1, x, u2, e, h1, q, h3⟩
theorem RsIs.step {rows : List Row} (h : RsIs rows) {f s p : Nat} (hp : pPair rows = some (f, s, p)) : RsIs (pFoldStep rows f s p) := by
  (refine elAA (pPair_spec hp) fun hfs hs z8 => ?_; refine elEE z8 fun a b z9 => ?_; clear z8; refine elAAAAA z9 fun ha hb hk hl hap hpl => ?_; clear z9)
  have hperm := pDrop_perm hfs ha hb
  have hpw := (hperm.pairwise_iff (fun {x y} => Dj.symm)).mp h.dj
  rw [List.pairwise_cons, List.pairwise_cons] at hpw
  (refine elAA hpw fun w1 w2 w3 => ?_; clear hpw)
  (refine elAA (h.each a (List.mem_of_getElem? ha)) fun A la na => ?_)
  (refine elAA (h.each b (List.mem_of_getElem? hb)) fun B lb nb => ?_)
  have hab : Dj a b := (w1 a (.head _)).symm
  rw [pFoldStep, getD_of ha, getD_of hb]
  refine ⟨fun r hr => ?_, ?_⟩
  · rcases List.mem_append.mp hr with q | q
    · exact h.each r (hperm.symm.subset (.tail _ (.tail _ q)))
    · cases List.mem_singleton.mp q
      refine ⟨merge_is A B hk hl hap hpl hab, ?_, ?_⟩
      · simp [pMerge]; grind
      · intro e
        have e : a.2.2 ++ b.2.2 = [] := e
        exact na (List.append_eq_nil_iff.mp e).1
  · rw [List.pairwise_append]
    refine ⟨w3, by simp, fun r hr m hm => ?_⟩
    cases List.mem_singleton.mp hm
    intro e u hu hm
    have e : r.1 = a.1 := e
    rcases List.mem_append.mp hm with q | q
    · exact w2 r hr e.symm u q hu
    · exact w1 r (.tail _ hr) (hk.symm.trans e.symm) u q hu
theorem RsIs.fold : ∀ (m : Nat) {rows : List Row}, RsIs rows → RsIs (pFold m rows)
  | 0, _, h => h
  | m + 1, rows, h => by
    unfold pFold
    split
    · rename_i f s p hp; exact RsIs.fold m (h.step hp)
    · exact h
theorem RInv.fold {N : Nat} : ∀ (m : Nat) {rows : List Row}, RInv N rows → RInv N (pFold m rows) ∧ (pFold m rows).length ≤ rows.length
  | 0, _, h => ⟨h, Nat.le_refl _⟩
  | m + 1, rows, h => by
    unfold pFold
    split
    · rename_i f s p hp
      obtain ⟨h1, h2⟩ := h.step hp
      obtain ⟨h3, h4⟩ := RInv.fold m h1
      exact ⟨h3, by lia⟩
    · exact ⟨h, Nat.le_refl _⟩
theorem uniq_aux (ls : List Ent) : ∀ (l : List Ent) (k : Nat), (∀ j, ls[k + j]? = l[j]?) → ((((l.zipIdx k).filter fun p => !decide (p.1 ∈ ls.take p.2)).map (·.1)).Nodup ∧ ∀ y ∈ (((l.zipIdx k).filter fun p => !decide (p.1 ∈ ls.take p.2)).map (·.1)), y ∉ ls.take k ∧ y ∈ l)
  | [], k, _ => ⟨by simp, by simp⟩
  | x :: l, k, h => by
    have h0 := h 0
    simp only [Nat.add_zero, List.getElem?_cons_zero] at h0
    obtain ⟨i1, i2⟩ := uniq_aux ls l (k + 1) (fun j => by have := h (j + 1); simpa [Nat.add_comm, Nat.add_left_comm, Nat.add_assoc] using this)
    have ht : ls.take (k + 1) = ls.take k ++ [x] := by rw [List.take_add_one, h0]; rfl
    rw [List.zipIdx_cons, List.filter_cons]
    by_cases hx : x ∈ ls.take k
    · simp only [hx, decide_true, Bool.not_true, Bool.false_eq_true, if_false]
      refine ⟨i1, fun y hy => ?_⟩
      obtain ⟨h1, h2⟩ := i2 y hy
      rw [ht] at h1
      exact ⟨fun z => h1 (List.mem_append_left _ z), .tail _ h2⟩
    · simp only [hx, decide_false, Bool.not_false, if_true, List.map_cons]
      refine ⟨List.nodup_cons.mpr ⟨fun z => ?_, i1⟩, fun y hy => ?_⟩
      · have := (i2 x z).1
        rw [ht] at this
        exact this (List.mem_append_right _ (.head _))
      · rcases List.mem_cons.mp hy with rfl | q
        · exact ⟨hx, .head _⟩
        · obtain ⟨h1, h2⟩ := i2 y q
          rw [ht] at h1
          exact ⟨fun z => h1 (List.mem_append_left _ z), .tail _ h2⟩
theorem pUniq_is (ls : List Ent) : (pUniq ls).Nodup ∧ ∀ e ∈ pUniq ls, e ∈ ls := by
  obtain ⟨h1, h2⟩ := uniq_aux ls ls 0 (by simp)
  exact ⟨h1, fun e he => (h2 e he).2⟩
theorem pUniq_len (ls : List Ent) : (pUniq ls).length ≤ ls.length := by
  unfold pUniq
  rw [List.length_map]
  exact Nat.le_trans (List.length_filter_le _ _) (by simp)
theorem drawn_inv : ∀ (ms : List Nat) (ls : List Ent) (b : Nat), LInv ls b → LInv (ms.foldl pDraw1 ls) (b + 2 * ms.length)
  | [], ls, b, h => by trivial
  | m :: ms, ls, b, h => by
    have := drawn_inv ms _ _ (h.step m)
    rw [List.foldl_cons, List.length_cons]
    rw [show b + 2 * (ms.length + 1) = b + 2 + 2 * ms.length by simp +arith]; exact this
theorem pDrawn_is {ms : List Nat} (h : ms.length ≤ 10) : (∀ e ∈ pDrawn ms, e.1 < 6 ∧ e.2.length ≤ 4 ∧ ∀ x ∈ e.2, x < 1114112) ∧ (pDrawn ms).length ≤ 20 ∧ (pDrawn ms).Nodup := by
  have h1 : LInv (pDrawn0 ms) (0 + 2 * ms.length) := drawn_inv ms [] 0 ⟨(fun e he => by cases he), Nat.zero_le _⟩
  obtain ⟨h2, h3⟩ := pUniq_is (pDrawn0 ms)
  have h4 := pUniq_len (pDrawn0 ms)
  have h5 := h1.len
  exact ⟨fun e he => h1.each e (h3 e he), by show (pUniq _).length ≤ 20; lia, h2⟩
end
section
theorem itsT_cp {cs : List Nat} (h : ∀ x ∈ cs, x < 1114112) : ∀ {l : List It}, (∀ p ∈ l, p.1 ∈ cs ∧ ∀ d, p.2 = some d → d ∈ cs) → ∀ x ∈ itsT l, x < 1114112 := by
  intro l hl x hx
  (refine elEA (List.mem_flatMap.mp hx) fun p hp hx => ?_)
  obtain ⟨h1, h2⟩ := hl p hp
  obtain ⟨c, o⟩ := p
  cases o with
  | none => cases List.mem_singleton.mp hx; exact h _ h1
  | some d =>
    simp only [itT1, List.mem_cons, List.not_mem_nil, or_false] at hx
    rcases hx with rfl | rfl | rfl
    · exact h _ h1
    · decide
    · exact h _ (h2 _ rfl)
theorem brIts_cp {cs : List Nat} (h : ∀ x ∈ cs, x < 1114112) : ∀ x ∈ itsT (brIts cs), x < 1114112 := by
  intro x hx
  rw [brIts_T] at hx
  split at hx
  · simp only [List.mem_cons, List.not_mem_nil, or_false] at hx
    rcases hx with rfl | rfl <;> decide
  · rw [pText, pRuns_its] at hx
    simp only [List.mem_append] at hx
    rcases hx with (q | q) | q | q
    · split at q
      · cases List.mem_singleton.mp q; decide
      · cases q
    · refine itsT_cp h (fun p hp => ?_) x q
      obtain ⟨h1, h2⟩ := rIts_mem (rest3 cs) _ _ p hp
      exact ⟨(rest3_mem.mp h1).1, fun d hd => (rest3_mem.mp (h2 d hd).1).1⟩
    · split at q
      · cases List.mem_singleton.mp q; decide
      · cases q
    · split at q
      · cases List.mem_singleton.mp q; decide
      · cases q
theorem tkOf_cp {cs : List Nat} (h : ∀ x ∈ cs, x < 1114112) : ∀ x ∈ tkP (tkOf cs), x < 1114112 := by
  have br : ∀ {cs : List Nat}, (∀ x ∈ cs, x < 1114112) → ∀ x ∈ tkP (.br (brIts cs)), x < 1114112 := by
    intro cs h x hx
    rcases List.mem_cons.mp hx with rfl | q
    · decide
    · rcases List.mem_append.mp q with q | q
      · exact brIts_cp h x q
      · cases List.mem_singleton.mp q; decide
  unfold tkOf
  split
  · split
    · exact br h
    · intro x hx; cases List.mem_singleton.mp hx; exact h _ (.head _)
  · exact br h
theorem toks_mem {r : Row} : ∀ t ∈ toks r, t = .star ∨ t = .any ∨ ∃ c ∈ r.2.1, t = tkOf c := by
  intro t ht
  have h : ∀ t ∈ rT r, t = .star ∨ t = .any ∨ ∃ c ∈ r.2.1, t = tkOf c := fun t ht => by
    (refine elEA (List.mem_map.mp ht) fun c hc z0 => ?_; subst z0)
    exact .inr (.inr ⟨c, hc, rfl⟩)
  unfold toks at ht
  split at ht
  · rcases List.mem_append.mp ht with q | q
    · exact h t (List.mem_of_mem_take q)
    · rcases List.mem_cons.mp q with rfl | q
      · exact .inl rfl
      · rcases List.mem_append.mp q with q | q
        · exact h t (List.mem_of_mem_drop (List.mem_of_mem_take q))
        · rcases List.mem_cons.mp q with rfl | q
          · exact .inl rfl
          · exact h t (List.mem_of_mem_drop q)
  · rcases List.mem_append.mp ht with q | q
    · split at q
      · cases List.mem_singleton.mp q; exact .inl rfl
      · cases q
    · rcases List.mem_append.mp q with q | q
      · exact h t q
      · split at q
        · cases List.mem_singleton.mp q; exact .inl rfl
        · split at q
          · cases List.mem_singleton.mp q; exact .inr (.inl rfl)
          · cases q
theorem toks_len (r : Row) : (toks r).length ≤ r.2.1.length + 2 := by
  have h : (rT r).length = r.2.1.length := by exact List.length_map ..
  unfold toks
  split
  · rw [← h]
    generalize rT r = T
    have h3 : T.length / 3 + T.length / 3 ≤ T.length := by omega
    generalize T.length / 3 = t at h3 ⊢
    have a1 : (T.take t).length ≤ t := List.length_take_le ..
    have a2 : ((T.drop t).take (T.length - t - t)).length ≤ T.length - t - t := List.length_take_le ..
    have a3 : (T.drop (T.length - t)).length = t := by rw [List.length_drop, Nat.sub_sub_self (Nat.le_trans (Nat.le_add_right _ _) h3)]
    rw [List.length_append, List.length_cons, List.length_append, List.length_cons, a3]
    generalize (T.take t).length = n1 at a1 ⊢
    generalize ((T.drop t).take (T.length - t - t)).length = n2 at a2 ⊢
    rw [Nat.sub_sub] at a2
    have a4 := (Nat.le_sub_iff_add_le h3).mp a2
    calc n1 + (n2 + (t + 1) + 1) ≤ t + (n2 + (t + 1) + 1) := Nat.add_le_add_right a1 _
      _ = n2 + (t + t) + 2 := by simp +arith
      _ ≤ T.length + 2 := Nat.add_le_add_right a4 _
  · simp only [List.length_append]
    have h1 : (if r.1 = 2 ∨ r.1 = 3 then [Tk.star] else []).length ≤ 1 := by split <;> exact Nat.le_add_left _ _
    have h2 : (if r.1 = 1 ∨ r.1 = 3 then [Tk.star] else if r.1 = 4 then [Tk.any] else []).length ≤ 1 := by
      split
      · exact Nat.succ_pos _
      · split <;> exact Nat.le_add_left _ _
    lia
theorem flatP_bound (B : Nat) : ∀ ts : List Tk, (∀ t ∈ ts, (tkP t).length ≤ B) → (flatP ts).length ≤ ts.length * B
  | [], _ => by exact Nat.zero_le _
  | t :: ts, h => by
    have := flatP_bound B ts fun x hx => h x (.tail _ hx)
    have := h t (.head _)
    show (tkP t ++ flatP ts).length ≤ _
    rw [List.length_append, List.length_cons, Nat.succ_mul]; lia
structure RowFit (r : Row) : Prop where
  is : RowIs r
  four : r.2.1.length ≤ 4
  ne : r.2.2 ≠ []
  ok : RowOk r
  many : r.2.2.length ≤ 30
theorem RowFit.flat {r : Row} (h : RowFit r) : (flatP (toks r)).length ≤ 24000 ∧ ∀ x ∈ flatP (toks r), x < 1114112 := by
  constructor
  · have h1 := flatP_bound 4000 (toks r) (fun t ht => by
      rcases toks_mem t ht with rfl | rfl | ⟨c, hc, rfl⟩
      · exact Nat.succ_pos _
      · exact Nat.succ_pos _
      · rw [tkOf_P]; exact pBracket_len (h.ok.cols c hc).2.1)
    have h2 := toks_len r
    have h3 := h.four
    have h4 : (toks r).length * 4000 ≤ 6 * 4000 := Nat.mul_le_mul_right _ (by lia)
    exact Nat.le_trans (by assumption) (by assumption)
  · intro x hx
    (refine elEA (List.mem_flatMap.mp hx) fun t ht hx => ?_)
    rcases toks_mem t ht with rfl | rfl | ⟨c, hc, rfl⟩
    · cases List.mem_singleton.mp hx; decide
    · cases List.mem_singleton.mp hx; decide
    · exact tkOf_cp (h.ok.cols c hc).2.2 x hx
theorem InP_cp : ∀ {cs : List (List Nat)} {u : Txt}, (∀ c ∈ cs, ∀ x ∈ c, x < 1114112) → InP cs u → Cp u
  | [], [], _, _ => fun c hc => by cases hc
  | c :: cs, x :: u, h, hi => fun y hy => by
    rcases List.mem_cons.mp hy with rfl | q
    · exact h c (.head _) _ hi.1
    · exact InP_cp (fun d hd => h d (.tail _ hd)) hi.2 y q
theorem RowFit.name {r : Row} (h : RowFit r) {n : Txt} (hn : n ∈ r.2.2) : n.length ≤ 4 ∧ Cp n := by
  have hi := (h.is.names n).mp hn
  exact ⟨by rw [hi.len]; exact h.four, InP_cp (fun c hc => (h.ok.cols c hc).2.2) hi⟩
theorem pAfter_cp (x : Txt) : Cp (pAfter x) := by
  intro y hy
  cases x with
  | nil => cases List.mem_singleton.mp hy; decide
  | cons c x =>
    have : y = if c + 1 = 55296 then 57344 else (c + 1) % 1114112 := List.mem_singleton.mp hy
    subst this
    split
    · decide
    · exact Nat.mod_lt _ (by decide)
theorem Cp.app {a b : Txt} (ha : Cp a) (hb : Cp b) : Cp (a ++ b) := fun c hc => (List.mem_append.mp hc).elim (ha c) (hb c)
theorem Cp.cons {a : Nat} {b : Txt} (ha : a < 1114112) (hb : Cp b) : Cp (a :: b) := fun c hc => (List.mem_cons.mp hc).elim (fun e => e ▸ ha) (hb c)
theorem Cp.take {a : Txt} (ha : Cp a) (n : Nat) : Cp (a.take n) := fun c hc => ha c (List.mem_of_mem_take hc)
theorem Cp.drop {a : Txt} (ha : Cp a) (n : Nat) : Cp (a.drop n) := fun c hc => ha c (List.mem_of_mem_drop hc)
theorem pNear_cp {n w : Txt} (h : Cp n) (hw : w ∈ pNear n) : Cp w ∧ w.length ≤ 2 * n.length + 2 := by
  have nil : Cp ([] : Txt) := fun c hc => by cases hc
  simp only [pNear, List.mem_cons, List.not_mem_nil, or_false] at hw
  rcases hw with rfl | rfl | rfl | rfl | rfl | rfl | rfl
  · exact ⟨h, by simp +arith⟩
  · exact ⟨h.app h, by simp; simp +arith⟩
  · exact ⟨.cons (by decide) h, by simp; simp +arith⟩
  · exact ⟨h.app (.cons (by decide) nil), by simp; simp +arith⟩
  · exact ⟨(h.drop 1).app (h.take 1), by simp; omega⟩
  · exact ⟨(h.take _).app (.cons (by decide) (h.drop _)), by simp; lia⟩
  · refine ⟨Cp.app (fun c hc => h c ((List.dropLast_sublist _).subset hc)) (pAfter_cp _), ?_⟩
    rw [List.length_append, pAfter_len, List.length_dropLast]; simp +arith
theorem pl_ts {l : List Txt} (h : ∀ w ∈ l, Cp w) : Pl 1 (eTs l) := fun d hd => by
  (refine elEA (List.mem_map.mp hd) fun w hw z1 => ?_; subst z1)
  exact h w hw
theorem pWords_is {ls : List Ent} (h : ∀ e ∈ ls, e.1 < 6 ∧ e.2.length ≤ 4 ∧ ∀ x ∈ e.2, x < 1114112) : ∀ w ∈ pWords ls, Cp w ∧ w.length ≤ 10 := by
  intro w hw
  rcases List.mem_cons.mp hw with rfl | q
  · exact ⟨(fun c hc => by cases hc), by decide⟩
  · (refine elEA (List.mem_flatMap.mp q) fun e he hq => ?_)
    (refine elAA (h e he) fun _ h2 h3 => ?_)
    obtain ⟨h4, h5⟩ := pNear_cp h3 hq
    exact ⟨h4, by lia⟩
theorem cutWords_cp {r o : Row} (hr : RowFit r) (ho : RowFit o) : ∀ w ∈ pCutWords r o, Cp w := by
  intro w hw
  (refine elEA (List.mem_flatMap.mp hw) fun l hl hw => ?_)
  (refine elEA (List.mem_map.mp hw) fun x hx z2 => ?_; subst z2)
  have h1 : Cp (r.2.2.headD []) := by
    cases h : r.2.2 with
    | nil => exact absurd h hr.ne
    | cons n _ => exact (hr.name (by rw [h]; exact .head _)).2
  have h2 : Cp (o.2.2.getLastD []) := by
    rw [List.getLastD_eq_getLast?]
    cases h : o.2.2.getLast? with
    | none => exact fun c hc => by cases hc
    | some n => exact (ho.name (List.mem_of_getLast? h)).2
  exact (pNear_cp h1 (List.mem_of_mem_take hl)).1.app (.cons (by decide) (pNear_cp h2 (List.mem_of_mem_take hx)).1)
theorem folded_fit {ls : List Ent} (h : ∀ e ∈ ls, e.1 < 6 ∧ e.2.length ≤ 4 ∧ ∀ x ∈ e.2, x < 1114112) (hl : ls.length ≤ 20) (hn : ls.Nodup) : (∀ r ∈ pFolded ls, RowFit r) ∧ (pFolded ls).length ≤ 30 := by
  obtain ⟨h1, h2⟩ := RInv.fold ls.length (RInv.start (ls := ls) fun e he => ⟨(h e he).1, by have := (h e he).2.1; exact Nat.le_trans (by assumption) (Nat.le_add_left _ _), (h e he).2.2⟩)
  have h3 := RsIs.fold ls.length (RsIs.start (ls := ls) (fun e he => ⟨(h e he).1, (h e he).2.1⟩) hn)
  refine ⟨fun r hr => ?_, ?_⟩
  · (refine elAA (h3.each r hr) fun a b c => ?_)
    exact ⟨a, b, c, h1.ok (by exact Nat.le_trans (by assumption) (Nat.le_add_left _ _)) r hr, by have := h1.le hr; exact Nat.le_trans (Nat.le_trans (by assumption) (by assumption)) (by decide)⟩
  · rw [List.length_map] at h2
    show (pFold ls.length (ls.map rowOf)).length ≤ 30
    exact Nat.le_trans (Nat.le_trans (by assumption) (by assumption)) (by decide)
end
section
theorem kept_told {C : Cx} (G : Gl C) {p d : Addr} {f : Int → Option Value} (K : P8 C G p d f) (hf : FOk f) {r : Row} (R : RowFit r) {ws : List Txt} (hw : ∀ w ∈ ws, w.length ≤ sizeLine) (hws : ws.length ≤ sizeLine) :
    Spec C 7 (G.v 29) [eRow r, eTs ws] (eTs (ws.filter (pOneOf r))) := by
  have hsz : sizeLine = 2 ^ 24 := rfl
  obtain ⟨hfl, hcp⟩ := R.flat
  have hj := jB_len f (toks r)
  have hT := tr3_spec G K (toks_ok r) hcp (by exact Nat.le_trans (by assumption) (by decide)) (pieces_cut f (toks r)) (cut_ok f (toks r)) (by lia)
  have hb : (jB (oT f (cutT (toks r)).1) ((cutT (toks r)).2.map (oT f))).length ≤ 2 ^ 20 := by
    unfold jB
    rw [List.length_append, List.length_flatten]
    exact Nat.le_trans hj (by lia)
  have h := kept_spec G (r := r) (ws := ws) (b := jB (oT f (cutT (toks r)).1) ((cutT (toks r)).2.map (oT f))) R.ok (by rw [toks_P]; exact hT.up (by exact Nat.le_add_left _ _)) (by lia) hw hws
  have e : (ws.filter fun w => pKeeps (pRead (jB (oT f (cutT (toks r)).1) ((cutT (toks r)).2.map (oT f)))) w 0) = ws.filter (pOneOf r) := by
    refine List.filter_congr fun w _ => ?_
    rw [Bool.eq_iff_iff, pRead_cut hf (toks_ok r), keeps_Lg, told_Lg R.is]
  rw [e] at h
  exact h
theorem head_of {α : Type} {l : List α} (h : l ≠ []) : ∃ x, l.head? = some x ∧ x ∈ l := by
  cases l with
  | nil => exact absurd rfl h
  | cons x l => exact ⟨x, rfl, .head _⟩
theorem last_of {α : Type} {l : List α} (h : l ≠ []) : ∃ x, l.getLast? = some x ∧ x ∈ l := ⟨l.getLast h, List.getLast?_eq_some_getLast h, List.getLast_mem h⟩
theorem two_told {C : Cx} (G : Gl C) {p d : Addr} {f : Int → Option Value} (K : P8 C G p d f) (hf : FOk f) {r o : Row} (R : RowFit r) (O : RowFit o) : Spec C 7 (G.v 31) [eRow r, eRow o] (eTs (pTwoTold r o)) := by
  have hsz : sizeLine = 2 ^ 24 := rfl
  (refine elEA (head_of R.ne) fun n hn hnm => ?_)
  (refine elEA (last_of O.ne) fun m hm hmm => ?_)
  have ln := (R.name hnm).1
  have lm := (O.name hmm).1
  obtain ⟨hfl1, hcp1⟩ := R.flat
  obtain ⟨hfl2, hcp2⟩ := O.flat
  have h47 : f 47 = none := by
    have := hf 47
    have h : (f ((47 : Nat) : Int)).isSome = false := this.trans (by decide)
    cases e : f 47 with
    | none => rfl
    | some v => rw [show ((47 : Nat) : Int) = 47 from rfl, e] at h; cases h
  have hj := jB_len f (toks r ++ .bare 47 :: toks o)
  have hjl : (flatP (toks r ++ .bare 47 :: toks o)).length ≤ 48001 := by
    rw [flatP_append, List.length_append]
    show _ + (47 :: flatP (toks o)).length ≤ _
    rw [List.length_cons]; lia
  have hok : ∀ t ∈ toks r ++ .bare 47 :: toks o, TkOk t := fun t ht => by
    rcases List.mem_append.mp ht with q | q
    · exact toks_ok r t q
    · rcases List.mem_cons.mp q with rfl | q
      · exact ⟨by decide, by decide, by decide⟩
      · exact toks_ok o t q
  have hb : (jB (oT f (cutT (toks r ++ .bare 47 :: toks o)).1) ((cutT (toks r ++ .bare 47 :: toks o)).2.map (oT f))).length ≤ 2 ^ 20 := by
    unfold jB
    rw [List.length_append, List.length_flatten]
    exact Nat.le_trans hj (by lia)
  have h := twokept_spec G K R.ok O.ok hn hm (by exact Nat.le_trans (by assumption) (by decide)) (by exact Nat.le_trans (by assumption) (by decide)) (by have := O.many; exact Nat.le_trans (by assumption) (by decide)) (by have := R.many; exact Nat.le_trans (by assumption) (by decide)) (toks_P r) (toks_P o) (toks_ok r) (toks_ok o) hcp1 hcp2 (by exact Nat.le_trans (by assumption) (by decide)) (by exact Nat.le_trans (by assumption) (by decide)) (pieces_two f h47 (toks r) (toks o)) (cut_ok f _) (by lia) (by lia)
  have e : ((pCutWords r o).filter fun w => pKeeps (pRead (jB (oT f (cutT (toks r ++ .bare 47 :: toks o)).1) ((cutT (toks r ++ .bare 47 :: toks o)).2.map (oT f)))) w 0) = pTwoTold r o := by
    refine List.filter_congr fun w _ => ?_
    rw [Bool.eq_iff_iff, pRead_cut hf hok, keeps_Lg, cuttold_Lg R.is O.is]
  rw [e] at h
  exact h
theorem law_true {C : Cx} (G : Gl C) {p d : Addr} {f : Int → Option Value} (K : P8 C G p d f) (hf : FOk f) {ns : List Int} (hns : ns.length ≤ 63) : Spec1 C 8 (G.v 34) [.lst (ns.map .int)] (.bool true) := by
  have hsz : sizeLine = 2 ^ 24 := rfl
  (refine elAA (pDrawn_is (ms := pNumbers ns) (pNumbers_lt ns).2) fun h1 h2 h3 => ?_)
  obtain ⟨h4, h5⟩ := folded_fit h1 h2 h3
  have hw := pWords_is h1
  have hws := pWords_len (pDrawn (pNumbers ns))
  have hprev : ∀ k r, (pFolded (pDrawn (pNumbers ns)))[k]? = some r → RowFit r ∧ RowFit (prevRow (pFolded (pDrawn (pNumbers ns))) k) := fun k r hr => by
    have hlt := (List.getElem?_eq_some_iff.mp hr).1
    refine ⟨h4 r (List.mem_of_getElem? hr), ?_⟩
    unfold prevRow
    split
    · rw [List.getLastD_eq_getLast?, List.getLast?_eq_getElem?, List.getElem?_eq_getElem (by exact Nat.sub_lt (by lia) (by decide))]
      exact h4 _ (List.getElem_mem _)
    · rw [List.getD_eq_getElem?_getD, List.getElem?_eq_getElem (by exact Nat.lt_of_le_of_lt (Nat.sub_le _ _) (by assumption))]
      exact h4 _ (List.getElem_mem _)
  have hn : ∀ {r : Row}, RowFit r → ∀ n ∈ r.2.2, n.length ≤ sizeLine := fun R n hn => by have := (R.name hn).1; exact Nat.le_trans (by assumption) (by decide)
  refine law_spec G hns rfl rfl rfl ⟨fun e he => ⟨⟨(h1 e he).1, by have := (h1 e he).2.1; exact Nat.le_trans (by assumption) (Nat.le_add_left _ _), (h1 e he).2.2⟩, by have := (h1 e he).2.1; exact Nat.le_trans (by assumption) (by decide)⟩, by exact Nat.le_trans (by assumption) (Nat.le_add_left _ _)⟩ h5
    (fun r hr => kept_told G K hf (h4 r hr) (fun w q => by have := (hw w q).2; exact Nat.le_trans (by assumption) (by decide)) (by lia))
    (fun r hr => kepttold_spec G (hn (h4 r hr)) (fun w q => by have := (hw w q).2; exact Nat.le_trans (by assumption) (by decide)) (by lia))
    (fun k r hr => two_told G K hf (hprev k r hr).1 (hprev k r hr).2)
    (fun k r hr => ?_)
    (fun r hr => pl_ts fun w hw' => (hw w (List.mem_filter.mp hw').1).1)
    (fun k r hr => pl_ts fun w hw' => cutWords_cp (hprev k r hr).1 (hprev k r hr).2 w (List.mem_filter.mp hw').1)
  obtain ⟨R, O⟩ := hprev k r hr
  (refine elEA (head_of R.ne) fun n hnh hnm => ?_)
  (refine elEA (last_of O.ne) fun m hm hmm => ?_)
  have ln := (R.name hnm).1
  have lm := (O.name hmm).1
  exact twotold_spec G hnh hm (by exact Nat.le_trans (by assumption) (by decide)) (by exact Nat.le_trans (by assumption) (by decide)) (by have := O.many; exact Nat.le_trans (by assumption) (by decide)) (by have := R.many; exact Nat.le_trans (by assumption) (by decide)) (hn R) (hn O)
end
section
open PySem.Builtin.Re
noncomputable def vRef : Value → Option Addr | .ref a => some a | _ => none
noncomputable def vTy : Value → Option String | .type c => some c | _ => none
noncomputable def dFld : Data → Option (Array Value) | .fields fs => some fs | _ => none
noncomputable def dSeq : Data → Option (Array Value) | .seq ws _ => some ws | _ => none
noncomputable def dDct : Data → Option (Array DictEntry) | .dict es _ => some es | _ => none
theorem nsome {α : Type} {a : α} {P : Prop} (h : Option.none = some a) : P := by cases h
theorem vRef_of {v : Value} {a : Addr} (h : vRef v = some a) : v = .ref a := by cases v <;> first | exact nsome h | (cases h; rfl)
theorem vTy_of {v : Value} {c : String} (h : vTy v = some c) : v = .type c := by cases v <;> first | exact nsome h | (cases h; rfl)
theorem dFld_of {d : Data} {fs : Array Value} (h : dFld d = some fs) : d = .fields fs := by cases d <;> first | exact nsome h | (cases h; rfl)
theorem dSeq_of {d : Data} {fs : Array Value} (h : dSeq d = some fs) : ∃ n, d = .seq fs n := by cases d <;> first | exact nsome h | (cases h; exact ⟨_, rfl⟩)
theorem dDct_of {d : Data} {fs : Array DictEntry} (h : dDct d = some fs) : ∃ n, d = .dict fs n := by cases d <;> first | exact nsome h | (cases h; exact ⟨_, rfl⟩)
theorem any_some {α : Type} {o : Option α} {p : α → Bool} (h : o.any p = true) : ∃ x, o = some x ∧ p x = true := by
  cases o with
  | none => cases h
  | some x => exact ⟨x, rfl, h⟩
theorem bnd_some {α β : Type} {o : Option α} {p : α → Option β} {y : β} (h : o.bind p = some y) : ∃ x, o = some x ∧ p x = some y := by
  cases o with
  | none => cases h
  | some x => exact ⟨x, rfl, h⟩
theorem and3 {a b c : Bool} (h : (a && (b && c)) = true) : a = true ∧ b = true ∧ c = true := ⟨(Bool.and_eq_true_iff.mp h).1, Bool.and_eq_true_iff.mp (Bool.and_eq_true_iff.mp h).2⟩
noncomputable def seqT (h : Heap) (v : Value) : Bool := ((vRef v).bind h.get?).any fun o => (dSeq o.data).any fun ws => ((ws.toList.map reRawOf).map (·.toNat)) == ampCode
noncomputable def fldT (h : Heap) (fs : Array Value) : Bool := reRawNat (fs.getD 2 .none) == 1 && (reRawNat (fs.getD 6 .none) == 0 && seqT h (fs.getD 5 .none))
noncomputable def objT (c : String) (o : Obj) (t : Data → Bool) : Bool := (vTy o.cls).any (· == c) && (o.dict.isNone && t o.data)
noncomputable def patT (h : Heap) (v : Option Value) : Bool := ((v.bind vRef).bind h.get?).any fun o => objT "re.Pattern" o fun d => (dFld d).any (fldT h)
theorem obj_of {c : String} {o : Obj} {t : Data → Bool} (h : objT c o t = true) : o = { cls := .type c, dict := Option.none, data := o.data, slots := o.slots } ∧ t o.data = true := by
  obtain ⟨h1, h2, h3⟩ := and3 h
  obtain ⟨x, h1, e⟩ := any_some h1
  cases eq_of_beq e
  exact ⟨(Obj.of2 (vTy_of h1) rfl).trans (by rw [Option.isNone_iff_eq_none.mp h2]), h3⟩
noncomputable def entT (e : DictEntry) (c : Nat) : Bool := (match e.key with | .int i _ => i == (c : Int) && e.hash == hashInt i | _ => false) && (match e.val with | .str x _ => x.cps.toList == [92, c] | _ => false)
noncomputable def dctT (es : Array DictEntry) : Bool := es.size == specN.length && (es.toList.zip specN).all fun q => entT q.1 q.2
noncomputable def mapT (h : Heap) (v : Option Value) : Bool := (v.bind vRef).any fun a => !(a == sysModules) && (h.get? a).any fun o => o.slots.size == 0 && objT "dict" o fun d => (dDct d).any dctT
noncomputable def xTest (h : Heap) : Bool := h.isNs mainGlobals && (patT h (h.nsMap mainGlobals "_twin_re_1") && mapT h (h.nsMap mainGlobals "_special_chars_map"))
noncomputable def xT (s : Shared) : Bool := xTest s.heap
noncomputable def xSays (w : World) (h : Heap) : Prop := ∃ h₀ : Heap, (∀ b o, h₀.get? b = some o → h.get? b = some o) ∧ xTest h₀ = true
noncomputable def xHook : Hook := ⟨Bool, xT, fun _ => true, xSays, fun _ s e => ⟨s.heap, fun _ _ x => x, e⟩, fun _ _ _ x k => let ⟨h₀, a, b⟩ := x; ⟨h₀, fun b o e => k b o (a b o e), b⟩⟩
theorem pat_of {h : Heap} {v : Option Value} (e : patT h v = true) : ∃ p fs T ws n sl oT, v = some (.ref p) ∧ h.get? p = some ⟨.type "re.Pattern", Option.none, .fields fs, sl⟩ ∧ fs.getD 5 .none = .ref T ∧ reRawNat (fs.getD 2 .none) = 1 ∧ reRawNat (fs.getD 6 .none) = 0 ∧
    h.get? T = some oT ∧ oT.data = .seq ws n ∧ (ws.map reRawOf).map (·.toNat) = ampC := by
  obtain ⟨o, e, h1⟩ := any_some e
  obtain ⟨p, e, hp⟩ := bnd_some e
  obtain ⟨u, rfl, hu⟩ := bnd_some e
  cases vRef_of hu
  obtain ⟨ho, h1⟩ := obj_of h1
  obtain ⟨fs, hf, h1⟩ := any_some h1
  obtain ⟨e2, e3, h1⟩ := and3 h1
  obtain ⟨oT, e, h1⟩ := any_some h1
  obtain ⟨T, hT, hoT⟩ := bnd_some e
  obtain ⟨ws, hw, h1⟩ := any_some h1
  obtain ⟨n, hw⟩ := dSeq_of hw
  refine ⟨p, fs, T, ws, n, o.slots, oT, rfl, hp.trans (congrArg some (ho.trans ?_)), vRef_of hT, eq_of_beq e2, eq_of_beq e3, hoT, hw, ?_⟩
  · rw [dFld_of hf]
  · have e4 : (ws.toList.map reRawOf).map (·.toNat) = ampCode := eq_of_beq h1
    apply Array.ext'
    rw [Array.toList_map, Array.toList_map, e4]
theorem ent_of {e : DictEntry} {c : Nat} (h : entT e c = true) : (∃ t, e.key = .int (c : Int) t) ∧ e.hash = hashInt (c : Int) ∧ ∃ u, e.val = .str ⟨#[92, c]⟩ u := by
  unfold entT at h
  rw [Bool.and_eq_true] at h
  obtain ⟨h1, h2⟩ := h
  split at h1
  · rename_i i t hk
    simp only [Bool.and_eq_true, beq_iff_eq] at h1
    obtain ⟨rfl, h1⟩ := h1
    refine ⟨⟨t, hk⟩, h1, ?_⟩
    split at h2
    · rename_i x u hv
      have h2 : x.cps.toList = [92, c] := eq_of_beq h2
      refine ⟨u, ?_⟩
      rw [hv]
      obtain ⟨cps⟩ := x
      have : cps = #[92, c] := Array.ext' h2
      rw [this]
    · cases h2
  · cases h1
theorem find_of {c : Nat} : ∀ {l : List DictEntry} {ns : List Nat}, l.length = ns.length → ((l.zip ns).all fun q => entT q.1 q.2) = true →
    ((l.find? fun e => Value.isInt (c : Int) e.key).map (·.val)).isSome = decide (c ∈ ns) ∧ (∀ v, (l.find? fun e => Value.isInt (c : Int) e.key).map (·.val) = some v → ∃ u, v = .str ⟨#[92, c]⟩ u) ∧ ∀ e ∈ l, ∃ k, Value.isInt k e.key = true ∧ e.hash = hashInt k
  | [], [], _, _ => ⟨by rfl, by simp, by simp⟩
  | e :: l, n :: ns, hl, h => by
    rw [List.zip_cons_cons, List.all_cons, Bool.and_eq_true] at h
    (refine elAAE (ent_of h.1) fun z0 hh u hv => ?_; obtain ⟨t, hk⟩ := z0)
    (refine elAA (find_of (c := c) (l := l) (ns := ns) (by exact Nat.add_right_cancel (by assumption)) h.2) fun i1 i2 i3 => ?_)
    have hx : ∀ k : Int, Value.isInt k e.key = decide ((n : Int) = k) := fun k => by rw [hk]; rfl
    refine ⟨?_, ?_, fun x hx' => ?_⟩
    · rw [List.find?_cons, hx]
      by_cases hc : n = c
      · subst hc; simp
      · have : decide ((n : Int) = (c : Int)) = false := decide_eq_false (by norm_cast)
        rw [this]
        simp only [i1, List.mem_cons]
        rw [Bool.eq_iff_iff]; simp; intro z; exact absurd z.symm hc
    · rw [List.find?_cons, hx]
      by_cases hc : n = c
      · subst hc
        simp only [decide_true, Option.map_some, Option.some.injEq]
        rintro v rfl
        exact ⟨u, hv⟩
      · have : decide ((n : Int) = (c : Int)) = false := decide_eq_false (by norm_cast)
        rw [this]; exact i2
    · rcases List.mem_cons.mp hx' with rfl | q
      · exact ⟨n, by rw [hx]; simp, hh⟩
      · exact i3 x q
theorem map_of {h : Heap} {v : Option Value} (e : mapT h v = true) : ∃ d es ep sl, v = some (.ref d) ∧ (d == sysModules) = false ∧ h.get? d = some ⟨.type "dict", Option.none, .dict es ep, sl⟩ ∧ sl = #[] ∧ es.toList.length = specN.length ∧ ((es.toList.zip specN).all fun q => entT q.1 q.2) = true := by
  obtain ⟨a, e, h1⟩ := any_some e
  obtain ⟨u, rfl, hu⟩ := bnd_some e
  cases vRef_of hu
  obtain ⟨e1, h1⟩ := Bool.and_eq_true_iff.mp h1
  obtain ⟨o, ha, h1⟩ := any_some h1
  obtain ⟨e3, h1⟩ := Bool.and_eq_true_iff.mp h1
  obtain ⟨ho, h1⟩ := obj_of h1
  obtain ⟨es, hd, h1⟩ := any_some h1
  obtain ⟨ep, hd⟩ := dDct_of hd
  obtain ⟨e4, e5⟩ := Bool.and_eq_true_iff.mp h1
  refine ⟨a, es, ep, o.slots, rfl, by simpa using e1, ha.trans (congrArg some (ho.trans ?_)), Array.eq_empty_of_size_eq_zero (eq_of_beq e3), eq_of_beq e4, e5⟩
  rw [hd]
theorem ns_uniq {h : Heap} {a : Addr} {m m' : Str → Option Value} (x : h.Ns a m) (y : h.Ns a m') : m = m' := by
  (refine elEEEAAA x fun o es ep ho hd _ hf => ?_; clear x)
  (refine elEEEAAA y fun o' es' ep' ho' hd' _ hf' => ?_; clear y)
  rw [ho] at ho'; cases ho'
  rw [hd] at hd'; cases hd'
  funext n
  rw [← hf, ← hf']
noncomputable abbrev fnL : List Nat := [3, 6, 8, 9, 11, 12, 13, 14, 15, 16, 17, 18, 19, 20, 21, 22, 23, 24, 25, 26, 27, 28, 29, 30, 31, 32, 33, 34]
noncomputable abbrev blL : List Str := [Str.ofString "len", "ord", "chr", "range", "enumerate", "sorted", "isinstance", "object", "str"]
theorem dvs_ints {P : FZ} : ∀ {vs : List Value} {xs : List Int}, IntsAre vs xs → DVs P [] (xs.map .int) vs
  | _, _, .nil => rfl
  | _, _, .cons n t h => ⟨_, _, rfl, ⟨t, rfl⟩, dvs_ints h⟩
theorem nes : sameAt (lamPos sb8) (genPos jn8) = false ∧ sameAt (genPos jn8) (lamPos sb8) = false := by decide +kernel
set_option maxHeartbeats 4000000 in
theorem join {q : Program} {loose : List Str} {mean : ExcName → Option Value} {w : World} {s : Shared} {mg mb : Str → Option Value} (T : Top q loose mean mg mb s.heap)
    (hrec : ∀ i ∈ fnL, ∃ d ∈ recsOf q, d.name = stName (st i) ∧ d.params = stParams (st i) ∧ d.body = bd i ∧ d.scope = sc i)
    (hbl : ∀ x ∈ blL, x ∉ startupNames ∧ x ∉ loose ∧ x ∉ (recsOf q).map (·.name) ∧ x ∉ (litsOf q).map (·.1) ∧ x ∉ (clssOf q loose).map (·.name) ∧ x ≠ "__name__")
    (Y : xSays w s.heap) (hg : s.gens = #[]) {l : Addr} {o : Obj} {its : Array Value} {n : Nat} {xs : List Int} (hl : s.heap.get? l = some o) (hoc : o.cls = .type "list") (hod : o.data = .seq its n) (hI : IntsAre its.toList xs) (hlen : xs.length ≤ 63)
    {fa : Addr} (hfa : mg "law" = some (.ref fa)) :
    wpAny (model PySem.Challenge.pw_in0225_01 w) callerA (call (.ref fa) [.ref l]) (fun v s' => v = .bool true ∧ OldK s.heap s'.heap ∧ s'.os = s.os ∧ AllBare s'.gens) (fun _ _ => False) s := by
  -- the one whose table grows
  (refine elEAAAA (hrec 8 (by decide)) fun d8 hd8 n8 p8 b8 s8 => ?_)
  (refine elEEEEE (T.tab d8 hd8) fun a8 o8 fd cT tb z1 => ?_; refine elAAAAA z1 fun hm8 ho8 hfd8 hcd8 hcode htab => ?_; clear z1)
  (refine elEEEEE (T.fn d8 hd8) fun a8' o8' pm8 code8 doc8 z2 => ?_; refine elAAA z2 fun hm8' ho8' hdd8 hcr8 => ?_; clear z2)
  rw [hm8] at hm8'; cases hm8'
  rw [ho8] at ho8'; cases ho8'
  have hfd : fd = docDef d8.name d8.params d8.body d8.scope pm8 code8 doc8 := by rw [hfd8] at hdd8; cases hdd8; rfl
  have hcode8 : code8 = .ref cT := by rw [hfd] at hcd8; exact hcd8
  obtain ⟨⟨oc, vc, hoc1, hoc2, hoc3, hoc4⟩, htb⟩ := htab
  (refine elEEEEEEEEE hcode fun oc' vs' file tf flags tg inF text tt z3 => ?_; clear hcode; refine elE z3 fun op z4 => ?_; clear z3; refine elAAAAAAAAA z4 fun hc1 hc2 hc3 hc4 hc5 hc6 hc7 hc8 hc9 z5 => ?_; clear z4; refine elA z5 fun hc10 hne => ?_; clear z5)
  rw [hoc1] at hc1; cases hc1
  rw [hoc3] at hc2; cases hc2
  have hide : ∀ b ob, s.heap.get? b = some ob → (∀ vs : Array Value, ob.data = .fields vs → vs ≠ #[]) → (s.heap.hide tb).get? b = some ob := fun b ob e h => by
    rw [Heap.hide_ne]
    · exact e
    · intro z
      subst z
      rw [htb] at e; cases e
      exact h #[] rfl rfl
  have hns : ∀ {a : Addr} {m : Str → Option Value}, s.heap.Ns a m → (s.heap.hide tb).Ns a m := fun {a m} ⟨o, es, ep, ho, hd, r⟩ => ⟨o, es, ep, hide _ _ ho (fun vs e => by rw [hd] at e; cases e), hd, r⟩
  have hrc : ∀ {cd : Value} {q : Str}, s.heap.CodeRec cd q → (s.heap.hide tb).CodeRec cd q := fun {cd q} ⟨c, o, vs, t, e, g, d, r⟩ => ⟨c, o, vs, t, e, hide _ _ g (fun vs' e' z => by rw [d] at e'; cases e'; subst z; trivial), d, r⟩
  let C : Cx := { prog := PySem.Challenge.pw_in0225_01, w := w, hb := s.heap.hide tb, mg := mg, mb := mb, cT := cT, tb := tb, os := s.os, lp := lamPos sb8, gp := genPos jn8, lq := envQual (stName (st 8)) ++ "<lambda>", gq := envQual (stName (st 8)) ++ "<genexpr>" }
  have H : C.Ok := by
    refine ⟨hns T.g, hns T.b, ?_, Heap.hide_self _ _, ⟨oc, vc, file, tf, flags, tg, inF, text, tt, hide _ _ hoc1 (fun vs e z => by rw [hoc3] at e; cases e; subst z; trivial), hoc2, hoc3, hoc4, hc4, hc5, hc6, hc7, hne⟩⟩
    (refine elEA T.nolimit fun mc h1 h2 => ?_)
    exact ⟨mc, hns h1, h2⟩
  have fn : ∀ i ∈ fnL, mg (stName (st i)) = some ((mg (stName (st i))).getD .none) ∧ FnIs C ((mg (stName (st i))).getD .none) (stName (st i)) (stParams (st i)) (bd i) (sc i) := fun i hi => by
    (refine elEAAAA (hrec i hi) fun d hd e1 e2 e3 e4 => ?_)
    (refine elEEEEE (T.fn d hd) fun a o pm code doc z6 => ?_; refine elAAA z6 fun h1 h2 h3 h4 => ?_; clear z6)
    rw [e1] at h1 h3 h4
    rw [e2, e3, e4] at h3
    rw [h1]
    exact ⟨rfl, a, o, pm, code, doc, rfl, hide _ _ h2 (fun vs e => by rw [h3] at e; cases e), h3, hrc h4⟩
  have bl : ∀ (x : Str) (v : Value), x ∈ blL → bootBuiltins x = some v → mg x = none ∧ mb x = some v := fun x v hx hb => by
    (refine elAAAAA (hbl x hx) fun b1 b2 b3 b4 b5 b6 => ?_)
    exact ⟨T.free x b1 b2 b3 b4 b5, by rw [T.builtins x b6]; exact hb⟩
  let G : Gl C := ⟨H, fun i => (mg (stName (st i))).getD .none, fn, bl⟩
  -- the pattern and the map
  (refine elEA Y fun h₀ hk₀ hx => ?_; clear Y)
  unfold xTest at hx
  rw [Bool.and_eq_true, Bool.and_eq_true] at hx
  (refine elAA hx fun x1 x2 x3 => ?_; clear hx)
  have hmg : h₀.nsMap mainGlobals = mg := ns_uniq ((Heap.Ns.of_isNs x1).keeps hk₀) T.g
  rw [hmg] at x2 x3
  (refine elEEEEEEE (pat_of x2) fun p fs Ta ws np sl oT z7 => ?_; refine elAAAAAAA z7 fun q1 q2 q3 q4 q5 q6 q7 q8 => ?_; clear z7)
  (refine elEEEE (map_of x3) fun d es ep sl2 z8 => ?_; refine elAAAAA z8 fun r1 r2 r3 r4 r5 r6 => ?_; clear z8)
  have hpat : PatIs C p := ⟨fs, Ta, ws, np, sl, oT, hide _ _ (hk₀ _ _ q2) (fun vs e z => by cases e; subst z; cases q3), q3, q4, q5, hide _ _ (hk₀ _ _ q6) (fun vs e => by rw [q7] at e; cases e), q7, q8⟩
  have hff : ∀ c : Nat, findBy Value.isInt es (c : Int) = (es.toList.find? fun e => Value.isInt (c : Int) e.key).map (·.val) := fun c => by
    obtain ⟨es⟩ := es
    show ((List.toArray es).find? _).map _ = _
    rw [List.find?_toArray]
  have hmap : MapIs C d (findBy Value.isInt es) := by
    refine ⟨r2, ⟨_, es, ep, hide _ _ (hk₀ _ _ r3) (fun vs e => by cases e), ⟨rfl, rfl, r4⟩, rfl, fun e he => ?_, fun k => rfl⟩, fun c v hv => ?_⟩
    · exact (find_of (c := 0) r5 r6).2.2 e (by simpa using he)
    · rw [hff] at hv
      exact (find_of (c := c) r5 r6).2.1 v hv
  have hf : FOk (findBy Value.isInt es) := fun c => by rw [hff]; exact (find_of (c := c) r5 r6).1
  have hB : BMC C := by
    (refine elEE T.bmain fun bm ob z9 => ?_; refine elAAAAA z9 fun m1 m2 m3 m4 m5 m6 => ?_; clear z9)
    exact ⟨bm, ob, hns T.g, m1, m2, hide _ _ m3 (fun vs e => by rw [m6] at e; cases e), m4, m5, m6⟩
  have K : P8 C G p d (findBy Value.isInt es) := by
    refine { fn := ?_, B := hB, gp := rfl, gq := rfl, ne := nes.1, ne' := nes.2, lp := rfl, lq := rfl, re := q1, pat := hpat, mp := r1, map := hmap }
    rw [n8] at hm8 hdd8 hcr8
    rw [p8, b8, s8, hcode8] at hdd8
    rw [hcode8] at hcr8
    refine ⟨a8, o8, pm8, doc8, ?_, hide _ _ ho8 (fun vs e => by rw [hdd8] at e; cases e), hdd8, hrc hcr8⟩
    show (mg (stName (st 8))).getD .none = _
    rw [hm8]; rfl
  have hlaw := law_true G K hf hlen
  have hv34 : G.v 34 = .ref fa := by
    show (mg (stName (st 34))).getD .none = _
    have : stName (st 34) = Str.ofString "law" := by rfl
    rw [this]
    have hfa : mg (Str.ofString "law") = some (.ref fa) := hfa
    rw [hfa]; rfl
  rw [hv34] at hlaw
  have hltb : l ≠ tb := fun z => by
    subst z
    rw [htb] at hl; cases hl; cases hod
  let P : FZ := fun a => if a = l then some o else none
  have hS : SOk C P { s with toks := s.toks + 1 } := by
    refine ⟨fun a oa e => ?_, fun a oa e => Heap.of_hide e, if_neg (Ne.symm hltb), ⟨#[], htb, trivial, (fun v e => by cases e), fun v e => by cases e⟩, .of_eq hg, rfl, Nat.succ_pos _⟩
    have e : (if a = l then some o else none) = some oa := e
    split at e
    · rename_i z; cases e; subst z; exact hl
    · cases e
  refine wpAny_mono (hlaw callerA s P [.ref l] ⟨rfl, by decide, by decide⟩ hS ⟨_, _, rfl, ⟨l, o, its.toList, n, rfl, if_pos rfl, hoc, by rw [hod], dvs_ints hI⟩, rfl⟩) (fun v s' h => ?_) fun _ _ h => h
  obtain ⟨P', _, S', _, hk, hv⟩ := h
  (refine elEA S'.tab fun ps hps _ => ?_)
  refine ⟨hv, ⟨fun b ob e => ?_, fun b ob e => ?_⟩, S'.os, S'.gens⟩
  · by_cases hb : b = tb
    · subst hb
      rw [htb] at e; cases e
      refine .inr (.inl ⟨⟨cT, oc, vc, hoc1, hoc2, hoc3, hoc4⟩, rfl, #[], ps, rfl, ?_⟩)
      rw [hps]; simp
    · exact .inl (hk b ob hb e)
  · by_cases hb : b = tb
    · subst hb; exact ⟨_, hps⟩
    · exact ⟨ob, hk b ob hb e⟩
end
section
noncomputable def stPos : Stmt → Pos | .FunctionDef _ _ _ _ _ _ _ _ _ p => p | _ => default
noncomputable def recX : List DefRec := fnL.map fun i => ⟨stName (st i), stParams (st i), bd i, sc i, stPos (st i)⟩
theorem rec_of {q : Program} (h : recsOf q = recX) : ∀ i ∈ fnL, ∃ d ∈ recsOf q, d.name = stName (st i) ∧ d.params = stParams (st i) ∧ d.body = bd i ∧ d.scope = sc i := fun i hi => by
  rw [h]; exact ⟨_, List.mem_map.mpr ⟨i, hi, rfl⟩, rfl, rfl, rfl, rfl⟩
theorem good {cl : Str → Option Addr} {mean : ExcName → Option Value} {s₁ s' : Shared} {xs : List Int} (hK : OldK s₁.heap s'.heap) (hos : s'.os = s₁.os) (hg : AllBare s'.gens) :
    GoodWG PySem.Challenge.rw_in0225_01.row.claim cl mean [ofPy (PyData.list (List.map PyData.int xs))] s₁ (.ok (.ret (.bool true))) s' := by
  refine ⟨.inl ⟨.bool true, .bool true, [], rfl, fun cls => rfl, .bool true, ?_, fun _ => ⟨List.nodup_nil, fun a h => by cases h⟩⟩, hK, hos, hg⟩
  exact postW_of (by rfl) (by wtm_val) (by rfl)
theorem last {q : Program} {loose : List Str} {mean : ExcName → Option Value} {w : World} {s s₀ : Shared} {mg mb : Str → Option Value} (T : Top q loose mean mg mb s.heap) (hrec : recsOf q = recX)
    (hbl : ∀ x ∈ blL, x ∉ startupNames ∧ x ∉ loose ∧ x ∉ (recsOf q).map (·.name) ∧ x ∉ (litsOf q).map (·.1) ∧ x ∉ (clssOf q loose).map (·.name) ∧ x ≠ "__name__")
    (Y : xSays w s.heap) (hg : s.gens = #[]) {l : Addr} {vs : List Value} {xs : List Int} (hl : s.heap.IsList l vs.toArray) (hI : IntsAre vs xs) (hlen : ¬ ((63 : Nat) : Int) < (xs.length : Nat)) {fa : Addr} (hfa : mg "law" = some (.ref fa)) :
    wpAny (model PySem.Challenge.rw_in0225_01.row.prog w) callerA (call (.ref fa) [.ref l])
    (fun v s' => GoodWG PySem.Challenge.rw_in0225_01.row.claim (classAt s₀.heap) (ExcName.means s₀.heap) [ofPy (PyData.list (List.map PyData.int xs))] s (Except.ok (Flow.ret v)) s')
    (fun e s' => GoodWG PySem.Challenge.rw_in0225_01.row.claim (classAt s₀.heap) (ExcName.means s₀.heap) [ofPy (PyData.list (List.map PyData.int xs))] s (Except.error e) s') s := by
  (refine elEAAE hl fun o h1 h2 n h3 => ?_; clear hl)
  refine wpAny_mono (join T (rec_of hrec) hbl Y hg h1 h2 h3 (by omega) (by lia) hfa) ?_ fun _ _ h => h.elim
  (intro _ s' z0; refine elAAA z0 fun z1 hK hos hg' => ?_; clear z0; subst z1)
  exact good hK hos hg'
end
end Fn.Internal
set_option maxHeartbeats 8000000 in
theorem PySem.Challenge.cw_in0225_01_holds : PySem.Challenge.rw_in0225_01.Holds := by
  w_on
  refine holds_law ?_ fun said => ?_
  · iterate 18 refine look_both ?_ (by decide +kernel)
    refine look_both (a := OpenRow.partSaid _ && _) (look_both (a := OpenRow.partSaid _) ?_ (by decide +kernel)) (by decide +kernel)
    iterate 17 refine look_both ?_ (by decide +kernel)
    decide +kernel
  o_head Fn.Internal.xHook
  case hw => w_witness2
  intro w s₀ s₁ mg mb G Y fa o pm cd doc dV kV ho hd hcd hD hmg hg args vals as hpre hlay hrd hwl hlo
  clear hd hcd hD
  have T := Ground.T G
  wrow_args hpre hlay hrd hwl hlo
  exact Fn.Internal.last T (by with_unfolding_all rfl) (by decide +kernel) Y hg (by assumption) (by assumption) (by assumption) hmg
