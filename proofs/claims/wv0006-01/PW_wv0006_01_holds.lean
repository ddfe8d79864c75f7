import PyProof.Rows.All
import Wide.All
import OpenK.AllK
import Wide.FinOn
import PySem.Challenge.RW_wv0006_01
open PySem PySem.W PyProof.Rows PySem.Calls
set_option Elab.async false
set_option linter.unusedVariables false
set_option linter.all false
set_option maxRecDepth 100000
set_option maxHeartbeats 2000000
set_option compiler.extract_closed false
namespace Mine
section
/-! existential statements, taken apart and made in one step -/
theorem exX1 {α : Type} {P : α → Prop} {G : Prop} (q : ∃ a, P a) (z : ∀ a, P a → G) : G :=
  Exists.elim q z
theorem exX2 {α β : Type} {P : α → β → Prop} {G : Prop} (q : ∃ a b, P a b) (z : ∀ a b, P a b → G) : G :=
  exX1 q fun a q => exX1 q (z a)
theorem exX3 {α β γ : Type} {P : α → β → γ → Prop} {G : Prop} (q : ∃ a b c, P a b c) (z : ∀ a b c, P a b c → G) : G :=
  exX1 q fun a q => exX2 q (z a)
theorem exX4 {α β γ δ : Type} {P : α → β → γ → δ → Prop} {G : Prop} (q : ∃ a b c d, P a b c d) (z : ∀ a b c d, P a b c d → G) : G :=
  exX1 q fun a q => exX3 q (z a)
theorem exX7 {α β γ δ ε ζ η : Type} {P : α → β → γ → δ → ε → ζ → η → Prop} {G : Prop} (q : ∃ a b c d e f g, P a b c d e f g) (z : ∀ a b c d e f g, P a b c d e f g → G) : G :=
  exX4 q fun a b c d q => exX3 q (z a b c d)
theorem exX11 {α β γ δ ε ζ η θ ι κ μ : Type} {P : α → β → γ → δ → ε → ζ → η → θ → ι → κ → μ → Prop} {G : Prop} (q : ∃ a b c d e f g h i j k, P a b c d e f g h i j k) (z : ∀ a b c d e f g h i j k, P a b c d e f g h i j k → G) : G :=
  exX4 q fun a b c d q => exX7 q (z a b c d)
theorem exX15 {α β γ δ ε ζ η θ ι κ μ ν ξ ρ σ : Type} {P : α → β → γ → δ → ε → ζ → η → θ → ι → κ → μ → ν → ξ → ρ → σ → Prop} {G : Prop} (q : ∃ a b c d e f g h i j k l m n o, P a b c d e f g h i j k l m n o) (z : ∀ a b c d e f g h i j k l m n o, P a b c d e f g h i j k l m n o → G) : G :=
  exX4 q fun a b c d q => exX11 q (z a b c d)
theorem exE15_9 {α β γ δ ε ζ η θ ι κ μ ν ξ ρ σ : Type} {P1 P2 P3 P4 P5 P6 P7 P8 P9 : α → β → γ → δ → ε → ζ → η → θ → ι → κ → μ → ν → ξ → ρ → σ → Prop} {G : Prop} (q : ∃ a b c d e f g h i j k l m n o, P1 a b c d e f g h i j k l m n o ∧ P2 a b c d e f g h i j k l m n o ∧ P3 a b c d e f g h i j k l m n o ∧ P4 a b c d e f g h i j k l m n o ∧ P5 a b c d e f g h i j k l m n o ∧ P6 a b c d e f g h i j k l m n o ∧ P7 a b c d e f g h i j k l m n o ∧ P8 a b c d e f g h i j k l m n o ∧ P9 a b c d e f g h i j k l m n o) (z : ∀ a b c d e f g h i j k l m n o, P1 a b c d e f g h i j k l m n o → P2 a b c d e f g h i j k l m n o → P3 a b c d e f g h i j k l m n o → P4 a b c d e f g h i j k l m n o → P5 a b c d e f g h i j k l m n o → P6 a b c d e f g h i j k l m n o → P7 a b c d e f g h i j k l m n o → P8 a b c d e f g h i j k l m n o → P9 a b c d e f g h i j k l m n o → G) : G :=
  exX15 q fun a b c d e f g h i j k l m n o q => z a b c d e f g h i j k l m n o (q.1) (q.2.1) (q.2.2.1) (q.2.2.2.1) (q.2.2.2.2.1) (q.2.2.2.2.2.1) (q.2.2.2.2.2.2.1) (q.2.2.2.2.2.2.2.1) (q.2.2.2.2.2.2.2.2)
theorem exE1_1 {α : Type} {P1 : α → Prop} {G : Prop} (q : ∃ a, P1 a) (z : ∀ a, P1 a → G) : G :=
  exX1 q fun a q => z a q
theorem exE1_2 {α : Type} {P1 P2 : α → Prop} {G : Prop} (q : ∃ a, P1 a ∧ P2 a) (z : ∀ a, P1 a → P2 a → G) : G :=
  exX1 q fun a q => z a (q.1) (q.2)
theorem exE1_3 {α : Type} {P1 P2 P3 : α → Prop} {G : Prop} (q : ∃ a, P1 a ∧ P2 a ∧ P3 a) (z : ∀ a, P1 a → P2 a → P3 a → G) : G :=
  exX1 q fun a q => z a (q.1) (q.2.1) (q.2.2)
theorem exE2_2 {α β : Type} {P1 P2 : α → β → Prop} {G : Prop} (q : ∃ a b, P1 a b ∧ P2 a b) (z : ∀ a b, P1 a b → P2 a b → G) : G :=
  exX2 q fun a b q => z a b (q.1) (q.2)
theorem exE2_3 {α β : Type} {P1 P2 P3 : α → β → Prop} {G : Prop} (q : ∃ a b, P1 a b ∧ P2 a b ∧ P3 a b) (z : ∀ a b, P1 a b → P2 a b → P3 a b → G) : G :=
  exX2 q fun a b q => z a b (q.1) (q.2.1) (q.2.2)
theorem exE3_3 {α β γ : Type} {P1 P2 P3 : α → β → γ → Prop} {G : Prop} (q : ∃ a b c, P1 a b c ∧ P2 a b c ∧ P3 a b c) (z : ∀ a b c, P1 a b c → P2 a b c → P3 a b c → G) : G :=
  exX3 q fun a b c q => z a b c (q.1) (q.2.1) (q.2.2)
theorem exE3_5 {α β γ : Type} {P1 P2 P3 P4 P5 : α → β → γ → Prop} {G : Prop} (q : ∃ a b c, P1 a b c ∧ P2 a b c ∧ P3 a b c ∧ P4 a b c ∧ P5 a b c) (z : ∀ a b c, P1 a b c → P2 a b c → P3 a b c → P4 a b c → P5 a b c → G) : G :=
  exX3 q fun a b c q => z a b c (q.1) (q.2.1) (q.2.2.1) (q.2.2.2.1) (q.2.2.2.2)
theorem exE4_4 {α β γ δ : Type} {P1 P2 P3 P4 : α → β → γ → δ → Prop} {G : Prop} (q : ∃ a b c d, P1 a b c d ∧ P2 a b c d ∧ P3 a b c d ∧ P4 a b c d) (z : ∀ a b c d, P1 a b c d → P2 a b c d → P3 a b c d → P4 a b c d → G) : G :=
  exX4 q fun a b c d q => z a b c d (q.1) (q.2.1) (q.2.2.1) (q.2.2.2)
theorem exE4_5 {α β γ δ : Type} {P1 P2 P3 P4 P5 : α → β → γ → δ → Prop} {G : Prop} (q : ∃ a b c d, P1 a b c d ∧ P2 a b c d ∧ P3 a b c d ∧ P4 a b c d ∧ P5 a b c d) (z : ∀ a b c d, P1 a b c d → P2 a b c d → P3 a b c d → P4 a b c d → P5 a b c d → G) : G :=
  exX4 q fun a b c d q => z a b c d (q.1) (q.2.1) (q.2.2.1) (q.2.2.2.1) (q.2.2.2.2)
theorem exX5 {α β γ δ ε : Type} {P : α → β → γ → δ → ε → Prop} {G : Prop} (q : ∃ a b c d e, P a b c d e) (z : ∀ a b c d e, P a b c d e → G) : G :=
  exX4 q fun a b c d q => exX1 q (z a b c d)
theorem exE5_4 {α β γ δ ε : Type} {P1 P2 P3 P4 : α → β → γ → δ → ε → Prop} {G : Prop} (q : ∃ a b c d e, P1 a b c d e ∧ P2 a b c d e ∧ P3 a b c d e ∧ P4 a b c d e) (z : ∀ a b c d e, P1 a b c d e → P2 a b c d e → P3 a b c d e → P4 a b c d e → G) : G :=
  exX5 q fun a b c d e q => z a b c d e (q.1) (q.2.1) (q.2.2.1) (q.2.2.2)
theorem exX6 {α β γ δ ε ζ : Type} {P : α → β → γ → δ → ε → ζ → Prop} {G : Prop} (q : ∃ a b c d e f, P a b c d e f) (z : ∀ a b c d e f, P a b c d e f → G) : G :=
  exX4 q fun a b c d q => exX2 q (z a b c d)
theorem exE6_4 {α β γ δ ε ζ : Type} {P1 P2 P3 P4 : α → β → γ → δ → ε → ζ → Prop} {G : Prop} (q : ∃ a b c d e f, P1 a b c d e f ∧ P2 a b c d e f ∧ P3 a b c d e f ∧ P4 a b c d e f) (z : ∀ a b c d e f, P1 a b c d e f → P2 a b c d e f → P3 a b c d e f → P4 a b c d e f → G) : G :=
  exX6 q fun a b c d e f q => z a b c d e f (q.1) (q.2.1) (q.2.2.1) (q.2.2.2)
theorem exE7_5 {α β γ δ ε ζ η : Type} {P1 P2 P3 P4 P5 : α → β → γ → δ → ε → ζ → η → Prop} {G : Prop} (q : ∃ a b c d e f g, P1 a b c d e f g ∧ P2 a b c d e f g ∧ P3 a b c d e f g ∧ P4 a b c d e f g ∧ P5 a b c d e f g) (z : ∀ a b c d e f g, P1 a b c d e f g → P2 a b c d e f g → P3 a b c d e f g → P4 a b c d e f g → P5 a b c d e f g → G) : G :=
  exX7 q fun a b c d e f g q => z a b c d e f g (q.1) (q.2.1) (q.2.2.1) (q.2.2.2.1) (q.2.2.2.2)
theorem exX8 {α β γ δ ε ζ η θ : Type} {P : α → β → γ → δ → ε → ζ → η → θ → Prop} {G : Prop} (q : ∃ a b c d e f g h, P a b c d e f g h) (z : ∀ a b c d e f g h, P a b c d e f g h → G) : G :=
  exX4 q fun a b c d q => exX4 q (z a b c d)
theorem exE8_4 {α β γ δ ε ζ η θ : Type} {P1 P2 P3 P4 : α → β → γ → δ → ε → ζ → η → θ → Prop} {G : Prop} (q : ∃ a b c d e f g h, P1 a b c d e f g h ∧ P2 a b c d e f g h ∧ P3 a b c d e f g h ∧ P4 a b c d e f g h) (z : ∀ a b c d e f g h, P1 a b c d e f g h → P2 a b c d e f g h → P3 a b c d e f g h → P4 a b c d e f g h → G) : G :=
  exX8 q fun a b c d e f g h q => z a b c d e f g h (q.1) (q.2.1) (q.2.2.1) (q.2.2.2)
theorem exX9 {α β γ δ ε ζ η θ ι : Type} {P : α → β → γ → δ → ε → ζ → η → θ → ι → Prop} {G : Prop} (q : ∃ a b c d e f g h i, P a b c d e f g h i) (z : ∀ a b c d e f g h i, P a b c d e f g h i → G) : G :=
  exX4 q fun a b c d q => exX5 q (z a b c d)
theorem exE9_6 {α β γ δ ε ζ η θ ι : Type} {P1 P2 P3 P4 P5 P6 : α → β → γ → δ → ε → ζ → η → θ → ι → Prop} {G : Prop} (q : ∃ a b c d e f g h i, P1 a b c d e f g h i ∧ P2 a b c d e f g h i ∧ P3 a b c d e f g h i ∧ P4 a b c d e f g h i ∧ P5 a b c d e f g h i ∧ P6 a b c d e f g h i) (z : ∀ a b c d e f g h i, P1 a b c d e f g h i → P2 a b c d e f g h i → P3 a b c d e f g h i → P4 a b c d e f g h i → P5 a b c d e f g h i → P6 a b c d e f g h i → G) : G :=
  exX9 q fun a b c d e f g h i q => z a b c d e f g h i (q.1) (q.2.1) (q.2.2.1) (q.2.2.2.1) (q.2.2.2.2.1) (q.2.2.2.2.2)
theorem exE0_2 {P1 P2 : Prop} {G : Prop} (q : P1 ∧ P2) (z : P1 → P2 → G) : G :=
  z (q.1) (q.2)
theorem exE0_3 {P1 P2 P3 : Prop} {G : Prop} (q : P1 ∧ P2 ∧ P3) (z : P1 → P2 → P3 → G) : G :=
  z (q.1) (q.2.1) (q.2.2)
theorem exE0_4 {P1 P2 P3 P4 : Prop} {G : Prop} (q : P1 ∧ P2 ∧ P3 ∧ P4) (z : P1 → P2 → P3 → P4 → G) : G :=
  z (q.1) (q.2.1) (q.2.2.1) (q.2.2.2)
theorem exE0_5 {P1 P2 P3 P4 P5 : Prop} {G : Prop} (q : P1 ∧ P2 ∧ P3 ∧ P4 ∧ P5) (z : P1 → P2 → P3 → P4 → P5 → G) : G :=
  z (q.1) (q.2.1) (q.2.2.1) (q.2.2.2.1) (q.2.2.2.2)
theorem exI1 {α : Type} {P : α → Prop} (a : α) (q : P a) : ∃ a, P a := ⟨a, q⟩
theorem exI2 {α β : Type} {P : α → β → Prop} (a : α) (b : β) (q : P a b) : ∃ a b, P a b := ⟨a, b, q⟩
theorem exI3 {α β γ : Type} {P : α → β → γ → Prop} (a : α) (b : β) (c : γ) (q : P a b c) : ∃ a b c, P a b c := exI1 a (exI2 b c q)
theorem exI4 {α β γ δ : Type} {P : α → β → γ → δ → Prop} (a : α) (b : β) (c : γ) (d : δ) (q : P a b c d) : ∃ a b c d, P a b c d := exI1 a (exI3 b c d q)
theorem exI5 {α β γ δ ε : Type} {P : α → β → γ → δ → ε → Prop} (a : α) (b : β) (c : γ) (d : δ) (e : ε) (q : P a b c d e) : ∃ a b c d e, P a b c d e := exI4 a b c d (exI1 e q)
theorem exI6 {α β γ δ ε ζ : Type} {P : α → β → γ → δ → ε → ζ → Prop} (a : α) (b : β) (c : γ) (d : δ) (e : ε) (f : ζ) (q : P a b c d e f) : ∃ a b c d e f, P a b c d e f := exI4 a b c d (exI2 e f q)
theorem exI8 {α β γ δ ε ζ η θ : Type} {P : α → β → γ → δ → ε → ζ → η → θ → Prop} (a : α) (b : β) (c : γ) (d : δ) (e : ε) (f : ζ) (g : η) (h : θ) (q : P a b c d e f g h) : ∃ a b c d e f g h, P a b c d e f g h := exI4 a b c d (exI4 e f g h q)
theorem exI9 {α β γ δ ε ζ η θ ι : Type} {P : α → β → γ → δ → ε → ζ → η → θ → ι → Prop} (a : α) (b : β) (c : γ) (d : δ) (e : ε) (f : ζ) (g : η) (h : θ) (i : ι) (q : P a b c d e f g h i) : ∃ a b c d e f g h i, P a b c d e f g h i := exI4 a b c d (exI5 e f g h i q)
theorem exI7 {α β γ δ ε ζ η : Type} {P : α → β → γ → δ → ε → ζ → η → Prop} (a : α) (b : β) (c : γ) (d : δ) (e : ε) (f : ζ) (g : η) (q : P a b c d e f g) : ∃ a b c d e f g, P a b c d e f g := exI4 a b c d (exI3 e f g q)
theorem exI11 {α β γ δ ε ζ η θ ι κ μ : Type} {P : α → β → γ → δ → ε → ζ → η → θ → ι → κ → μ → Prop} (a : α) (b : β) (c : γ) (d : δ) (e : ε) (f : ζ) (g : η) (h : θ) (i : ι) (j : κ) (k : μ) (q : P a b c d e f g h i j k) : ∃ a b c d e f g h i j k, P a b c d e f g h i j k := exI4 a b c d (exI7 e f g h i j k q)
theorem exI15 {α β γ δ ε ζ η θ ι κ μ ν ξ ρ σ : Type} {P : α → β → γ → δ → ε → ζ → η → θ → ι → κ → μ → ν → ξ → ρ → σ → Prop} (a : α) (b : β) (c : γ) (d : δ) (e : ε) (f : ζ) (g : η) (h : θ) (i : ι) (j : κ) (k : μ) (l : ν) (m : ξ) (n : ρ) (o : σ) (q : P a b c d e f g h i j k l m n o) : ∃ a b c d e f g h i j k l m n o, P a b c d e f g h i j k l m n o := exI4 a b c d (exI11 e f g h i j k l m n o q)
theorem listStep {α : Type} {G : List α → Prop} {l : List α} {n : Nat} (h : l.length = n + 1) (z : ∀ a r, r.length = n → G (a :: r)) : G l := by
  cases l with
  | nil => cases h
  | cons a r => exact z a r (Nat.succ.inj h)
theorem list4 {α : Type} {G : List α → Prop} {l : List α} {n : Nat} (h : l.length = n + 4) (z : ∀ a b c d r, r.length = n → G (a :: b :: c :: d :: r)) : G l :=
  listStep h fun a _ h => listStep (G := fun r => G (a :: r)) h fun b _ h => listStep (G := fun r => G (a :: b :: r)) h fun c _ h => listStep (G := fun r => G (a :: b :: c :: r)) h fun d r h => z a b c d r h
theorem list16 {α : Type} {G : List α → Prop} {l : List α} (h : l.length = 16) (z : ∀ a0 a1 a2 a3 a4 a5 a6 a7 a8 a9 a10 a11 a12 a13 a14 a15, G [a0, a1, a2, a3, a4, a5, a6, a7, a8, a9, a10, a11, a12, a13, a14, a15]) : G l :=
  list4 h fun a0 a1 a2 a3 _ h => list4 (G := fun r => G (a0 :: a1 :: a2 :: a3 :: r)) h fun a4 a5 a6 a7 _ h => list4 (G := fun r => G (a0 :: a1 :: a2 :: a3 :: a4 :: a5 :: a6 :: a7 :: r)) h fun a8 a9 a10 a11 r h =>
    list4 (G := fun r => G (a0 :: a1 :: a2 :: a3 :: a4 :: a5 :: a6 :: a7 :: a8 :: a9 :: a10 :: a11 :: r)) h fun a12 a13 a14 a15 r h => by
      rw [List.eq_nil_of_length_eq_zero h]
      exact z a0 a1 a2 a3 a4 a5 a6 a7 a8 a9 a10 a11 a12 a13 a14 a15
end
section
noncomputable section
/-! the head: the top's run, statement by statement -/
abbrev tpw : Program := PySem.Challenge.pw_wv0006_01
def tEnv : Env := { scope := tpw.main.scope, locals := mainNs, globals := mainNs, cells := [], code := .ref 13, frame := some 14 }
def tBody : List Stmt := behindTheImports tpw
def tCode : Code := .body tBody tEnv
def q0 : Pos := ⟨0, 0, 0, 0⟩
abbrev tAnn : Option Value := some (.ref 6)
abbrev twGo := @PySem.W.Fast.tw10295753902157049106
abbrev twRun := @PySem.W.Fast.tw10110043849684766642
abbrev twTab := PySem.W.Fast.tw14364793385576792824
abbrev twTop := @PySem.W.Fast.tw15667345088766844465
abbrev twDen := @PySem.W.Fast.tw11892475500146522536
theorem twDen_eq : @denote = twDen := PySem.W.Fast.te11892475500146522536
theorem twGo_eq : @segGoT = twGo := PySem.W.Fast.te10295753902157049106
theorem twRun_eq : @segRunT = twRun := PySem.W.Fast.te10110043849684766642
theorem twTab_eq : treeTable = twTab := PySem.W.Fast.te14364793385576792824
theorem twTop_eq : @topGo = twTop := PySem.W.Fast.te15667345088766844465
/-- a tree of the objects -/
def btOf (os : Array Obj) : Nat → Nat → Nat → BT
  | 0, _, _ => .nil
  | f + 1, a, b => match os[b]? with
    | some o => .node o (btOf os f (2 * a) (a + b)) (btOf os f (2 * a) (2 * a + b))
    | none => .nil
def sh0 (w : World) (os : OsState) : Shared := ⟨boot_heap w.params, Array.mk [], boot_drawn, boot_toks, os⟩
def preR (w : World) (os : OsState) : Option (Shared × Thread) := twTop twTab tpw w 11 tAnn 12 (sh0 w os) (topStub tpw)
def sh1 (w : World) (os : OsState) : Shared := match preR w os with
  | some (s, _) => s
  | none => sh0 w os
theorem preR_ok (w : World) (os : OsState) : preR w os = some (sh1 w os, ⟨twDen twTab tCode, tCode, q0, [topFrame q0]⟩) := by kernel_rfl
def st1 (w : World) (os : OsState) : SharedT := ⟨btOf (sh1 w os).heap.objs 8 1 0, 15, (sh1 w os).heap.life, (sh1 w os).gens, (sh1 w os).drawn, (sh1 w os).toks, os⟩
theorem st1_abs (w : World) (os : OsState) : sh1 w os = (st1 w os).abs := by kernel_rfl
def runT (w : World) (s : SharedT) (t : Thread) (n : Nat) : Option (Flow × SharedT × Code × Pos) := twRun twTab tpw w 11 tAnn 1 n s t
def goT (w : World) (s : SharedT) (t : Thread) (n : Nat) : Option (SharedT × Thread) := twGo twTab tpw w 11 tAnn 1 n s t
def th0 (l : List Stmt) (pos : Pos) : Thread := piecesOf l tEnv tCode pos [topFrame q0]
def outS (d : SharedT) : Option (Flow × SharedT × Code × Pos) → SharedT
  | some (_, s, _, _) => s
  | none => d
def outG (d : SharedT) : Option (SharedT × Thread) → SharedT
  | some (s, _) => s
  | none => d
def outT (d : Thread) : Option (SharedT × Thread) → Thread
  | some (_, t) => t
  | none => d
def folA : String := "comprehension-iter-twice"
def folB : String := "special-get-raises"
def fixW (w : World) : World := (w.withFollow folA true).withFollow folB true
/-! a stretch of the run that ends a statement -/
def Ends (b : Nat) (w : World) (s : SharedT) (t : Thread) (r : SharedT) (p : Pos) : Prop := ∃ N, N ≤ b ∧ segRun treeTable tpw w 11 tAnn 1 N s.abs t = some (.next, r.abs, tCode, p)
theorem ends_run {n : Nat} {w : World} {s r : SharedT} {t : Thread} {p : Pos} (h : runT w s t n = some (.next, r, tCode, p)) : Ends n w s t r p :=
  ⟨n, Nat.le_refl _, segRun_of (by rw [twRun_eq, twTab_eq]; exact h)⟩
theorem ends_go {n b : Nat} {w : World} {s s' r : SharedT} {t t' : Thread} {p : Pos} (h : goT w s t n = some (s', t')) (k : Ends b w s' t' r p) : Ends (n + b) w s t r p :=
  let ⟨N, hN, e⟩ := k
  ⟨n + N, Nat.add_le_add_left hN n, seg_go (segGo_of (by rw [twGo_eq, twTab_eq]; exact h)) e⟩
theorem ends_le {b b' : Nat} {w : World} {s r : SharedT} {t : Thread} {p : Pos} (h : Ends b w s t r p) (hb : b ≤ b') : Ends b' w s t r p := let ⟨N, hN, e⟩ := h; ⟨N, Nat.le_trans hN hb, e⟩
/-! statements 0 to 2 -/
def pA : Pos := ⟨10, 0, 36, 41⟩
def lA : List Stmt := (tBody.drop 0).take 3
def sA (w : World) (os : OsState) : SharedT := outS (st1 w os) (runT w (st1 w os) (th0 lA q0) 69)
/-! the comprehension -/
def l1 : List Stmt := (tBody.drop 3).take 1
def hx (k : Nat) : Nat := match Nat.blt k 10 with | true => 48 + k | false => 55 + k
def qt (j : Nat) : Str := ⟨#[61, hx (j / 16), hx (j % 16)]⟩
def qEl (j : Nat) : Value := .str (qt j) (212 + 4 * j)
def c1Obj (i : Nat) : Obj := { cls := .type "list", data := .seq ((List.range i).map qEl).toArray i }
def i1Obj (i : Nat) : Obj := { cls := .type "range_iterator", data := .fields #[.int (i : Nat) 0, .int (256 - i : Nat) 0, .int 1 0] }
def f1Obj (P : Params) (i : Nat) : Obj := { cls := .type "dict", data := .dict #[⟨PyData.keyHash P "c", .str "c" 210, .int (i - 1 : Nat) (209 + 4 * (i - 1))⟩] 1 }
def r1Obj : Obj := { cls := .type "range", data := .fields #[.int 0 207, .int 256 206, .int 1 208] }
def st2 (i : Nat) (w : World) (os : OsState) : SharedT := let s := sA w os
  ⟨((((s.tree.ins 27 r1Obj).ins 28 (i1Obj i)).ins 29 (c1Obj i)).ins 30 (f1Obj w.params i)), 31, s.life, s.gens, s.drawn, 209 + 4 * i, os⟩
def thr1 (w : World) (os : OsState) : Thread := outT (th0 l1 pA) (goT (fixW w) (sA w os) (th0 l1 pA) 79)
theorem go1t (os : OsState) : ∀ w : World, goT (w.withFollow folA true) (sA (w.withFollow folA true) os) (th0 l1 pA) 79 = some (st2 1 (w.withFollow folA true) os, thr1 (w.withFollow folA true) os) := by
  refine byRow2 folB (fun w => ?_) (fun w => ?_) <;> kernel_rfl
theorem go1f (os : OsState) : ∀ w : World, goT (w.withFollow folA false) (sA (w.withFollow folA false) os) (th0 l1 pA) 89 = some (st2 1 (w.withFollow folA false) os, thr1 (w.withFollow folA false) os) := by
  refine byRow2 folB (fun w => ?_) (fun w => ?_) <;> kernel_rfl
theorem go1s1 (os : OsState) (w : World) : goT w (st2 1 w os) (thr1 w os) 1887 = some (st2 52 w os, thr1 w os) := by
  kernel_rfl
theorem go1s52 (os : OsState) (w : World) : goT w (st2 52 w os) (thr1 w os) 1887 = some (st2 103 w os, thr1 w os) := by
  kernel_rfl
theorem go1s103 (os : OsState) (w : World) : goT w (st2 103 w os) (thr1 w os) 1887 = some (st2 154 w os, thr1 w os) := by
  kernel_rfl
theorem go1s154 (os : OsState) (w : World) : goT w (st2 154 w os) (thr1 w os) 1887 = some (st2 205 w os, thr1 w os) := by
  kernel_rfl
def pB : Pos := ⟨37, 0, 37, 11⟩
def sB (w : World) (os : OsState) : SharedT := outS (sA w os) (runT w (st2 256 w os) (thr1 w os) 28)
theorem go1e (os : OsState) (w : World) : runT w (st2 205 w os) (thr1 w os) 1915 = some (.next, sB w os, tCode, pB) := by
  kernel_rfl
theorem end1s (w : World) (os : OsState) : Ends 9500 w (st2 1 w os) (thr1 w os) (sB w os) pB := ends_le (ends_go (go1s1 os w) (ends_go (go1s52 os w) (ends_go (go1s103 os w) (ends_go (go1s154 os w) (ends_run (go1e os w)))))) (by decide)
theorem end1 (os : OsState) : ∀ w : World, Ends 9600 w (sA w os) (th0 l1 pA) (sB w os) pB :=
  byRow2 folA (fun w => ends_le (ends_go (go1f os w) (end1s _ os)) (by decide)) (fun w => ends_le (ends_go (go1t os w) (end1s _ os)) (by decide))
/-! statements 4 to 10 -/
def pC : Pos := ⟨44, 0, 44, 8⟩
def lC : List Stmt := (tBody.drop 4).take 7
def sC (w : World) (os : OsState) : SharedT := outS (sB w os) (runT w (sB w os) (th0 lC pB) 109)
/-! the header's loop -/
def l2 : List Stmt := (tBody.drop 11).take 1
def setNth : Nat → (DictEntry → DictEntry) → List DictEntry → List DictEntry
  | _, _, [] => []
  | 0, f, e :: r => f e :: r
  | n + 1, f, e :: r => e :: setNth n f r
def upC (v : Value) (o : Obj) : Obj := match o with
  | ⟨c, d, .dict es n, sl⟩ => ⟨c, d, .dict (setNth 18 (fun e => ⟨e.hash, e.key, v⟩) es.toList).toArray n, sl⟩
  | o => o
def upI (i : Nat) (o : Obj) : Obj := match o with
  | ⟨c, d, .fields vs, sl⟩ => ⟨c, d, .fields #[vs.getD 0 .none, .int (i : Nat) 0], sl⟩
  | o => o
def upL (el : Nat → Value) (o : Obj) : Obj := match o with
  | ⟨c, d, .seq _ n, sl⟩ => ⟨c, d, .seq ((List.range 256).map el).toArray n, sl⟩
  | o => o
def btw (a b j : Nat) : Bool := match Nat.ble a j with | true => Nat.ble j b | false => false
def posH (j : Nat) : Nat := match btw 97 122 j with
  | true => 5 + (j - 97)
  | false => match btw 65 90 j with
    | true => 31 + (j - 65)
    | false => match btw 48 57 j with
      | true => 57 + (j - 48)
      | false => match j with | 45 => 0 | 33 => 1 | 42 => 2 | 43 => 3 | 47 => 4 | _ => 1000
def chH (k : Nat) : Nat := match Nat.blt k 5 with
  | true => (match k with | 0 => 45 | 1 => 33 | 2 => 42 | 3 => 43 | _ => 47)
  | false => match Nat.blt k 31 with
    | true => 97 + (k - 5)
    | false => match Nat.blt k 57 with
      | true => 65 + (k - 31)
      | false => 48 + (k - 57)
def el (t : Nat) (pos : Nat → Nat) (i j : Nat) : Value := match Nat.blt (pos j) i with
  | true => .str ⟨#[j]⟩ (t + 3 * pos j)
  | false => qEl j
def sX2 (w : World) (os : OsState) : SharedT := outG (sC w os) (goT (fixW w) (sC w os) (th0 l2 pC) 89)
def st3 (i : Nat) (w : World) (os : OsState) : SharedT := let s := sX2 w os
  ⟨((s.tree.set 37 (upI i)).set 3 (upC (.int (chH (i - 1) : Nat) (1253 + 3 * (i - 1))))).set 34 (upL (el 1255 posH i)), 38, s.life, s.gens, s.drawn, 1253 + 3 * i, os⟩
def thr2 (w : World) (os : OsState) : Thread := outT (th0 l2 pC) (goT (fixW w) (sC w os) (th0 l2 pC) 89)
theorem go2s1 (os : OsState) (w : World) : goT w (st3 1 w os) (thr2 w os) 1485 = some (st3 34 w os, thr2 w os) := by
  kernel_rfl
def pD : Pos := ⟨45, 9, 45, 74⟩
def sD (w : World) (os : OsState) : SharedT := outS (sC w os) (runT w (st3 67 w os) (thr2 w os) 18)
theorem go2e (os : OsState) (w : World) : runT w (st3 34 w os) (thr2 w os) 1503 = some (.next, sD w os, tCode, pD) := by
  kernel_rfl
/-! statement 12 -/
def pE : Pos := ⟨47, 0, 47, 28⟩
def lE : List Stmt := (tBody.drop 12).take 1
def sE (w : World) (os : OsState) : SharedT := outS (sD w os) (runT w (sD w os) (th0 lE pD) 25)
/-! the body's loop -/
def l3 : List Stmt := (tBody.drop 13).take 1
def posB (j : Nat) : Nat := match btw 32 60 j with
  | true => j - 32
  | false => match btw 62 126 j with
    | true => j - 33
    | false => match j with | 9 => 94 | _ => 1000
def chB (k : Nat) : Nat := match Nat.blt k 29 with
  | true => 32 + k
  | false => match Nat.blt k 94 with
    | true => 33 + k
    | false => 9
def sX3 (w : World) (os : OsState) : SharedT := outG (sE w os) (goT (fixW w) (sE w os) (th0 l3 pE) 55)
def st4 (i : Nat) (w : World) (os : OsState) : SharedT := let s := sX3 w os
  ⟨((s.tree.set 40 (upI i)).set 3 (upC (.int (chB (i - 1) : Nat) (1458 + 3 * (i - 1))))).set 36 (upL (el 1460 posB i)), 41, s.life, s.gens, s.drawn, 1458 + 3 * i, os⟩
def thr3 (w : World) (os : OsState) : Thread := outT (th0 l3 pE) (goT (fixW w) (sE w os) (th0 l3 pE) 55)
theorem go3s1 (os : OsState) (w : World) : goT w (st4 1 w os) (thr3 w os) 1440 = some (st4 33 w os, thr3 w os) := by
  kernel_rfl
theorem go3s33 (os : OsState) (w : World) : goT w (st4 33 w os) (thr3 w os) 1440 = some (st4 65 w os, thr3 w os) := by
  kernel_rfl
def pF : Pos := ⟨48, 9, 48, 110⟩
def sF (w : World) (os : OsState) : SharedT := outS (sE w os) (runT w (st4 95 w os) (thr3 w os) 18)
theorem go3e (os : OsState) (w : World) : runT w (st4 65 w os) (thr3 w os) 1368 = some (.next, sF w os, tCode, pF) := by
  kernel_rfl
/-! statements 14 to 35 -/
def pG : Pos := ⟨54, 0, 54, 23⟩
def lG : List Stmt := (tBody.drop 14).take 3
def sG (w : World) (os : OsState) : SharedT := outS (sF w os) (runT w (sF w os) (th0 lG pF) 86)
def pH : Pos := ⟨55, 9, 55, 16⟩
def lH : List Stmt := (tBody.drop 17).take 1
def sH (w : World) (os : OsState) : SharedT := outS (sG w os) (runT (fixW w) (sG w os) (th0 lH pG) 118)
def pI : Pos := ⟨86, 0, 90, 24⟩
def lI : List Stmt := (tBody.drop 18).take 7
def sI (w : World) (os : OsState) : SharedT := outS (sH w os) (runT w (sH w os) (th0 lI pH) 352)
def pJ : Pos := ⟨152, 0, 179, 51⟩
def lJ : List Stmt := (tBody.drop 25).take 11
def sJ (w : World) (os : OsState) : SharedT := outS (sI w os) (runT w (sI w os) (th0 lJ pI) 299)
def mkW (P : Params) : World := ⟨fun _ _ => 0, P⟩
def hF (P : Params) : Heap := (sJ (mkW P) {}).abs.heap
/-! the starts of the loops and one statement ask the world's one open question: each answer is run once -/
theorem rows (os : OsState) : ∀ w : World, (goT w (sC w os) (th0 l2 pC) 89, goT w (sE w os) (th0 l3 pE) 55, runT w (sG w os) (th0 lH pG) 118) =
    (some (st3 1 w os, thr2 w os), some (st4 1 w os, thr3 w os), some (.next, sH w os, tCode, pH)) := by
  refine byRow2 folB (fun w => ?_) (fun w => ?_) <;> kernel_rfl
theorem go2a (os : OsState) (w : World) : goT w (sC w os) (th0 l2 pC) 89 = some (st3 1 w os, thr2 w os) := (Prod.mk.inj (rows os w)).1
theorem go3a (os : OsState) (w : World) : goT w (sE w os) (th0 l3 pE) 55 = some (st4 1 w os, thr3 w os) := (Prod.mk.inj (Prod.mk.inj (rows os w)).2).1
theorem runH (os : OsState) (w : World) : runT w (sG w os) (th0 lH pG) 118 = some (.next, sH w os, tCode, pH) := (Prod.mk.inj (Prod.mk.inj (rows os w)).2).2
theorem end2 (w : World) (os : OsState) : Ends 3100 w (sC w os) (th0 l2 pC) (sD w os) pD := ends_le (ends_go (go2a os w) (ends_go (go2s1 os w) (ends_run (go2e os w)))) (by decide)
theorem end3 (w : World) (os : OsState) : Ends 4400 w (sE w os) (th0 l3 pE) (sF w os) pF := ends_le (ends_go (go3a os w) (ends_go (go3s1 os w) (ends_go (go3s33 os w) (ends_run (go3e os w))))) (by decide)
/-! the other stretches, in one equation: what comes before is run once -/
theorem runs (w : World) (os : OsState) : (runT w (st1 w os) (th0 lA q0) 69, runT w (sB w os) (th0 lC pB) 109, runT w (sD w os) (th0 lE pD) 25, runT w (sF w os) (th0 lG pF) 86, runT w (sH w os) (th0 lI pH) 352, runT w (sI w os) (th0 lJ pI) 299, (sJ w os).abs) =
    (some (.next, sA w os, tCode, pA), some (.next, sC w os, tCode, pC), some (.next, sE w os, tCode, pE), some (.next, sG w os, tCode, pG), some (.next, sI w os, tCode, pI), some (.next, sJ w os, tCode, pJ), ⟨hF w.params, Array.mk [], boot_drawn, 1910, os⟩) := by kernel_rfl
theorem runA (w : World) (os : OsState) : runT w (st1 w os) (th0 lA q0) 69 = some (.next, sA w os, tCode, pA) := (Prod.mk.inj (runs w os)).1
theorem runC (w : World) (os : OsState) : runT w (sB w os) (th0 lC pB) 109 = some (.next, sC w os, tCode, pC) := (Prod.mk.inj (Prod.mk.inj (runs w os)).2).1
theorem runE (w : World) (os : OsState) : runT w (sD w os) (th0 lE pD) 25 = some (.next, sE w os, tCode, pE) := (Prod.mk.inj (Prod.mk.inj (Prod.mk.inj (runs w os)).2).2).1
theorem runG (w : World) (os : OsState) : runT w (sF w os) (th0 lG pF) 86 = some (.next, sG w os, tCode, pG) := (Prod.mk.inj (Prod.mk.inj (Prod.mk.inj (Prod.mk.inj (runs w os)).2).2).2).1
theorem runI (w : World) (os : OsState) : runT w (sH w os) (th0 lI pH) 352 = some (.next, sI w os, tCode, pI) := (Prod.mk.inj (Prod.mk.inj (Prod.mk.inj (Prod.mk.inj (Prod.mk.inj (runs w os)).2).2).2).2).1
theorem runJ (w : World) (os : OsState) : runT w (sI w os) (th0 lJ pI) 299 = some (.next, sJ w os, tCode, pJ) := (Prod.mk.inj (Prod.mk.inj (Prod.mk.inj (Prod.mk.inj (Prod.mk.inj (Prod.mk.inj (runs w os)).2).2).2).2).2).1
theorem sJ_eq (w : World) (os : OsState) : (sJ w os).abs = ⟨hF w.params, Array.mk [], boot_drawn, 1910, os⟩ := (Prod.mk.inj (Prod.mk.inj (Prod.mk.inj (Prod.mk.inj (Prod.mk.inj (Prod.mk.inj (runs w os)).2).2).2).2).2).2
end
end
section
/-! sums and orders, once each -/
theorem om0 : ∀ {a : Nat}, (0 : Int) ≤ (↑a : Int) := by intros; simp_all +arith
theorem om1 : ∀ {a : Nat}, a < (4 : Nat) → (↑a : Int) < (2 : Int) ^ (63 : Nat) := by first | (intros; refine Nat.lt_of_lt_of_le ?_ ?_ <;> first | assumption | decide) | (intros; exact Nat.lt_of_lt_of_le (by assumption) (by decide)) | (intros; exact Nat.le_trans (by assumption) (by decide)) | (intros; exact Nat.le_trans (by assumption) (by assumption)) | (intros; exact Nat.lt_of_le_of_lt (by assumption) (by decide)) | (intros; exact Int.lt_of_lt_of_le (by assumption) (by decide)) | (intros; exact Int.le_trans (by assumption) (by decide)) | (intros; exact Int.lt_of_lt_of_le (Int.ofNat_lt.mpr (by assumption)) (by decide)) | (intros; omega)
theorem om2 : ∀ {a b : Nat}, a = (4 : Nat) → b < (4 : Nat) → b < a := by first | (intros; subst_vars; first | assumption | decide | exact Nat.le_refl _ | rfl | (simp (config := {decide := true}); done)) | (intros; omega)
theorem om3 : ∀ {a b : Nat}, a ≤ b → a ≤ b + (1 : Nat) := by intros; lia
theorem om4 : ∀ {a b c : Nat}, a + (b + (1 : Nat)) = c → a + (1 : Nat) + b = c := by intros; simp_all +arith
theorem om5 : ∀ {a : Nat}, a < (4 : Nat) → a = (0 : Nat) ∨ a = (1 : Nat) ∨ a = (2 : Nat) ∨ a = (3 : Nat) := by intros; lia
theorem om6 : ∀ {a b : Nat}, a = b → a ≤ b := by first | (intros; subst_vars; first | assumption | decide | exact Nat.le_refl _ | rfl | (simp (config := {decide := true}); done)) | (intros; omega)
theorem om7 : ∀ {a : Nat}, a = (61 : Nat) → a < (128 : Nat) := by first | (intros; subst_vars; first | assumption | decide | exact Nat.le_refl _ | rfl | (simp (config := {decide := true}); done)) | (intros; omega)
theorem om8 : ∀ {a b c : Nat}, a + (b + (1 : Nat)) = c → a < c := by first | (intros; subst_vars; first | assumption | decide | exact Nat.le_refl _ | rfl | (simp (config := {decide := true}); done)) | (intros; omega)
theorem om9 : ∀ {a b : Nat}, a ≤ b → b < a → False := by intros; lia
theorem om10 : ∀ {a : Nat}, a < (256 : Nat) → a / (16 : Nat) < (16 : Nat) := by intros; lia
theorem om11 : ∀ {a : Nat}, a % (16 : Nat) < (16 : Nat) := by intros; grind
theorem om12 : ∀ {a : Nat}, a + (1 : Nat) < a → False := by intros; simp_all +arith
theorem om13 : ∀ {a b c : Nat}, a = b → c ≤ b → a < c → False := by intros; lia
theorem om14 : ∀ {a b c : Nat}, a ≤ b → c < a → b ≠ c := by intros; lia
theorem om15 : ∀ {a b : Nat}, a ≤ b → a + (1 : Nat) ≤ b + (1 : Nat) := by intros; simp_all +arith
theorem om16 : ∀ {a : Nat}, a = (4 : Nat) → a ≤ (4 : Nat) := by first | (intros; subst_vars; first | assumption | decide | exact Nat.le_refl _ | rfl | (simp (config := {decide := true}); done)) | (intros; omega)
theorem om17 : ∀ {a b : Nat}, a ≤ b → a ≤ b := by intros; omega
theorem om18 : ∀ {a : Nat}, a + (12 : Nat) + (2 : Nat) ≤ a + (14 : Nat) := by first | (intros; subst_vars; first | assumption | decide | exact Nat.le_refl _ | rfl | (simp (config := {decide := true}); done)) | (intros; omega)
theorem om19 : ∀ {a : Nat}, a = (44 : Nat) → a < (128 : Nat) := by first | (intros; subst_vars; first | assumption | decide | exact Nat.le_refl _ | rfl | (simp (config := {decide := true}); done)) | (intros; omega)
theorem om20 : ∀ {a : Nat}, a = (44 : Nat) ∨ a = (32 : Nat) → a < (128 : Nat) := by intros; lia
theorem om21 : ∀ {a : Int}, (0 : Int) < a → (0 : Int) ≤ a := by intros; lia
theorem om22 : ∀ {a b c : Nat}, a < b → b ≤ c → a < c := by first | (intros; refine Nat.lt_of_lt_of_le ?_ ?_ <;> first | assumption | decide) | (intros; exact Nat.lt_of_lt_of_le (by assumption) (by decide)) | (intros; exact Nat.le_trans (by assumption) (by decide)) | (intros; exact Nat.le_trans (by assumption) (by assumption)) | (intros; exact Nat.lt_of_le_of_lt (by assumption) (by decide)) | (intros; exact Int.lt_of_lt_of_le (by assumption) (by decide)) | (intros; exact Int.le_trans (by assumption) (by decide)) | (intros; exact Int.lt_of_lt_of_le (Int.ofNat_lt.mpr (by assumption)) (by decide)) | (intros; omega)
theorem om23 : ∀ {a : Int}, (0 : Int) < a → a ≠ (0 : Int) := by intros; lia
theorem om24 : ∀ {a : Nat}, a ≤ (1000 : Nat) → a ≤ (16777216 : Nat) := by first | (intros; refine Nat.lt_of_lt_of_le ?_ ?_ <;> first | assumption | decide) | (intros; exact Nat.lt_of_lt_of_le (by assumption) (by decide)) | (intros; exact Nat.le_trans (by assumption) (by decide)) | (intros; exact Nat.le_trans (by assumption) (by assumption)) | (intros; exact Nat.lt_of_le_of_lt (by assumption) (by decide)) | (intros; exact Int.lt_of_lt_of_le (by assumption) (by decide)) | (intros; exact Int.le_trans (by assumption) (by decide)) | (intros; exact Int.lt_of_lt_of_le (Int.ofNat_lt.mpr (by assumption)) (by decide)) | (intros; omega)
theorem om25 : ∀ {a : Nat}, a = (16 : Nat) → a ≤ (1000000 : Nat) := by first | (intros; subst_vars; first | assumption | decide | exact Nat.le_refl _ | rfl | (simp (config := {decide := true}); done)) | (intros; omega)
theorem om26 : ∀ {a : Nat}, a < (5 : Nat) → a = (0 : Nat) ∨ a = (1 : Nat) ∨ a = (2 : Nat) ∨ a = (3 : Nat) ∨ a = (4 : Nat) := by intros; lia
theorem om27 : ∀ {a : Nat}, a < (256 : Nat) → (↑a : Int) < (256 : Int) := by first | (intros; refine Nat.lt_of_lt_of_le ?_ ?_ <;> first | assumption | decide) | (intros; exact Nat.lt_of_lt_of_le (by assumption) (by decide)) | (intros; exact Nat.le_trans (by assumption) (by decide)) | (intros; exact Nat.le_trans (by assumption) (by assumption)) | (intros; exact Nat.lt_of_le_of_lt (by assumption) (by decide)) | (intros; exact Int.lt_of_lt_of_le (by assumption) (by decide)) | (intros; exact Int.le_trans (by assumption) (by decide)) | (intros; exact Int.lt_of_lt_of_le (Int.ofNat_lt.mpr (by assumption)) (by decide)) | (intros; omega)
theorem om28 : ∀ {a : Nat}, a = (32 : Nat) → a < (128 : Nat) := by first | (intros; subst_vars; first | assumption | decide | exact Nat.le_refl _ | rfl | (simp (config := {decide := true}); done)) | (intros; omega)
theorem om29 : ∀ {a : Nat}, a = (34 : Nat) → a < (128 : Nat) := by first | (intros; subst_vars; first | assumption | decide | exact Nat.le_refl _ | rfl | (simp (config := {decide := true}); done)) | (intros; omega)
theorem om30 : ∀ {a : Int}, (0 : Int) < a → a > (0 : Int) := by intros; omega
theorem om31 : ∀ {a b : Int}, a < b → (0 : Int) ≤ b - a - (1 : Int) := by intros; lia
theorem om32 : ∀ {a : Int}, (0 : Int) ≤ a → a < (100000 : Int) → -(2 : Int) ^ (63 : Nat) ≤ a ∧ a < (2 : Int) ^ (63 : Nat) := by intros; lia
theorem om33 : (0 : Int) ≤ (0 : Int) := by first | (intros; subst_vars; first | assumption | decide | exact Nat.le_refl _ | rfl | (simp (config := {decide := true}); done)) | (intros; omega)
theorem om34 : ∀ {a : Nat}, (↑a : Int) / (16 : Int) = (↑(a / (16 : Nat)) : Int) := by first | (intros; subst_vars; first | assumption | decide | exact Nat.le_refl _ | rfl | (simp (config := {decide := true}); done)) | (intros; omega)
theorem om35 : ∀ {a : Nat}, (↑a : Int) % (16 : Int) = (↑(a % (16 : Nat)) : Int) := by first | (intros; subst_vars; first | assumption | decide | exact Nat.le_refl _ | rfl | (simp (config := {decide := true}); done)) | (intros; omega)
theorem om36 : ∀ {a : Nat}, a + (1 : Nat) < a + (1 : Nat) → False := by intros; simp_all +arith
theorem om37 : ∀ {a b : Nat}, a + (0 : Nat) = b → b ≤ a := by first | (intros; subst_vars; first | assumption | decide | exact Nat.le_refl _ | rfl | (simp (config := {decide := true}); done)) | (intros; omega)
theorem om38 : ∀ {a : Nat}, (0 : Nat) + a = a := by intros; simp_all +arith
theorem om39 : ∀ {a b c : Nat}, a ≤ (100000 : Nat) → b = a → c ≤ b → c ≤ (16777216 : Nat) := by intros; lia
theorem om40 : ∀ {a b c d : Nat}, a ≤ b + c → b ≤ d + (1 : Nat) → a ≤ d + (c + (1 : Nat)) := by intros; lia
theorem om41 : ∀ {a b c d : Nat}, a ≤ (1000 : Nat) → b = c → c ≤ (0 : Nat) + min d a → b ≤ (16777216 : Nat) := by intros; grind
theorem om42 : ∀ {a : Nat}, (2 : Nat) ≤ a → (0 : Nat) < a := by intros; lia
theorem om43 : ∀ {a : Nat}, (2 : Nat) ≤ a → -(↑a : Int) ≤ (-1 : Int) := by intros; lia
theorem om44 : ∀ {a : Nat}, (0 : Int) ≤ (↑a : Int) % (5 : Int) := by intros; grind
theorem om45 : ∀ {a : Nat}, (↑a : Int) % (5 : Int) < (2 : Int) ^ (63 : Nat) := by intros; grind
theorem om46 : ∀ {a b : Nat}, a = (16 : Nat) → b < (4 : Nat) → min (4 : Nat) (a - (4 : Nat) * b) = (4 : Nat) := by intros; lia
theorem om47 : ∀ {a : Nat}, a = (4 : Nat) → (3 : Nat) < a := by intros; simp_all +arith
theorem om48 : ∀ {a : Nat}, a = (0 : Nat) ∨ a = (1 : Nat) ∨ a = (2 : Nat) ∨ a = (3 : Nat) ∨ a = (0 : Nat) → a < (4 : Nat) := by intros; lia
theorem om49 : ∀ {a b : Nat}, a < b → b ≠ a := by intros; lia
theorem om50 : ∀ {a b : Nat}, a < (4 : Nat) → b < (4 : Nat) → (4 : Nat) * a + b < (16 : Nat) := by intros; lia
theorem om51 : (0 : Int) ≤ (4 : Int) := by intros; simp_all +arith
theorem om52 : (4 : Int) < (2 : Int) ^ (63 : Nat) := by intros; simp_all +arith
theorem om53 : ∀ {a : Nat}, a = (92 : Nat) ∨ a = (34 : Nat) → a < (128 : Nat) := by intros; lia
theorem om54 : ∀ {a b : Nat}, a < b → a + (1 : Nat) + (b - (a + (1 : Nat))) = b := by intros; grind
theorem om55 : (-1 : Int) < (0 : Int) := by first | (intros; subst_vars; first | assumption | decide | exact Nat.le_refl _ | rfl | (simp (config := {decide := true}); done)) | (intros; omega)
theorem om56 : ∀ {a b c : Nat}, a ≤ b → b < c → a ≤ c := by intros; lia
theorem om57 : ∀ {a : Nat}, (77 : Nat) < a → a ≤ (1 : Nat) → False := by intros; lia
theorem om58 : ∀ {a : Nat}, (↑a : Int) - (0 : Int) - (1 : Int) + (1 : Int) = (↑a : Int) := by intros; simp_all +arith
theorem om59 : ∀ {a : Nat}, ¬(0 : Int) < (↑a : Int) → (0 : Int) = (↑a : Int) := by intros; simp_all +arith
theorem om60 : ∀ {a b c : Int}, (0 : Int) ≤ a → b < (100000 : Int) → (0 : Int) ≤ c → c ≤ b - a - (1 : Int) → (0 : Int) ≤ c + (1 : Int) ∧ c + (1 : Int) ≤ (100000 : Int) := by intros; lia
theorem om61 : (0 : Int) ≤ (0 : Int) ∧ (0 : Int) ≤ (100000 : Int) := by first | (intros; subst_vars; first | assumption | decide | exact Nat.le_refl _ | rfl | (simp (config := {decide := true}); done)) | (intros; omega)
theorem om62 : ∀ {a : Int}, (0 : Int) < a → a < (100000 : Int) → -(2 : Int) ^ (63 : Nat) ≤ a ∧ a < (2 : Int) ^ (63 : Nat) := by intros; lia
theorem om63 : ∀ {a : Int}, (0 : Int) ≤ a ∧ a ≤ (100000 : Int) → -(2 : Int) ^ (63 : Nat) ≤ a ∧ a < (2 : Int) ^ (63 : Nat) := by intros; lia
theorem om64 : ∀ {a b : Int}, (0 : Int) ≤ a → a < (100000 : Int) → (0 : Int) < b → b < (100000 : Int) → -(2 : Int) ^ (63 : Nat) ≤ a + (b - (1 : Int)) ∧ a + (b - (1 : Int)) < (2 : Int) ^ (63 : Nat) := by intros; lia
theorem om65 : (0 : Int) < (100000 : Int) := by intros; simp_all +arith
theorem om66 : ∀ {a : Nat}, a < (100000 : Nat) → (↑a : Int) < (100000 : Int) := by first | (intros; refine Nat.lt_of_lt_of_le ?_ ?_ <;> first | assumption | decide) | (intros; exact Nat.lt_of_lt_of_le (by assumption) (by decide)) | (intros; exact Nat.le_trans (by assumption) (by decide)) | (intros; exact Nat.le_trans (by assumption) (by assumption)) | (intros; exact Nat.lt_of_le_of_lt (by assumption) (by decide)) | (intros; exact Int.lt_of_lt_of_le (by assumption) (by decide)) | (intros; exact Int.le_trans (by assumption) (by decide)) | (intros; exact Int.lt_of_lt_of_le (Int.ofNat_lt.mpr (by assumption)) (by decide)) | (intros; omega)
theorem om67 : (0 : Int) < (1 : Int) := by intros; simp_all +arith
theorem om68 : (1 : Int) < (100000 : Int) := by intros; simp_all +arith
theorem om69 : ∀ {a : Nat}, (↑a : Int) = (↑a : Int) - (↑(0 : Nat) : Int) := by first | (intros; subst_vars; first | assumption | decide | exact Nat.le_refl _ | rfl | (simp (config := {decide := true}); done)) | (intros; omega)
theorem om70 : ∀ {a : Int} {b c : Nat}, a = (↑b : Int) - (↑c : Int) → c < b → (0 : Int) < a := by intros; lia
theorem om71 : ∀ {a : Nat}, (↑a : Int) + (1 : Int) = (↑(a + (1 : Nat)) : Int) := by first | (intros; subst_vars; first | assumption | decide | exact Nat.le_refl _ | rfl | (simp (config := {decide := true}); done)) | (intros; omega)
theorem om72 : ∀ {a : Int} {b c : Nat}, a = (↑b : Int) - (↑c : Int) → a - (1 : Int) = (↑b : Int) - (↑(c + (1 : Nat)) : Int) := by intros; lia
theorem om73 : ∀ {a : Int} {b : Nat}, a = (↑b : Int) - (↑b : Int) → a ≤ (0 : Int) := by intros; simp_all +arith
theorem om74 : ∀ {a b : Nat}, a ≤ (16777216 : Nat) → b < a → (↑b : Int) < (9223372036854775808 : Int) := by intros; lia
theorem om75 : ∀ {a b : Nat}, a + b ≤ (100000 : Nat) → a + b ≤ (16777216 : Nat) := by first | (intros; refine Nat.lt_of_lt_of_le ?_ ?_ <;> first | assumption | decide) | (intros; exact Nat.lt_of_lt_of_le (by assumption) (by decide)) | (intros; exact Nat.le_trans (by assumption) (by decide)) | (intros; exact Nat.le_trans (by assumption) (by assumption)) | (intros; exact Nat.lt_of_le_of_lt (by assumption) (by decide)) | (intros; exact Int.lt_of_lt_of_le (by assumption) (by decide)) | (intros; exact Int.le_trans (by assumption) (by decide)) | (intros; exact Int.lt_of_lt_of_le (Int.ofNat_lt.mpr (by assumption)) (by decide)) | (intros; omega)
theorem om76 : ∀ {a : Nat}, a < (256 : Nat) → a < (256 : Nat) := by intros; omega
theorem om77 : ∀ {a : Nat}, a ≤ (1000000 : Nat) → a ≤ (1099511627776 : Nat) := by first | (intros; refine Nat.lt_of_lt_of_le ?_ ?_ <;> first | assumption | decide) | (intros; exact Nat.lt_of_lt_of_le (by assumption) (by decide)) | (intros; exact Nat.le_trans (by assumption) (by decide)) | (intros; exact Nat.le_trans (by assumption) (by assumption)) | (intros; exact Nat.lt_of_le_of_lt (by assumption) (by decide)) | (intros; exact Int.lt_of_lt_of_le (by assumption) (by decide)) | (intros; exact Int.le_trans (by assumption) (by decide)) | (intros; exact Int.lt_of_lt_of_le (Int.ofNat_lt.mpr (by assumption)) (by decide)) | (intros; omega)
theorem om78 : ∀ {a : Nat}, a ≤ (1000000 : Nat) → a ≤ (16777216 : Nat) := by first | (intros; refine Nat.lt_of_lt_of_le ?_ ?_ <;> first | assumption | decide) | (intros; exact Nat.lt_of_lt_of_le (by assumption) (by decide)) | (intros; exact Nat.le_trans (by assumption) (by decide)) | (intros; exact Nat.le_trans (by assumption) (by assumption)) | (intros; exact Nat.lt_of_le_of_lt (by assumption) (by decide)) | (intros; exact Int.lt_of_lt_of_le (by assumption) (by decide)) | (intros; exact Int.le_trans (by assumption) (by decide)) | (intros; exact Int.lt_of_lt_of_le (Int.ofNat_lt.mpr (by assumption)) (by decide)) | (intros; omega)
theorem om79 : ∀ {a b c d e : Nat}, a ≤ (100 : Nat) → b ≤ c + d + a + (1100 : Nat) * e → d ≤ (1000 : Nat) → b ≤ c + (1100 : Nat) * (e + (1 : Nat)) := by intros; lia
theorem om80 : ∀ {a b : Nat}, a ≤ (100 : Nat) → b ≤ (0 : Nat) + (1100 : Nat) * a → ¬b > (16777216 : Nat) := by intros; lia
theorem om81 : ∀ {a : Nat}, a + (1 : Nat) + (1 : Nat) < a + (1 : Nat) → False := by intros; simp_all +arith
theorem om82 : ∀ {a b : Nat}, a ≤ b → a ≤ b + (1 : Nat) + (1 : Nat) := by intros; lia
theorem om83 : ∀ {a : Nat}, a + (1 : Nat) + (1 : Nat) < a → False := by intros; simp_all +arith
theorem om84 : ∀ {a : Nat}, a = a + (1 : Nat) → False := by intros; simp_all +arith
theorem om85 : ∀ {a b : Nat}, ¬a = b → ¬(↑a : Int) = (↑b : Int) := by intros; lia
theorem om86 : ∀ {a b c d : Nat}, a ≤ (8 : Nat) → b ≤ (8 : Nat) → c ≤ (8 : Nat) → d ≤ (8 : Nat) → a + (1 : Nat) + (b + (1 : Nat) + (c + (1 : Nat) + (d + (1 : Nat)))) ≤ (1048576 : Nat) := by intros; lia
theorem om87 : ∀ {a b c : Nat}, a ≤ b → c + b ≤ (600 : Nat) → c + a ≤ (600 : Nat) := by intros; lia
theorem om88 : ∀ {a b c : Nat}, a ≤ b → c + (4 : Nat) * b ≤ (9000 : Nat) → c + (4 : Nat) * a ≤ (9000 : Nat) := by intros; lia
theorem om89 : ∀ {a b : Nat}, a + (b + (1 : Nat)) ≤ (600 : Nat) → a + b ≤ (600 : Nat) := by intros; lia
theorem om90 : ∀ {a b : Nat}, a + (4 : Nat) * (b + (1 : Nat)) ≤ (9000 : Nat) → a + (1 : Nat) + (4 : Nat) * b ≤ (9000 : Nat) := by intros; lia
theorem om91 : ∀ {a b : Nat}, a + (b + (1 : Nat)) ≤ (600 : Nat) → a + (1 : Nat) + b ≤ (600 : Nat) := by intros; simp_all +arith
theorem om92 : ∀ {a b : Nat}, a + (4 : Nat) * (b + (1 : Nat)) ≤ (9000 : Nat) → a + (3 : Nat) + (4 : Nat) * b ≤ (9000 : Nat) := by intros; lia
theorem om93 : ∀ {a b : Nat}, a + b ≤ (600 : Nat) → a < (1000 : Nat) := by intros; lia
theorem om94 : ∀ {a b : Nat}, a + (4 : Nat) * b ≤ (9000 : Nat) → a < (9900 : Nat) := by intros; lia
theorem om95 : ∀ {a : Nat} {b : Int}, -(↑a : Int) ≤ b → b < (↑a : Int) → a ≤ (16777216 : Nat) → ¬b < -(2 : Int) ^ (63 : Nat) ∧ ¬b ≥ (2 : Int) ^ (63 : Nat) := by intros; lia
theorem om96 : ∀ {a b : Nat}, a < b → a ≠ b + (1 : Nat) := by intros; lia
theorem om97 : ∀ {a : Nat}, a ≠ a + (1 : Nat) := by intros; simp_all +arith
theorem om98 : ∀ {a : Nat}, a + (1 : Nat) = a → False := by intros; simp_all +arith
theorem om99 : ∀ {a : Nat}, a ≤ (16777216 : Nat) → ¬(↑a : Int) ≥ (2 : Int) ^ (63 : Nat) := by intros; lia
theorem om100 : ∀ {a b c : Nat}, a + (2 : Nat) ≤ b → c ≤ a + (1 : Nat) - (0 : Nat) → c + (1 : Nat) ≤ b := by intros; lia
theorem om101 : ∀ {a b : Nat}, a + (2 : Nat) ≤ b → a ≤ b := by intros; lia
theorem om102 : ∀ {a : Int} {b c : Nat}, a = (↑b : Int) → b < c → c ≤ (1000 : Nat) → (-9223372036854775808 : Int) ≤ a ∧ a < (9223372036854775808 : Int) := by intros; lia
theorem om103 : ∀ {a : Int} {b : Nat}, a = (↑b : Int) → b < (256 : Nat) → (0 : Int) ≤ a ∧ a < (256 : Int) := by intros; lia
theorem om104 : ∀ {a : Nat}, a ≤ (1000 : Nat) → ¬a > (16777216 : Nat) := by intros; lia
theorem om105 : ∀ {a : Nat}, a < (256 : Nat) → (0 : Int) ≤ (↑a : Int) ∧ (↑a : Int) < (256 : Int) := by intros; lia
theorem om106 : ∀ {a b c : Nat}, a = b → c + (0 : Nat) = b → a ≤ c := by first | (intros; subst_vars; first | assumption | decide | exact Nat.le_refl _ | rfl | (simp (config := {decide := true}); done)) | (intros; omega)
theorem om107 : ∀ {a b c d : Nat}, a ≤ (1000 : Nat) → b + (c + (1 : Nat)) = a → d ≤ b → d ≤ (16777216 : Nat) := by intros; lia
theorem om108 : ∀ {a : Int}, (0 : Int) ≤ a → -(↑(16 : Nat) : Int) ≤ a / (16 : Int) := by intros; lia
theorem om109 : ∀ {a : Int}, a < (256 : Int) → a / (16 : Int) < (↑(16 : Nat) : Int) := by intros; lia
theorem om110 : ∀ {a : Int}, -(↑(16 : Nat) : Int) ≤ a % (16 : Int) := by intros; lia
theorem om111 : ∀ {a : Int}, a % (16 : Int) < (↑(16 : Nat) : Int) := by intros; lia
theorem om112 : ∀ {a : Int}, (0 : Int) ≤ a → (0 : Int) ≤ a / (16 : Int) := by intros; lia
theorem om113 : ∀ {a : Int}, a < (256 : Int) → a / (16 : Int) < (16 : Int) := by intros; lia
theorem om114 : ∀ {a : Int}, (0 : Int) ≤ a % (16 : Int) := by intros; lia
theorem om115 : ∀ {a : Int}, a % (16 : Int) < (16 : Int) := by intros; lia
theorem om116 : ∀ {a : Nat} {b : Int}, a < (4 : Nat) → b = (4 : Int) - (↑a : Int) → (0 : Int) < b := by intros; lia
theorem om117 : ∀ {a b c : Nat}, a = (16 : Nat) → b < (4 : Nat) → c < (4 : Nat) → (4 : Nat) * b + c < a := by intros; lia
theorem om118 : ∀ {a : Int} {b c : Nat}, a = (4 : Int) * (↑b : Int) → a + (↑c : Int) = (↑((4 : Nat) * b + c) : Int) := by first | (intros; subst_vars; first | assumption | decide | exact Nat.le_refl _ | rfl | (simp (config := {decide := true}); done)) | (intros; omega)
theorem om119 : ∀ {a : Int} {b c : Nat}, a = (4 : Int) * (↑b : Int) → c < (4 : Nat) → a + (4 : Int) - (1 : Int) - (↑c : Int) = (↑((4 : Nat) * b + (3 : Nat) - c) : Int) := by intros; lia
theorem om120 : ∀ {a b c : Nat}, a = (16 : Nat) → (4 : Nat) * b + c < a → (4 : Nat) * b + (3 : Nat) - c < (16 : Nat) := by intros; omega
theorem om121 : ∀ {a b : Nat}, a < (4 : Nat) → (4 : Nat) * (((4 : Nat) * b + a) / (4 : Nat)) + (3 : Nat) - ((4 : Nat) * b + a) % (4 : Nat) = (4 : Nat) * b + (3 : Nat) - a := by intros; lia
theorem om122 : ∀ {a : Int} {b : Nat}, a = (4 : Int) * (↑b : Int) → a + (4 : Int) = (4 : Int) * (↑(b + (1 : Nat)) : Int) := by first | (intros; subst_vars; first | assumption | decide | exact Nat.le_refl _ | rfl | (simp (config := {decide := true}); done)) | (intros; omega)
theorem om123 : ∀ {a : Int} {b : Nat}, a = (4 : Int) - (↑b : Int) → a - (1 : Int) = (4 : Int) - (↑(b + (1 : Nat)) : Int) := by intros; simp_all +arith
theorem om124 : ∀ {a : Int}, a = (4 : Int) - (↑(4 : Nat) : Int) → a ≤ (0 : Int) := by first | (intros; subst_vars; first | assumption | decide | exact Nat.le_refl _ | rfl | (simp (config := {decide := true}); done)) | (intros; omega)
theorem om125 : ∀ {a b : Nat}, a = (4 : Nat) → b = a → b ≤ (4 : Nat) := by intros; simp_all +arith
theorem om126 : ∀ {a b : Nat}, a < (4 : Nat) → b = (4 : Nat) → a < b := by first | (intros; subst_vars; first | assumption | decide | exact Nat.le_refl _ | rfl | (simp (config := {decide := true}); done)) | (intros; omega)
theorem om127 : ∀ {a b : Nat}, a ≤ b ↔ (↑a : Int) ≤ (↑b : Int) := by intros; simp_all +arith
theorem om128 : ∀ {a : Nat}, a < (4 : Nat) → a ≤ (16777216 : Nat) := by intros; lia
theorem om129 : ∀ {a : Nat}, a < (4 : Nat) → (↑a : Int) < (4 : Int) := by first | (intros; refine Nat.lt_of_lt_of_le ?_ ?_ <;> first | assumption | decide) | (intros; exact Nat.lt_of_lt_of_le (by assumption) (by decide)) | (intros; exact Nat.le_trans (by assumption) (by decide)) | (intros; exact Nat.le_trans (by assumption) (by assumption)) | (intros; exact Nat.lt_of_le_of_lt (by assumption) (by decide)) | (intros; exact Int.lt_of_lt_of_le (by assumption) (by decide)) | (intros; exact Int.le_trans (by assumption) (by decide)) | (intros; exact Int.lt_of_lt_of_le (Int.ofNat_lt.mpr (by assumption)) (by decide)) | (intros; omega)
theorem om130 : ∀ {a b : Nat}, (↑a : Int) < (↑b : Int) → a < b := by intros; simp_all +arith
theorem om131 : ∀ {a b : Nat}, a + (b + (1 : Nat)) = a + (1 : Nat) + b := by intros; simp_all +arith
theorem om132 : ∀ {a : Nat}, a ≤ (100000 : Nat) → a + (1 : Nat) ≤ (16777216 : Nat) := by first | (intros; refine Nat.lt_of_lt_of_le ?_ ?_ <;> first | assumption | decide) | (intros; exact Nat.lt_of_lt_of_le (by assumption) (by decide)) | (intros; exact Nat.le_trans (by assumption) (by decide)) | (intros; exact Nat.le_trans (by assumption) (by assumption)) | (intros; exact Nat.lt_of_le_of_lt (by assumption) (by decide)) | (intros; exact Int.lt_of_lt_of_le (by assumption) (by decide)) | (intros; exact Int.le_trans (by assumption) (by decide)) | (intros; exact Int.lt_of_lt_of_le (Int.ofNat_lt.mpr (by assumption)) (by decide)) | (intros; omega)
theorem om133 : ∀ {a b c : Nat}, a ≤ (100001 : Nat) → b = min c a → b ≤ (16777216 : Nat) := by intros; grind
theorem om134 : ∀ {a b : Nat}, a + (b + (1 : Nat)) = a + b + (1 : Nat) := by first | (intros; subst_vars; first | assumption | decide | exact Nat.le_refl _ | rfl | (simp (config := {decide := true}); done)) | (intros; omega)
theorem om135 : ∀ {a b : Nat}, a ≤ (1000 : Nat) → b ≤ (1000 : Nat) → a + b + (1 : Nat) + (2 : Nat) ≤ (16777216 : Nat) := by intros; lia
theorem om136 : ∀ {a b : Nat}, ¬a + b + (1 : Nat) < (1 : Nat) := by intros; simp_all +arith
theorem om137 : ∀ {a : Nat}, -(↑a : Int) ≤ (0 : Int) := by intros; simp_all +arith
theorem om138 : ∀ {a : Nat}, (2 : Nat) ≤ a → (0 : Int) < (↑a : Int) := by intros; lia
theorem om139 : ∀ {a : Nat}, (-1 : Int) < (↑a : Int) := by intros; simp_all +arith
theorem om140 : ∀ {a : Nat}, a < (256 : Nat) → (↑a : Int) < (2 : Int) ^ (63 : Nat) := by first | (intros; refine Nat.lt_of_lt_of_le ?_ ?_ <;> first | assumption | decide) | (intros; exact Nat.lt_of_lt_of_le (by assumption) (by decide)) | (intros; exact Nat.le_trans (by assumption) (by decide)) | (intros; exact Nat.le_trans (by assumption) (by assumption)) | (intros; exact Nat.lt_of_le_of_lt (by assumption) (by decide)) | (intros; exact Int.lt_of_lt_of_le (by assumption) (by decide)) | (intros; exact Int.le_trans (by assumption) (by decide)) | (intros; exact Int.lt_of_lt_of_le (Int.ofNat_lt.mpr (by assumption)) (by decide)) | (intros; omega)
theorem om141 : ∀ {a : Nat}, a ≤ (100 : Nat) → a ≤ (16777216 : Nat) := by first | (intros; refine Nat.lt_of_lt_of_le ?_ ?_ <;> first | assumption | decide) | (intros; exact Nat.lt_of_lt_of_le (by assumption) (by decide)) | (intros; exact Nat.le_trans (by assumption) (by decide)) | (intros; exact Nat.le_trans (by assumption) (by assumption)) | (intros; exact Nat.lt_of_le_of_lt (by assumption) (by decide)) | (intros; exact Int.lt_of_lt_of_le (by assumption) (by decide)) | (intros; exact Int.le_trans (by assumption) (by decide)) | (intros; exact Int.lt_of_lt_of_le (Int.ofNat_lt.mpr (by assumption)) (by decide)) | (intros; omega)
theorem om142 : ∀ {a : Nat}, a ≤ (63 : Nat) → (↑a : Int) < (9223372036854775808 : Int) := by intros; lia
theorem om143 : ∀ {a : Nat}, a ≤ (63 : Nat) → a < (100000 : Nat) := by first | (intros; refine Nat.lt_of_lt_of_le ?_ ?_ <;> first | assumption | decide) | (intros; exact Nat.lt_of_lt_of_le (by assumption) (by decide)) | (intros; exact Nat.le_trans (by assumption) (by decide)) | (intros; exact Nat.le_trans (by assumption) (by assumption)) | (intros; exact Nat.lt_of_le_of_lt (by assumption) (by decide)) | (intros; exact Int.lt_of_lt_of_le (by assumption) (by decide)) | (intros; exact Int.le_trans (by assumption) (by decide)) | (intros; exact Int.lt_of_lt_of_le (Int.ofNat_lt.mpr (by assumption)) (by decide)) | (intros; omega)
theorem om144 : ∀ {a : Nat}, Int.toNat ((↑a : Int) % (5 : Int)) = a % (5 : Nat) := by first | (intros; subst_vars; first | assumption | decide | exact Nat.le_refl _ | rfl | (simp (config := {decide := true}); done)) | (intros; omega)
theorem om145 : ∀ {a b : Nat}, a ≤ (63 : Nat) → b < a → (↑b : Int) < (2 : Int) ^ (63 : Nat) := by intros; lia
theorem om146 : ∀ {a : Nat}, (↑a : Int) % (5 : Int) < (↑(5 : Nat) : Int) := by intros; grind
theorem om147 : ∀ {a : Nat}, (1000000 : Int) * ((↑a : Int) + (1 : Int)) ≤ (1000000 : Int) * ((↑(a + (1 : Nat)) : Int) + (1 : Int)) := by intros; simp_all +arith
theorem om148 : ∀ {a b : Int}, (0 : Int) ≤ a → (0 : Int) ≤ a + b % (1000000 : Int) := by intros; lia
theorem om149 : ∀ {a : Int} {b : Nat} {c : Int}, a ≤ (1000000 : Int) * ((↑b : Int) + (1 : Int)) → a + c % (1000000 : Int) ≤ (1000000 : Int) * ((↑(b + (1 : Nat)) : Int) + (1 : Int)) := by intros; lia
theorem om150 : ∀ {a : Nat} {b : Int}, a ≤ (63 : Nat) → b ≤ (1000000 : Int) * ((↑a : Int) + (1 : Int)) → b ≤ (100000000 : Int) := by intros; lia
theorem om151 : ∀ {a b : Nat}, a = (4 : Nat) → b = a → b ≤ (16777216 : Nat) := by intros; simp_all +arith
theorem om156 : ∀ {a b : Nat}, a < (4 : Nat) → b = a → b ≤ (1000 : Nat) := by intros; lia
theorem om157 : ∀ {a b : Nat}, a < (4 : Nat) → b = (4 : Nat) - a → (0 : Int) < (↑b : Int) := by intros; omega
theorem om158 : ∀ {a b : Nat}, a < (4 : Nat) → b = (4 : Nat) - a → (0 : Nat) < b := by intros; grind
theorem om159 : ∀ {a b c : Nat}, a = (4 : Nat) - b → c = a → c ≤ (16777216 : Nat) := by intros; simp_all +arith
theorem om160 : ∀ {a b c d : Nat}, a = (4 : Nat) - b → c = (4 : Nat) - b → d < a → (0 : Int) < (↑c : Int) := by intros; lia
theorem om161 : ∀ {a b : Nat}, a = (4 : Nat) - b → (↑a : Int) < (1073741824 : Int) := by intros; omega
theorem om162 : ∀ {a b : Nat}, a = (4 : Nat) - b → a - (1 : Nat) = (4 : Nat) - (b + (1 : Nat)) := by first | (intros; subst_vars; first | assumption | decide | exact Nat.le_refl _ | rfl | (simp (config := {decide := true}); done)) | (intros; omega)
theorem om163 : ∀ {a : Nat}, a < (3 : Nat) → a = (0 : Nat) ∨ a = (1 : Nat) ∨ a = (2 : Nat) := by intros; lia
theorem om164 : ∀ {a b c : Nat}, a < (3 : Nat) → b = min a c → b ≤ (16777216 : Nat) := by intros; grind
theorem om165 : ∀ {a b : Nat}, a = min (3 : Nat) b → a ≤ (16777216 : Nat) := by intros; lia
theorem om166 : ∀ {a : Nat}, a = (4 : Nat) → (0 : Nat) < a := by intros; simp_all +arith
theorem om167 : (0 : Int) < (2 : Int) ^ (63 : Nat) := by intros; simp_all +arith
theorem om168 : ∀ {a : Nat}, a ≤ (100 : Nat) → a ≤ (1000 : Nat) := by first | (intros; refine Nat.lt_of_lt_of_le ?_ ?_ <;> first | assumption | decide) | (intros; exact Nat.lt_of_lt_of_le (by assumption) (by decide)) | (intros; exact Nat.le_trans (by assumption) (by decide)) | (intros; exact Nat.le_trans (by assumption) (by assumption)) | (intros; exact Nat.lt_of_le_of_lt (by assumption) (by decide)) | (intros; exact Int.lt_of_lt_of_le (by assumption) (by decide)) | (intros; exact Int.le_trans (by assumption) (by decide)) | (intros; exact Int.lt_of_lt_of_le (Int.ofNat_lt.mpr (by assumption)) (by decide)) | (intros; omega)
theorem om169 : ∀ {a : Nat}, a ≤ (1000 : Nat) → a ≤ (100000 : Nat) := by first | (intros; refine Nat.lt_of_lt_of_le ?_ ?_ <;> first | assumption | decide) | (intros; exact Nat.lt_of_lt_of_le (by assumption) (by decide)) | (intros; exact Nat.le_trans (by assumption) (by decide)) | (intros; exact Nat.le_trans (by assumption) (by assumption)) | (intros; exact Nat.lt_of_le_of_lt (by assumption) (by decide)) | (intros; exact Int.lt_of_lt_of_le (by assumption) (by decide)) | (intros; exact Int.le_trans (by assumption) (by decide)) | (intros; exact Int.lt_of_lt_of_le (Int.ofNat_lt.mpr (by assumption)) (by decide)) | (intros; omega)
theorem om170 : ∀ {a b c d : Nat}, a ≤ (1000 : Nat) → b ≤ a + (1 : Nat) → c = min d b → c ≤ (16777216 : Nat) := by intros; grind
theorem om171 : ∀ {a b c : Nat}, a ≤ (1000 : Nat) → b ≤ (1000 : Nat) → c ≤ b → a + c ≤ (16777216 : Nat) := by intros; lia
theorem om172 : ∀ {a b c d e f g : Nat}, a ≤ (100 : Nat) → b ≤ a → c < b → d ≤ c * (1002 : Nat) → e ≤ (1000 : Nat) → f ≤ e + (1 : Nat) → g = f → d + g ≤ (16777216 : Nat) := by intros; lia
theorem om173 : ∀ {a b c d e : Nat}, a ≤ b * (1002 : Nat) → c ≤ (1000 : Nat) → d ≤ c + (1 : Nat) → e = d → a + e ≤ (b + (1 : Nat)) * (1002 : Nat) := by intros; lia
theorem om174 : ∀ {a : Nat}, a ≤ (3 : Nat) → a + (a + (a + (7 : Nat) + (1 : Nat) + (1 : Nat) + (1 : Nat)) + (1 : Nat) + (1 : Nat) + (1 : Nat)) ≤ (97 : Nat) := by intros; lia
theorem om175 : ∀ {a b c : Nat}, a < (5 : Nat) → b = min a c → b ≤ (16777216 : Nat) := by intros; grind
theorem om176 : ∀ {a : Nat}, a = (4 : Nat) → a ≤ (1000000 : Nat) := by first | (intros; subst_vars; first | assumption | decide | exact Nat.le_refl _ | rfl | (simp (config := {decide := true}); done)) | (intros; omega)
theorem om177 : ∀ {a b c : Nat}, a < (4 : Nat) → b = min a c → b ≤ (16777216 : Nat) := by intros; grind
theorem om178 : ∀ {a : Nat}, (0 : Int) ≤ (↑a : Int) + (1 : Int) := by intros; lia
theorem om179 : ∀ {a b : Nat}, a = (4 : Nat) → b = a → (3 : Int) < (↑b : Int) := by intros; simp_all +arith
theorem om180 : ∀ {a : Nat}, a = (4 : Nat) → a ≤ (100 : Nat) := by first | (intros; subst_vars; first | assumption | decide | exact Nat.le_refl _ | rfl | (simp (config := {decide := true}); done)) | (intros; omega)
theorem om181 : ∀ {a : Nat}, a ≤ (100 : Nat) → (2 : Nat) + ((0 : Nat) + (1 : Nat) + (1 : Nat)) + a ≤ (100000 : Nat) := by intros; lia
theorem om182 : ∀ {a : Nat}, a ≤ (100 : Nat) → (2 : Nat) + ((0 : Nat) + (1 : Nat) + (1 : Nat)) + a + ((0 : Nat) + (1 : Nat)) ≤ (100000 : Nat) := by intros; lia
theorem om183 : ∀ {a : Nat}, a ≤ (100 : Nat) → (2 : Nat) + ((0 : Nat) + (1 : Nat) + (1 : Nat)) + a + ((0 : Nat) + (1 : Nat)) ≤ (1000 : Nat) := by intros; lia
theorem om184 : ∀ {a b c d : Nat}, a ≤ (1000 : Nat) → b ≤ (1000 : Nat) → c ≤ (1000 : Nat) → d ≤ (1000 : Nat) → a + (b + (c + (d + (a + (1 : Nat) + (1 : Nat)) + (1 : Nat) + (1 : Nat)) + (1 : Nat) + (1 : Nat)) + (1 : Nat) + (1 : Nat)) ≤ (10000 : Nat) := by intros; lia
theorem om185 : ∀ {a : Nat}, a ≤ (10000 : Nat) → a + ((0 : Nat) + (1 : Nat)) ≤ (100000 : Nat) := by first | (intros; refine Nat.lt_of_lt_of_le ?_ ?_ <;> first | assumption | decide) | (intros; exact Nat.lt_of_lt_of_le (by assumption) (by decide)) | (intros; exact Nat.le_trans (by assumption) (by decide)) | (intros; exact Nat.le_trans (by assumption) (by assumption)) | (intros; exact Nat.lt_of_le_of_lt (by assumption) (by decide)) | (intros; exact Int.lt_of_lt_of_le (by assumption) (by decide)) | (intros; exact Int.le_trans (by assumption) (by decide)) | (intros; exact Int.lt_of_lt_of_le (Int.ofNat_lt.mpr (by assumption)) (by decide)) | (intros; omega)
theorem om186 : ∀ {a b : Nat}, a + (b + (1 : Nat)) ≤ (600 : Nat) → a + (0 : Nat) + (1 : Nat) + b ≤ (600 : Nat) := by intros; simp_all +arith
theorem om187 : ∀ {a b : Nat}, a + (4 : Nat) * (b + (1 : Nat)) ≤ (9000 : Nat) → a + (0 : Nat) + (3 : Nat) + (4 : Nat) * b ≤ (9000 : Nat) := by intros; lia
theorem om188 : ∀ {a b : Nat}, a + (b + (1 : Nat)) ≤ (600 : Nat) → a + ((1 : Nat) + (0 : Nat)) + (0 : Nat) + b ≤ (600 : Nat) := by intros; simp_all +arith
theorem om189 : ∀ {a b : Nat}, a + (4 : Nat) * (b + (1 : Nat)) ≤ (9000 : Nat) → a + ((3 : Nat) + (0 : Nat)) + (0 : Nat) + (4 : Nat) * b ≤ (9000 : Nat) := by intros; lia
theorem om190 : ∀ {a b c d : Nat}, a < b → c = b + (1 : Nat) → d = a ∨ d = b ∨ d = c → a ≤ d := by intros; lia
theorem om191 : ∀ {a b c : Nat}, a < b → c = b + (1 : Nat) → (¬a = b ∧ ¬a = c) ∧ ¬b = c := by intros; lia
theorem om192 : ∀ {a b : Nat}, a = b + (1 : Nat) → b ≠ a := by intros; simp_all +arith
theorem om193 : ∀ {a b : Nat}, ¬(↑(63 : Nat) : Int) < (↑a : Int) → b = a → b ≤ (63 : Nat) := by intros; lia
theorem om198 : ∀ {a : Nat}, (16 : Nat) * (a / (16 : Nat)) + a % (16 : Nat) = a := by intros; lia
theorem om199 : ∀ {a : Nat}, a < (256 : Nat) → (↑a : Int) ≤ (1114111 : Int) := by intros; lia
theorem om200 : ∀ {a : Nat}, a ≤ (1000 : Nat) → a ≤ (16777216 : Nat) + (1 : Nat) := by first | (intros; refine Nat.lt_of_lt_of_le ?_ ?_ <;> first | assumption | decide) | (intros; exact Nat.lt_of_lt_of_le (by assumption) (by decide)) | (intros; exact Nat.le_trans (by assumption) (by decide)) | (intros; exact Nat.le_trans (by assumption) (by assumption)) | (intros; exact Nat.lt_of_le_of_lt (by assumption) (by decide)) | (intros; exact Int.lt_of_lt_of_le (by assumption) (by decide)) | (intros; exact Int.le_trans (by assumption) (by decide)) | (intros; exact Int.lt_of_lt_of_le (Int.ofNat_lt.mpr (by assumption)) (by decide)) | (intros; omega)
theorem om201 : ∀ {a b : Nat}, a + (b + (4 : Nat)) ≤ (600 : Nat) → a + (1 : Nat) + (b + (3 : Nat)) ≤ (600 : Nat) := by intros; simp_all +arith
theorem om202 : ∀ {a b : Nat}, a + (4 : Nat) * (b + (4 : Nat)) ≤ (9000 : Nat) → a + (1 : Nat) + (4 : Nat) * (b + (3 : Nat)) ≤ (9000 : Nat) := by intros; lia
theorem om205 : ∀ {a : Nat}, a ≤ (4 : Nat) → (2 : Nat) + (a + (1 : Nat)) ≤ (100000 : Nat) := by intros; lia
theorem om206 : ∀ {a : Nat}, a ≤ (16 : Nat) → a ≤ (1000 : Nat) := by first | (intros; refine Nat.lt_of_lt_of_le ?_ ?_ <;> first | assumption | decide) | (intros; exact Nat.lt_of_lt_of_le (by assumption) (by decide)) | (intros; exact Nat.le_trans (by assumption) (by decide)) | (intros; exact Nat.le_trans (by assumption) (by assumption)) | (intros; exact Nat.lt_of_le_of_lt (by assumption) (by decide)) | (intros; exact Int.lt_of_lt_of_le (by assumption) (by decide)) | (intros; exact Int.le_trans (by assumption) (by decide)) | (intros; exact Int.lt_of_lt_of_le (Int.ofNat_lt.mpr (by assumption)) (by decide)) | (intros; omega)
theorem om207 : ∀ {a : Nat}, a ≤ (4 : Nat) → a ≤ (100 : Nat) := by first | (intros; refine Nat.lt_of_lt_of_le ?_ ?_ <;> first | assumption | decide) | (intros; exact Nat.lt_of_lt_of_le (by assumption) (by decide)) | (intros; exact Nat.le_trans (by assumption) (by decide)) | (intros; exact Nat.le_trans (by assumption) (by assumption)) | (intros; exact Nat.lt_of_le_of_lt (by assumption) (by decide)) | (intros; exact Int.lt_of_lt_of_le (by assumption) (by decide)) | (intros; exact Int.le_trans (by assumption) (by decide)) | (intros; exact Int.lt_of_lt_of_le (Int.ofNat_lt.mpr (by assumption)) (by decide)) | (intros; omega)
theorem om208 : ∀ {a b c : Nat}, a = b → c ≤ (4 : Nat) → b = c → a ≤ (16777216 : Nat) := by intros; lia
theorem om209 : ∀ {a b : Nat}, a ≤ (4 : Nat) → b = a → b ≤ (1000 : Nat) := by intros; lia
theorem om210 : ∀ {a b c : Nat}, a = b → b ≤ c → c ≤ (4 : Nat) → a ≤ (4 : Nat) := by intros; lia
theorem om211 : ∀ {a b c d : Nat}, a ≤ (100 : Nat) → b ≤ (4 : Nat) → c = b → d = a → d + c ≤ (16777216 : Nat) := by intros; lia
theorem om212 : ∀ {a : Nat}, a ≤ (4 : Nat) → (2 : Nat) + (a + (1 : Nat)) ≤ (10 : Nat) := by intros; lia
theorem om213 : ∀ {a : Nat}, a ≤ (4 : Nat) → a ≤ (16777216 : Nat) := by first | (intros; refine Nat.lt_of_lt_of_le ?_ ?_ <;> first | assumption | decide) | (intros; exact Nat.lt_of_lt_of_le (by assumption) (by decide)) | (intros; exact Nat.le_trans (by assumption) (by decide)) | (intros; exact Nat.le_trans (by assumption) (by assumption)) | (intros; exact Nat.lt_of_le_of_lt (by assumption) (by decide)) | (intros; exact Int.lt_of_lt_of_le (by assumption) (by decide)) | (intros; exact Int.le_trans (by assumption) (by decide)) | (intros; exact Int.lt_of_lt_of_le (Int.ofNat_lt.mpr (by assumption)) (by decide)) | (intros; omega)
theorem om214 : ∀ {a b c : Nat}, a ≤ (4 : Nat) * b → c ≤ (4 : Nat) → a + c ≤ (4 : Nat) * (b + (1 : Nat)) := by intros; lia
theorem om215 : ∀ {a b : Nat}, a < (4 : Nat) → b ≤ (4 : Nat) * a → b ≤ (100 : Nat) := by intros; lia
theorem om216 : ∀ {a b c d : Nat}, (¬a = b ∧ ¬a = c ∧ ¬a = d) ∧ (¬b = c ∧ ¬b = d) ∧ ¬c = d → (¬(↑a : Int) = (↑b : Int) ∧ ¬(↑a : Int) = (↑c : Int) ∧ ¬(↑a : Int) = (↑d : Int)) ∧ (¬(↑b : Int) = (↑c : Int) ∧ ¬(↑b : Int) = (↑d : Int)) ∧ ¬(↑c : Int) = (↑d : Int) := by intros; lia
theorem om217 : ∀ {a : Int}, (0 : Int) ≤ a → a = (↑(Int.toNat a) : Int) := by intros; lia
theorem om218 : ∀ {a : Int}, a ≤ (100000000 : Int) → Int.toNat a ≤ (100000000 : Nat) := by intros; simp_all +arith
theorem om219 : ∀ {a : Nat}, a < (4 : Nat) → a < (5 : Nat) := by first | (intros; refine Nat.lt_of_lt_of_le ?_ ?_ <;> first | assumption | decide) | (intros; exact Nat.lt_of_lt_of_le (by assumption) (by decide)) | (intros; exact Nat.le_trans (by assumption) (by decide)) | (intros; exact Nat.le_trans (by assumption) (by assumption)) | (intros; exact Nat.lt_of_le_of_lt (by assumption) (by decide)) | (intros; exact Int.lt_of_lt_of_le (by assumption) (by decide)) | (intros; exact Int.le_trans (by assumption) (by decide)) | (intros; exact Int.lt_of_lt_of_le (Int.ofNat_lt.mpr (by assumption)) (by decide)) | (intros; omega)
theorem om220 : ∀ {a : Nat}, a ≤ a + (1 : Nat) := by intros; simp_all +arith
theorem om221 : ∀ {a b c d : Nat}, a ≤ b + (1 : Nat) → c ≤ a + d → c ≤ b + (d + (1 : Nat)) := by intros; lia
theorem om222 : ∀ {a b c : Nat}, a + (0 : Nat) = b → c = b → c ≤ a := by first | (intros; subst_vars; first | assumption | decide | exact Nat.le_refl _ | rfl | (simp (config := {decide := true}); done)) | (intros; omega)
theorem om223 : ∀ {a b c : Nat}, a ≤ (1000 : Nat) → b ≤ min c a → b ≤ (1000 : Nat) := by intros; grind
theorem om224 : ∀ {a b : Nat}, a ≤ (1000 : Nat) → b = a → b ≤ (16777216 : Nat) := by intros; lia
theorem om225 : ∀ {a b : Nat}, a + (1 : Nat) ≤ b → a < b := by first | (intros; subst_vars; first | assumption | decide | exact Nat.le_refl _ | rfl | (simp (config := {decide := true}); done)) | (intros; omega)
theorem om226 : ∀ {a b : Nat}, a < b → b - a = b - (a + (1 : Nat)) + (1 : Nat) := by intros; grind
theorem om227 : ∀ {a b : Nat}, a < b → b - (1 : Nat) - (b - (a + (1 : Nat))) = a := by intros; omega
theorem om228 : ∀ {a b c d : Nat}, a ≤ b + (1 : Nat) → b ≤ c + d → a ≤ c + (d + (1 : Nat)) := by intros; lia
theorem om229 : ∀ {a b : Nat}, a ≤ (100 : Nat) → b = a → b ≤ (16777216 : Nat) := by intros; lia
theorem om230 : ∀ {a b c d : Nat}, a ≤ (100 : Nat) → b < (4 : Nat) → c = d → d ≤ a + b → (1 : Nat) + c ≤ (16777216 : Nat) := by intros; lia
theorem om231 : ∀ {a : Nat}, a + (5 : Nat) ≤ a + (11 : Nat) := by intros; simp_all +arith
theorem om232 : ∀ {a b c d : Nat}, a ≤ (100 : Nat) → b < (4 : Nat) → c ≤ a + b → d ≤ c + (1 : Nat) → d ≤ (16777216 : Nat) := by intros; lia
theorem om233 : ∀ {a b c : Nat}, a ≤ (100 : Nat) → b < (4 : Nat) → c ≤ a + b → c + (1 : Nat) ≤ (1000 : Nat) := by intros; lia
theorem om240 : ∀ {a b : Nat}, a = (b + (b / (256 : Nat) * (2 : Nat) + (1 : Nat)) * (0 : Nat)) % (256 : Nat) ∨ a = (b + (b / (256 : Nat) * (2 : Nat) + (1 : Nat)) * (1 : Nat)) % (256 : Nat) ∨ a = (b + (b / (256 : Nat) * (2 : Nat) + (1 : Nat)) * (2 : Nat)) % (256 : Nat) ∨ a = (b + (b / (256 : Nat) * (2 : Nat) + (1 : Nat)) * (3 : Nat)) % (256 : Nat) → a < (256 : Nat) := by intros; lia
theorem om241 : ∀ {a : Nat}, a + (12 : Nat) + (1 : Nat) ≤ a + (14 : Nat) := by intros; simp_all +arith
theorem om242 : ∀ {a : Nat}, a + (1 : Nat) ≤ a + (14 : Nat) := by intros; simp_all +arith
theorem om243 : ∀ {a : Nat}, a = (16 : Nat) → a ≤ (4 : Nat) * (4 : Nat) := by first | (intros; subst_vars; first | assumption | decide | exact Nat.le_refl _ | rfl | (simp (config := {decide := true}); done)) | (intros; omega)
theorem om244 : ∀ {a : Nat}, a = (16 : Nat) → a ≤ (1000 : Nat) := by first | (intros; subst_vars; first | assumption | decide | exact Nat.le_refl _ | rfl | (simp (config := {decide := true}); done)) | (intros; omega)
theorem om245 : ∀ {a : Nat}, (48 : Nat) ≤ a ∧ a ≤ (70 : Nat) → a < (128 : Nat) := by intros; lia
theorem om246 : ∀ {a : Nat}, a = (61 : Nat) ∨ a = (34 : Nat) → a < (128 : Nat) := by intros; lia
theorem om247 : ∀ {a : Nat}, a ≤ (3 : Nat) → (2 : Nat) + ((0 : Nat) + (1 : Nat) + (1 : Nat)) + ((2 : Nat) + (1 : Nat) + (a + ((2 : Nat) + (1 : Nat) + (a + ((2 : Nat) + (1 : Nat) + (a + ((0 : Nat) + (1 : Nat) + ((0 : Nat) + (1 : Nat) + (1 : Nat) + ((2 : Nat) + ((0 : Nat) + (1 : Nat) + (1 : Nat))))))))))) + ((0 : Nat) + (1 : Nat)) ≤ (40 : Nat) := by intros; lia
theorem om248 : ∀ {a b c d : Nat}, a ≤ (40 : Nat) → b ≤ (40 : Nat) → c ≤ (40 : Nat) → d ≤ (40 : Nat) → a + ((0 : Nat) + (1 : Nat) + (1 : Nat) + (b + ((0 : Nat) + (1 : Nat) + (1 : Nat) + (c + ((0 : Nat) + (1 : Nat) + (1 : Nat) + (d + ((0 : Nat) + (1 : Nat) + (1 : Nat) + (a + ((0 : Nat) + (1 : Nat)))))))))) ≤ (300 : Nat) := by intros; lia
theorem om249 : ∀ {a b : Nat}, a = b → b = (4 : Nat) → a ≤ (4 : Nat) := by first | (intros; subst_vars; first | assumption | decide | exact Nat.le_refl _ | rfl | (simp (config := {decide := true}); done)) | (intros; omega)
theorem om250 : ∀ {a : Nat}, (↑a : Int) / (32768 : Int) = (↑(a / (32768 : Nat)) : Int) := by first | (intros; subst_vars; first | assumption | decide | exact Nat.le_refl _ | rfl | (simp (config := {decide := true}); done)) | (intros; omega)
theorem om251 : ∀ {a : Nat}, a ≤ (300 : Nat) → a ≤ (100000 : Nat) := by first | (intros; refine Nat.lt_of_lt_of_le ?_ ?_ <;> first | assumption | decide) | (intros; exact Nat.lt_of_lt_of_le (by assumption) (by decide)) | (intros; exact Nat.le_trans (by assumption) (by decide)) | (intros; exact Nat.le_trans (by assumption) (by assumption)) | (intros; exact Nat.lt_of_le_of_lt (by assumption) (by decide)) | (intros; exact Int.lt_of_lt_of_le (by assumption) (by decide)) | (intros; exact Int.le_trans (by assumption) (by decide)) | (intros; exact Int.lt_of_lt_of_le (Int.ofNat_lt.mpr (by assumption)) (by decide)) | (intros; omega)
theorem om252 : ∀ {a : Int}, (0 : Int) ≤ a → a ≤ (1000 : Int) → (-9223372036854775808 : Int) ≤ a ∧ a < (9223372036854775808 : Int) := by intros; lia
theorem om253 : ∀ {a : Int}, (0 : Int) ≤ a → ¬a < (0 : Int) := by intros; lia
theorem om254 : ∀ {a : Int}, a ≤ (1000 : Int) → ¬a = (9223372036854775807 : Int) := by intros; lia
theorem om255 : ∀ {a : Int}, a ≤ (1000 : Int) → Int.toNat a ≤ (16777216 : Nat) := by intros; lia
theorem om256 : ∀ {a : Int}, a ≤ (1000 : Int) → ¬Int.toNat a > (16777216 : Nat) := by intros; lia
theorem om257 : ∀ {a : Int}, ¬a > (0 : Int) → Int.toNat a = (0 : Nat) := by intros; simp_all +arith
theorem om258 : ∀ {a : Nat}, a ≤ (1000 : Nat) → (↑a : Int) ≤ (1000 : Int) := by intros; lia
theorem om265 : ∀ {a b : Nat}, a / (16 : Nat) = b / (16 : Nat) → a % (16 : Nat) = b % (16 : Nat) → a = b := by intros; lia
theorem om266 : ∀ {a : Nat}, (48 : Nat) ≤ a ∧ a ≤ (70 : Nat) → a ≠ (92 : Nat) ∧ a ≠ (34 : Nat) := by intros; lia
theorem om267 : ∀ {a : Nat}, (48 : Nat) ≤ a ∧ a ≤ (70 : Nat) → a ≠ (44 : Nat) ∧ a ≠ (34 : Nat) := by intros; lia
theorem om268 : ∀ {a : Nat}, a ≤ (70 : Nat) → a < (71 : Nat) := by first | (intros; refine Nat.lt_of_lt_of_le ?_ ?_ <;> first | assumption | decide) | (intros; exact Nat.lt_of_lt_of_le (by assumption) (by decide)) | (intros; exact Nat.le_trans (by assumption) (by decide)) | (intros; exact Nat.le_trans (by assumption) (by assumption)) | (intros; exact Nat.lt_of_le_of_lt (by assumption) (by decide)) | (intros; exact Int.lt_of_lt_of_le (by assumption) (by decide)) | (intros; exact Int.le_trans (by assumption) (by decide)) | (intros; exact Int.lt_of_lt_of_le (Int.ofNat_lt.mpr (by assumption)) (by decide)) | (intros; omega)
theorem om269 : ∀ {a b : Nat}, a < b → a ≤ b - (1 : Nat) := by intros; omega
theorem om270 : ∀ {a b c d e : Nat}, a = (4 : Nat) → b ≤ a - (1 : Nat) → c ≤ b - (1 : Nat) → d ≤ c - (1 : Nat) → e ≤ d - (1 : Nat) → e = (0 : Nat) := by intros; omega
theorem om271 : ∀ {a : Nat}, (48 : Nat) ≤ a ∧ a ≤ (70 : Nat) → a = (34 : Nat) → False := by intros; simp_all +arith
theorem om272 : ∀ {a : Nat}, (48 : Nat) ≤ a ∧ a ≤ (70 : Nat) → ¬a = (34 : Nat) := by intros; lia
theorem om273 : ∀ {a b : Nat}, a ≤ (4 : Nat) * b → b ≤ (4 : Nat) → a ≤ (16 : Nat) := by intros; lia
theorem om274 : ∀ {a b c : Nat}, a ≤ (4 : Nat) * b → c ≤ (4 : Nat) → c + a ≤ (4 : Nat) * (b + (1 : Nat)) := by intros; lia
theorem om275 : ∀ {a b : Nat}, a ≥ b → b + (a - b) = a := by intros; simp_all +arith
theorem om276 : ∀ {a b : Nat}, a < b → b ≤ a → False := by intros; lia
theorem om277 : ∀ {a b : Nat}, a < b + (1 : Nat) → a ≥ b → a = b := by intros; lia
theorem om278 : ∀ {a b : Nat}, a ≤ b + (a + (1 : Nat)) - (b + (1 : Nat)) := by intros; simp_all +arith
theorem om279 : ∀ {a : Nat}, (1 : Nat) ≤ a → -(↑a : Int) ≤ (-1 : Int) := by intros; lia
theorem om280 : ∀ {a : Nat}, (↑a : Int) - (1 : Int) = (-1 : Int) + (↑a : Int) := by first | (intros; subst_vars; first | assumption | decide | exact Nat.le_refl _ | rfl | (simp (config := {decide := true}); done)) | (intros; omega)
theorem om281 : ∀ {a : Nat}, Int.toNat ((↑a : Int) - (1 : Int)) = a - (1 : Nat) := by first | (intros; subst_vars; first | assumption | decide | exact Nat.le_refl _ | rfl | (simp (config := {decide := true}); done)) | (intros; omega)
theorem om282 : ∀ {a : Nat}, (1 : Nat) ≤ a → a - (1 : Nat) < a := by intros; omega
theorem om283 : ∀ {a b : Nat}, a ≤ b → (↑a : Int) ≤ (↑b : Int) := by intros; simp_all +arith
theorem om284 : ∀ {a : Nat}, (2 : Nat) ≤ a → (-1 : Int) + (↑a : Int) = (↑(a - (1 : Nat)) : Int) := by intros; lia
theorem om285 : ∀ {a : Nat}, (2 : Nat) ≤ a → (1 : Nat) ≤ a - (1 : Nat) := by intros; lia
theorem om286 : ∀ {a : Nat}, a - (1 : Nat) ≤ a := by intros; simp_all +arith
theorem om287 : ∀ {a b c : Nat}, a + (b + c) - c = a + b := by intros; simp_all +arith
theorem om288 : ∀ {a b : Nat}, (0 : Nat) + a = (0 : Nat) + a + b → b = (0 : Nat) := by intros; simp_all +arith
end
section
/-! the state of a walk: frames' locals, a ledger of own objects, all else as it was -/
abbrev pw : Program := PySem.Challenge.pw_wv0006_01
abbrev Loc := List (Str × Value)
abbrev Frs := List (Addr × Loc)
abbrev Led := List (Addr × Obj)
abbrev tabP : Addr := 77

def Kp (h h' : Heap) : Prop := ∀ b o, b ≠ tabP → h.get? b = some o → h'.get? b = some o
theorem Kp.refl (h : Heap) : Kp h h := fun _ _ _ e => e
theorem Kp.trans {a b c : Heap} (x : Kp a b) (y : Kp b c) : Kp a c := fun d o hd e => y d o hd (x d o hd e)
theorem Kp.of {h h' : Heap} (x : ∀ b o, h.get? b = some o → h'.get? b = some o) : Kp h h' := fun b o _ e => x b o e

def Ka (h h' : Heap) : Prop := ∀ b o, h.get? b = some o → h'.get? b = some o
theorem Ka.refl (h : Heap) : Ka h h := fun _ _ e => e
theorem Ka.of {h h' : Heap} (x : ∀ b o, h.get? b = some o → h'.get? b = some o) : Ka h h' := x
theorem Ka.kp {h h' : Heap} (x : Ka h h') : Kp h h' := Kp.of x

inductive FrOk (h : Heap) (L : Addr) (m : Loc) : Prop
  | mk (mf : Str → Option Value) (n : h.Ns L mf) (e : ∀ p ∈ m, mf p.1 = some p.2)

def GensOk (g g' : Array GenState) : Prop := (∀ (i : Nat) st, g[i]? = some st → g'[i]? = some st) ∧ (AllBare g → AllBare g')
theorem GensOk.refl (g) : GensOk g g := ⟨fun _ _ e => e, fun x => x⟩
theorem GensOk.trans {a b c} (x : GensOk a b) (y : GensOk b c) : GensOk a c := ⟨fun i st e => y.1 i st (x.1 i st e), fun z => y.2 (x.2 z)⟩

/-- the code table of prepare_parent: empty, or with the one code of `select` -/
def tabO : Option Addr → Obj
  | none => { cls := .none, data := .fields #[] }
  | some k => { cls := .none, data := .fields #[rawInt 76, rawInt 4, .ref k] }
abbrev selQ : Str := "prepare_parent.<locals>.select"
inductive SelCode (h : Heap) (a : Addr) : Prop
  | mk (oc : Obj) (vs : Array Value) (t : Tok) (e : h.get? a = some oc) (r : oc.data = .fields vs ∧ vs[1]? = some (.str selQ t))
structure TabAt (base h : Heap) (as : List Addr) (kc k : Option Addr) : Prop where
  tab : h.get? tabP = some (tabO k)
  own : ∀ a, k = some a → a ∉ as
  code : ∀ a, k = some a → SelCode h a
  src : base.get? tabP = some (tabO k) ∨ ∃ a, k = some a ∧ base.objs.size ≤ a
  pin : ∀ a, kc = some a → k = some a
theorem tabO_inj {k k' : Option Addr} (e : tabO k = tabO k') : k = k' := by
  cases k <;> cases k' <;> simp [tabO] at e <;> simp_all

structure Cx where
  w : World
  base : Heap
  gens : Array GenState
  d : Drawn
  os : OsState
  kc : Option Addr

def addrs (frs : Frs) (led : Led) : List Addr := frs.map (·.1) ++ led.map (·.1)

structure Sx (c : Cx) (frs : Frs) (led : Led) (s : Shared) : Prop where
  keep : Kp c.base s.heap
  fr : ∀ f ∈ frs, FrOk s.heap f.1 f.2
  ld : ∀ p ∈ led, s.heap.get? p.1 = some p.2
  nd : (addrs frs led).Nodup
  new : ∀ a ∈ addrs frs led, c.base.objs.size ≤ a
  tab : tabP < c.base.objs.size
  tb : ∃ k, TabAt c.base s.heap (addrs frs led) c.kc k
  gens : GensOk c.gens s.gens
  dr : s.drawn = c.d
  os : s.os = c.os
  ne : frs ≠ []

inductive Post (c : Cx) (P : Frs → Led → Prop) (s : Shared) : Prop
  | mk (f : Frs) (l : Led) (S : Sx c f l s) (q : P f l)
inductive PostC (c : Cx) (Q : Flow → Frs → Led → Prop) (r : Result) (s : Shared) : Prop
  | mk (fl : Flow) (f : Frs) (l : Led) (e : r = .ok fl) (S : Sx c f l s) (q : Q fl f l)

def W {α : Type} (c : Cx) (A : Around) (t : Sem α) (frs : Frs) (led : Led) (Q : α → Frs → Led → Prop) : Prop :=
  ∀ s, Sx c frs led s → wpAny (model pw c.w) A t (fun v => Post c (Q v)) (fun _ _ => False) s

def Wc (c : Cx) (A : Around) (code : Code) (frs : Frs) (led : Led) (Q : Flow → Frs → Led → Prop) : Prop :=
  ∀ s, Sx c frs led s → codeAny (model pw c.w) A code (PostC c Q) s

section
variable {α β : Type} {c : Cx} {A : Around} {frs : Frs} {led : Led}
theorem W_pure {a : α} {Q : α → Frs → Led → Prop} (h : Q a frs led) : W c A (pure a) frs led Q := fun _ S => wpAny_pure ⟨_, _, S, h⟩
theorem W_mono {t : Sem α} {Q Q' : α → Frs → Led → Prop} (h : W c A t frs led Q) (hQ : ∀ a f l, Q a f l → Q' a f l) : W c A t frs led Q' :=
  fun s S => wpAny_mono (h s S) (fun _ _ ⟨f, l, S', q⟩ => ⟨f, l, S', hQ _ _ _ q⟩) fun _ _ x => x
theorem Wc_mono {t : Code} {Q Q' : Flow → Frs → Led → Prop} (h : Wc c A t frs led Q) (hQ : ∀ a f l, Q a f l → Q' a f l) : Wc c A t frs led Q' :=
  fun s S => codeAny_mono (h s S) fun _ _ ⟨fl, f, l, e, S', q⟩ => ⟨fl, f, l, e, S', hQ _ _ _ q⟩
theorem W_bind {m : Sem α} {k : α → Sem β} {Q : β → Frs → Led → Prop} (h : W c A m frs led (fun a f l => W c A (k a) f l Q)) : W c A (m >>= k) frs led Q :=
  fun s S => wpAny_bind (wpAny_mono (h s S) (fun _ s' ⟨_, _, S', q⟩ => q s' S') fun _ _ x => x)
theorem W_holding {vs : List Value} {t : Sem α} {Q : α → Frs → Led → Prop} (h : W c A t frs led Q) : W c A (holding vs t) frs led Q := fun s S => wpAny_holding (h s S)
theorem W_eq {t t' : Sem α} {Q : α → Frs → Led → Prop} (e : t = t') (h : W c A t' frs led Q) : W c A t frs led Q := e ▸ h
/-- of what is known, some may be let go -/
theorem Sx.weak {frs' : Frs} {led' : Led} {s : Shared} (S : Sx c frs led s) (hf : frs'.map (·.1) = frs.map (·.1)) (hm : ∀ f' ∈ frs', ∃ f ∈ frs, f.1 = f'.1 ∧ ∀ p ∈ f'.2, p ∈ f.2) (hl : led'.Sublist led) : Sx c frs' led' s where
  keep := S.keep
  fr := fun f' hf' => by
    obtain ⟨f, h1, h2, h3⟩ := hm f' hf'
    obtain ⟨mf, a, b⟩ := S.fr f h1
    exact ⟨mf, h2 ▸ a, fun p hp => b p (h3 p hp)⟩
  ld := fun p hp => S.ld p (hl.subset hp)
  nd := by
    have := S.nd
    unfold addrs at this ⊢
    rw [hf]
    exact this.sublist (List.Sublist.append (List.Sublist.refl _) (hl.map _))
  new := fun a ha => S.new a (by
    unfold addrs at ha ⊢
    rw [hf] at ha
    rcases List.mem_append.mp ha with ha | ha
    · exact List.mem_append_left _ ha
    · exact List.mem_append_right _ ((hl.map _).subset ha))
  tab := S.tab
  tb := let ⟨k, T⟩ := S.tb; ⟨k, T.tab, fun a e ha => T.own a e (by
    unfold addrs at ha ⊢
    rw [hf] at ha
    rcases List.mem_append.mp ha with ha | ha
    · exact List.mem_append_left _ ha
    · exact List.mem_append_right _ ((hl.map _).subset ha)), T.code, T.src, T.pin⟩
  gens := S.gens
  dr := S.dr
  os := S.os
  ne := fun e => S.ne (by subst e; cases frs with | nil => rfl | cons => cases hf)
theorem Sx.drop {led' : Led} {s : Shared} (S : Sx c frs led s) (hl : led'.Sublist led) : Sx c frs led' s := S.weak rfl (fun f hf => ⟨f, hf, rfl, fun _ h => h⟩) hl
theorem W_drop {led' : Led} {t : Sem α} {Q : α → Frs → Led → Prop} (hl : led'.Sublist led) (h : W c A t frs led' Q) : W c A t frs led Q := fun s S => h s (S.drop hl)
theorem Wc_drop {led' : Led} {t : Code} {Q : Flow → Frs → Led → Prop} (hl : led'.Sublist led) (h : Wc c A t frs led' Q) : Wc c A t frs led Q := fun s S => h s (S.drop hl)
theorem W_forget {L : Addr} {m m' : Loc} {r : Frs} {t : Sem α} {Q : α → Frs → Led → Prop} (hm : ∀ p ∈ m', p ∈ m) (h : W c A t ((L, m') :: r) led Q) : W c A t ((L, m) :: r) led Q :=
  fun s S => h s (S.weak rfl (fun f hf => by
    cases hf with
    | head => exact ⟨_, .head _, rfl, hm⟩
    | tail _ hf => exact ⟨f, .tail _ hf, rfl, fun _ h => h⟩) (List.Sublist.refl _))
theorem Wc_forget {L : Addr} {m m' : Loc} {r : Frs} {t : Code} {Q : Flow → Frs → Led → Prop} (hm : ∀ p ∈ m', p ∈ m) (h : Wc c A t ((L, m') :: r) led Q) : Wc c A t ((L, m) :: r) led Q :=
  fun s S => h s (S.weak rfl (fun f hf => by
    cases hf with
    | head => exact ⟨_, .head _, rfl, hm⟩
    | tail _ hf => exact ⟨f, .tail _ hf, rfl, fun _ h => h⟩) (List.Sublist.refl _))

/-- the heap has grown, all that was in it stands -/
theorem Sx.grow {s : Shared} {h' : Heap} {tk : Nat} (S : Sx c frs led s) (hk : Ka s.heap h') : Sx c frs led { s with heap := h', toks := tk } where
  keep := S.keep.trans hk.kp
  fr := fun f hf => by
    obtain ⟨mf, ⟨o, es, ep, e, r⟩, b⟩ := S.fr f hf
    exact ⟨mf, ⟨o, es, ep, hk _ _ e, r⟩, b⟩
  ld := fun p hp => hk _ _ (S.ld p hp)
  nd := S.nd
  new := S.new
  tab := S.tab
  tb := let ⟨k, T⟩ := S.tb; ⟨k, hk _ _ T.tab, T.own, fun a e => let ⟨oc, vs, t, e1, r⟩ := T.code a e; ⟨oc, vs, t, hk _ _ e1, r⟩, T.src, T.pin⟩
  gens := S.gens
  dr := S.dr
  os := S.os
  ne := S.ne
theorem Sx.tok {s : Shared} {tk : Nat} (S : Sx c frs led s) : Sx c frs led { s with toks := tk } := S.grow (Ka.refl _)
/-- a new object -/
theorem Sx.add {s : Shared} {a : Addr} {o : Obj} (S : Sx c frs led s) (ho : s.heap.get? a = some o) (ha : a ∉ addrs frs led) (hb : c.base.objs.size ≤ a) (ht : ∀ k, s.heap.get? tabP = some (tabO (some k)) → a ≠ k) : Sx c frs ((a, o) :: led) s where
  keep := S.keep
  fr := S.fr
  ld := fun p hp => by
    rcases List.mem_cons.mp hp with rfl | hp
    · exact ho
    · exact S.ld p hp
  nd := by
    have h := S.nd
    unfold addrs at h ha ⊢
    rw [List.map_cons]
    exact (List.perm_middle.nodup_iff).mpr (List.nodup_cons.mpr ⟨ha, h⟩)
  new := fun x hx => by
    unfold addrs at hx
    rcases List.mem_append.mp hx with hx | hx
    · exact S.new x (List.mem_append_left _ hx)
    · rcases List.mem_cons.mp hx with rfl | hx
      · exact hb
      · exact S.new x (List.mem_append_right _ hx)
  tab := S.tab
  tb := let ⟨k, T⟩ := S.tb; ⟨k, T.tab, fun x e hx => by
    unfold addrs at hx
    rcases List.mem_append.mp hx with hx | hx
    · exact T.own x e (List.mem_append_left _ hx)
    · rcases List.mem_cons.mp hx with h | hx
      · exact ht x (by rw [← e]; exact T.tab) h.symm
      · exact T.own x e (List.mem_append_right _ hx), T.code, T.src, T.pin⟩
  gens := S.gens
  dr := S.dr
  os := S.os
  ne := S.ne
theorem Sx.size_le {s : Shared} (S : Sx c frs led s) : ∀ a ∈ addrs frs led, a < s.heap.objs.size := fun a ha => by
  unfold addrs at ha
  rcases List.mem_append.mp ha with ha | ha
  · obtain ⟨f, hf, rfl⟩ := List.mem_map.mp ha
    obtain ⟨mf, hn, _⟩ := S.fr f hf
    exact hn.lt
  · obtain ⟨p, hp, rfl⟩ := List.mem_map.mp ha
    exact Heap.lt_size (S.ld p hp)
theorem Sx.sz {s : Shared} (S : Sx c frs led s) : c.base.objs.size ≤ s.heap.objs.size := by
  cases frs with
  | nil => exact absurd rfl S.ne
  | cons f r =>
    have h1 := S.new f.1 (List.mem_append_left _ (.head _))
    have h2 := S.size_le f.1 (List.mem_append_left _ (.head _))
    unfold Addr at *
    exact om56 h1 h2
theorem Sx.fresh {s : Shared} (S : Sx c frs led s) {a : Addr} (h : s.heap.objs.size ≤ a) : a ∉ addrs frs led := fun hm => Nat.lt_irrefl _ (Nat.lt_of_lt_of_le (S.size_le a hm) h)
/-- a new object, the heap grown -/
theorem Sx.push {s : Shared} {h' : Heap} {tk : Nat} {a : Addr} {o : Obj} (S : Sx c frs led s) (hk : Ka s.heap h') (ho : h'.get? a = some o) (ha : s.heap.objs.size ≤ a) : Sx c frs ((a, o) :: led) { s with heap := h', toks := tk } :=
  (S.grow hk).add ho (S.fresh ha) (Nat.le_trans S.sz ha) fun k e q => by
    obtain ⟨k', T⟩ := S.tb
    have e2 := hk _ _ T.tab
    have e3 : k' = some k := tabO_inj (Option.some.inj (e2.symm.trans e))
    obtain ⟨oc, vs, t, e1, _⟩ := T.code k e3
    have := Heap.lt_size e1
    subst q
    unfold Addr at *
    exact om9 ha this
end
end
section
section
variable {α β : Type} {c : Cx} {A : Around} {frs : Frs} {led : Led} {env : Env}
theorem W.out {t : Sem α} {Q : α → Frs → Led → Prop} {s : Shared} {R : α → Shared → Prop} {E : Value → Shared → Prop} (h : W c A t frs led Q) (S : Sx c frs led s)
    (k : ∀ a s' f l, Sx c f l s' → Q a f l → R a s') : wpAny (model pw c.w) A t R E s := wpAny_mono (h s S) (fun a s' ⟨f, l, S', q⟩ => k a s' f l S' q) (fun _ _ x => x.elim)
theorem Wc.out {t : Code} {Q : Flow → Frs → Led → Prop} {s : Shared} {R : Result → Shared → Prop} (h : Wc c A t frs led Q) (S : Sx c frs led s)
    (k : ∀ fl s' f l, Sx c f l s' → Q fl f l → R (.ok fl) s') : codeAny (model pw c.w) A t R s := codeAny_mono (h s S) (fun r s' ⟨fl, f, l, e, S', q⟩ => e ▸ k fl s' f l S' q)

/-! statements -/
theorem W_nil {Q : Flow → Frs → Led → Prop} (h : Q .next frs led) : W c A (execs [] env) frs led Q := fun _ S => wpAny_execs_nil ⟨_, _, S, h⟩
def Then (c : Cx) (A : Around) (env : Env) (rest : List Stmt) (Q : Flow → Frs → Led → Prop) : Flow → Frs → Led → Prop
  | .next, f, l => W c A (execs rest env) f l Q
  | fl, f, l => Q fl f l
theorem W_cons {st : Stmt} {rest : List Stmt} {Q : Flow → Frs → Led → Prop} (h : W c A (exec st env) frs led (Then c A env rest Q)) : W c A (execs (st :: rest) env) frs led Q :=
  fun s S => wpAny_execs_cons (h.out S fun fl s' f l S' q => by
    cases fl with
    | next => exact q s' S'
    | brk => exact ⟨f, l, S', q⟩
    | cont => exact ⟨f, l, S', q⟩
    | ret v => exact ⟨f, l, S', q⟩)
/-- one statement that goes on -/
theorem W_cons_next {st : Stmt} {rest : List Stmt} {Q : Flow → Frs → Led → Prop} (h : W c A (exec st env) frs led (fun fl f l => fl = .next ∧ W c A (execs rest env) f l Q)) : W c A (execs (st :: rest) env) frs led Q :=
  W_cons (W_mono h fun fl f l ⟨e, q⟩ => by subst e; exact q)
theorem W_If {test : Expr} {body orelse : List Stmt} {pos : Pos} {Q : Flow → Frs → Led → Prop}
    (h : W c A (isTrue test env (eval test env)) frs led (fun b f l => if b = true then W c A (execs body env) f l Q else W c A (execs orelse env) f l Q)) : W c A (exec (.If test body orelse pos) env) frs led Q :=
  fun s S => wpAny_If (h.out S fun b s' f l S' q => by cases b <;> simp at q ⊢ <;> exact q s' S')
theorem W_Assign_Name {x : Str} {p pos : Pos} {value : Expr} {Q : Flow → Frs → Led → Prop} (h : W c A (eval value env) frs led (fun v f l => W c A (storeName env x v) f l (fun _ => Q .next)))
    (hs : swapsWith value (some (.Name x p)) pos.line env = pure false) : W c A (exec (.Assign [.Name x p] value pos) env) frs led Q :=
  fun s S => wpAny_Assign_Name (h.out S fun v s' f l S' q => q s' S') hs
theorem W_AugAssign_Name {x : Str} {p pos : Pos} {op : Operator} {value : Expr} {Q : Flow → Frs → Led → Prop}
    (h : W c A (loadName env x) frs led (fun old f l => W c A (eval value env) f l (fun v f l => W c A (inplaceOp op old v) f l (fun r f l => W c A (storeName env x r) f l (fun _ => Q .next))))) :
    W c A (exec (.AugAssign (.Name x p) op value pos) env) frs led Q :=
  fun s S => wpAny_AugAssign_Name (h.out S fun _ s f l S q => q.out S fun _ s f l S q => q.out S fun _ s f l S q => q s S)
theorem W_Return {e : Expr} {pos : Pos} {Q : Flow → Frs → Led → Prop} (h : W c A (eval e env) frs led (fun v => Q (.ret v))) : W c A (exec (.Return (some e) pos) env) frs led Q :=
  fun s S => wpAny_Return_some (h s S)
theorem W_Continue {pos : Pos} {Q : Flow → Frs → Led → Prop} (h : Q .cont frs led) : W c A (exec (.Continue pos) env) frs led Q := fun _ S => wpAny_Continue ⟨_, _, S, h⟩
theorem W_Expr {e : Expr} {pos : Pos} {Q : Flow → Frs → Led → Prop} (h : W c A (eval e env) frs led (fun v f l => (∀ a, v ≠ .ref a) ∧ Q .next f l))
    (hi : interactive env = false) (hs : swapsWith e none pos.line env = pure false) : W c A (exec (.Expr e pos) env) frs led Q :=
  fun s S => wpAny_Expr (h.out S fun v s' f l S' ⟨n, q⟩ => by cases v <;> first | exact ⟨f, l, S', q⟩ | exact absurd rfl (n _)) hi hs

/-! expressions -/
theorem W_int {i : Int} {k : Nat} {pos : Pos} {Q : Value → Frs → Led → Prop} (h : ∀ t, Q (.int i t) frs led) : W c A (eval (.Constant (.int i) k pos) env) frs led Q :=
  fun _ S => wpAny_Constant_int ⟨_, _, S.tok, h _⟩
theorem W_str {x : Str} {k : Nat} {pos : Pos} {Q : Value → Frs → Led → Prop} (h : ∀ t, Q (.str x t) frs led) : W c A (eval (.Constant (.str x) k pos) env) frs led Q :=
  fun _ S => wpAny_Constant_str ⟨_, _, S.tok, h _⟩
theorem W_none {k : Nat} {pos : Pos} {Q : Value → Frs → Led → Prop} (h : Q .none frs led) : W c A (eval (.Constant .none k pos) env) frs led Q := fun _ S => wpAny_Constant_none ⟨_, _, S, h⟩
theorem W_bool {b : Bool} {k : Nat} {pos : Pos} {Q : Value → Frs → Led → Prop} (h : Q (.bool b) frs led) : W c A (eval (.Constant (.bool b) k pos) env) frs led Q := fun _ S => wpAny_Constant_bool ⟨_, _, S, h⟩
theorem W_BinOp {l r : Expr} {op : Operator} {pos : Pos} {Q : Value → Frs → Led → Prop} (h : W c A (eval l env) frs led (fun a f l => W c A (eval r env) f l (fun b f l => W c A (binaryOp op a b) f l Q))) :
    W c A (eval (.BinOp l op r pos) env) frs led Q := fun s S => wpAny_BinOp (h.out S fun _ s f l S q => q.out S fun _ s f l S q => q s S)
theorem W_Compare {l r : Expr} {op : CmpOp} {pos : Pos} {Q : Value → Frs → Led → Prop} (h : W c A (eval l env) frs led (fun a f l => W c A (eval r env) f l (fun b f l => W c A (compareOp op a b) f l Q)))
    (hm : behindInMarks op r = false) : W c A (eval (.Compare l [op] [r] pos) env) frs led Q := fun s S => wpAny_Compare1 (h.out S fun _ s f l S q => q.out S fun _ s f l S q => q s S) hm
theorem W_UnaryOp {x : Expr} {op : UnaryOp} {pos : Pos} {Q : Value → Frs → Led → Prop} (h : W c A (eval x env) frs led (fun v f l => W c A (unaryOp op v) f l Q)) : W c A (eval (.UnaryOp op x pos) env) frs led Q :=
  fun s S => wpAny_UnaryOp (h.out S fun _ s f l S q => q s S)
theorem W_Subscript {value slice : Expr} {pos : Pos} {Q : Value → Frs → Led → Prop} (h : W c A (eval value env) frs led (fun o f l => W c A (eval slice env) f l (fun i f l => W c A (subscriptTail value slice o i) f l Q))) :
    W c A (eval (.Subscript value slice pos) env) frs led Q := fun s S => Subscript_ (h.out S fun _ s f l S q => q.out S fun _ s f l S q => q s S)
theorem W_isTrue_Compare {l r : Expr} {op : CmpOp} {pos : Pos} {whole : Sem Value} {Q : Bool → Frs → Led → Prop}
    (h : W c A (eval l env) frs led (fun a f l => W c A (eval r env) f l (fun b f l => W c A (compareOp op a b) f l (fun v f l => ∃ b, v = .bool b ∧ Q b f l))))
    (hm : behindInMarks op r = false) : W c A (isTrue (.Compare l [op] [r] pos) env whole) frs led Q :=
  fun s S => wpAny_isTrue_Compare1 (h.out S fun _ s f l S q => q.out S fun _ s f l S q => q.out S fun v s f l S ⟨b, e, q⟩ => by subst e; exact wpAny_truthy_bool ⟨f, l, S, q⟩) hm
theorem W_isTrue_Not {x : Expr} {pos : Pos} {whole : Sem Value} {Q : Bool → Frs → Led → Prop} (h : W c A (isTrue x env (eval x env)) frs led (fun b => Q (!b))) : W c A (isTrue (.UnaryOp .Not x pos) env whole) frs led Q :=
  fun s S => wpAny_isTrue_Not (h s S)
theorem W_isTrue_value {e : Expr} {whole : Sem Value} {Q : Bool → Frs → Led → Prop} (h : W c A whole frs led (fun v f l => W c A (truthy v) f l Q))
    (he : isTrue e env whole = (do let v ← whole; standAt e.pos; holding [v] (truthy v))) : W c A (isTrue e env whole) frs led Q := fun s S => by
  rw [he]
  exact wpAny_bind (h.out S fun v s f l S q => wpAny_bind (wpAny_standAt (wpAny_holding (q s S))))
theorem W_isTrue_BoolOp {op : BoolOp} {values : List Expr} {pos : Pos} {whole : Sem Value} {Q : Bool → Frs → Led → Prop} (h : W c A (allTrue op values env) frs led Q) : W c A (isTrue (.BoolOp op values pos) env whole) frs led Q :=
  fun s S => wpAny_isTrue_BoolOp (h s S)
theorem W_and_nil {Q : Bool → Frs → Led → Prop} (h : Q true frs led) : W c A (allTrue .And [] env) frs led Q := fun _ S => wpAny_allTrue_And_nil ⟨_, _, S, h⟩
theorem W_and_cons {x : Expr} {rest : List Expr} {Q : Bool → Frs → Led → Prop} (h : W c A (isTrue x env (eval x env)) frs led (fun b f l => if b = true then W c A (allTrue .And rest env) f l Q else Q false f l)) :
    W c A (allTrue .And (x :: rest) env) frs led Q := fun s S => by
  show wpAny _ _ (isTrue x env (eval x env) >>= fun b => _) _ _ s
  refine wpAny_bind (h.out S fun b s f l S q => ?_)
  cases b with
  | true => exact (by simpa using q : W c A (allTrue .And rest env) f l Q) s S
  | false => exact wpAny_pure ⟨f, l, S, by simpa using q⟩
end
end
section
/-! names -/
def gl : Loc := [("parse_keqv_list", .ref 21), ("parse_http_list", .ref 26), ("_QUOPRI_MAP", .ref 29), ("unquote", .ref 49), ("quote", .ref 56), ("_byteswap", .ref 68), ("get_parent_map", .ref 75), ("prepare_parent", .ref 82), ("_SelectorContext", .ref 99),
  ("_law_cells", .ref 110), ("_law_wishes", .ref 117), ("_law_figures", .ref 124), ("_law_letter", .ref 129), ("_law_told", .ref 134), ("_law_book", .ref 139), ("_law_led", .ref 146), ("_law_singly", .ref 153), ("_law_ring", .ref 158)]
def bl : Loc := [("len", .builtin "len"), ("range", .type "range"), ("list", .type "list"), ("bytes", .type "bytes"), ("bytearray", .type "bytearray"), ("dict", .type "dict"), ("int", .type "int"), ("chr", .builtin "chr"), ("ord", .builtin "ord"),
  ("isinstance", .builtin "isinstance"), ("sorted", .builtin "sorted")]
structure TopN (h : Heap) : Prop where
  g : ∃ mg, h.Ns mainGlobals mg ∧ (∀ p ∈ gl, mg p.1 = some p.2) ∧ ∀ p ∈ bl, mg p.1 = none
  b : ∃ mb, h.Ns builtinsNs mb ∧ ∀ p ∈ bl, mb p.1 = some p.2
  nolimit : h.NoLimit
theorem Ns.kp {h h' : Heap} {a : Addr} {m : Str → Option Value} (x : h.Ns a m) (ha : a ≠ tabP) (k : Kp h h') : h'.Ns a m := let ⟨o, es, ep, e, r⟩ := x; ⟨o, es, ep, k _ _ ha e, r⟩
theorem TopN.kp {h h' : Heap} (T : TopN h) (k : Kp h h') : TopN h' where
  g := let ⟨mg, a, b⟩ := T.g; ⟨mg, Ns.kp a (by decide) k, b⟩
  b := let ⟨mg, a, b⟩ := T.b; ⟨mg, Ns.kp a (by decide) k, b⟩
  nolimit := let ⟨mc, a, b⟩ := T.nolimit; ⟨mc, Ns.kp a (by decide) k, b⟩

/-- where an object is known to be -/
inductive At (c : Cx) (led : Led) (a : Addr) (o : Obj) : Prop
  | led (h : (a, o) ∈ led)
  | base (h : c.base.get? a = some o) (ht : a ≠ tabP)
section
variable {α β : Type} {c : Cx} {A : Around} {frs : Frs} {led : Led} {env : Env}
theorem Sx.at {s : Shared} (S : Sx c frs led s) {a : Addr} {o : Obj} (h : At c led a o) : s.heap.get? a = some o := by
  cases h with
  | led h => exact S.ld _ h
  | base h ht => exact S.keep _ _ ht h
theorem At.cons {a : Addr} {o : Obj} {p : Addr × Obj} (h : At c led a o) : At c (p :: led) a o := by
  cases h with
  | led h => exact .led (.tail _ h)
  | base h ht => exact .base h ht

theorem W_local {x : Str} {pos : Pos} {L : Addr} {m : Loc} {r : Frs} {v : Value} {Q : Value → Frs → Led → Prop} (hL : env.locals = L) (hk : env.scope.kind = .function) (hx : env.kindOf x = some .local)
    (hm : (x, v) ∈ m) (hd : (x == ("__debug__" : Str)) = false) (h : Q v ((L, m) :: r) led) : W c A (eval (.Name x pos) env) ((L, m) :: r) led Q := fun s S => by
  obtain ⟨mf, hn, hf⟩ := S.fr _ (.head _)
  subst hL
  exact wpAny_Name (wpAny_loadName_local hk hx hn (hf _ hm) ⟨_, _, S, h⟩) hd
theorem W_loadLocal {x : Str} {L : Addr} {m : Loc} {r : Frs} {v : Value} {Q : Value → Frs → Led → Prop} (hL : env.locals = L) (hk : env.scope.kind = .function) (hx : env.kindOf x = some .local)
    (hm : (x, v) ∈ m) (h : Q v ((L, m) :: r) led) : W c A (loadName env x) ((L, m) :: r) led Q := fun s S => by
  obtain ⟨mf, hn, hf⟩ := S.fr _ (.head _)
  subst hL
  exact wpAny_loadName_local hk hx hn (hf _ hm) ⟨_, _, S, h⟩
theorem W_cell {x : Str} {pos : Pos} {a : Addr} {o : Obj} {v : Value} {Q : Value → Frs → Led → Prop} (hk : env.scope.kind = .function) (hx : env.kindOf x = some .cell)
    (ha : env.cells.lookup x = some a) (ho : At c led a o) (hv : o.data = .cell (some v)) (hd : (x == ("__debug__" : Str)) = false) (h : Q v frs led) : W c A (eval (.Name x pos) env) frs led Q := fun s S =>
  wpAny_Name (wpAny_loadName_cell hk hx ha ⟨o, S.at ho, hv⟩ ⟨_, _, S, h⟩) hd
theorem W_free {x : Str} {pos : Pos} {a : Addr} {o : Obj} {v : Value} {Q : Value → Frs → Led → Prop} (hk : env.scope.kind = .function) (hx : env.kindOf x = some .free)
    (ha : env.cells.lookup x = some a) (ho : At c led a o) (hv : o.data = .cell (some v)) (hd : (x == ("__debug__" : Str)) = false) (hn : (x == ("__classdict__" : Str)) = false) (h : Q v frs led) : W c A (eval (.Name x pos) env) frs led Q := fun s S =>
  wpAny_Name (wpAny_loadName_free hk hx ha ⟨o, S.at ho, hv⟩ ⟨_, _, S, h⟩ hn) hd
theorem W_global {x : Str} {pos : Pos} {v : Value} {Q : Value → Frs → Led → Prop} (T : TopN c.base) (hk : env.scope.kind = .function) (hg : env.globals = mainGlobals) (hx : env.kindOf x = some .globalImplicit) (hm : (x, v) ∈ gl)
    (hd : (x == ("__debug__" : Str)) = false) (h : Q v frs led) : W c A (eval (.Name x pos) env) frs led Q := fun s S => by
  obtain ⟨mg, a, b, _⟩ := (T.kp S.keep).g
  exact Name_function_global hk hx (loadGlobal_global (hg ▸ a) (b _ hm) ⟨_, _, S, h⟩) hd
theorem W_builtin {x : Str} {pos : Pos} {v : Value} {Q : Value → Frs → Led → Prop} (T : TopN c.base) (hk : env.scope.kind = .function) (hg : env.globals = mainGlobals) (hb : env.builtins = builtinsNs) (hx : env.kindOf x = some .globalImplicit)
    (hm : (x, v) ∈ bl) (hd : (x == ("__debug__" : Str)) = false) (h : Q v frs led) : W c A (eval (.Name x pos) env) frs led Q := fun s S => by
  obtain ⟨mg, a, _, b⟩ := (T.kp S.keep).g
  obtain ⟨mb, d, e⟩ := (T.kp S.keep).b
  exact Name_function_global hk hx (loadGlobal_builtin (hg ▸ a) (b _ hm) (hb ▸ d) (e _ hm) ⟨_, _, S, h⟩) hd

/-! an own object changed -/
inductive Up (a : Addr) (o o' : Obj) : Led → Led → Prop
  | head {r : Led} : Up a o o' ((a, o) :: r) ((a, o') :: r)
  | tail {p : Addr × Obj} {r r' : Led} : Up a o o' r r' → Up a o o' (p :: r) (p :: r')
theorem Up.mem {a : Addr} {o o' : Obj} {l l' : Led} (u : Up a o o' l l') : (a, o) ∈ l := by
  induction u with
  | head => exact .head _
  | tail _ ih => exact .tail _ ih
theorem Up.keys {a : Addr} {o o' : Obj} {l l' : Led} (u : Up a o o' l l') : l'.map (·.1) = l.map (·.1) := by
  induction u with
  | head => rfl
  | tail _ ih => rw [List.map_cons, List.map_cons, ih]
theorem Up.get {a : Addr} {o o' : Obj} {l l' : Led} (u : Up a o o' l l') (hn : (l.map (·.1)).Nodup) : ∀ p ∈ l', (p = (a, o')) ∨ (p.1 ≠ a ∧ p ∈ l) := by
  induction u with
  | head =>
    intro p hp
    rw [List.map_cons, List.nodup_cons] at hn
    rcases List.mem_cons.mp hp with rfl | hp
    · exact .inl rfl
    · exact .inr ⟨fun e => hn.1 (by have := List.mem_map_of_mem (f := (·.1)) hp; rw [e] at this; exact this), .tail _ hp⟩
  | tail u ih =>
    intro p hp
    rw [List.map_cons, List.nodup_cons] at hn
    rcases List.mem_cons.mp hp with rfl | hp
    · exact .inr ⟨fun e => hn.1 (e ▸ List.mem_map_of_mem u.mem), .head _⟩
    · rcases ih hn.2 p hp with h | h
      · exact .inl h
      · exact .inr ⟨h.1, .tail _ h.2⟩
theorem Sx.upd {s : Shared} {h' : Heap} {tk : Nat} {a : Addr} {o o' : Obj} {led' : Led} (S : Sx c frs led s) (U : Up a o o' led led') (hs : ∀ b ob, b ≠ a → s.heap.get? b = some ob → h'.get? b = some ob) (ho : h'.get? a = some o') :
    Sx c frs led' { s with heap := h', toks := tk } := by
  have hnd := S.nd
  unfold addrs at hnd
  have hn2 := (List.nodup_append.mp hnd)
  have ham : a ∈ led.map (·.1) := List.mem_map_of_mem U.mem
  refine ⟨fun b ob hb e => ?_, fun f hf => ?_, fun p hp => ?_, ?_, ?_, S.tab, ?_, S.gens, S.dr, S.os, S.ne⟩
  · refine hs b ob (fun q => ?_) (S.keep b ob hb e)
    have h1 := S.new a (List.mem_append_right _ ham)
    have h2 := Heap.lt_size e
    rw [q] at h2
    unfold Addr at *
    exact om9 h1 h2
  · obtain ⟨mf, ⟨of, es, ep, e, r⟩, b⟩ := S.fr f hf
    exact ⟨mf, ⟨of, es, ep, hs _ _ (fun q => hn2.2.2 f.1 (List.mem_map_of_mem hf) a ham q) e, r⟩, b⟩
  · rcases U.get hn2.2.1 p hp with rfl | ⟨h1, h2⟩
    · exact ho
    · exact hs _ _ h1 (S.ld p h2)
  · unfold addrs
    rw [U.keys]
    exact hnd
  · unfold addrs
    rw [U.keys]
    exact S.new
  · obtain ⟨k, T⟩ := S.tb
    have hne : ∀ x, k = some x → x ≠ a := fun x e q => T.own x e (q ▸ List.mem_append_right _ ham)
    refine ⟨k, hs _ _ (fun q => ?_) T.tab, ?_, fun x e => let ⟨oc, vs, t, e1, r⟩ := T.code x e; ⟨oc, vs, t, hs _ _ (hne x e) e1, r⟩, T.src, T.pin⟩
    · have h1 := S.new a (List.mem_append_right _ ham)
      have h2 := S.tab
      unfold Addr at *
      exact om13 q h1 h2
    · unfold addrs
      rw [U.keys]
      exact T.own
theorem Sx.setFr {s : Shared} {h' : Heap} {tk : Nat} {L : Addr} {m m' : Loc} {r : Frs} (S : Sx c ((L, m) :: r) led s) (hs : ∀ b ob, b ≠ L → s.heap.get? b = some ob → h'.get? b = some ob) (hf : FrOk h' L m') :
    Sx c ((L, m') :: r) led { s with heap := h', toks := tk } := by
  have hnd := S.nd
  unfold addrs at hnd
  rw [List.map_cons, List.cons_append, List.nodup_cons] at hnd
  refine ⟨fun b ob hb e => ?_, fun f hf' => ?_, fun p hp => ?_, ?_, ?_, S.tab, ?_, S.gens, S.dr, S.os, fun e => by cases e⟩
  · refine hs b ob (fun q => ?_) (S.keep b ob hb e)
    have h1 := S.new L (.head _)
    have h2 := Heap.lt_size e
    rw [q] at h2
    unfold Addr at *
    exact om9 h1 h2
  · rcases List.mem_cons.mp hf' with rfl | hf'
    · exact hf
    · obtain ⟨mf, ⟨of, es, ep, e, r⟩, b⟩ := S.fr f (.tail _ hf')
      exact ⟨mf, ⟨of, es, ep, hs _ _ (fun q => hnd.1 (by have := List.mem_map_of_mem (f := (·.1)) hf'; rw [q] at this; exact List.mem_append_left _ this)) e, r⟩, b⟩
  · exact hs _ _ (fun q => hnd.1 (by have := List.mem_map_of_mem (f := (·.1)) hp; rw [q] at this; exact List.mem_append_right _ this)) (S.ld p hp)
  · exact S.nd
  · exact S.new
  · refine exX1 S.tb fun k T => ?_
    have hne : ∀ x, k = some x → x ≠ L := fun x e q => T.own x e (q ▸ .head _)
    refine ⟨k, hs _ _ (fun q => ?_) T.tab, T.own, fun x e => let ⟨oc, vs, t, e1, r⟩ := T.code x e; ⟨oc, vs, t, hs _ _ (hne x e) e1, r⟩, T.src, T.pin⟩
    have h1 := S.new L (.head _)
    have h2 := S.tab
    unfold Addr at *
    exact om13 q h1 h2
theorem W_store {x : Str} {L : Addr} {m m' : Loc} {r : Frs} {v : Value} {Q : Unit → Frs → Led → Prop} (hL : env.locals = L) (hk : env.scope.kind = .function) (hx : env.kindOf x = some .local)
    (hm : ∀ p ∈ m', p ∈ m ∧ p.1 ≠ x) (h : Q () ((L, (x, v) :: m') :: r) led) : W c A (storeName env x v) ((L, m) :: r) led Q := fun s S => by
  obtain ⟨mf, hn, hf⟩ := S.fr _ (.head _)
  subst hL
  refine wpAny_storeName_local hx hn (fun h' hn' hs => ⟨_, _, S.setFr (fun b ob hb e => (hs.2 b hb).trans e) ⟨_, hn', fun p hp => ?_⟩, h⟩) (by rw [hk]; rfl)
  rcases List.mem_cons.mp hp with rfl | hp
  · exact if_pos rfl
  · show (if p.1 = x then some v else mf p.1) = some p.2
    rw [if_neg (hm p hp).2]
    exact hf p (hm p hp).1
theorem W_storeCell {x : Str} {a : Addr} {o : Obj} {v : Value} {v₀ : Option Value} {led' : Obj → Led} {Q : Unit → Frs → Led → Prop} (hk : env.scope.kind = .function) (hx : env.kindOf x = some .cell)
    (ha : env.cells.lookup x = some a) (U : ∀ o', Up a o o' led (led' o')) (hv : o.data = .cell v₀) (h : ∀ o' : Obj, o'.data = .cell (some v) → Q () frs (led' o')) : W c A (storeName env x v) frs led Q := fun s S => by
  refine wpAny_storeName_cell hk hx ha ⟨o, S.ld _ (U o).mem, hv⟩ fun h' hc hs => ?_
  obtain ⟨o', ho', hd⟩ := hc
  exact ⟨_, _, S.upd (U o') (fun b ob hb e => (hs.2 b hb).trans e) ho', h o' hd⟩
end
end
section
/-! calls -/
structure AOk (n : Nat) (A : Around) : Prop where
  handled : A.handled = none
  guards : A.guards = some []
  depth : A.depth + n ≤ 600
  units : A.units + 4 * n ≤ 9000
  frames : ∃ l, A.frames = some l
theorem AOk.le {n m : Nat} {A : Around} (h : AOk n A) (hm : m ≤ n := by decide) : AOk m A := ⟨h.handled, h.guards, by have := h.depth; exact om87 hm this, by have := h.units; exact om88 hm this, h.frames⟩
theorem AOk.in1 {n : Nat} {A : Around} (h : AOk (n + 1) A) : AOk n A.in1 := ⟨h.handled, h.guards, by have := h.depth; show A.depth + n ≤ 600; exact om89 this, by have := h.units; show A.units + 1 + 4 * n ≤ 9000; exact om90 this, h.frames⟩
theorem AOk.deeper {n : Nat} {A : Around} {env : Env} (h : AOk (n + 1) A) : AOk n (A.deeper env) :=
  ⟨h.handled, h.guards, by have := h.depth; show A.depth + 1 + n ≤ 600; exact om91 this, by have := h.units; show A.units + 3 + 4 * n ≤ 9000; exact om92 this, let ⟨l, e⟩ := h.frames; ⟨env :: l, by show A.frames.map _ = _; rw [e]; rfl⟩⟩
theorem AOk.room {n : Nat} {A : Around} (h : AOk n A) : A.depth < recursionLimit := by have := h.depth; show A.depth < 1000; exact om93 this
theorem AOk.cline {n : Nat} {A : Around} (h : AOk n A) : A.units < cLine := by have := h.units; show A.units < 9900; exact om94 this

theorem cellsAre_keys {cm : Str → Option Value} : ∀ {cs : List (Str × Addr)} {l : Led}, CellsAre cm cs l → l.map (·.1) = cs.map (·.2)
  | _, _, .nil => rfl
  | _, _, .cons _ r => by rw [List.map_cons, List.map_cons, cellsAre_keys r]
inductive FnAt (h : Heap) (f k : Addr) (qual : Str) (params : Arguments) (body : List Stmt) (scope : Scope) : Prop
  | mk (o name doc pm an ct oc vs t) (e : h.get? f = some o) (r : o.data = .func (fnX name qual params body scope [] .none .none doc pm an (.ref k) ct) ∧ h.get? k = some oc ∧ oc.data = .fields vs ∧ vs[1]? = some (.str qual t))
theorem FnAt.kp {h h' : Heap} {f k : Addr} {qual params body scope} (F : FnAt h f k qual params body scope) (K : Kp h h') (hf : f ≠ tabP) (hk : k ≠ tabP) : FnAt h' f k qual params body scope :=
  let ⟨o, name, doc, pm, an, ct, oc, vs, t, e, d, e2, r⟩ := F; ⟨o, name, doc, pm, an, ct, oc, vs, t, K _ _ hf e, d, K _ _ hk e2, r⟩

section
variable {α β : Type} {c : Cx} {A : Around} {frs : Frs} {led : Led} {env : Env}
theorem At.ne {s : Shared} (S : Sx c frs led s) {a : Addr} {o : Obj} (h : At c led a o) : a ≠ tabP := by
  cases h with
  | led h =>
    have h1 := S.new a (List.mem_append_right _ (List.mem_map_of_mem (f := (·.1)) h))
    have h2 := S.tab
    unfold Addr at *
    exact om14 h1 h2
  | base h ht => exact ht

/-- arguments, one after the other -/
theorem W_args_nil {pos : Pos} {Q : List Value → Frs → Led → Prop} (h : Q [] frs led) : W c A (spliced (backTo pos (starEach [] env))) frs led Q := fun _ S => wpAny_items_nil ⟨_, _, S, h⟩
theorem W_args_cons {pos : Pos} {e : Expr} {rest : List Expr} {Q : List Value → Frs → Led → Prop}
    (h : W c A (eval e env) frs led (fun v f l => W c A (spliced (backTo pos (starEach rest env))) f l (fun vs => Q (v :: vs))))
    (he : starEach (e :: rest) env = (false, eval e env) :: starEach rest env) : W c A (spliced (backTo pos (starEach (e :: rest) env))) frs led Q :=
  fun s S => wpAny_items_cons (h.out S fun v s f l S q => q.out S fun vs s f l S q => ⟨f, l, S, q⟩) he
theorem W_List {elts : List Expr} {pos : Pos} {Q : Value → Frs → Led → Prop} (h : W c A (spliced (backTo pos (starEach elts env))) frs led (fun vs f l => vs.length ≤ sizeLine ∧ ∀ a, Q (.ref a) f ((a, seqObj "list" vs.toArray 0) :: l))) :
    W c A (eval (.List elts pos) env) frs led Q := fun s S => by
  refine wpAny_List (h.out S fun vs s f l S ⟨hz, q⟩ => ?_)
  exact ⟨hz, _, _, S.push (Ka.of fun b o e => Heap.get?_push_of_some _ e) (Heap.get?_push_size _ rfl) (Nat.le_refl _), q _⟩
theorem W_Tuple {elts : List Expr} {k : Nat} {pos : Pos} {Q : Value → Frs → Led → Prop} (h : W c A (spliced (backTo pos (starEach elts env))) frs led (fun vs f l => vs.length ≤ sizeLine ∧ ∀ a, Q (.ref a) f ((a, seqObj "tuple" vs.toArray 0) :: l))) :
    W c A (eval (.Tuple elts k pos) env) frs led Q := fun s S => by
  refine wpAny_Tuple (h.out S fun vs s f l S ⟨hz, q⟩ => ?_)
  exact ⟨hz, _, _, S.push (Ka.of fun b o e => Heap.get?_push_of_some _ e) (Heap.get?_push_size _ rfl) (Nat.le_refl _), q _⟩
/-- a call by a name -/
theorem W_CallName {x : Str} {p pos : Pos} {args : List Expr} {Q : Value → Frs → Led → Prop} (h : W c A (eval (.Name x p) env) frs led (fun f fr l => W c A (callWith pos f [] (backTo pos (starEach args env)) []) fr l Q)) :
    W c A (eval (.Call (.Name x p) args [] pos) env) frs led Q := fun s S => wpAny_Call_NameR (h.out S fun v s f l S q => q s S)
theorem W_callFn {pos : Pos} {f k : Addr} {first : List Value} {e : Expr} {rest : List Expr} {qual params body scope} {Q : Value → Frs → Led → Prop} (F : FnAt c.base f k qual params body scope) (hf : f ≠ tabP)
    (h : W c A (spliced (backTo pos (starEach (e :: rest) env))) frs led (fun vs fr l => W c A (call (.ref f) (first ++ vs)) fr l Q)) (he : starEach (e :: rest) env = (false, eval e env) :: starEach rest env) :
    W c A (callWith pos (.ref f) first (backTo pos (starEach (e :: rest) env)) []) frs led Q := fun s S => by
  obtain ⟨o, name, doc, pm, an, ct, oc, vs, t, e1, d, _⟩ := F
  refine callWith_function (o := o) (fd := fnX name qual params body scope [] .none .none doc pm an (.ref k) ct) ?_
  rw [he] at h ⊢
  exact evalArgs_plain (h.out S fun vs s f l S q => ⟨⟨S.keep _ _ hf e1, d⟩, q s S⟩)
theorem W_callBu {pos : Pos} {id : String} {first : List Value} {e : Expr} {rest : List Expr} {Q : Value → Frs → Led → Prop}
    (h : W c A (spliced (backTo pos (starEach (e :: rest) env))) frs led (fun vs fr l => W c A (call (.builtin id) (first ++ vs)) fr l Q)) (he : starEach (e :: rest) env = (false, eval e env) :: starEach rest env)
    (hp : (backTo pos (starEach (e :: rest) env)).any (·.1) = false) : W c A (callWith pos (.builtin id) first (backTo pos (starEach (e :: rest) env)) []) frs led Q := fun s S => by
  refine callWith_builtin hp ?_
  rw [he] at h ⊢
  exact evalArgs_plain (h.out S fun vs s f l S q => q s S)
theorem W_callTy {pos : Pos} {id : String} {first : List Value} {e : Expr} {rest : List Expr} {Q : Value → Frs → Led → Prop}
    (h : W c A (spliced (backTo pos (starEach (e :: rest) env))) frs led (fun vs fr l => W c A (call (.type id) (first ++ vs)) fr l Q)) (he : starEach (e :: rest) env = (false, eval e env) :: starEach rest env)
    (hp : (backTo pos (starEach (e :: rest) env)).any (·.1) = false) : W c A (callWith pos (.type id) first (backTo pos (starEach (e :: rest) env)) []) frs led Q := fun s S => by
  refine PySem.callWith_type hp ?_
  rw [he] at h ⊢
  exact evalArgs_plain (h.out S fun vs s f l S q => q s S)

/-- out of a callee: what the caller knew stands -/
theorem Sx.backG {w' : World} {frs' : Frs} {led' : Led} {s s' : Shared} {g' : Array GenState} {kc' : Option Addr} (S : Sx c frs led s) (Z : Sx ⟨w', s.heap, g', s.drawn, s.os, kc'⟩ frs' led' s') (hg : GensOk c.gens s'.gens) (hpin : ∀ a, c.kc = some a → ∀ k, TabAt s.heap s'.heap (addrs frs' led') kc' k → k = some a) : Sx c frs led s' where
  keep := S.keep.trans Z.keep
  fr := fun f hf => by
    obtain ⟨mf, ⟨o, es, ep, e, r⟩, b⟩ := S.fr f hf
    refine ⟨mf, ⟨o, es, ep, Z.keep _ _ ?_ e, r⟩, b⟩
    have h1 := S.new f.1 (List.mem_append_left _ (List.mem_map_of_mem hf))
    have h2 := S.tab
    unfold Addr at *
    exact om14 h1 h2
  ld := fun p hp => by
    refine Z.keep _ _ ?_ (S.ld p hp)
    have h1 := S.new p.1 (List.mem_append_right _ (List.mem_map_of_mem hp))
    have h2 := S.tab
    unfold Addr at *
    exact om14 h1 h2
  nd := S.nd
  new := S.new
  tab := S.tab
  tb := by
    obtain ⟨k, T⟩ := Z.tb
    obtain ⟨k₀, T₀⟩ := S.tb
    rcases T.src with h | ⟨a, e, h⟩
    · have e : k₀ = k := tabO_inj (Option.some.inj (T₀.tab.symm.trans h))
      subst e
      exact ⟨k₀, T.tab, T₀.own, T.code, T₀.src, T₀.pin⟩
    · refine ⟨k, T.tab, fun a' e' ha => ?_, T.code, .inr ⟨a, e, Nat.le_trans S.sz h⟩, fun a' e' => ?_⟩
      · rw [e] at e'
        cases e'
        exact Nat.lt_irrefl _ (Nat.lt_of_lt_of_le (S.size_le _ ha) h)
      · exact hpin a' e' k T
  gens := hg
  dr := Z.dr.trans S.dr
  os := Z.os.trans S.os
  ne := S.ne
theorem Sx.back {w' : World} {frs' : Frs} {led' : Led} {s s' : Shared} (S : Sx c frs led s) (Z : Sx ⟨w', s.heap, s.gens, s.drawn, s.os, c.kc⟩ frs' led' s') : Sx c frs led s' :=
  S.backG Z (S.gens.trans Z.gens) fun a e k T => T.pin a e
/-- what the callee hands up -/
theorem Sx.backR {w' : World} {frs' : Frs} {led' : Led} {s s' : Shared} (S : Sx c frs led s) (Z : Sx ⟨w', s.heap, s.gens, s.drawn, s.os, c.kc⟩ frs' led' s') : ∀ r : Led, r.Sublist led' → Sx c frs (r ++ led) s' := by
  intro r hr
  induction r with
  | nil => exact S.back Z
  | cons p r ih =>
    have hp := hr.subset List.mem_cons_self
    have hn := (Z.nd.sublist (List.sublist_append_right _ _)).sublist (hr.map _)
    rw [List.map_cons, List.nodup_cons] at hn
    have hge := Z.new p.1 (List.mem_append_right _ (List.mem_map_of_mem hp))
    refine (ih ((List.sublist_cons_self ..).trans hr)).add (Z.ld p hp) (fun hq => ?_) (Nat.le_trans S.sz hge) fun k e q => ?_
    · unfold addrs at hq
      rw [List.map_append] at hq
      rcases List.mem_append.mp hq with hq | hq
      · exact Nat.lt_irrefl _ (Nat.lt_of_lt_of_le (S.size_le _ (List.mem_append_left _ hq)) hge)
      · rcases List.mem_append.mp hq with hq | hq
        · exact hn.1 hq
        · exact Nat.lt_irrefl _ (Nat.lt_of_lt_of_le (S.size_le _ (List.mem_append_right _ hq)) hge)
    · obtain ⟨k', T⟩ := Z.tb
      have e3 : k' = some k := tabO_inj (Option.some.inj (T.tab.symm.trans e))
      exact T.own k e3 (q ▸ List.mem_append_right _ (List.mem_map_of_mem hp))
/-- the table at the way into a callee -/
theorem Sx.tbIn {s : Shared} {h' : Heap} (S : Sx c frs led s) (hk : Ka s.heap h') {as : List Addr} (ha : ∀ a ∈ as, s.heap.objs.size ≤ a) : ∃ k, TabAt s.heap h' as c.kc k := by
  obtain ⟨k, T⟩ := S.tb
  refine ⟨k, hk _ _ T.tab, fun a e h => ?_, fun a e => let ⟨oc, vs, t, e1, r⟩ := T.code a e; ⟨oc, vs, t, hk _ _ e1, r⟩, .inl T.tab, T.pin⟩
  obtain ⟨oc, vs, t, e1, r⟩ := T.code a e
  exact Nat.lt_irrefl _ (Nat.lt_of_lt_of_le (Heap.lt_size e1) (ha a h))

/-- a call of a def of the text -/
theorem Wc_defK (m : Loc) {n : Nat} {f k : Addr} {qual params body scope} {vals : List Value} {binds : List (Str × Value)} {Q : Value → Frs → Led → Prop} (hA : AOk (n + 1) A) (T : TopN c.base) (F : FnAt c.base f k qual params body scope) (hf : f ≠ tabP) (hk : k ≠ tabP)
    (hb : ∀ name doc pm an ct, bindArgs (fnX name qual params body scope [] .none .none doc pm an (.ref k) ct) ⟨vals, []⟩ = pure binds)
    (hkind : ∀ n, ∀ x ∈ binds, scope.names.lookup x.1 = some .local ∨ (scope.names.lookup x.1 = some .cell ∧ ((cellsFrom n scope.names []).lookup x.1).isSome = true))
    (hco : scope.isCoroutine = false) (hgen : scope.isGenerator = false) (hsk : scope.kind = .function)
    (h : ∀ (c' : Cx) (L : Addr) (cs : List (Str × Addr)) (cl : Led) (mf cm : Str → Option Value), c'.kc = c.kc → c'.w = c.w → TopN c'.base → Kp c.base c'.base → (∀ a o, At c led a o → c'.base.get? a = some o ∧ a ≠ tabP) →
      cs.map (·.1) = (cellsFrom 0 scope.names []).map (·.1) → CellsAre cm cs cl → mf = bindL (envX qual scope L f (.ref k) cs).kindOf binds (fun _ => none) → cm = bindC (envX qual scope L f (.ref k) cs).kindOf binds (fun _ => none) →
      W c' (A.deeper (envX qual scope L f (.ref k) cs)) (execs body (envX qual scope L f (.ref k) cs)) [(L, m)] cl (fun fl f' l' => ∃ v res, (fl = .ret v ∨ (fl = .next ∧ v = .none)) ∧ res.Sublist l' ∧ Q v frs (res ++ led)))
    (hm : ∀ L cs, ∀ p ∈ m, bindL (envX qual scope L f (.ref k) cs).kindOf binds (fun _ => none) p.1 = some p.2)
    (hnd : ((cellsFrom 0 scope.names []).map (·.1)).Nodup) :
    ∀ s, Sx c frs led s → codeAny (model pw c.w) A (.call (.ref f) ⟨vals, []⟩) (fun r s' => ∃ v f' l', r = .ok (.ret v) ∧ Sx c f' l' s' ∧ Q v f' l') s := fun s S => by
  obtain ⟨o, name, doc, pm, an, ct, oc, vs, t, e1, d, e2, d2, e3⟩ := F
  have T' := T.kp S.keep
  refine codeAny_call_cells hA.room (S.keep _ _ hf e1) d T'.nolimit ⟨k, oc, vs, t, rfl, S.keep _ _ hk e2, d2, e3⟩ rfl (hb name doc pm an ct) rfl (hkind _) (fun s₁ x => ?_) hco hgen hsk
  refine exE2_2 x.done fun h₁ tk e hk1 => ?_
  have hL : s.heap.objs.size ≤ s.heap.objs.size := Nat.le_refl _
  refine exE1_2 (Cl.news (h₀ := s.heap) (L := s.heap.objs.size) (h := s₁.heap) (Nat.le_refl _) fun n c hm => ⟨x.cell n c (lookup_of_mem_nodup (cellsFrom_names scope.names 0 (s.heap.objs.size + 1) [] [] rfl ▸ hnd) hm), x.above n c hm⟩) fun cells NC Y => ?_
  let c' : Cx := ⟨c.w, s.heap, s.gens, s.drawn, s.os, c.kc⟩
  have hkeys : cells.map (·.1) = (cellsFrom (s.heap.objs.size + 1) scope.names []).map (·.2) := cellsAre_keys Y
  have S' : Sx c' [(s.heap.objs.size, m)] cells s₁ := by
    subst e
    have habove : ∀ a ∈ addrs [(s.heap.objs.size, m)] cells, s.heap.objs.size ≤ a := fun a ha => by
      unfold addrs at ha
      rcases List.mem_append.mp ha with ha | ha
      · rw [List.mem_singleton.mp ha]; exact Nat.le_refl _
      · rw [hkeys] at ha
        obtain ⟨⟨n, b⟩, hp, e⟩ := List.mem_map.mp ha
        have := x.above n b hp
        subst e
        exact Nat.le_of_lt this
    refine ⟨Kp.of hk1, fun f hf => ?_, fun p hp => (NC p hp).1, ?_, habove, ?_, S.tbIn hk1 habove, GensOk.refl _, rfl, rfl, by simp⟩
    · rw [List.mem_singleton.mp hf]
      exact ⟨_, x.toInCall.ns, hm _ _⟩
    · unfold addrs
      rw [List.map_cons, List.map_nil, List.cons_append, List.nil_append, List.nodup_cons]
      refine ⟨fun q => ?_, ?_⟩
      · obtain ⟨p, hp, e⟩ := List.mem_map.mp q
        exact (NC p hp).2.1 e
      · rw [hkeys]
        have := x.apart
        exact List.pairwise_map.mpr this
    · have := S.tab
      have := S.sz
      show tabP < s.heap.objs.size
      unfold Addr at *
      exact om22 (by assumption) this
  have key := h c' s.heap.objs.size (cellsFrom (s.heap.objs.size + 1) scope.names []) cells _ _ rfl rfl T' S.keep (fun a o ha => ⟨S.at ha, ha.ne S⟩) (cellsFrom_names scope.names 0 (s.heap.objs.size + 1) [] [] rfl).symm Y rfl rfl
  refine wpAny_mono (key s₁ S') (fun fl s' ⟨f', l', Z, v, res, hv, hr, q⟩ => ?_) fun _ _ x => x.elim
  have S2 : Sx c frs (res ++ led) s' := S.backR Z res hr
  rcases hv with rfl | ⟨rfl, rfl⟩
  · exact ⟨_, frs, _, rfl, S2, q⟩
  · exact ⟨_, frs, _, rfl, S2, q⟩
theorem W_defK (m : Loc) {n : Nat} {f k : Addr} {qual params body scope} {vals : List Value} {binds : List (Str × Value)} {Q : Value → Frs → Led → Prop} (hA : AOk (n + 1) A) (T : TopN c.base) (F : FnAt c.base f k qual params body scope) (hf : f ≠ tabP) (hk : k ≠ tabP)
    (hb : ∀ name doc pm an ct, bindArgs (fnX name qual params body scope [] .none .none doc pm an (.ref k) ct) ⟨vals, []⟩ = pure binds)
    (hkind : ∀ n, ∀ x ∈ binds, scope.names.lookup x.1 = some .local ∨ (scope.names.lookup x.1 = some .cell ∧ ((cellsFrom n scope.names []).lookup x.1).isSome = true))
    (hco : scope.isCoroutine = false) (hgen : scope.isGenerator = false) (hsk : scope.kind = .function)
    (h : ∀ (c' : Cx) (L : Addr) (cs : List (Str × Addr)) (cl : Led) (mf cm : Str → Option Value), c'.kc = c.kc → c'.w = c.w → TopN c'.base → Kp c.base c'.base → (∀ a o, At c led a o → c'.base.get? a = some o ∧ a ≠ tabP) →
      cs.map (·.1) = (cellsFrom 0 scope.names []).map (·.1) → CellsAre cm cs cl → mf = bindL (envX qual scope L f (.ref k) cs).kindOf binds (fun _ => none) → cm = bindC (envX qual scope L f (.ref k) cs).kindOf binds (fun _ => none) →
      W c' (A.deeper (envX qual scope L f (.ref k) cs)) (execs body (envX qual scope L f (.ref k) cs)) [(L, m)] cl (fun fl f' l' => ∃ v res, (fl = .ret v ∨ (fl = .next ∧ v = .none)) ∧ res.Sublist l' ∧ Q v frs (res ++ led)))
    (hm : ∀ L cs, ∀ p ∈ m, bindL (envX qual scope L f (.ref k) cs).kindOf binds (fun _ => none) p.1 = some p.2)
    (hnd : ((cellsFrom 0 scope.names []).map (·.1)).Nodup) :
    W c A (call (.ref f) vals) frs led Q := fun s S =>
  wpAny_call (codeAny_mono (Wc_defK m hA T F hf hk hb hkind hco hgen hsk h hm hnd s S) fun r s' ⟨v, f', l', e, S', q⟩ => by subst e; exact ⟨f', l', S', q⟩)
theorem W_def (m : Loc) {n : Nat} {f k : Addr} {qual params body scope} {vals : List Value} {binds : List (Str × Value)} {Q : Value → Frs → Led → Prop} (hA : AOk (n + 1) A) (T : TopN c.base) (F : FnAt c.base f k qual params body scope) (hf : f ≠ tabP) (hk : k ≠ tabP)
    (hb : ∀ name doc pm an ct, bindArgs (fnX name qual params body scope [] .none .none doc pm an (.ref k) ct) ⟨vals, []⟩ = pure binds)
    (hkind : ∀ n, ∀ x ∈ binds, scope.names.lookup x.1 = some .local ∨ (scope.names.lookup x.1 = some .cell ∧ ((cellsFrom n scope.names []).lookup x.1).isSome = true))
    (hco : scope.isCoroutine = false) (hgen : scope.isGenerator = false) (hsk : scope.kind = .function)
    (h : ∀ (c' : Cx) (L : Addr) (cs : List (Str × Addr)) (cl : Led) (mf cm : Str → Option Value), c'.w = c.w → TopN c'.base → Kp c.base c'.base → (∀ a o, At c led a o → c'.base.get? a = some o ∧ a ≠ tabP) →
      cs.map (·.1) = (cellsFrom 0 scope.names []).map (·.1) → CellsAre cm cs cl → mf = bindL (envX qual scope L f (.ref k) cs).kindOf binds (fun _ => none) → cm = bindC (envX qual scope L f (.ref k) cs).kindOf binds (fun _ => none) →
      W c' (A.deeper (envX qual scope L f (.ref k) cs)) (execs body (envX qual scope L f (.ref k) cs)) [(L, m)] cl (fun fl f' l' => ∃ v res, (fl = .ret v ∨ (fl = .next ∧ v = .none)) ∧ res.Sublist l' ∧ Q v frs (res ++ led)))
    (hm : ∀ L cs, ∀ p ∈ m, bindL (envX qual scope L f (.ref k) cs).kindOf binds (fun _ => none) p.1 = some p.2)
    (hnd : ((cellsFrom 0 scope.names []).map (·.1)).Nodup) :
    W c A (call (.ref f) vals) frs led Q :=
  W_defK m hA T F hf hk hb hkind hco hgen hsk (fun c' L cs cl mf cm _ => h c' L cs cl mf cm) hm hnd
end
end
section
/-! numbers, texts -/
section
variable {α β : Type} {c : Cx} {A : Around} {frs : Frs} {led : Led} {env : Env}
theorem W_add {a b : Int} {t u : Tok} {Q : Value → Frs → Led → Prop} (h : ∀ t, Q (.int (a + b) t) frs led) : W c A (binaryOp .Add (.int a t) (.int b u)) frs led Q := fun s S => add_int ⟨_, _, S.tok, h _⟩
theorem W_sub {a b : Int} {t u : Tok} {Q : Value → Frs → Led → Prop} (h : ∀ t, Q (.int (a - b) t) frs led) : W c A (binaryOp .Sub (.int a t) (.int b u)) frs led Q := fun s S => sub_int ⟨_, _, S.tok, h _⟩
theorem W_mul {a b : Int} {t u : Tok} {Q : Value → Frs → Led → Prop} (hm : IntMulOk a b) (h : ∀ t, Q (.int (a * b) t) frs led) : W c A (binaryOp .Mult (.int a t) (.int b u)) frs led Q := fun s S => mul_int ⟨_, _, S.tok, h _⟩ hm
theorem W_div {a b : Int} {t u : Tok} {Q : Value → Frs → Led → Prop} (hb : 0 < b) (hb2 : b < 1073741824) (h : ∀ t, Q (.int (a / b) t) frs led) : W c A (binaryOp .FloorDiv (.int a t) (.int b u)) frs led Q := fun s S =>
  floordiv_int (by exact om23 hb) ⟨_, _, S.tok, by rw [Int.fdiv_eq_ediv_of_nonneg _ (by exact om21 hb)]; exact h _⟩ (.inl (PyProof.noPylong_small (by omega)))
theorem W_mod {a b : Int} {t u : Tok} {Q : Value → Frs → Led → Prop} (hb : 0 < b) (h : ∀ t, Q (.int (a % b) t) frs led) : W c A (binaryOp .Mod (.int a t) (.int b u)) frs led Q := fun s S =>
  mod_int' (by exact om23 hb) ⟨_, _, S.tok, by rw [Int.fmod_eq_emod_of_nonneg _ (by exact om21 hb)]; exact h _⟩
theorem W_cat {x y : Str} {t u : Tok} {Q : Value → Frs → Led → Prop} (hz : x.length + y.length ≤ sizeLine) (h : ∀ t, Q (.str (x ++ y) t) frs led) : W c A (binaryOp .Add (.str x t) (.str y u)) frs led Q := fun s S =>
  add_str (fun t' tk => ⟨_, _, S.tok, h _⟩) hz
theorem W_eqStr {x y : Str} {t u : Tok} {Q : Value → Frs → Led → Prop} (h : Q (.bool (x == y)) frs led) : W c A (compareOp .Eq (.str x t) (.str y u)) frs led Q := fun s S => eq_str ⟨_, _, S, h⟩
theorem W_eqInt {a b : Int} {t u : Tok} {Q : Value → Frs → Led → Prop} (h : Q (.bool (a == b)) frs led) : W c A (compareOp .Eq (.int a t) (.int b u)) frs led Q := fun s S => eq_int ⟨_, _, S, h⟩
theorem W_itemStr {value slice : Expr} {x : Str} {i : Int} {t u : Tok} {Q : Value → Frs → Led → Prop} (h1 : -(x.length : Int) ≤ i) (h2 : i < x.length) (hz : x.length ≤ sizeLine)
    (hs : subscripted slice false (.str x t) (.int i u) = operate [.str x t, .int i u] (getItem (.str x t) (.int i u))) (ht : ∀ r, letTemporaryGo value (.str x t) r = pure ())
    (h : ∀ t, Q (.str (Txt.item x i) t) frs led) : W c A (subscriptTail value slice (.str x t) (.int i u)) frs led Q := fun s S =>
  item_str (by rw [sizeLine_eq] at hz; simp only [fitsSsize, Bool.not_eq_true', Bool.or_eq_false_iff, Bool.and_eq_true, decide_eq_true_eq, decide_eq_false_iff_not]; exact om95 h1 h2 hz) h1 h2 (fun _ => ⟨_, _, S.tok, h _⟩) hs ht
end

/-- '0' .. 'F' -/
def hexd (n : Int) : Nat := if n < 10 then 48 + n.toNat else 55 + n.toNat
/-- the two figures of an octet -/
def fig (o : Int) : Str := ⟨#[hexd (o / 16), hexd (o % 16)]⟩
def hexs : Str := "0123456789ABCDEF"
theorem item_hexs : (List.range 16).map (fun k => Txt.item hexs ((k : Nat) : Int)) = (List.range 16).map (fun k => (⟨#[hexd ((k : Nat) : Int)]⟩ : Str)) := by kernel_rfl
theorem item_hex (i : Int) (h0 : 0 ≤ i) (h1 : i < 16) : Txt.item hexs i = ⟨#[hexd i]⟩ := by
  obtain ⟨n, rfl⟩ := Int.eq_ofNat_of_zero_le h0
  exact List.map_inj_left.mp item_hexs n (List.mem_range.mpr (Int.ofNat_lt.mp h1))

/-! the text's defs -/
def stAt (i : Nat) : Stmt := match pw.main.body.drop i with
  | st :: _ => st
  | [] => .Pass ⟨0, 0, 0, 0⟩
def fnA : Stmt → Arguments
  | .FunctionDef _ a _ _ _ _ _ _ _ _ => a
  | _ => { posonlyargs := [], args := [], vararg := none, kwonlyargs := [], kw_defaults := [], kwarg := none, defaults := [] }
def fnB : Stmt → List Stmt
  | .FunctionDef _ _ b _ _ _ _ _ _ _ => b
  | _ => []
def fnS : Stmt → Scope
  | .FunctionDef _ _ _ _ _ _ sc _ _ _ => sc
  | _ => default
end
section
/-! loops and comprehensions -/
section
variable {α β : Type} {c : Cx} {A : Around} {frs : Frs} {led : Led} {env : Env}
theorem mark_none (hh : A.handled = none) : A.mark none = A := by cases A; cases hh; rfl
theorem under_quiet {code : Code} (h : code.weight = 0) (hu : code.cUnits = 0) : A.under code = A := Around.under_of_weight h hu

/-- what a turn of a for does -/
def ForTurn (c : Cx) (A : Around) (env : Env) (target : Expr) (it : Value) (body : List Stmt) (Q : Flow → Frs → Led → Prop) : Option Value → Frs → Led → Prop
  | none, f, l => Q .next f l
  | some v, f, l => W c A (letOwnedTupleGo target it v) f l fun _ f l => W c A (assign target env v) f l fun _ f l => W c A (execs body env) f l fun fl f l => match fl with
    | .next => Wc c A (.forLoop target it body [] env) f l Q
    | .cont => Wc c A (.forLoop target it body [] env) f l Q
    | .brk => Q .next f l
    | .ret v => Q (.ret v) f l
theorem Wc_for {target : Expr} {it : Value} {body : List Stmt} {Q : Flow → Frs → Led → Prop} (h : W c A (pyNext it) frs led (ForTurn c A env target it body Q)) : Wc c A (.forLoop target it body [] env) frs led Q := fun s S => by
  refine codeAny_of_tree ?_
  rw [under_quiet rfl rfl]
  show wpAny _ _ ((forTurn target it body [] env).onRaise (fun x => do noteFrame x env; theTreesLotGoes x)) _ _ s
  refine wpAny_noted ?_
  simp only [forTurn]
  refine wpAny_bind (wpAny_standAt (wpAny_bind (wpAny_onRaise (h.out S fun r s₁ f l S₁ q => ?_))))
  cases r with
  | none => exact wpAny_pure ⟨rfl, codeAny_block (wpAny_execs_nil ⟨_, _, _, rfl, S₁, q⟩)⟩
  | some v =>
    refine wpAny_bind (W.out q S₁ fun _ s₂ f l S₂ q => wpAny_bind (q.out S₂ fun _ s₃ f l S₃ q => wpAny_bind (q.out S₃ fun fl s₄ f l S₄ q => ?_)))
    cases fl with
    | next => exact wpAny_pure ⟨rfl, q s₄ S₄⟩
    | cont => exact wpAny_pure ⟨rfl, q s₄ S₄⟩
    | brk => exact wpAny_pure ⟨_, _, _, rfl, S₄, q⟩
    | ret v => exact wpAny_pure ⟨_, _, _, rfl, S₄, q⟩
theorem W_For {target iter : Expr} {body : List Stmt} {pos : Pos} {Q : Flow → Frs → Led → Prop} (hh : A.handled = none)
    (h : W c A (eval iter env) frs led (fun x f l => W c A (pyIter x) f l (fun it f l => Wc c A (.forLoop target it body [] env) f l Q)))
    (hs : ∀ x, foldedSetIterable iter env x = pure x) : W c A (exec (.For target iter body [] pos) env) frs led Q := fun s S =>
  wpAny_For (h.out S fun x s f l S q => q.out S fun it s f l S q => q.out S fun fl s f l S q => ⟨f, l, S, q⟩) hs
theorem W_letGo {x : Str} {p : Pos} {it v : Value} {Q : Unit → Frs → Led → Prop} (h : Q () frs led) : W c A (letOwnedTupleGo (.Name x p) it v) frs led Q := fun s S => wpAny_pure ⟨_, _, S, h⟩
theorem W_assignName {x : Str} {p : Pos} {v : Value} {Q : Unit → Frs → Led → Prop} (h : W c A (storeName env x v) frs led Q) : W c A (assign (.Name x p) env v) frs led Q := fun s S => wpAny_assign_Name (h s S)

/-- a turn of a comprehension with one clause -/
def CompEmit (c : Cx) (A : Around) (env : Env) (elt target iter : Expr) (ifs : List Expr) (scope : Scope) (pos : Pos) (it acc : Value) (Q : Flow → Frs → Led → Prop) : Bool → Frs → Led → Prop
  | true, f, l => W c A (eval elt env) f l fun x f l => W c A (call (.builtin "list.append") [acc, x]) f l fun _ f l => Wc c A (.compLoop (.ListComp elt [⟨target, iter, ifs, 0⟩] scope pos) 0 it acc env) f l Q
  | false, f, l => Wc c A (.compLoop (.ListComp elt [⟨target, iter, ifs, 0⟩] scope pos) 0 it acc env) f l Q
def CompTurn (c : Cx) (A : Around) (env : Env) (elt target iter : Expr) (ifs : List Expr) (scope : Scope) (pos : Pos) (it acc : Value) (Q : Flow → Frs → Led → Prop) : Option Value → Frs → Led → Prop
  | none, f, l => Q .next f l
  | some v, f, l => W c A (letOwnedTupleGo target it v) f l fun _ f l => W c A (assign target env v) f l fun _ f l => W c A (allTrue .And ifs env) f l (CompEmit c A env elt target iter ifs scope pos it acc Q)
theorem ifs_all (env : Env) : ∀ (ifs : List Expr) (hi : ifs.length ≤ 1), (forIn ifs true fun c r => if r = true then do let ok ← isTrue c env (eval c env); pure (ForInStep.yield ok) else pure (ForInStep.yield r)) = allTrue .And ifs env
  | [], _ => rfl
  | [e], _ => by
    rw [List.forIn_cons]
    simp only [if_true]
    show (isTrue e env (eval e env) >>= fun ok => pure (ForInStep.yield ok)) >>= _ = (isTrue e env (eval e env) >>= fun b => _)
    rw [bind_assoc]
    congr 1
    funext b
    cases b <;> rfl
  | _ :: _ :: _, h => by simp at h
theorem Wc_comp {elt target iter : Expr} {ifs : List Expr} {scope : Scope} {pos : Pos} {it acc : Value} {Q : Flow → Frs → Led → Prop} (hi : ifs.length ≤ 1)
    (h : W c A (pyNext it) frs led (CompTurn c A env elt target iter ifs scope pos it acc Q)) : Wc c A (.compLoop (.ListComp elt [⟨target, iter, ifs, 0⟩] scope pos) 0 it acc env) frs led Q := fun s S => by
  refine codeAny_of_tree ?_
  rw [under_quiet rfl rfl]
  show wpAny _ A ((compTurn (.ListComp elt [⟨target, iter, ifs, 0⟩] scope pos) 0 it acc env).onRaise (fun x => do noteFrame x env; theTreesLotGoes x)) _ _ s
  refine wpAny_noted ?_
  rw [compTurn_list]
  refine wpAny_bind (wpAny_standAt (wpAny_bind (h.out S fun r s₁ f l S₁ q => ?_)))
  cases r with
  | none => exact wpAny_pure ⟨_, _, _, rfl, S₁, q⟩
  | some v =>
    refine wpAny_bind (W.out q S₁ fun _ s₂ f l S₂ q => wpAny_bind (q.out S₂ fun _ s₃ f l S₃ q => wpAny_bind ?_))
    have e := ifs_all env ifs hi
    refine (W_eq e q).out S₃ fun ok s₄ f l S₄ q => ?_
    cases ok with
    | true =>
      refine wpAny_bind (wpAny_bind (W.out q S₄ fun x s₅ f l S₅ q => wpAny_bind (q.out S₅ fun _ s₆ f l S₆ q => ?_)))
      exact wpAny_pure (wpAny_pure ⟨rfl, q s₆ S₆⟩)
    | false => exact wpAny_pure ⟨rfl, q s₄ S₄⟩
end
end
section
section
variable {α β : Type} {c : Cx} {A : Around} {frs : Frs} {led : Led} {env : Env}
theorem Wc_compStart {elt target iter : Expr} {ifs : List Expr} {rest : List Comprehension} {scope : Scope} {pos : Pos} {it acc : Value} {Q : Flow → Frs → Led → Prop}
    (h0 : Wc c A (.compLoop (.ListComp elt (⟨target, iter, ifs, 0⟩ :: rest) scope pos) 0 it acc env) frs led Q)
    (h : W c A (pyIter it) frs led (fun it' f l => it' = it ∧ f = frs ∧ l = led)) : Wc c A (.compStart (.ListComp elt (⟨target, iter, ifs, 0⟩ :: rest) scope pos) 0 it acc env) frs led Q := fun s S => by
  refine codeAny_compStart_list (h0 s S) (h.out S fun it' s' f l S' e => ?_)
  refine exE0_3 e fun hrf0 hrf1 hrf2 => ?_; subst hrf0; subst hrf1; subst hrf2
  exact h0 s' S'
/-- a frame of ours more -/
theorem Sx.addFr {s : Shared} {C : Addr} {m : Loc} (S : Sx c frs led s) (ho : FrOk s.heap C m) (ha : C ∉ addrs frs led) (hb : c.base.objs.size ≤ C) (ht : ∀ k, s.heap.get? tabP = some (tabO (some k)) → C ≠ k) : Sx c ((C, m) :: frs) led s where
  keep := S.keep
  fr := fun f hf => by
    rcases List.mem_cons.mp hf with rfl | hf
    · exact ho
    · exact S.fr f hf
  ld := S.ld
  nd := List.nodup_cons.mpr ⟨ha, S.nd⟩
  new := fun x hx => by
    rcases List.mem_cons.mp hx with rfl | hx
    · exact hb
    · exact S.new x hx
  tab := S.tab
  tb := let ⟨k, T⟩ := S.tb; ⟨k, T.tab, fun x e hx => by
    rcases List.mem_cons.mp hx with h | hx
    · exact ht x (by rw [← e]; exact T.tab) h.symm
    · exact T.own x e hx, T.code, T.src, T.pin⟩
  gens := S.gens
  dr := S.dr
  os := S.os
  ne := by simp
/-- the code in the table is older than what is new -/
theorem Sx.tabOld {s : Shared} (S : Sx c frs led s) {k : Addr} (e : s.heap.get? tabP = some (tabO (some k))) : k < s.heap.objs.size := by
  obtain ⟨k', T⟩ := S.tb
  have e3 : k' = some k := tabO_inj (Option.some.inj (T.tab.symm.trans e))
  obtain ⟨oc, vs, t, e1, _⟩ := T.code k e3
  exact Heap.lt_size e1
theorem Sx.tabGet {s : Shared} {h' : Heap} (S : Sx c frs led s) (hk : Ka s.heap h') {k : Addr} (e : h'.get? tabP = some (tabO (some k))) : s.heap.get? tabP = some (tabO (some k)) := by
  obtain ⟨k', T⟩ := S.tb
  rw [T.tab]
  exact (hk _ _ T.tab).symm.trans e
theorem Sx.offFr {s : Shared} {C : Addr} {m : Loc} {h' : Heap} {tk : Nat} (S : Sx c ((C, m) :: frs) led s) (hne : frs ≠ []) (hs : Heap.SameBut C s.heap h') : Sx c frs led { s with heap := h', toks := tk } := by
  have hnd := S.nd
  unfold addrs at hnd
  rw [List.map_cons, List.cons_append, List.nodup_cons] at hnd
  refine ⟨fun b ob hb e => ?_, fun f hf' => ?_, fun p hp => ?_, hnd.2, fun a ha => S.new a (.tail _ ha), S.tab, ?_, S.gens, S.dr, S.os, hne⟩
  · refine (hs.2 b (fun q => ?_)).trans (S.keep b ob hb e)
    have h1 := S.new C (.head _)
    have h2 := Heap.lt_size e
    rw [q] at h2
    unfold Addr at *
    exact om9 h1 h2
  · obtain ⟨mf, hn, r⟩ := S.fr f (.tail _ hf')
    exact ⟨mf, hn.sameBut hs (fun q => hnd.1 (by have := List.mem_map_of_mem (f := (·.1)) hf'; rw [q] at this; exact List.mem_append_left _ this)), r⟩
  · exact (hs.2 _ (fun q => hnd.1 (by have := List.mem_map_of_mem (f := (·.1)) hp; rw [q] at this; exact List.mem_append_right _ this))).trans (S.ld p hp)
  · obtain ⟨k, T⟩ := S.tb
    have hne' : ∀ x, k = some x → x ≠ C := fun x e q => T.own x e (q ▸ .head _)
    refine ⟨k, (hs.2 _ (fun q => ?_)).trans T.tab, fun x e h => T.own x e (.tail _ h), fun x e => let ⟨oc, vs, t, e1, r⟩ := T.code x e; ⟨oc, vs, t, (hs.2 _ (hne' x e)).trans e1, r⟩, T.src, T.pin⟩
    have h1 := S.new C (.head _)
    have h2 := S.tab
    unfold Addr at *
    exact om13 q h1 h2

/-- the block of a comprehension, its use of the list made -/
theorem W_compBlock {elt : Expr} {g : Comprehension} {gs : List Comprehension} {scope : Scope} {cl : List (Str × Addr)} {pos : Pos} {use : Option (Value → Sem Unit)} {Q : Value → Frs → Led → Prop}
    {first : Sem Value} {p0 : Pos}
    (hs : ∀ x, foldedSetIterable g.iter env x = pure x) (hclos : closureFor scope env = pure cl) (hkind : scope.kind = .function) (hnames : ∀ x ∈ scope.names, x.2 = .local → scope.names.lookup x.1 = some .local)
    (hcell : ∀ y ∈ scope.names, y.2 ≠ .cell) (hh : A.handled = none)
    (h : W c A first frs led (fun x f l => W c A (pyIter x) f l (fun it f l => ∀ D C, Wc c A (.compStart (.ListComp elt (g :: gs) scope pos) 0 it (.ref D) (compEnvC scope cl C env)) ((C, []) :: f) ((D, seqObj "list" #[] 0) :: l)
      (fun fl f' l' => match use with
        | none => ∃ mC f2, f' = (C, mC) :: f2 ∧ f2 ≠ [] ∧ Q (.ref D) f2 l'
        | some u => W c A (u (.ref D)) f' l' (fun _ f' l' => ∃ mC f2, f' = (C, mC) :: f2 ∧ f2 ≠ [] ∧ Q .none f2 l'))))) :
    W c A (comprehension (.ListComp elt (g :: gs) scope pos) scope env p0 (newList []) false first use) frs led Q := fun s S => by
  refine wpAny_comprehension_free rfl hs hclos hkind hnames (h.out S fun x s f l S q => q.out S fun it s f l S q => ?_)
  refine wpAny_newObj_type (wpAny_newFunctionEnv hcell (by intro y hy; simp at hy) (fun h₁ hns₁ hsb₁ => ?_) hkind)
  dsimp only at hns₁ hsb₁ ⊢
  generalize hH2 : s.heap.push { cls := .type "list", dict := none, data := .seq ([] : List Value).toArray } = H2 at hns₁ hsb₁ ⊢
  have hC : H2.objs.size = s.heap.objs.size + 1 := by rw [← hH2, Heap.size_push]
  have hk2 : ∀ b o, s.heap.get? b = some o → h₁.get? b = some o := fun b o e =>
    (hsb₁.2 b (by have := Heap.lt_size e; rw [hC]; unfold Addr at *; exact om96 this)).trans (Heap.get?_push_of_some _ (hH2 ▸ Heap.get?_push_of_some _ e))
  have hD : h₁.get? s.heap.objs.size = some (seqObj "list" #[] 0) :=
    (hsb₁.2 _ (by rw [hC]; unfold Addr at *; exact om97)).trans (Heap.get?_push_of_some _ (hH2 ▸ Heap.get?_push_size _ rfl))
  have S₁ : Sx c f ((s.heap.objs.size, seqObj "list" #[] 0) :: l) { s with heap := h₁, toks := s.toks + ([] : List (Str × Value)).length } := S.push (Ka.of hk2) hD (Nat.le_refl _)
  have hCn : H2.objs.size ∉ addrs f ((s.heap.objs.size, seqObj "list" #[] 0) :: l) := fun q => by
    unfold addrs at q
    rcases List.mem_append.mp q with q | q
    · have := S.size_le _ (List.mem_append_left _ q)
      rw [hC] at this
      unfold Addr at *
      exact om12 this
    · rcases List.mem_cons.mp q with q | q
      · rw [hC] at q
        have q : s.heap.objs.size + 1 = s.heap.objs.size := q
        exact om98 q
      · have := S.size_le _ (List.mem_append_right _ q)
        rw [hC] at this
        unfold Addr at *
        exact om12 this
  have S₂ : Sx c ((H2.objs.size, []) :: f) ((s.heap.objs.size, seqObj "list" #[] 0) :: l) { s with heap := h₁, toks := s.toks + ([] : List (Str × Value)).length } :=
    S₁.addFr ⟨_, hns₁, fun p hp => nomatch hp⟩ hCn (by have := S.sz; rw [hC]; unfold Addr at *; exact om3 this) (fun k e q => by have := S.tabOld (S.tabGet hk2 e); rw [← q, hC] at this; unfold Addr at *; exact om12 this)
  have key := q s.heap.objs.size H2.objs.size _ S₂
  refine codeAny_mono key fun r s' z => ?_
  obtain ⟨fl, f', l', rfl, S', q⟩ := z
  cases use with
  | none =>
    obtain ⟨mC, f2, rfl, hf2, q⟩ := q
    obtain ⟨mf, hn, _⟩ := S'.fr _ (.head _)
    exact ⟨mf, hn, fun h' hs' => ⟨f2, l', S'.offFr (tk := s'.toks) hf2 hs', q⟩⟩
  | some u =>
    refine W.out q S' fun _ s'' f' l' S'' z => ?_
    refine exE2_3 z fun mC f2 hrf2 hf2 q => ?_; subst hrf2
    obtain ⟨mf, hn, _⟩ := S''.fr _ (.head _)
    exact ⟨mf, hn, fun h' hs' => ⟨f2, l', S''.offFr (tk := s''.toks) hf2 hs', q⟩⟩
theorem W_ListComp {elt : Expr} {g : Comprehension} {gs : List Comprehension} {scope : Scope} {cl : List (Str × Addr)} {pos : Pos} {Q : Value → Frs → Led → Prop} (hg : g.is_async = 0)
    (hs : ∀ x, foldedSetIterable g.iter env x = pure x) (hclos : closureFor scope env = pure cl) (hkind : scope.kind = .function) (hnames : ∀ x ∈ scope.names, x.2 = .local → scope.names.lookup x.1 = some .local)
    (hcell : ∀ y ∈ scope.names, y.2 ≠ .cell) (hh : A.handled = none)
    (h : W c A (eval g.iter env) frs led (fun x f l => W c A (pyIter x) f l (fun it f l => ∀ D C, Wc c A (.compStart (.ListComp elt (g :: gs) scope pos) 0 it (.ref D) (compEnvC scope cl C env)) ((C, []) :: f) ((D, seqObj "list" #[] 0) :: l)
      (fun fl f' l' => ∃ mC f2, f' = (C, mC) :: f2 ∧ f2 ≠ [] ∧ Q (.ref D) f2 l')))) :
    W c A (eval (.ListComp elt (g :: gs) scope pos) env) frs led Q := by
  obtain ⟨target, iter, ifs, a⟩ := g
  simp only at hg
  subst hg
  exact W_compBlock (use := none) hs hclos hkind hnames hcell hh h
theorem W_AssignComp {x : Str} {px pos2 : Pos} {elt : Expr} {g : Comprehension} {gs : List Comprehension} {scope : Scope} {cl : List (Str × Addr)} {pos : Pos} {Q : Flow → Frs → Led → Prop} (hg : g.is_async = 0)
    (hsw : swapsWith (.ListComp elt (g :: gs) scope pos) (some (.Name x px)) pos2.line env = pure true)
    (hs : ∀ x, foldedSetIterable g.iter env x = pure x) (hclos : closureFor scope env = pure cl) (hkind : scope.kind = .function) (hnames : ∀ x ∈ scope.names, x.2 = .local → scope.names.lookup x.1 = some .local)
    (hcell : ∀ y ∈ scope.names, y.2 ≠ .cell) (hh : A.handled = none)
    (h : W c A (eval g.iter env) frs led (fun v f l => W c A (pyIter v) f l (fun it f l => ∀ D C, Wc c A (.compStart (.ListComp elt (g :: gs) scope pos) 0 it (.ref D) (compEnvC scope cl C env)) ((C, []) :: f) ((D, seqObj "list" #[] 0) :: l)
      (fun fl f' l' => W c A (storeName env x (.ref D)) f' l' (fun _ f' l' => ∃ mC f2, f' = (C, mC) :: f2 ∧ f2 ≠ [] ∧ Q .next f2 l'))))) :
    W c A (exec (.Assign [.Name x px] (.ListComp elt (g :: gs) scope pos) pos2) env) frs led Q := fun s S => by
  obtain ⟨target, iter, ifs, a⟩ := g
  simp only at hg
  subst hg
  rw [exec_Assign_Name_used _ _ _ _ hsw]
  refine wpAny_bind (wpAny_standAt (wpAny_bind ?_))
  show wpAny _ A (do let _ ← comprehension (.ListComp elt (⟨target, iter, ifs, 0⟩ :: gs) scope pos) scope env _ (newList []) false (eval iter env) (some (assign (.Name x px) env))) _ _ s
  refine wpAny_bind ((W_compBlock (use := some (assign (.Name x px) env)) (Q := fun _ => Q .next) hs hclos hkind hnames hcell hh (W_mono h fun v f l q => W_mono q fun it f l q D C => Wc_mono (q D C) fun fl f l q => W_assignName q)).out S fun _ s f l S q => ?_)
  exact wpAny_pure (wpAny_pure ⟨f, l, S, q⟩)
/-- a store into the frame below the comprehension's -/
theorem W_store2 {x : Str} {C L : Addr} {mC m m' : Loc} {r : Frs} {v : Value} {Q : Unit → Frs → Led → Prop} (hL : env.locals = L) (hk : env.scope.kind = .function) (hx : env.kindOf x = some .local)
    (hm : ∀ p ∈ m', p ∈ m ∧ p.1 ≠ x) (h : Q () ((C, mC) :: (L, (x, v) :: m') :: r) led) : W c A (storeName env x v) ((C, mC) :: (L, m) :: r) led Q := fun s S => by
  obtain ⟨mf, hn, hf⟩ := S.fr _ (.tail _ (.head _))
  subst hL
  refine wpAny_storeName_local hx hn (fun h' hn' hs => ⟨_, _, ?_, h⟩) (by rw [hk]; rfl)
  have hnd := S.nd
  unfold addrs at hnd
  simp only [List.map_cons, List.cons_append, List.nodup_cons, List.mem_cons, not_or] at hnd
  have hCL : C ≠ env.locals := fun q => hnd.1.1 q
  have hm2 : FrOk h' env.locals ((x, v) :: m') := ⟨_, hn', fun p hp => by
    rcases List.mem_cons.mp hp with rfl | hp
    · exact if_pos rfl
    · show (if p.1 = x then some v else mf p.1) = some p.2
      rw [if_neg (hm p hp).2]
      exact hf p (hm p hp).1⟩
  obtain ⟨mfC, hnC, hfC⟩ := S.fr _ (.head _)
  have S1 : Sx c ((env.locals, m) :: r) led s := ⟨S.keep, fun f hf => S.fr f (.tail _ hf), S.ld, by unfold addrs; simp only [List.map_cons, List.cons_append, List.nodup_cons]; exact hnd.2, fun a ha => S.new a (.tail _ ha), S.tab, (let ⟨k, T⟩ := S.tb; ⟨k, T.tab, fun x e h => T.own x e (.tail _ h), T.code, T.src, T.pin⟩), S.gens, S.dr, S.os, by simp⟩
  have S2 := S1.setFr (tk := s.toks + 1) (fun b ob hb e => (hs.2 b hb).trans e) hm2
  exact S2.addFr ⟨mfC, hnC.sameBut hs hCL, hfC⟩ (fun q => S.nd |> fun nd => by
    unfold addrs at nd q
    simp only [List.map_cons, List.cons_append, List.nodup_cons] at nd q
    exact nd.1 q) (S.new C (.head _)) (fun k e q => by
    obtain ⟨k', T⟩ := S.tb
    have h1 := S.new env.locals (.tail _ (.head _))
    have h2 := S.tab
    have e2 := (hs.2 tabP (fun q => by rw [← q] at h1; exact absurd h1 (Nat.not_le.mpr h2))).trans T.tab
    have e3 : k' = some k := tabO_inj (Option.some.inj (e2.symm.trans e))
    exact T.own k e3 (q ▸ .head _))
end
end
section
/-! iterators, list's ways -/
inductive Rm (a : Addr) : Led → Led → Prop
  | head {o : Obj} {r : Led} : Rm a ((a, o) :: r) r
  | tail {p : Addr × Obj} {r r' : Led} : Rm a r r' → Rm a (p :: r) (p :: r')
theorem Rm.sub {a : Addr} {l l' : Led} (h : Rm a l l') : l'.Sublist l := by
  induction h with
  | head => exact List.sublist_cons_self ..
  | tail _ ih => exact ih.cons₂ _
theorem Rm.mem {a : Addr} {l l' : Led} (h : Rm a l l') : ∃ o, (a, o) ∈ l := by
  induction h with
  | head => exact ⟨_, .head _⟩
  | tail _ ih => exact ih.imp fun _ h => .tail _ h
theorem Rm.ne {a : Addr} {l l' : Led} (h : Rm a l l') (hn : (l.map (·.1)).Nodup) : ∀ p ∈ l', p.1 ≠ a := by
  induction h with
  | head =>
    intro p hp e
    rw [List.map_cons, List.nodup_cons] at hn
    exact hn.1 (by have := List.mem_map_of_mem (f := (·.1)) hp; rw [e] at this; exact this)
  | tail r ih =>
    intro p hp e
    rw [List.map_cons, List.nodup_cons] at hn
    rcases List.mem_cons.mp hp with rfl | hp
    · obtain ⟨o, ho⟩ := r.mem
      exact hn.1 (by have := List.mem_map_of_mem (f := (·.1)) ho; rw [← e] at this; exact this)
    · exact ih hn.2 p hp e
section
variable {α β : Type} {c : Cx} {A : Around} {frs : Frs} {led : Led} {env : Env}
theorem Sx.rm {s : Shared} {h' : Heap} {tk : Nat} {a : Addr} {led' : Led} (S : Sx c frs led s) (R : Rm a led led') (hs : Heap.ExtBut a s.heap h') : Sx c frs led' { s with heap := h', toks := tk } := by
  have hnd := S.nd
  unfold addrs at hnd
  have hn2 := (List.nodup_append.mp hnd)
  obtain ⟨o, ho⟩ := R.mem
  have ham : a ∈ led.map (·.1) := List.mem_map_of_mem (f := (·.1)) ho
  have S' := S.drop R.sub
  refine ⟨fun b ob hb e => ?_, fun f hf => ?_, fun p hp => hs _ _ (R.ne hn2.2.1 p hp) (S'.ld p hp), S'.nd, S'.new, S.tab, ?_, S.gens, S.dr, S.os, S.ne⟩
  · refine hs b ob (fun q => ?_) (S.keep b ob hb e)
    have h1 := S.new a (List.mem_append_right _ ham)
    have h2 := Heap.lt_size e
    rw [q] at h2
    unfold Addr at *
    exact om9 h1 h2
  · obtain ⟨mf, ⟨of, es, ep, e, r⟩, b⟩ := S.fr f hf
    exact ⟨mf, ⟨of, es, ep, hs _ _ (fun q => hn2.2.2 f.1 (List.mem_map_of_mem hf) a ham q) e, r⟩, b⟩
  · obtain ⟨k, T⟩ := S.tb
    have hne : ∀ x, k = some x → x ≠ a := fun x e q => T.own x e (q ▸ List.mem_append_right _ ham)
    refine ⟨k, hs _ _ (fun q => ?_) T.tab, fun x e h => T.own x e ?_, fun x e => let ⟨oc, vs, t, e1, r⟩ := T.code x e; ⟨oc, vs, t, hs _ _ (hne x e) e1, r⟩, T.src, T.pin⟩
    · have h1 := S.new a (List.mem_append_right _ ham)
      have h2 := S.tab
      unfold Addr at *
      exact om13 q h1 h2
    · unfold addrs at h ⊢
      rcases List.mem_append.mp h with h | h
      · exact List.mem_append_left _ h
      · exact List.mem_append_right _ ((R.sub.map _).subset h)

abbrev seqItObj (ty : String) (l : Addr) (i : Nat) : Obj := { cls := .type ty, data := .fields #[.ref l, .int i 0] }
def SeqIt (ty : String) (l : Addr) (i : Nat) (o : Obj) : Prop := o.cls = .type ty ∧ o.data = .fields #[.ref l, .int i 0]
theorem isList {s : Shared} (S : Sx c frs led s) {l : Addr} {items : Array Value} {n : Nat} (hl : At c led l (seqObj "list" items n)) : s.heap.IsList l items := ⟨_, S.at hl, rfl, _, rfl⟩
theorem isTuple {s : Shared} (S : Sx c frs led s) {l : Addr} {items : Array Value} {n : Nat} (hl : At c led l (seqObj "tuple" items n)) : s.heap.IsTuple l items := ⟨_, S.at hl, rfl, _, rfl⟩
theorem W_iterList {l : Addr} {items : Array Value} {n : Nat} {Q : Value → Frs → Led → Prop} (hl : At c led l (seqObj "list" items n)) (h : ∀ I, Q (.ref I) frs ((I, seqItObj "list_iterator" l 0) :: led)) : W c A (pyIter (.ref l)) frs led Q := fun s S =>
  wpAny_pyIter_list (isList S hl) ⟨_, _, S.push (Ka.of fun b o e => Heap.get?_push_of_some _ e) (Heap.get?_push_size _ rfl) (Nat.le_refl _), h _⟩
theorem W_iterTuple {l : Addr} {items : Array Value} {n : Nat} {Q : Value → Frs → Led → Prop} (hl : At c led l (seqObj "tuple" items n)) (h : ∀ I, Q (.ref I) frs ((I, seqItObj "tuple_iterator" l 0) :: led)) : W c A (pyIter (.ref l)) frs led Q := fun s S =>
  wpAny_pyIter_tuple (isTuple S hl) ⟨_, _, S.push (Ka.of fun b o e => Heap.get?_push_of_some _ e) (Heap.get?_push_size _ rfl) (Nat.le_refl _), h _⟩
theorem W_nextList {I l : Addr} {i : Nat} {o : Obj} {items : Array Value} {n : Nat} {v : Value} {led' : Obj → Led} {Q : Option Value → Frs → Led → Prop} (U : ∀ o', Up I o o' led (led' o')) (ho : SeqIt "list_iterator" l i o) (hl : At c led l (seqObj "list" items n)) (hx : items[i]? = some v)
    (h : ∀ o', SeqIt "list_iterator" l (i + 1) o' → Q (some v) frs (led' o')) : W c A (pyNext (.ref I)) frs led Q := fun s S =>
  wpAny_pyNext_list_item ⟨o, S.ld _ (U o).mem, ho⟩ (isList S hl) hx fun h' hit hs => by
    obtain ⟨o', ho', hc⟩ := hit
    exact ⟨_, _, S.upd (U o') (fun b ob hb e => (hs.2 b hb).trans e) ho', h o' hc⟩
theorem W_endList {I l : Addr} {i : Nat} {o : Obj} {items : Array Value} {n : Nat} {led' : Led} {Q : Option Value → Frs → Led → Prop} (hh : A.handled = none) (R : Rm I led led') (hm : (I, o) ∈ led) (ho : SeqIt "list_iterator" l i o) (hl : At c led l (seqObj "list" items n)) (hx : items[i]? = none)
    (h : Q none frs led') : W c A (pyNext (.ref I)) frs led Q := fun s S =>
  wpAny_pyNext_list_end hh ⟨o, S.ld _ hm, ho⟩ (isList S hl) hx fun h' hs => ⟨_, _, S.rm (tk := s.toks) R hs, h⟩
theorem W_nextTuple {I l : Addr} {i : Nat} {o : Obj} {items : Array Value} {n : Nat} {v : Value} {led' : Obj → Led} {Q : Option Value → Frs → Led → Prop} (U : ∀ o', Up I o o' led (led' o')) (ho : SeqIt "tuple_iterator" l i o) (hl : At c led l (seqObj "tuple" items n)) (hx : items[i]? = some v)
    (h : ∀ o', SeqIt "tuple_iterator" l (i + 1) o' → Q (some v) frs (led' o')) : W c A (pyNext (.ref I)) frs led Q := fun s S =>
  wpAny_pyNext_tuple_item ⟨o, S.ld _ (U o).mem, ho⟩ (isTuple S hl) hx fun h' hit hs => by
    obtain ⟨o', ho', hc⟩ := hit
    exact ⟨_, _, S.upd (U o') (fun b ob hb e => (hs.2 b hb).trans e) ho', h o' hc⟩
theorem W_endTuple {I l : Addr} {i : Nat} {o : Obj} {items : Array Value} {n : Nat} {led' : Led} {Q : Option Value → Frs → Led → Prop} (hh : A.handled = none) (R : Rm I led led') (hm : (I, o) ∈ led) (ho : SeqIt "tuple_iterator" l i o) (hl : At c led l (seqObj "tuple" items n)) (hx : items[i]? = none)
    (h : Q none frs led') : W c A (pyNext (.ref I)) frs led Q := fun s S =>
  wpAny_pyNext_tuple_end hh ⟨o, S.ld _ hm, ho⟩ (isTuple S hl) hx fun h' hs => ⟨_, _, S.rm (tk := s.toks) R hs, h⟩
theorem W_selfList {I l : Addr} {i : Nat} {o : Obj} (hm : (I, o) ∈ led) (ho : SeqIt "list_iterator" l i o) : W c A (pyIter (.ref I)) frs led (fun it' f l => it' = .ref I ∧ f = frs ∧ l = led) := fun s S =>
  wpAny_pyIter_listiter ⟨o, S.ld _ hm, ho⟩ ⟨_, _, S, rfl, rfl, rfl⟩
theorem W_selfTuple {I l : Addr} {i : Nat} {o : Obj} (hm : (I, o) ∈ led) (ho : SeqIt "tuple_iterator" l i o) : W c A (pyIter (.ref I)) frs led (fun it' f l => it' = .ref I ∧ f = frs ∧ l = led) := fun s S =>
  wpAny_pyIter_tupleiter ⟨o, S.ld _ hm, ho⟩ ⟨_, _, S, rfl, rfl, rfl⟩

/-! ranges -/
abbrev rangeObj (a b d : Int) (t u v : Tok) : Obj := { cls := .type "range", dict := none, data := .fields #[.int a t, .int b u, .int d v], slots := #[] }
abbrev rangeIt (x left step : Int) : Obj := { cls := .type "range_iterator", dict := none, data := .fields #[rawInt x, rawInt left, rawInt step], slots := #[] }
theorem W_range1 {n : Int} {t : Tok} {Q : Value → Frs → Led → Prop} (h : ∀ r t u v, Q (.ref r) frs ((r, rangeObj 0 n 1 t u v) :: led)) : W c A (call (.type "range") [.int n t]) frs led Q := fun s S =>
  call_range_1 ⟨_, _, S.push (tk := s.toks + 1 + 1) (Ka.of fun b o e => Heap.get?_push_of_some _ e) (Heap.get?_push_size _ rfl) (Nat.le_refl _), h _ _ _ _⟩
theorem W_range3 {a b d : Int} {t u v : Tok} {Q : Value → Frs → Led → Prop} (hd : 0 < d) (hd2 : d < 1000) (h : ∀ r t u v, Q (.ref r) frs ((r, rangeObj a b d t u v) :: led)) : W c A (call (.type "range") [.int a t, .int b u, .int d v]) frs led Q := fun s S =>
  call_range_3 (by exact om23 hd) ⟨_, _, S.push (tk := s.toks) (Ka.of fun b o e => Heap.get?_push_of_some _ e) (Heap.get?_push_size _ rfl) (Nat.le_refl _), h _ _ _ _⟩ (.inl (PyProof.noPylong_small (by omega)))
theorem W_iterRange {r : Addr} {a b d : Int} {t u v : Tok} {n : Int} {Q : Value → Frs → Led → Prop} (hr : At c led r (rangeObj a b d t u v)) (hs : Builtin.Range.small a b d = true) (hn : Builtin.Range.rangeSize a b d = n) (h : ∀ I, Q (.ref I) frs ((I, rangeIt a n d) :: led)) :
    W c A (pyIter (.ref r)) frs led Q := fun s S =>
  wpAny_pyIter_range (S.at hr) hs ⟨_, _, S.push (Ka.of fun b o e => Heap.get?_push_of_some _ e) (Heap.get?_push_size _ rfl) (Nat.le_refl _), hn ▸ h _⟩
theorem W_nextRange {I : Addr} {x left step : Int} {led' : Obj → Led} {Q : Option Value → Frs → Led → Prop} (U : ∀ o', Up I (rangeIt x left step) o' led (led' o')) (hl : 0 < left)
    (h : ∀ t, Q (some (.int x t)) frs (led' (rangeIt (x + step) (left - 1) step))) : W c A (pyNext (.ref I)) frs led Q := fun s S =>
  wpAny_pyNext_range_item (S.ld _ (U default).mem) hl fun h' hit hs => ⟨_, _, S.upd (tk := s.toks + 1) (U _) (fun b ob hb e => (hs.2 b hb).trans e) hit, h _⟩
theorem W_endRange {I : Addr} {x left step : Int} {led' : Led} {Q : Option Value → Frs → Led → Prop} (hh : A.handled = none) (R : Rm I led led') (hm : (I, rangeIt x left step) ∈ led) (hl : left ≤ 0)
    (h : Q none frs led') : W c A (pyNext (.ref I)) frs led Q := fun s S =>
  wpAny_pyNext_range_end hh (S.ld _ hm) hl fun h' hs => ⟨_, _, S.rm (tk := s.toks) R hs, h⟩
theorem W_selfRange {I : Addr} {x left step : Int} (hm : (I, rangeIt x left step) ∈ led) : W c A (pyIter (.ref I)) frs led (fun it' f l => it' = .ref I ∧ f = frs ∧ l = led) := fun s S =>
  wpAny_pyIter_rangeiter (S.ld _ hm) ⟨_, _, S, rfl, rfl, rfl⟩

/-! texts, sign by sign -/
def StrIt (x : Str) (t : Tok) (i : Nat) (o : Obj) : Prop := o.cls = .type "str_ascii_iterator" ∧ o.data = .fields #[.str x t, .int i 0]
theorem W_iterStr {x : Str} {t : Tok} {Q : Value → Frs → Led → Prop} (ha : x.cps.all (· < 128) = true) (h : ∀ I o, StrIt x t 0 o → Q (.ref I) frs ((I, o) :: led)) : W c A (pyIter (.str x t)) frs led Q := fun s S =>
  wpAny_pyIter_ascii ha ⟨_, _, S.push (Ka.of fun b o e => Heap.get?_push_of_some _ e) (Heap.get?_push_size _ rfl) (Nat.le_refl _), h _ _ ⟨rfl, rfl⟩⟩
theorem W_nextStr {I : Addr} {x : Str} {t : Tok} {i ch : Nat} {o : Obj} {led' : Obj → Led} {Q : Option Value → Frs → Led → Prop} (U : ∀ o', Up I o o' led (led' o')) (ho : StrIt x t i o) (hx : x.cps[i]? = some ch)
    (h : ∀ o' t', StrIt x t (i + 1) o' → Q (some (.str ⟨#[ch]⟩ t')) frs (led' o')) : W c A (pyNext (.ref I)) frs led Q := fun s S =>
  wpAny_pyNext_ascii_item ⟨o, S.ld _ (U o).mem, ho⟩ hx fun h' hit hs => by
    obtain ⟨o', ho', hc⟩ := hit
    exact ⟨_, _, S.upd (tk := s.toks + 1) (U o') (fun b ob hb e => (hs.2 b hb).trans e) ho', h o' _ hc⟩
theorem W_endStr {I : Addr} {x : Str} {t : Tok} {i : Nat} {o : Obj} {led' : Led} {Q : Option Value → Frs → Led → Prop} (hh : A.handled = none) (R : Rm I led led') (hm : (I, o) ∈ led) (ho : StrIt x t i o) (hx : x.cps[i]? = none)
    (h : Q none frs led') : W c A (pyNext (.ref I)) frs led Q := fun s S =>
  wpAny_pyNext_ascii_end hh ⟨o, S.ld _ hm, ho⟩ hx fun h' hs => ⟨_, _, S.rm (tk := s.toks) R hs, h⟩

/-! list's methods -/
theorem W_append {a : Addr} {its : Array Value} {n : Nat} {x : Value} {led' : Led} {Q : Value → Frs → Led → Prop} (U : Up a (seqObj "list" its n) (seqObj "list" (its.push x) (n + 1)) led led') (hz : its.size ≤ sizeLine) (h : Q .none frs led') :
    W c A (call (.builtin "list.append") [.ref a, x]) frs led Q := fun s S =>
  append_at (S.ld _ U.mem) (fun h' hs ho => ⟨_, _, S.upd (tk := s.toks) U (fun b ob hb e => (hs.2 b hb).trans e) ho, h⟩) hz
theorem W_len {a : Addr} {its : Array Value} {n : Nat} {Q : Value → Frs → Led → Prop} (hl : At c led a (seqObj "list" its n)) (hz : (its.size : Int) < 2 ^ 63) (h : ∀ t, Q (.int its.size t) frs led) : W c A (call (.builtin "len") [.ref a]) frs led Q := fun s S =>
  len_list (isList S hl) hz ⟨_, _, S.tok, h _⟩
theorem W_itemList {value slice : Expr} {a : Addr} {its : Array Value} {n : Nat} {k : Int} {u : Tok} {x : Value} {Q : Value → Frs → Led → Prop} (hl : At c led a (seqObj "list" its n)) (h0 : 0 ≤ k) (h1 : k < 2 ^ 63) (hx : its[k.toNat]? = some x)
    (hs : subscripted slice false (.ref a) (.int k u) = operate [.ref a, .int k u] (getItem (.ref a) (.int k u))) (ht : ∀ r, letTemporaryGo value (.ref a) r = pure ()) (h : Q x frs led) : W c A (subscriptTail value slice (.ref a) (.int k u)) frs led Q := fun s S =>
  item_list (isList S hl) h0 h1 hx ⟨_, _, S, h⟩ hs ht
end
end
section
section
variable {α β : Type} {c : Cx} {A : Around} {frs : Frs} {led : Led} {env : Env}
theorem W_truthy_bool {b : Bool} {Q : Bool → Frs → Led → Prop} (h : Q b frs led) : W c A (truthy (.bool b)) frs led Q := fun _ S => wpAny_truthy_bool ⟨_, _, S, h⟩
theorem W_truthy_str {x : Str} {t : Tok} {Q : Bool → Frs → Led → Prop} (hz : x.length ≤ sizeLine) (h : Q (!(x.length == 0)) frs led) : W c A (truthy (.str x t)) frs led Q := fun _ S =>
  PySem.P.truthy_str (by rw [sizeLine_eq] at hz; exact om99 hz) ⟨_, _, S.tok, by
    rw [show ((x.length : Int) != 0) = !(x.length == 0) from by cases hx : x.length <;> rfl]; exact h⟩
theorem W_iaddStr {x y : Str} {t u : Tok} {Q : Value → Frs → Led → Prop} (hz : x.length + y.length ≤ sizeLine) (h : ∀ t, Q (.str (x ++ y) t) frs led) : W c A (inplaceOp .Add (.str x t) (.str y u)) frs led Q := fun s S =>
  SB.iadd (fun t' k => ⟨_, _, S.tok, h _⟩) hz
theorem W_iaddInt {a b : Int} {t u : Tok} {Q : Value → Frs → Led → Prop} (h : ∀ t, Q (.int (a + b) t) frs led) : W c A (inplaceOp .Add (.int a t) (.int b u)) frs led Q := fun s S => iadd_int ⟨_, _, S.tok, h _⟩
theorem W_Assign2 {t₁ t₂ value : Expr} {pos : Pos} {Q : Flow → Frs → Led → Prop} (h : W c A (eval value env) frs led (fun v f l => W c A (assign t₁ env v) f l (fun _ f l => W c A (assign t₂ env v) f l (fun _ => Q .next))))
    (he : (assignEach [t₁, t₂] env).map (·.2) = [assign t₁ env, assign t₂ env]) (hw : swappedStores [t₁, t₂] value env = pure none) : W c A (exec (.Assign [t₁, t₂] value pos) env) frs led Q :=
  fun s S => wpAny_Assign_two (h.out S fun _ s f l S q => q.out S fun _ s f l S q => q s S) he hw
theorem W_Method {o : Expr} {name : Str} {apos pos : Pos} {args : List Expr} {pl : Sem Bool} {Q : Value → Frs → Led → Prop}
    (h : W c A (eval o env) frs led (fun ov f l => W c A (getMethod ov name pl) f l (fun fx f l => W c A (callWith pos fx.1 fx.2 (backTo pos (starEach args env)) []) f l Q)))
    (he : eval (.Call (.Attribute o name apos) args [] pos) env = (do
      let ov ← eval o env
      standAt apos.atName
      let (f, first) ← holding [ov] (getMethod ov name pl)
      callWith pos f first (backTo pos (starEach args env)) [])) : W c A (eval (.Call (.Attribute o name apos) args [] pos) env) frs led Q :=
  fun s S => MethodCall_ (h.out S fun _ s f l S q => q.out S fun _ s f l S q => q s S) he
/-- a call of a builtin without arguments of its own -/
theorem W_callBu0 {pos : Pos} {id : String} {first : List Value} {Q : Value → Frs → Led → Prop} (h : W c A (call (.builtin id) first) frs led Q) : W c A (callWith pos (.builtin id) first (backTo pos (starEach [] env)) []) frs led Q := fun s S =>
  callWith_builtin rfl (wpAny_pure (by rw [List.append_nil]; exact h s S))
theorem W_gmStr {x : Str} {t : Tok} {name : Str} {id : String} {pl : Sem Bool} {Q : Value × List Value → Frs → Led → Prop} (slot : Slot "str" name id) (ty : typeOf (.builtin id) = pure (.type "method_descriptor")) (h : Q (.builtin id, [.str x t]) frs led) :
    W c A (getMethod (.str x t) name pl) frs led Q := fun s S => GM.of _ (typeIs_str _ _ _) slot ty GM.noRef ⟨_, _, S, h⟩
theorem W_gmList {a : Addr} {its : Array Value} {n : Nat} {name : Str} {id : String} {pl : Sem Bool} {Q : Value × List Value → Frs → Led → Prop} (slot : Slot "list" name id) (ty : typeOf (.builtin id) = pure (.type "method_descriptor"))
    (hl : At c led a (seqObj "list" its n)) (h : Q (.builtin id, [.ref a]) frs led) : W c A (getMethod (.ref a) name pl) frs led Q := fun s S =>
  getMethod_builtin (isList S hl).typeIs PySem.F.plainAttrs_list slot ty (fun a e => by cases e; exact ⟨_, S.at hl, rfl⟩) ⟨_, _, S, h⟩
theorem W_strip {x y : Str} {t : Tok} {Q : Value → Frs → Led → Prop} (hz : x.length ≤ sizeLine) (e : Txt.strip x = y) (h : ∀ t, Q (.str y t) frs led) : W c A (call (.builtin "str.strip") [.str x t]) frs led Q := fun s S =>
  SC.strip (fun t' k => ⟨_, _, S.tok, by rw [e]; exact h _⟩) hz
theorem W_stripChars {x y z : Str} {t u : Tok} {Q : Value → Frs → Led → Prop} (hz : x.length ≤ sizeLine) (e : Txt.stripChars x z = y) (h : ∀ t, Q (.str y t) frs led) : W c A (call (.builtin "str.strip") [.str x t, .str z u]) frs led Q := fun s S =>
  SC.stripChars (fun t' k => ⟨_, _, S.tok, by rw [e]; exact h _⟩) hz
theorem strsAre_values : ∀ l : List (Str × Tok), StrsAre (strValues l) (l.map (·.1))
  | [] => .nil
  | p :: r => .cons _ _ (strsAre_values r)
theorem strsAre_ex : ∀ {vs : List Value} {ys : List Str}, StrsAre vs ys → ∃ l : List (Str × Tok), vs = strValues l ∧ ys = l.map (·.1)
  | _, _, .nil => ⟨[], rfl, rfl⟩
  | _, _, .cons y t r => let ⟨l, e, e2⟩ := strsAre_ex r; ⟨(y, t) :: l, by rw [e]; rfl, by rw [e2]; rfl⟩
theorem W_split1 {x y : Str} {k : Int} {t u v : Tok} {Q : Value → Frs → Led → Prop} (hz : x.length + 2 ≤ sizeLine) (hy : (y.length == 0) = false) (hk : (decide (k < -(2 ^ 63 : Int)) || decide (k ≥ 2 ^ 63)) = false)
    (h1 : (decide (x.length < y.length) || decide (Builtin.Str.strKind x < Builtin.Str.strKind y)) = false) (hf : (Builtin.Str.occurrences x y 0 x.length (limitOf x k)).isEmpty = false)
    (h : ∀ a vs, StrsAre vs (Builtin.Str.partsBetween x (Builtin.Str.occurrences x y 0 x.length (limitOf x k)) y.length) → Q (.ref a) frs ((a, seqObj "list" vs.toArray 0) :: led)) : W c A (call (.builtin "str.split") [.str x t, .str y u, .int k v]) frs led Q := fun s S => by
  have hn : (Builtin.Str.partsBetween x (Builtin.Str.occurrences x y 0 x.length (limitOf x k)) y.length).length ≤ sizeLine := by
    have e1 := StrLaws.occ_length_le_len x y 0 x.length (limitOf x k)
    rw [length_partsBetween]; exact om100 hz e1
  refine call_meets PySem.F.slot_str_split (typeIs_str _ _ _) PySem.F.entry_str_split (PySem.F.args_str_split_3 _ _ _) (meets_str_split_sep_max x y k t u v hk h1 hy hf (by exact om101 hz) hn) ?_
  refine ⟨_, _, S.push (tk := _) (o := seqObj "list" (strsFrom s.toks (Builtin.Str.partsBetween x (Builtin.Str.occurrences x y 0 x.length (limitOf x k)) y.length)).toArray 0) (Ka.of fun b o e => Heap.get?_push_of_some _ e) (Heap.get?_push_size _ rfl) (Nat.le_refl _), h _ _ ?_⟩
  rw [strsFrom_eq]
  have e := strsAre_values (numbered s.toks (Builtin.Str.partsBetween x (Builtin.Str.occurrences x y 0 x.length (limitOf x k)) y.length))
  rw [numbered_texts] at e
  exact e
theorem W_join {x : Str} {a : Addr} {vs : List Value} {ys : List Str} {n : Nat} {t : Tok} {Q : Value → Frs → Led → Prop} (hl : At c led a (seqObj "list" vs.toArray n)) (hs : StrsAre vs ys) (hok : JoinOk x ys = true)
    (h : ∀ t, Q (.str (Txt.join x ys) t) frs led) : W c A (call (.builtin "str.join") [.str x t, .ref a]) frs led Q := fun s S => by
  refine exE1_2 (strsAre_ex hs) fun l hrf1 hrf2 => ?_; subst hrf1; subst hrf2
  exact SC.join (isList S hl) rfl hok fun t' k => ⟨_, _, S.tok, h _⟩
end
end
section
/-! the text's own names, where they stand -/
/-- what quote writes of an octet -/
def qtext (i : Nat) : Str := ⟨#[61, hexd ((i / 16 : Nat) : Int), hexd ((i % 16 : Nat) : Int)]⟩
/-! the class _SelectorContext, the code table's owner, the module of built-ins -/
structure ClsK (K : Frag) : Prop where
  tab : K.lookup tabP = none
  makes : makesIn K 99 = true
  init : findIn K (.ref 99) "__init__" = some (some (.ref 96))
  fn : typeIn K (.ref 96) = some (.type "function")
  over : plainOver K 99 = true
  hasd : (clsIn K 99).any (·.hasDict) = true
  t1 : takerIn K 99 "root" = some none
  t2 : takerIn K 99 "parent_map" = some none
  sa : findIn K (.ref 99) "__setattr__" = some (some (.builtin "object.__setattr__"))
  ga : findIn K (.ref 99) "__getattribute__" = some (some (.builtin "object.__getattribute__"))
  get : ∀ od v, lookIn "parent_map" od = some (some v) → findObj K 99 (some od) "parent_map" = some (.value v)
theorem kIn_kp {K : Frag} {h h' : Heap} (x : K.In h) (ht : K.lookup tabP = none) (k : Kp h h') : K.In h' := fun a o e => k a o (fun q => by subst q; rw [ht] at e; cases e) (x a o e)
theorem codeHd_kp {h h' : Heap} {c P : Addr} (x : CodeHd h c P) (hc : c ≠ tabP) (k : Kp h h') : CodeHd h' c P :=
  exX9 x fun o vs file tf flags tg inF text tt q => exI9 o vs file tf flags tg inF text tt ⟨k _ _ hc q.1, q.2⟩
inductive BmAt (h : Heap) : Prop
  | mk (mg) (n : h.Ns mainGlobals mg) (b : h.BuiltinsAt mg tabP)
theorem BmAt.kp {h h' : Heap} (x : BmAt h) (k : Kp h h') : BmAt h' :=
  let ⟨mg, a, bm, o, e1, e2, e3, e4, e5, r⟩ := x; ⟨mg, Ns.kp a (by decide) k, bm, o, e1, e2, e3, e4, k _ _ e4 e5, r⟩
def clB : Stmt → List Stmt
  | .ClassDef _ _ _ b _ _ _ _ _ _ _ => b
  | _ => []
def initSt : Stmt := ((clB (stAt 24)).drop 1).headD (.Pass ⟨0, 0, 0, 0⟩)
structure Tops (h : Heap) : Prop where
  n : TopN h
  keqv : FnAt h 21 20 "parse_keqv_list" (fnA (stAt 1)) (fnB (stAt 1)) (fnS (stAt 1))
  http : FnAt h 26 25 "parse_http_list" (fnA (stAt 2)) (fnB (stAt 2)) (fnS (stAt 2))
  unq : FnAt h 49 48 "unquote" (fnA (stAt 14)) (fnB (stAt 14)) (fnS (stAt 14))
  quo : FnAt h 56 55 "quote" (fnA (stAt 15)) (fnB (stAt 15)) (fnS (stAt 15))
  swap : FnAt h 68 67 "_byteswap" (fnA (stAt 20)) (fnB (stAt 20)) (fnS (stAt 20))
  pmap : FnAt h 75 74 "get_parent_map" (fnA (stAt 22)) (fnB (stAt 22)) (fnS (stAt 22))
  prep : FnAt h 82 81 "prepare_parent" (fnA (stAt 23)) (fnB (stAt 23)) (fnS (stAt 23))
  cells : FnAt h 110 109 "_law_cells" (fnA (stAt 26)) (fnB (stAt 26)) (fnS (stAt 26))
  wish : FnAt h 117 116 "_law_wishes" (fnA (stAt 27)) (fnB (stAt 27)) (fnS (stAt 27))
  figs : FnAt h 124 123 "_law_figures" (fnA (stAt 28)) (fnB (stAt 28)) (fnS (stAt 28))
  letter : FnAt h 129 128 "_law_letter" (fnA (stAt 29)) (fnB (stAt 29)) (fnS (stAt 29))
  told : FnAt h 134 133 "_law_told" (fnA (stAt 30)) (fnB (stAt 30)) (fnS (stAt 30))
  book : FnAt h 139 138 "_law_book" (fnA (stAt 31)) (fnB (stAt 31)) (fnS (stAt 31))
  led : FnAt h 146 145 "_law_led" (fnA (stAt 32)) (fnB (stAt 32)) (fnS (stAt 32))
  singly : FnAt h 153 152 "_law_singly" (fnA (stAt 33)) (fnB (stAt 33)) (fnS (stAt 33))
  ring : FnAt h 158 157 "_law_ring" (fnA (stAt 34)) (fnB (stAt 34)) (fnS (stAt 34))
  qmap : ∃ vs n, h.get? 29 = some (seqObj "list" vs.toArray n) ∧ StrsAre vs ((List.range 256).map qtext)
  init : FnAt h 96 95 "_SelectorContext.__init__" (fnA initSt) (fnB initSt) (fnS initSt)
  cls : ∃ K : Frag, K.In h ∧ ClsK K
  hd81 : CodeHd h 81 tabP
  bm : BmAt h
theorem Tops.kp {h h' : Heap} (T : Tops h) (k : Kp h h') : Tops h' := ⟨T.n.kp k, T.keqv.kp k (by decide) (by decide), T.http.kp k (by decide) (by decide), T.unq.kp k (by decide) (by decide), T.quo.kp k (by decide) (by decide), T.swap.kp k (by decide) (by decide),
  T.pmap.kp k (by decide) (by decide), T.prep.kp k (by decide) (by decide), T.cells.kp k (by decide) (by decide), T.wish.kp k (by decide) (by decide), T.figs.kp k (by decide) (by decide), T.letter.kp k (by decide) (by decide), T.told.kp k (by decide) (by decide),
  T.book.kp k (by decide) (by decide), T.led.kp k (by decide) (by decide), T.singly.kp k (by decide) (by decide), T.ring.kp k (by decide) (by decide), let ⟨vs, n, a, b⟩ := T.qmap; ⟨vs, n, k _ _ (by decide) a, b⟩, T.init.kp k (by decide) (by decide), let ⟨K, a, b⟩ := T.cls; ⟨K, kIn_kp a b.tab k, b⟩, codeHd_kp T.hd81 (by decide) k, T.bm.kp k⟩
section
variable {α β : Type} {c : Cx} {A : Around} {frs : Frs} {led : Led} {env : Env}
theorem Then_next {rest : List Stmt} {Q : Flow → Frs → Led → Prop} (h : W c A (execs rest env) frs led Q) : Then c A env rest Q .next frs led := h
theorem Then_ret {rest : List Stmt} {v : Value} {Q : Flow → Frs → Led → Prop} (h : Q (.ret v) frs led) : Then c A env rest Q (.ret v) frs led := h
theorem Then_cont {rest : List Stmt} {Q : Flow → Frs → Led → Prop} (h : Q .cont frs led) : Then c A env rest Q .cont frs led := h
theorem ForTurn_none {target : Expr} {it : Value} {body : List Stmt} {Q : Flow → Frs → Led → Prop} (h : Q .next frs led) : ForTurn c A env target it body Q none frs led := h
/-- what comes behind a turn -/
def Again (c : Cx) (A : Around) (env : Env) (target : Expr) (it : Value) (body : List Stmt) (Q : Flow → Frs → Led → Prop) : Flow → Frs → Led → Prop
  | .next, f, l => Wc c A (.forLoop target it body [] env) f l Q
  | .cont, f, l => Wc c A (.forLoop target it body [] env) f l Q
  | .brk, f, l => Q .next f l
  | .ret v, f, l => Q (.ret v) f l
theorem ForTurn_some {target : Expr} {it v : Value} {body : List Stmt} {Q : Flow → Frs → Led → Prop}
    (h : W c A (letOwnedTupleGo target it v) frs led fun _ f l => W c A (assign target env v) f l fun _ f l => W c A (execs body env) f l (Again c A env target it body Q)) : ForTurn c A env target it body Q (some v) frs led :=
  W_mono h fun _ f l q => W_mono q fun _ f l q => W_mono q fun fl f l q => by cases fl <;> exact q
theorem Again_next {target : Expr} {it : Value} {body : List Stmt} {Q : Flow → Frs → Led → Prop} (h : Wc c A (.forLoop target it body [] env) frs led Q) : Again c A env target it body Q .next frs led := h
theorem Again_cont {target : Expr} {it : Value} {body : List Stmt} {Q : Flow → Frs → Led → Prop} (h : Wc c A (.forLoop target it body [] env) frs led Q) : Again c A env target it body Q .cont frs led := h
theorem Again_ret {target : Expr} {it v : Value} {body : List Stmt} {Q : Flow → Frs → Led → Prop} (h : Q (.ret v) frs led) : Again c A env target it body Q (.ret v) frs led := h
theorem CompTurn_none {elt target iter : Expr} {ifs : List Expr} {scope : Scope} {pos : Pos} {it acc : Value} {Q : Flow → Frs → Led → Prop} (h : Q .next frs led) : CompTurn c A env elt target iter ifs scope pos it acc Q none frs led := h
theorem CompTurn_some {elt target iter : Expr} {ifs : List Expr} {scope : Scope} {pos : Pos} {it acc v : Value} {Q : Flow → Frs → Led → Prop}
    (h : W c A (letOwnedTupleGo target it v) frs led fun _ f l => W c A (assign target env v) f l fun _ f l => W c A (allTrue .And ifs env) f l (CompEmit c A env elt target iter ifs scope pos it acc Q)) : CompTurn c A env elt target iter ifs scope pos it acc Q (some v) frs led := h
theorem CompEmit_true {elt target iter : Expr} {ifs : List Expr} {scope : Scope} {pos : Pos} {it acc : Value} {Q : Flow → Frs → Led → Prop}
    (h : W c A (eval elt env) frs led fun x f l => W c A (call (.builtin "list.append") [acc, x]) f l fun _ f l => Wc c A (.compLoop (.ListComp elt [⟨target, iter, ifs, 0⟩] scope pos) 0 it acc env) f l Q) : CompEmit c A env elt target iter ifs scope pos it acc Q true frs led := h
theorem CompEmit_false {elt target iter : Expr} {ifs : List Expr} {scope : Scope} {pos : Pos} {it acc : Value} {Q : Flow → Frs → Led → Prop}
    (h : Wc c A (.compLoop (.ListComp elt [⟨target, iter, ifs, 0⟩] scope pos) 0 it acc env) frs led Q) : CompEmit c A env elt target iter ifs scope pos it acc Q false frs led := h
/-- a call of a def of the text without cells -/
theorem W_fn {n : Nat} {f k : Addr} {qual params body scope} {vals : List Value} {m : Loc} {Q : Value → Frs → Led → Prop} (hA : AOk (n + 1) A) (T : Tops c.base) (F : FnAt c.base f k qual params body scope) (hf : f ≠ tabP) (hk : k ≠ tabP)
    (hb : ∀ name doc pm an ct, bindArgs (fnX name qual params body scope [] .none .none doc pm an (.ref k) ct) ⟨vals, []⟩ = pure m)
    (hkind : ∀ x ∈ m, scope.names.lookup x.1 = some .local)
    (hco : scope.isCoroutine = false) (hgen : scope.isGenerator = false) (hsk : scope.kind = .function) (hcl : cellsFrom 0 scope.names [] = [])
    (hm : ∀ L cs, ∀ p ∈ m, bindL (envX qual scope L f (.ref k) cs).kindOf m (fun _ => none) p.1 = some p.2)
    (h : ∀ (c' : Cx) (L : Addr), c'.w = c.w → Tops c'.base → Kp c.base c'.base → (∀ a o, At c led a o → c'.base.get? a = some o ∧ a ≠ tabP) →
      W c' (A.deeper (envX qual scope L f (.ref k) [])) (execs body (envX qual scope L f (.ref k) [])) [(L, m)] [] (fun fl f' l' => ∃ v res, (fl = .ret v ∨ (fl = .next ∧ v = .none)) ∧ res.Sublist l' ∧ Q v frs (res ++ led))) :
    W c A (call (.ref f) vals) frs led Q :=
  W_def m (binds := m) hA T.n F hf hk hb (fun _ x hx => .inl (hkind x hx)) hco hgen hsk (fun c' L cs cl mf cm hw _ hk hat hcs Y hmf hcm => by
    rw [hcl] at hcs
    cases cs with
    | cons => cases hcs
    | nil =>
      cases Y
      exact h c' L hw (T.kp hk) hk hat) hm (by rw [hcl]; exact .nil)
end
end
section
/-! stores in place; states up to weakening; loops by an invariant -/
inductive KNe (x : Str) : Loc → Prop
  | nil : KNe x []
  | cons {y : Str} {u : Value} {r : Loc} (h : y ≠ x) (s : KNe x r) : KNe x ((y, u) :: r)
theorem KNe.ne {x : Str} {m : Loc} (s : KNe x m) : ∀ p ∈ m, p.1 ≠ x := by
  induction s with
  | nil => intro p hp; exact absurd hp List.not_mem_nil
  | cons h _ ih =>
    intro p hp
    rcases List.mem_cons.mp hp with rfl | hp
    · exact h
    · exact ih p hp
inductive SetL (x : Str) (v : Value) : Loc → Loc → Prop
  | new : SetL x v [] [(x, v)]
  | head {u : Value} {r : Loc} (h : KNe x r) : SetL x v ((x, u) :: r) ((x, v) :: r)
  | tail {y : Str} {u : Value} {r r' : Loc} (h : y ≠ x) (s : SetL x v r r') : SetL x v ((y, u) :: r) ((y, u) :: r')
theorem SetL.mem {x : Str} {v : Value} {m m' : Loc} (s : SetL x v m m') : ∀ p ∈ m', p = (x, v) ∨ (p ∈ m ∧ p.1 ≠ x) := by
  induction s with
  | new => intro p hp; exact .inl (List.mem_singleton.mp hp)
  | head h =>
    intro p hp
    rcases List.mem_cons.mp hp with rfl | hp
    · exact .inl rfl
    · exact .inr ⟨List.mem_cons_of_mem _ hp, h.ne p hp⟩
  | tail h _ ih =>
    intro p hp
    rcases List.mem_cons.mp hp with rfl | hp
    · exact .inr ⟨List.mem_cons_self, h⟩
    · exact (ih p hp).imp id fun ⟨a, b⟩ => ⟨List.mem_cons_of_mem _ a, b⟩
inductive FW : Frs → Frs → Prop
  | nil : FW [] []
  | cons {L : Addr} {m0 m : Loc} {r0 r : Frs} (h : ∀ p ∈ m0, p ∈ m) (s : FW r0 r) : FW ((L, m0) :: r0) ((L, m) :: r)
theorem FW.refl : ∀ f, FW f f
  | [] => .nil
  | (_, _) :: r => .cons (fun _ h => h) (FW.refl r)
theorem FW.keys {f0 f : Frs} (w : FW f0 f) : f0.map (·.1) = f.map (·.1) := by
  induction w with
  | nil => rfl
  | cons _ _ ih => rw [List.map_cons, List.map_cons, ih]
theorem FW.mem {f0 f : Frs} (w : FW f0 f) : ∀ f' ∈ f0, ∃ g ∈ f, g.1 = f'.1 ∧ ∀ p ∈ f'.2, p ∈ g.2 := by
  induction w with
  | nil => intro _ h; exact absurd h List.not_mem_nil
  | cons h _ ih =>
    intro f' hf
    rcases List.mem_cons.mp hf with rfl | hf
    · exact ⟨_, List.mem_cons_self, rfl, h⟩
    · refine exE1_2 (ih f' hf) fun g a b => ?_
      exact ⟨g, List.mem_cons_of_mem _ a, b⟩
theorem FW.trans {a b d : Frs} (x : FW a b) (y : FW b d) : FW a d := by
  induction x generalizing d with
  | nil => exact y
  | cons h _ ih => cases y with | cons h2 s2 => exact .cons (fun p hp => h2 p (h p hp)) (ih s2)
structure Wk (f0 : Frs) (l0 : Led) (f : Frs) (l : Led) : Prop where
  fw : FW f0 f
  sl : l0.Sublist l
theorem Wk.refl (f : Frs) (l : Led) : Wk f l f l := ⟨.refl f, .refl l⟩
section
variable {α β : Type} {c : Cx} {A : Around} {frs : Frs} {led : Led} {env : Env}
theorem Wk.sx {f0 : Frs} {l0 : Led} {s : Shared} (w : Wk f0 l0 frs led) (S : Sx c frs led s) : Sx c f0 l0 s := S.weak w.fw.keys w.fw.mem w.sl
theorem W_wk {f0 : Frs} {l0 : Led} {t : Sem α} {Q : α → Frs → Led → Prop} (w : Wk f0 l0 frs led) (h : W c A t f0 l0 Q) : W c A t frs led Q := fun s S => h s (w.sx S)
theorem Wc_wk {f0 : Frs} {l0 : Led} {t : Code} {Q : Flow → Frs → Led → Prop} (w : Wk f0 l0 frs led) (h : Wc c A t f0 l0 Q) : Wc c A t frs led Q := fun s S => h s (w.sx S)
theorem W_set {x : Str} {L : Addr} {m m' : Loc} {r : Frs} {v : Value} {Q : Unit → Frs → Led → Prop} (hL : env.locals = L) (hk : env.scope.kind = .function) (hx : env.kindOf x = some .local)
    (hm : SetL x v m m') (h : Q () ((L, m') :: r) led) : W c A (storeName env x v) ((L, m) :: r) led Q := fun s S => by
  obtain ⟨mf, hn, hf⟩ := S.fr _ (.head _)
  subst hL
  refine wpAny_storeName_local hx hn (fun h' hn' hs => ⟨_, _, S.setFr (fun b ob hb e => (hs.2 b hb).trans e) ⟨_, hn', fun p hp => ?_⟩, h⟩) (by rw [hk]; rfl)
  rcases hm.mem p hp with rfl | ⟨hp, hne⟩
  · exact if_pos rfl
  · show (if p.1 = x then some v else mf p.1) = some p.2
    rw [if_neg hne]
    exact hf p hp
theorem W_set2 {x : Str} {C L : Addr} {mC m m' : Loc} {r : Frs} {v : Value} {Q : Unit → Frs → Led → Prop} (hL : env.locals = L) (hk : env.scope.kind = .function) (hx : env.kindOf x = some .local)
    (hm : SetL x v m m') (h : Q () ((C, mC) :: (L, m') :: r) led) : W c A (storeName env x v) ((C, mC) :: (L, m) :: r) led Q := by
  intro s S
  refine wpAny_mono (W_store2 (m' := m'.filter fun p => decide (p.1 ≠ x)) (Q := fun _ f l => f = (C, mC) :: (L, (x, v) :: m'.filter fun p => decide (p.1 ≠ x)) :: r ∧ l = led) hL hk hx (fun p hp => ?_) ⟨rfl, rfl⟩ s S) (fun _ s' ⟨f, l, S', e1, e2⟩ => ?_) fun _ _ e => e
  · have h1 := List.mem_filter.mp hp
    rcases hm.mem p h1.1 with rfl | ⟨hp, hne⟩
    · exact absurd rfl (of_decide_eq_true h1.2)
    · exact ⟨hp, hne⟩
  · subst e1 e2
    refine ⟨_, _, Wk.sx ⟨.cons (fun _ h => h) (.cons (fun p hp => ?_) (.refl r)), .refl _⟩ S', h⟩
    rcases hm.mem p hp with rfl | ⟨_, hne⟩
    · exact List.mem_cons_self
    · exact List.mem_cons_of_mem _ (List.mem_filter.mpr ⟨hp, by simpa using hne⟩)
/-- a for, by an invariant; N turns -/
def Turn (Inv : Frs → Led → Prop) (Q : Flow → Frs → Led → Prop) : Flow → Frs → Led → Prop
  | .next, f, l => Inv f l
  | .cont, f, l => Inv f l
  | .brk, f, l => Q .next f l
  | .ret v, f, l => Q (.ret v) f l
theorem Turn_next {Inv : Frs → Led → Prop} {Q : Flow → Frs → Led → Prop} (h : Inv frs led) : Turn Inv Q .next frs led := h
theorem Turn_cont {Inv : Frs → Led → Prop} {Q : Flow → Frs → Led → Prop} (h : Inv frs led) : Turn Inv Q .cont frs led := h
theorem Turn_ret {v : Value} {Inv : Frs → Led → Prop} {Q : Flow → Frs → Led → Prop} (h : Q (.ret v) frs led) : Turn Inv Q (.ret v) frs led := h
def TurnIn (c : Cx) (A : Around) (env : Env) (target : Expr) (it : Value) (body : List Stmt) (Inv : Frs → Led → Prop) (Q : Flow → Frs → Led → Prop) : Option Value → Frs → Led → Prop
  | none, f, l => Q .next f l
  | some v, f, l => W c A (letOwnedTupleGo target it v) f l fun _ f l => W c A (assign target env v) f l fun _ f l => W c A (execs body env) f l (Turn Inv Q)
theorem TurnIn_some {target : Expr} {it v : Value} {body : List Stmt} {Inv : Frs → Led → Prop} {Q : Flow → Frs → Led → Prop}
    (h : W c A (letOwnedTupleGo target it v) frs led fun _ f l => W c A (assign target env v) f l fun _ f l => W c A (execs body env) f l (Turn Inv Q)) : TurnIn c A env target it body Inv Q (some v) frs led := h
theorem Wc_forInd {target : Expr} {it : Value} {body : List Stmt} {Q : Flow → Frs → Led → Prop} (N : Nat) (Inv : Nat → Frs → Led → Prop) (h0 : Inv 0 frs led)
    (hs : ∀ i, i < N → ∀ f l, Inv i f l → W c A (pyNext it) f l (TurnIn c A env target it body (Inv (i + 1)) Q))
    (he : ∀ f l, Inv N f l → W c A (pyNext it) f l (fun r f l => r = none ∧ Q .next f l)) : Wc c A (.forLoop target it body [] env) frs led Q := by
  suffices ∀ k i f l, i + k = N → Inv i f l → Wc c A (.forLoop target it body [] env) f l Q from this N 0 frs led (Nat.zero_add _) h0
  intro k
  induction k with
  | zero =>
    intro i f l e hi
    have : i = N := e
    subst this
    exact Wc_for (W_mono (he f l hi) fun r f l ⟨e, q⟩ => by subst e; exact q)
  | succ k ih =>
    intro i f l e hi
    refine Wc_for (W_mono (hs i (by exact om8 e) f l hi) fun r f l q => ?_)
    cases r with
    | none => exact q
    | some v =>
      refine W_mono q fun _ f l q => W_mono q fun _ f l q => W_mono q fun fl f l q => ?_
      cases fl with
      | next => exact ih (i + 1) f l (by exact om4 e) q
      | cont => exact ih (i + 1) f l (by exact om4 e) q
      | brk => exact q
      | ret v => exact q
/-- a comprehension of one clause, by an invariant; N turns -/
def EmitIn (c : Cx) (A : Around) (env : Env) (elt : Expr) (acc : Value) (Inv : Frs → Led → Prop) : Bool → Frs → Led → Prop
  | true, f, l => W c A (eval elt env) f l fun x f l => W c A (call (.builtin "list.append") [acc, x]) f l fun _ f l => Inv f l
  | false, f, l => Inv f l
def CompIn (c : Cx) (A : Around) (env : Env) (elt target : Expr) (ifs : List Expr) (it acc : Value) (Inv : Frs → Led → Prop) (Q : Flow → Frs → Led → Prop) : Option Value → Frs → Led → Prop
  | none, f, l => Q .next f l
  | some v, f, l => W c A (letOwnedTupleGo target it v) f l fun _ f l => W c A (assign target env v) f l fun _ f l => W c A (allTrue .And ifs env) f l (EmitIn c A env elt acc Inv)
theorem CompIn_some {elt target : Expr} {ifs : List Expr} {it acc v : Value} {Inv : Frs → Led → Prop} {Q : Flow → Frs → Led → Prop}
    (h : W c A (letOwnedTupleGo target it v) frs led fun _ f l => W c A (assign target env v) f l fun _ f l => W c A (allTrue .And ifs env) f l (EmitIn c A env elt acc Inv)) : CompIn c A env elt target ifs it acc Inv Q (some v) frs led := h
theorem EmitIn_true {elt : Expr} {acc : Value} {Inv : Frs → Led → Prop} (h : W c A (eval elt env) frs led fun x f l => W c A (call (.builtin "list.append") [acc, x]) f l fun _ f l => Inv f l) : EmitIn c A env elt acc Inv true frs led := h
theorem EmitIn_false {elt : Expr} {acc : Value} {Inv : Frs → Led → Prop} (h : Inv frs led) : EmitIn c A env elt acc Inv false frs led := h
theorem Wc_compInd {elt target iter : Expr} {ifs : List Expr} {scope : Scope} {pos : Pos} {it acc : Value} {Q : Flow → Frs → Led → Prop} (hi : ifs.length ≤ 1) (N : Nat) (Inv : Nat → Frs → Led → Prop) (h0 : Inv 0 frs led)
    (hs : ∀ i, i < N → ∀ f l, Inv i f l → W c A (pyNext it) f l (CompIn c A env elt target ifs it acc (Inv (i + 1)) Q))
    (he : ∀ f l, Inv N f l → W c A (pyNext it) f l (fun r f l => r = none ∧ Q .next f l)) : Wc c A (.compLoop (.ListComp elt [⟨target, iter, ifs, 0⟩] scope pos) 0 it acc env) frs led Q := by
  suffices ∀ k i f l, i + k = N → Inv i f l → Wc c A (.compLoop (.ListComp elt [⟨target, iter, ifs, 0⟩] scope pos) 0 it acc env) f l Q from this N 0 frs led (Nat.zero_add _) h0
  intro k
  induction k with
  | zero =>
    intro i f l e hi'
    have : i = N := e
    subst this
    exact Wc_comp hi (W_mono (he f l hi') fun r f l ⟨e, q⟩ => by subst e; exact q)
  | succ k ih =>
    intro i f l e hi'
    refine Wc_comp hi (W_mono (hs i (by exact om8 e) f l hi') fun r f l q => ?_)
    cases r with
    | none => exact q
    | some v =>
      refine W_mono q fun _ f l q => W_mono q fun _ f l q => W_mono q fun b f l q => ?_
      cases b with
      | true => exact W_mono q fun x f l q => W_mono q fun _ f l q => ih (i + 1) f l (by exact om4 e) q
      | false => exact ih (i + 1) f l (by exact om4 e) q
/-- what is asked in the end, hidden behind a name: each step's text is short -/
theorem W_hide {t : Sem α} {Q : α → Frs → Led → Prop} (h : ∀ R : α → Frs → Led → Prop, (∀ a f l, Q a f l → R a f l) → W c A t frs led R) : W c A t frs led Q := h Q fun _ _ _ q => q
theorem W_hideT {t : Sem (Option Value)} {target : Expr} {it : Value} {body : List Stmt} {I : Frs → Led → Prop} {Q : Flow → Frs → Led → Prop}
    (h : ∀ (J : Frs → Led → Prop) (K : Flow → Frs → Led → Prop), (∀ f l, I f l → J f l) → (∀ a f l, Q a f l → K a f l) → W c A t frs led (TurnIn c A env target it body J K)) : W c A t frs led (TurnIn c A env target it body I Q) := h I Q (fun _ _ q => q) fun _ _ _ q => q
theorem W_hideC {t : Sem (Option Value)} {elt target : Expr} {ifs : List Expr} {it acc : Value} {I : Frs → Led → Prop} {Q : Flow → Frs → Led → Prop}
    (h : ∀ (J : Frs → Led → Prop) (K : Flow → Frs → Led → Prop), (∀ f l, I f l → J f l) → (∀ a f l, Q a f l → K a f l) → W c A t frs led (CompIn c A env elt target ifs it acc J K)) : W c A t frs led (CompIn c A env elt target ifs it acc I Q) := h I Q (fun _ _ q => q) fun _ _ _ q => q
end
end
section
section
variable {α β : Type} {c : Cx} {A : Around} {frs : Frs} {led : Led} {env : Env}
theorem if_t {P R : Prop} (h : P) : if true = true then P else R := by simpa using h
theorem if_f {P R : Prop} (h : R) : if false = true then P else R := by simpa using h
theorem if_nt {P R : Prop} (h : R) : if (!true) = true then P else R := by simpa using h
theorem if_nf {P R : Prop} (h : P) : if (!false) = true then P else R := by simpa using h
theorem if_b {b : Bool} {P R : Prop} (ht : b = true → P) (hf : b = false → R) : if b = true then P else R := by cases b with | true => exact if_t (ht rfl) | false => exact if_f (hf rfl)
theorem ex_bool {b : Bool} {Q : Bool → Prop} (h : Q b) : ∃ b', Value.bool b = .bool b' ∧ Q b' := ⟨b, rfl, h⟩
theorem W_callBu1 {pos : Pos} {id : String} {r : Value} {e : Expr} {rest : List Expr} {Q : Value → Frs → Led → Prop}
    (h : W c A (spliced (backTo pos (starEach (e :: rest) env))) frs led (fun vs fr l => W c A (call (.builtin id) (r :: vs)) fr l Q)) (he : starEach (e :: rest) env = (false, eval e env) :: starEach rest env)
    (hp : (backTo pos (starEach (e :: rest) env)).any (·.1) = false) : W c A (callWith pos (.builtin id) [r] (backTo pos (starEach (e :: rest) env)) []) frs led Q := W_callBu h he hp
theorem W_callBuN {pos : Pos} {id : String} {e : Expr} {rest : List Expr} {Q : Value → Frs → Led → Prop}
    (h : W c A (spliced (backTo pos (starEach (e :: rest) env))) frs led (fun vs fr l => W c A (call (.builtin id) vs) fr l Q)) (he : starEach (e :: rest) env = (false, eval e env) :: starEach rest env)
    (hp : (backTo pos (starEach (e :: rest) env)).any (·.1) = false) : W c A (callWith pos (.builtin id) [] (backTo pos (starEach (e :: rest) env)) []) frs led Q := W_callBu (first := []) h he hp
theorem W_callTyN {pos : Pos} {id : String} {e : Expr} {rest : List Expr} {Q : Value → Frs → Led → Prop}
    (h : W c A (spliced (backTo pos (starEach (e :: rest) env))) frs led (fun vs fr l => W c A (call (.type id) vs) fr l Q)) (he : starEach (e :: rest) env = (false, eval e env) :: starEach rest env)
    (hp : (backTo pos (starEach (e :: rest) env)).any (·.1) = false) : W c A (callWith pos (.type id) [] (backTo pos (starEach (e :: rest) env)) []) frs led Q := W_callTy (first := []) h he hp
theorem W_callFnN {pos : Pos} {f k : Addr} {e : Expr} {rest : List Expr} {qual params body scope} {Q : Value → Frs → Led → Prop} (F : FnAt c.base f k qual params body scope) (hf : f ≠ tabP)
    (h : W c A (spliced (backTo pos (starEach (e :: rest) env))) frs led (fun vs fr l => W c A (call (.ref f) vs) fr l Q)) (he : starEach (e :: rest) env = (false, eval e env) :: starEach rest env) :
    W c A (callWith pos (.ref f) [] (backTo pos (starEach (e :: rest) env)) []) frs led Q := W_callFn (first := []) F hf h he
theorem W_appendL {a : Addr} {vs : List Value} {n : Nat} {x : Value} {led' : Led} {Q : Value → Frs → Led → Prop} (U : Up a (seqObj "list" vs.toArray n) (seqObj "list" (vs ++ [x]).toArray (n + 1)) led led') (hz : vs.length ≤ sizeLine) (h : Q .none frs led') :
    W c A (call (.builtin "list.append") [.ref a, x]) frs led Q := W_append (its := vs.toArray) (by rw [List.push_toArray]; exact U) (by simpa using hz) h
theorem W_ExprNone {e : Expr} {pos : Pos} {Q : Flow → Frs → Led → Prop} (h : W c A (eval e env) frs led (fun v f l => v = .none ∧ Q .next f l))
    (hi : interactive env = false) (hs : swapsWith e none pos.line env = pure false) : W c A (exec (.Expr e pos) env) frs led Q :=
  W_Expr (W_mono h fun v f l ⟨e, q⟩ => ⟨fun a => by rw [e]; exact (fun h => nomatch h), q⟩) hi hs
theorem W_consMid {st : Stmt} {rest : List Stmt} {Q : Flow → Frs → Led → Prop} (M : Frs → Led → Prop) (h : W c A (exec st env) frs led (fun fl f l => fl = .next ∧ M f l)) (h2 : ∀ f l, M f l → W c A (execs rest env) f l Q) : W c A (execs (st :: rest) env) frs led Q :=
  W_cons_next (W_mono h fun fl f l ⟨e, q⟩ => ⟨e, h2 f l q⟩)
theorem W_mid {t : Sem α} {Q : α → Frs → Led → Prop} (M : α → Frs → Led → Prop) (h : W c A t frs led M) (h2 : ∀ a f l, M a f l → Q a f l) : W c A t frs led Q := W_mono h h2
theorem comp_done {C : Addr} {m : Loc} {f2 : Frs} {P : Frs → Prop} (hne : f2 ≠ []) (h : P f2) : ∃ mC f2', (C, m) :: f2 = (C, mC) :: f2' ∧ f2' ≠ [] ∧ P f2' := ⟨m, f2, rfl, hne, h⟩
theorem next_and {P : Prop} (h : P) : Flow.next = Flow.next ∧ P := ⟨rfl, h⟩
theorem none_and {P : Prop} (h : P) : (none : Option Value) = none ∧ P := ⟨rfl, h⟩
end
end
section
/-! unpacking, slices, dicts -/
section
variable {α β : Type} {c : Cx} {A : Around} {frs : Frs} {led : Led} {env : Env}
theorem W_of_eq {t : Sem α} {a : α} {Q : α → Frs → Led → Prop} (e : t = pure a) (h : Q a frs led) : W c A t frs led Q := W_eq e (W_pure h)
theorem W_notIterable_list {a : Addr} {its : Array Value} {n : Nat} {Q : Bool → Frs → Led → Prop} (hl : At c led a (seqObj "list" its n)) (h : Q false frs led) : W c A (notIterableAtAll (.ref a)) frs led Q := fun s S => by
  unfold notIterableAtAll
  refine wpAny_bind (wpAny_specialOf (isList S hl).typeIs PySem.F.slot_list_iter.lookup ?_)
  exact wpAny_pure ⟨_, _, S, h⟩
theorem W_notIterable_tuple {a : Addr} {its : Array Value} {n : Nat} {Q : Bool → Frs → Led → Prop} (hl : At c led a (seqObj "tuple" its n)) (h : Q false frs led) : W c A (notIterableAtAll (.ref a)) frs led Q := fun s S => by
  unfold notIterableAtAll
  refine wpAny_bind (wpAny_specialOf (isTuple S hl).typeIs PySem.F.slot_tuple_iter.lookup ?_)
  exact wpAny_pure ⟨_, _, S, h⟩
theorem W_unpackList {a : Addr} {v1 v2 : Value} {n : Nat} {targets : List (Bool × (Value → Sem Unit))} {Q : Unit → Frs → Led → Prop} (hh : A.handled = none) (hl : At c led a (seqObj "list" #[v1, v2] n)) (hn : targets.length = 2) (hs : targets.findIdx? (·.1) = none)
    (h : W c A (assignInOrder (targets.map (·.2)) [v1, v2]) frs led Q) : W c A (unpack (.ref a) targets) frs led Q := by
  unfold unpack
  rw [hn, hs]
  refine W_bind (W_holding ?_)
  unfold unpackItems
  refine W_bind (W_notIterable_list hl ?_)
  simp only [Bool.false_eq_true, if_false]
  refine W_bind (W_holding (W_iterList hl fun I => ?_))
  refine W_bind (W_holding ?_)
  show W c A (pyNext (.ref I) >>= _) _ _ _
  refine W_bind (W_nextList (led' := fun o' => _) (fun o' => Up.head) (o := seqItObj "list_iterator" a 0) ⟨rfl, rfl⟩ hl.cons (v := v1) rfl fun o1 h1 => ?_)
  refine W_bind (W_holding ?_)
  show W c A (pyNext (.ref I) >>= _) _ _ _
  refine W_bind (W_nextList (led' := fun o' => _) (fun o' => Up.head) h1 hl.cons (v := v2) rfl fun o2 h2 => ?_)
  refine W_bind (W_holding (W_pure (W_pure (W_pure ?_))))
  rw [if_neg (by simp)]
  refine W_bind (W_holding (W_endList hh Rm.head (.head _) h2 hl.cons rfl ?_))
  simp only [Option.isSome_none, Bool.false_eq_true, if_false]
  exact W_pure h
theorem W_unpackTuple {a : Addr} {v1 v2 : Value} {n : Nat} {targets : List (Bool × (Value → Sem Unit))} {Q : Unit → Frs → Led → Prop} (hh : A.handled = none) (hl : At c led a (seqObj "tuple" #[v1, v2] n)) (hn : targets.length = 2) (hs : targets.findIdx? (·.1) = none)
    (h : W c A (assignInOrder (targets.map (·.2)) [v1, v2]) frs led Q) : W c A (unpack (.ref a) targets) frs led Q := by
  unfold unpack
  rw [hn, hs]
  refine W_bind (W_holding ?_)
  unfold unpackItems
  refine W_bind (W_notIterable_tuple hl ?_)
  simp only [Bool.false_eq_true, if_false]
  refine W_bind (W_holding (W_iterTuple hl fun I => ?_))
  refine W_bind (W_holding ?_)
  show W c A (pyNext (.ref I) >>= _) _ _ _
  refine W_bind (W_nextTuple (led' := fun o' => _) (fun o' => Up.head) (o := seqItObj "tuple_iterator" a 0) ⟨rfl, rfl⟩ hl.cons (v := v1) rfl fun o1 h1 => ?_)
  refine W_bind (W_holding ?_)
  show W c A (pyNext (.ref I) >>= _) _ _ _
  refine W_bind (W_nextTuple (led' := fun o' => _) (fun o' => Up.head) h1 hl.cons (v := v2) rfl fun o2 h2 => ?_)
  refine W_bind (W_holding (W_pure (W_pure (W_pure ?_))))
  rw [if_neg (by simp)]
  refine W_bind (W_holding (W_endTuple hh Rm.head (.head _) h2 hl.cons rfl ?_))
  simp only [Option.isSome_none, Bool.false_eq_true, if_false]
  exact W_pure h
theorem W_assignPair {x y : Str} {p1 p2 : Pos} {k : Nat} {pos : Pos} {v : Value} {a : Addr} {v1 v2 : Value} {Q : Unit → Frs → Led → Prop}
    (h : W c A (unpack v (assignEach [.Name x p1, .Name y p2] env)) frs led Q) : W c A (assign (.Tuple [.Name x p1, .Name y p2] k pos) env v) frs led Q := fun s S => by
  rw [arm_assign_Tuple]
  exact wpAny_bind (wpAny_standAt (h s S))
theorem W_inOrder2 {t1 t2 : Value → Sem Unit} {v1 v2 : Value} {Q : Unit → Frs → Led → Prop} (h : W c A (t1 v1) frs led fun _ f l => W c A (t2 v2) f l Q) : W c A (assignInOrder [t1, t2] [v1, v2]) frs led Q := by
  show W c A (holding [v2] (t1 v1) >>= fun _ => assignInOrder [t2] [v2]) _ _ _
  refine W_bind (W_holding (W_mono h fun _ f l q => ?_))
  show W c A (holding [] (t2 v2) >>= fun _ => assignInOrder [] []) _ _ _
  exact W_bind (W_holding (W_mono q fun _ f l q => W_pure q))
/-- an assignment of one target -/
theorem W_Assign1 {t value : Expr} {pos : Pos} {Q : Flow → Frs → Led → Prop} (h : W c A (eval value env) frs led (fun v f l => W c A (assign t env v) f l (fun _ => Q .next)))
    (he : (assignEach [t] env).map (·.2) = [assign t env]) (hs : swapsWithSole [t] value pos.line env = pure false) (hw : swappedStores [t] value env = pure none) : W c A (exec (.Assign [t] value pos) env) frs led Q :=
  fun s S => wpAny_Assign_stores (h.out S fun v s f l S q => by rw [he]; exact q s S) hs hw
theorem W_AssignSub {o i value : Expr} {pos' pos : Pos} {Q : Flow → Frs → Led → Prop}
    (h : W c A (eval value env) frs led fun v f l => W c A (eval o env) f l fun ov f l => W c A (eval i env) f l fun iv f l => W c A (setItem ov iv v) f l fun _ => Q .next)
    (hs : swapsWith value (some (.Subscript o i pos')) pos.line env = pure false) : W c A (exec (.Assign [.Subscript o i pos'] value pos) env) frs led Q := fun s S =>
  wpAny_Assign_Subscript (h.out S fun v s f l S q => q.out S fun ov s f l S q => q.out S fun iv s f l S q => q s S) hs
/-! slices -/
abbrev sliceObj (l u : Value) : Obj := { cls := .type "slice", data := .fields #[l, u, .none] }
theorem W_Slice {lower upper : Option Expr} {p : Pos} {Q : Value → Frs → Led → Prop} (h : W c A (evalPart lower env) frs led fun l f le => W c A (evalPart upper env) f le fun u f le => ∀ a, Q (.ref a) f ((a, sliceObj l u) :: le)) :
    W c A (eval (.Slice lower upper none p) env) frs led Q := fun s S =>
  wpAny_Slice (h.out S fun l s f le S q => q.out S fun u s f le S q => wpAny_pure ⟨_, _, S.push (Ka.of fun b o e => Heap.get?_push_of_some _ e) (Heap.get?_push_size _ rfl) (Nat.le_refl _), q _⟩)
theorem W_partNone {Q : Value → Frs → Led → Prop} (h : Q .none frs led) : W c A (evalPart none env) frs led Q := W_pure h
theorem W_partSome {e : Expr} {Q : Value → Frs → Led → Prop} (h : W c A (eval e env) frs led Q) : W c A (evalPart (some e) env) frs led Q := h
def sliceV : Option (Int × Tok) → Value
  | none => .none
  | some (i, t) => .int i t
theorem W_sliceStr {value slice : Expr} {x : Str} {t : Tok} {a : Addr} {l u : Option (Int × Tok)} {Q : Value → Frs → Led → Prop} (hs' : At c led a (sliceObj (sliceV l) (sliceV u))) (hz : x.length ≤ sizeLine)
    (hs : subscripted slice false (.str x t) (.ref a) = operate [.ref a, .str x t] (getItem (.str x t) (.ref a))) (ht : ∀ r, letTemporaryGo value (.str x t) r = pure ())
    (h : ∀ t, Q (.str (Txt.slice x (l.map (·.1)) (u.map (·.1))) t) frs led) : W c A (subscriptTail value slice (.str x t) (.ref a)) frs led Q := fun s S =>
  tail_of_ItemOn ⟨"str", _, PySem.F.slot_str_getitem.lookup, typeIs_str _ _ _, wpAny_getItem_str_slice (l := l) (u := u) (st := none) ⟨_, S.at hs', rfl, by cases l <;> cases u <;> rfl⟩ rfl
    (post_val_or_str ⟨Nat.le_trans (Txt.slice_le x _ _) hz, fun t' k => ⟨_, _, S.tok, h _⟩⟩)⟩ hs ht
/-! dicts with texts as keys -/
section
variable {K : Type} [DecidableEq K] {w : World} (knd : KeyKind pw w K)
/-- an object that is a dict of these pairs, in this order -/
def DOb (kvs : List (K × Value)) (ep : Nat) (o : Obj) : Prop := o.ExactDict ∧ ∃ es, o.data = .dict es ep ∧ KeysOf knd es ∧ Pairs knd es.toList kvs ∧ (kvs.map (·.1)).Nodup
end
theorem DOb.at {K : Type} [DecidableEq K] {knd : KeyKind pw c.w K} {kvs : List (K × Value)} {ep : Nat} {o : Obj} {a : Addr} {s : Shared} (d : DOb knd kvs ep o) (S : Sx c frs led s) (h : At c led a o) : s.heap.DictAt knd a kvs ep :=
  let ⟨x, es, r⟩ := d; ⟨o, es, S.at h, x, r⟩
theorem At.sys {a : Addr} {o : Obj} {s : Shared} (S : Sx c frs led s) (h : (a, o) ∈ led) : (a == sysModules) = false := by
  have h1 := S.new a (List.mem_append_right _ (List.mem_map_of_mem (f := (·.1)) h))
  have h2 := S.tab
  refine beq_eq_false_iff_ne.mpr fun e => ?_
  subst e
  unfold sysModules tabP Addr at *
  exact om57 h2 h1
theorem W_DictEmpty {pos : Pos} {K : Type} [DecidableEq K] (knd : KeyKind pw c.w K) {Q : Value → Frs → Led → Prop} (h : ∀ D o ep, DOb knd [] ep o → Q (.ref D) frs ((D, o) :: led)) : W c A (eval (.Dict [] [] pos) env) frs led Q := fun s S => by
  obtain ⟨o, es, ep, ho, r, hd⟩ := Heap.DictOf.new (knd := knd) s.heap
  exact wpAny_Dict_empty ⟨_, _, S.push (tk := s.toks) (Ka.of fun b o e => Heap.get?_push_of_some _ e) ho (Nat.le_refl _), h _ _ ep ⟨r, es, hd⟩⟩
theorem W_setDict {K : Type} [DecidableEq K] {knd : KeyKind pw c.w K} {kvs : List (K × Value)} {ep : Nat} {o : Obj} {a : Addr} {k : K} {key v : Value} {led' : Obj → Led} {Q : Unit → Frs → Led → Prop} (U : ∀ o', Up a o o' led (led' o')) (d : DOb knd kvs ep o) (hkey : knd.is k key = true) (hz : kvs.length ≤ sizeLine)
    (h : ∀ o' ep', DOb knd (stored kvs k v) ep' o' → Q () frs (led' o')) : W c A (setItem (.ref a) key v) frs led Q := fun s S =>
  wpAny_setItem_pairs hkey (d.at S (.led (U o).mem)).dictOf (fun h' hd hs => by
    obtain ⟨o', es, ep', ho', x, r⟩ := hd
    exact ⟨_, _, S.upd (tk := s.toks + 1) (U o') (fun b ob hb e => (hs.2 b hb).trans e) ho', h o' ep' ⟨x, es, r⟩⟩) hz
theorem W_getDict {K : Type} [DecidableEq K] {knd : KeyKind pw c.w K} {kvs : List (K × Value)} {ep : Nat} {o : Obj} {a : Addr} {k : K} {key v : Value} {value slice : Expr} {Q : Value → Frs → Led → Prop} (hl : At c led a o) (d : DOb knd kvs ep o) (hkey : knd.is k key = true) (hv : valueAt kvs k = some v)
    (hs : subscripted slice false (.ref a) key = operate [.ref a, key] (getItem (.ref a) key)) (ht : ∀ r, letTemporaryGo value (.ref a) r = pure ()) (h : Q v frs led) : W c A (subscriptTail value slice (.ref a) key) frs led Q := fun s S => by
  have hT : s.TypeIs (.ref a) "dict" := (d.at S hl).dictOf.typeIs
  refine tail_of_ItemOn ⟨"dict", _, PySem.F.slot_dict_getitem.lookup, hT, wpAny_getItem_of hkey (d.at S hl).dictOf.mapOf hv ⟨_, _, S.tok, h⟩⟩ hs ht
theorem W_inDict {K : Type} [DecidableEq K] {knd : KeyKind pw c.w K} {kvs : List (K × Value)} {ep : Nat} {o : Obj} {a : Addr} {k : K} {key : Value} {Q : Value → Frs → Led → Prop} (hl : (a, o) ∈ led) (d : DOb knd kvs ep o) (hkey : knd.is k key = true)
    (h : Q (.bool (valueAt kvs k).isSome) frs led) : W c A (compareOp .In key (.ref a)) frs led Q := fun s S =>
  wpAny_in_of hkey (At.sys S hl) (d.at S (.led hl)).dictOf.mapOf ⟨_, _, S.tok, h⟩
theorem W_notInDict {K : Type} [DecidableEq K] {knd : KeyKind pw c.w K} {kvs : List (K × Value)} {ep : Nat} {o : Obj} {a : Addr} {k : K} {key : Value} {Q : Value → Frs → Led → Prop} (hl : (a, o) ∈ led) (d : DOb knd kvs ep o) (hkey : knd.is k key = true)
    (h : Q (.bool (!(valueAt kvs k).isSome)) frs led) : W c A (compareOp .NotIn key (.ref a)) frs led Q := fun s S =>
  wpAny_notIn_of hkey (At.sys S hl) (d.at S (.led hl)).dictOf.mapOf ⟨_, _, S.tok, h⟩
/-! a walk over a dict's keys -/
def KeyIt (d : Addr) (i n ep : Nat) (o : Obj) : Prop := o.cls = .type "dict_keyiterator" ∧ o.data = .fields #[.ref d, .int i 0, .int n 0, .int ep 0]
theorem W_iterDict {K : Type} [DecidableEq K] {knd : KeyKind pw c.w K} {kvs : List (K × Value)} {ep : Nat} {o : Obj} {a : Addr} {Q : Value → Frs → Led → Prop} (hl : (a, o) ∈ led) (d : DOb knd kvs ep o)
    (h : ∀ I oi, KeyIt a 0 kvs.length ep oi → Q (.ref I) frs ((I, oi) :: led)) : W c A (pyIter (.ref a)) frs led Q := fun s S =>
  wpAny_pyIter_dict (At.sys S hl) (d.at S (.led hl)) ⟨_, _, S.push (tk := s.toks) (Ka.of fun b o e => Heap.get?_push_of_some _ e) (Heap.get?_push_size _ rfl) (Nat.le_refl _), h _ _ ⟨rfl, rfl⟩⟩
theorem W_nextDict {K : Type} [DecidableEq K] {knd : KeyKind pw c.w K} {kvs : List (K × Value)} {ep i : Nat} {o oi : Obj} {a I : Addr} {k : K} {v : Value} {led' : Obj → Led} {Q : Option Value → Frs → Led → Prop} (U : ∀ o', Up I oi o' led (led' o')) (hi : KeyIt a i kvs.length ep oi) (hl : At c led a o) (d : DOb knd kvs ep o) (hx : kvs[i]? = some (k, v))
    (h : ∀ o' key, knd.is k key = true → KeyIt a (i + 1) kvs.length ep o' → Q (some key) frs (led' o')) : W c A (pyNext (.ref I)) frs led Q := fun s S =>
  wpAny_pyNext_dict_item ⟨oi, S.ld _ (U oi).mem, hi⟩ (d.at S hl) hx fun key h' hk ⟨o', ho', hc⟩ hs => ⟨_, _, S.upd (tk := s.toks) (U o') (fun b ob hb e => (hs.2 b hb).trans e) ho', h o' key hk hc⟩
theorem W_endDict {K : Type} [DecidableEq K] {knd : KeyKind pw c.w K} {kvs : List (K × Value)} {ep i : Nat} {o oi : Obj} {a I : Addr} {led' : Led} {Q : Option Value → Frs → Led → Prop} (hh : A.handled = none) (R : Rm I led led') (hm : (I, oi) ∈ led) (hi : KeyIt a i kvs.length ep oi) (hl : At c led a o) (d : DOb knd kvs ep o) (hx : kvs[i]? = none)
    (h : Q none frs led') : W c A (pyNext (.ref I)) frs led Q := fun s S =>
  wpAny_pyNext_dict_end hh ⟨oi, S.ld _ hm, hi⟩ (d.at S hl) hx fun h' hs => ⟨_, _, S.rm (tk := s.toks) R hs, h⟩
end
section
variable {α β : Type} {c : Cx} {A : Around} {frs : Frs} {led : Led} {env : Env}
theorem W_pairList {x y : Str} {p1 p2 : Pos} {k : Nat} {pos : Pos} {a : Addr} {v1 v2 : Value} {n : Nat} {Q : Unit → Frs → Led → Prop} (hh : A.handled = none) (hl : At c led a (seqObj "list" [v1, v2].toArray n))
    (he : assignEach [.Name x p1, .Name y p2] env = [(false, assign (.Name x p1) env), (false, assign (.Name y p2) env)])
    (h : W c A (storeName env x v1) frs led fun _ f l => W c A (storeName env y v2) f l Q) : W c A (assign (.Tuple [.Name x p1, .Name y p2] k pos) env (.ref a)) frs led Q :=
  W_assignPair (a := a) (v1 := v1) (v2 := v2) (W_unpackList hh hl (by rw [he]; rfl) (by rw [he]; rfl) (by rw [he]; exact W_inOrder2 (W_assignName (W_mono h fun _ f l q => W_assignName q))))
theorem W_pairTuple {x y : Str} {p1 p2 : Pos} {k : Nat} {pos : Pos} {a : Addr} {v1 v2 : Value} {n : Nat} {Q : Unit → Frs → Led → Prop} (hh : A.handled = none) (hl : At c led a (seqObj "tuple" [v1, v2].toArray n))
    (he : assignEach [.Name x p1, .Name y p2] env = [(false, assign (.Name x p1) env), (false, assign (.Name y p2) env)])
    (h : W c A (storeName env x v1) frs led fun _ f l => W c A (storeName env y v2) f l Q) : W c A (assign (.Tuple [.Name x p1, .Name y p2] k pos) env (.ref a)) frs led Q :=
  W_assignPair (a := a) (v1 := v1) (v2 := v2) (W_unpackTuple hh hl (by rw [he]; rfl) (by rw [he]; rfl) (by rw [he]; exact W_inOrder2 (W_assignName (W_mono h fun _ f l q => W_assignName q))))
theorem W_neg {a : Int} {t : Tok} {Q : Value → Frs → Led → Prop} (h : ∀ t, Q (.int (-a) t) frs led) : W c A (unaryOp .USub (.int a t)) frs led Q := fun s S => PyProof.Rows.neg_int ⟨_, _, S.tok, h _⟩
end
section
variable {α β : Type} {c : Cx} {A : Around} {frs : Frs} {led : Led} {env : Env}
theorem W_slice_ss {value slice : Expr} {x y : Str} {t ti tj : Tok} {a : Addr} {i j : Int} {Q : Value → Frs → Led → Prop} (hs' : At c led a (sliceObj (.int i ti) (.int j tj))) (hz : x.length ≤ sizeLine) (e : Txt.slice x (some i) (some j) = y)
    (hs : subscripted slice false (.str x t) (.ref a) = operate [.ref a, .str x t] (getItem (.str x t) (.ref a))) (ht : ∀ r, letTemporaryGo value (.str x t) r = pure ())
    (h : ∀ t, Q (.str y t) frs led) : W c A (subscriptTail value slice (.str x t) (.ref a)) frs led Q := W_sliceStr (l := some (i, ti)) (u := some (j, tj)) hs' hz hs ht (fun t => by show Q (.str (Txt.slice x (some i) (some j)) t) _ _; rw [e]; exact h t)
theorem W_slice_sn {value slice : Expr} {x y : Str} {t ti : Tok} {a : Addr} {i : Int} {Q : Value → Frs → Led → Prop} (hs' : At c led a (sliceObj (.int i ti) .none)) (hz : x.length ≤ sizeLine) (e : Txt.slice x (some i) none = y)
    (hs : subscripted slice false (.str x t) (.ref a) = operate [.ref a, .str x t] (getItem (.str x t) (.ref a))) (ht : ∀ r, letTemporaryGo value (.str x t) r = pure ())
    (h : ∀ t, Q (.str y t) frs led) : W c A (subscriptTail value slice (.str x t) (.ref a)) frs led Q := W_sliceStr (l := some (i, ti)) (u := none) hs' hz hs ht (fun t => by show Q (.str (Txt.slice x (some i) none) t) _ _; rw [e]; exact h t)
theorem W_slice_ns {value slice : Expr} {x y : Str} {t tj : Tok} {a : Addr} {j : Int} {Q : Value → Frs → Led → Prop} (hs' : At c led a (sliceObj .none (.int j tj))) (hz : x.length ≤ sizeLine) (e : Txt.slice x none (some j) = y)
    (hs : subscripted slice false (.str x t) (.ref a) = operate [.ref a, .str x t] (getItem (.str x t) (.ref a))) (ht : ∀ r, letTemporaryGo value (.str x t) r = pure ())
    (h : ∀ t, Q (.str y t) frs led) : W c A (subscriptTail value slice (.str x t) (.ref a)) frs led Q := W_sliceStr (l := none) (u := some (j, tj)) hs' hz hs ht (fun t => by show Q (.str (Txt.slice x none (some j)) t) _ _; rw [e]; exact h t)
end
end
section
/-! lists of which the number of stores is not kept -/
def ListO (its : Array Value) (o : Obj) : Prop := o.cls = .type "list" ∧ ∃ n, o.data = .seq its n
theorem ListO.of (its : Array Value) (n : Nat) : ListO its (seqObj "list" its n) := ⟨rfl, n, rfl⟩
section
variable {α β : Type} {c : Cx} {A : Around} {frs : Frs} {led : Led} {env : Env}
theorem ListO.is {s : Shared} {its : Array Value} {o : Obj} {a : Addr} (h : ListO its o) (S : Sx c frs led s) (hl : At c led a o) : s.heap.IsList a its := ⟨o, S.at hl, h.1, h.2⟩
theorem W_lenO {a : Addr} {its : Array Value} {o : Obj} {Q : Value → Frs → Led → Prop} (hl : At c led a o) (ho : ListO its o) (hz : (its.size : Int) < 2 ^ 63) (h : ∀ t, Q (.int its.size t) frs led) : W c A (call (.builtin "len") [.ref a]) frs led Q := fun s S =>
  len_list (ho.is S hl) hz ⟨_, _, S.tok, h _⟩
theorem W_itemListO {value slice : Expr} {a : Addr} {its : Array Value} {o : Obj} {k : Int} {u : Tok} {x : Value} {Q : Value → Frs → Led → Prop} (hl : At c led a o) (ho : ListO its o) (h0 : 0 ≤ k) (h1 : k < 2 ^ 63) (hx : its[k.toNat]? = some x)
    (hs : subscripted slice false (.ref a) (.int k u) = operate [.ref a, .int k u] (getItem (.ref a) (.int k u))) (ht : ∀ r, letTemporaryGo value (.ref a) r = pure ()) (h : Q x frs led) : W c A (subscriptTail value slice (.ref a) (.int k u)) frs led Q := fun s S =>
  item_list (ho.is S hl) h0 h1 hx ⟨_, _, S, h⟩ hs ht
theorem W_getListO {a : Addr} {its : Array Value} {o : Obj} {k : Int} {u : Tok} {x : Value} {Q : Value → Frs → Led → Prop} (hl : At c led a o) (ho : ListO its o) (h0 : 0 ≤ k) (h1 : k < 2 ^ 63) (hx : its[k.toNat]? = some x)
    (h : Q x frs led) : W c A (getItem (.ref a) (.int k u)) frs led Q := fun s S =>
  wpAny_getItem_list (ho.is S hl) h0 h1 hx ⟨_, _, S, h⟩
theorem W_setListO {a : Addr} {its : Array Value} {o : Obj} {k : Int} {u : Tok} {v : Value} {led' : Obj → Led} {Q : Unit → Frs → Led → Prop} (U : ∀ o', Up a o o' led (led' o')) (ho : ListO its o) (h0 : 0 ≤ k) (h1 : k < 2 ^ 63) (hn : k < its.size)
    (h : ∀ o', ListO (its.setIfInBounds k.toNat v) o' → Q () frs (led' o')) : W c A (setItem (.ref a) (.int k u) v) frs led Q := fun s S =>
  wpAny_setItem_list (ho.is S (.led (U o).mem)) h0 h1 hn fun h' ⟨o', ho', hc⟩ hs => ⟨_, _, S.upd (tk := s.toks) (U o') (fun b ob hb e => (hs.2 b hb).trans e) ho', h o' hc⟩
theorem W_AugSub {o i value : Expr} {tpos pos : Pos} {op : Operator} {Q : Flow → Frs → Led → Prop}
    (h : W c A (eval o env) frs led fun ov f l => W c A (eval i env) f l fun iv f l => W c A (getItem ov iv) f l fun old f l => W c A (eval value env) f l fun v f l => W c A (inplaceOp op old v) f l fun new f l => W c A (setItem ov iv new) f l fun _ => Q .next)
    (hi : ∀ ov iv new, augStore i ov iv new = (do holding [new, ov, iv] (setItem ov iv new); release [new, ov, iv] []; pure .next)) :
    W c A (exec (.AugAssign (.Subscript o i tpos) op value pos) env) frs led Q := fun s S =>
  wpAny_AugAssign_SubscriptAny (h.out S fun _ s f l S q => q.out S fun _ s f l S q => q.out S fun _ s f l S q => q.out S fun _ s f l S q => q.out S fun _ s f l S q => q s S) hi
theorem W_pow {a n : Int} {t u : Tok} {Q : Value → Frs → Led → Prop} (hn : 0 ≤ n) (hn2 : n ≤ 1000000) (ha : a.natAbs < 2 ^ 64) (h : ∀ t, Q (.int (a ^ n.toNat) t) frs led) : W c A (binaryOp .Pow (.int a t) (.int n u)) frs led Q := fun s S =>
  pow_int_small hn hn2 ha ⟨_, _, S.tok, h _⟩
theorem W_rshift {a n : Int} {t u : Tok} {Q : Value → Frs → Led → Prop} (hn : 0 ≤ n) (h : ∀ t, Q (.int (a.fdiv (2 ^ n.toNat)) t) frs led) : W c A (binaryOp .RShift (.int a t) (.int n u)) frs led Q := fun s S =>
  rshift_int hn ⟨_, _, S.tok, h _⟩
theorem W_bitand {a n : Int} {t u : Tok} {Q : Value → Frs → Led → Prop} (h : ∀ t, Q (.int (Builtin.bitAnd a n) t) frs led) : W c A (binaryOp .BitAnd (.int a t) (.int n u)) frs led Q := fun s S =>
  and_int ⟨_, _, S.tok, h _⟩
end
theorem rsize1 (n : Nat) : Builtin.Range.rangeSize 0 n 1 = n := by
  unfold Builtin.Range.rangeSize
  rw [if_pos (by decide)]
  split
  · rw [Int.ediv_one]; exact om58
  · exact om59 (by assumption)
theorem rsmall {a b d : Int} (h1 : 0 ≤ a) (h2 : a < 100000) (h3 : 0 ≤ b) (h4 : b < 100000) (h5 : 0 < d) (h6 : d < 100000) : Builtin.Range.small a b d = true := by
  have hr : 0 ≤ Builtin.Range.rangeSize a b d ∧ Builtin.Range.rangeSize a b d ≤ 100000 := by
    unfold Builtin.Range.rangeSize
    rw [if_pos (by exact om30 h5)]
    split
    · have h1 : 0 ≤ (b - a - 1) / d := Int.ediv_nonneg (by exact om31 (by assumption)) (by exact om21 h5)
      have h2 : (b - a - 1) / d ≤ b - a - 1 := Int.ediv_le_self _ (by exact om31 (by assumption))
      exact om60 (by assumption) h4 h1 h2
    · exact om61
  unfold Builtin.Range.small
  simp only [Builtin.Range.rangeFitsLong, Bool.and_eq_true, Bool.or_eq_true, decide_eq_true_eq, beq_iff_eq]
  refine ⟨⟨⟨⟨by exact om32 h1 h2, by exact om32 h3 h4⟩, by exact om62 h5 h6⟩, by exact om63 hr⟩, .inr ?_⟩
  rw [if_pos (by exact om30 h5)]
  simp only [Bool.and_eq_true, decide_eq_true_eq]
  exact om64 h3 h4 h5 h6
/-- a walk along range(n) begins -/
theorem W_iterRangeN {c : Cx} {A : Around} {frs : Frs} {led : Led} {r : Addr} {t u v : Tok} {n : Nat} {Q : Value → Frs → Led → Prop} (hr : At c led r (rangeObj 0 n 1 t u v)) (hn : n < 100000)
    (h : ∀ I (x left : Int), x = ((0 : Nat) : Int) → left = n - ((0 : Nat) : Int) → Q (.ref I) frs ((I, rangeIt x left 1) :: led)) : W c A (pyIter (.ref r)) frs led Q :=
  W_iterRange hr (rsmall (by exact om33) (by exact om65) (by exact om0) (by exact om66 hn) (by exact om67) (by exact om68)) (rsize1 n) fun I => h I 0 n rfl (by exact om69)
theorem W_nextRangeN {c : Cx} {A : Around} {frs : Frs} {led : Led} {I : Addr} {x left : Int} {i n : Nat} {led' : Obj → Led} {Q : Option Value → Frs → Led → Prop} (U : ∀ o', Up I (rangeIt x left 1) o' led (led' o')) (hx : x = i) (hl : left = n - i) (hi : i < n)
    (h : ∀ t (x' left' : Int), x' = ((i + 1 : Nat) : Int) → left' = n - ((i + 1 : Nat) : Int) → Q (some (.int i t)) frs (led' (rangeIt x' left' 1))) : W c A (pyNext (.ref I)) frs led Q :=
  W_nextRange U (by exact om70 hl hi) fun t => by subst hx; exact h t _ _ (by exact om71) (by exact om72 hl)
theorem W_endRangeN {c : Cx} {A : Around} {frs : Frs} {led : Led} {I : Addr} {x left : Int} {n : Nat} {led' : Led} {Q : Option Value → Frs → Led → Prop} (hh : A.handled = none) (R : Rm I led led') (hm : (I, rangeIt x left 1) ∈ led) (hl : left = n - n)
    (h : Q none frs led') : W c A (pyNext (.ref I)) frs led Q := W_endRange hh R hm (by exact om73 hl) h
end
section
/-! list(..), pop, membership, comparison -/
theorem mapSeq_ex (f : Array Value → Array Value) (its : Array Value) (n : Nat) : ∃ m, Obj.mapSeq f (seqObj "list" its n) = seqObj "list" (f its) m := by
  unfold Obj.mapSeq
  exact ⟨_, rfl⟩
section
variable {α β : Type} {c : Cx} {A : Around} {frs : Frs} {led : Led} {env : Env}
theorem W_listOfList {a : Addr} {vs : List Value} {o : Obj} {Q : Value → Frs → Led → Prop} (hl : At c led a o) (ho : ListO vs.toArray o) (hz : vs.length ≤ sizeLine) (h : ∀ D n, Q (.ref D) frs ((D, seqObj "list" vs.toArray n) :: led)) :
    W c A (call (.type "list") [.ref a]) frs led Q := fun s S => by
  obtain ⟨hc, n, hd⟩ := ho
  exact call_list_seq a (.inl rfl) (S.at hl) hc hd (fun h' c' hk hD => ⟨_, _, S.push (tk := s.toks) (Ka.of hk) hD (Nat.le_refl _), h _ c'⟩) (by simpa using hz)
theorem W_listOfDict {K : Type} [DecidableEq K] {knd : KeyKind pw c.w K} {kvs : List (K × Value)} {ep : Nat} {o : Obj} {a : Addr} {Q : Value → Frs → Led → Prop} (hh : A.handled = none) (hl : (a, o) ∈ led) (d : DOb knd kvs ep o) (hz : kvs.length ≤ sizeLine)
    (h : ∀ D n (vs : List Value), vs.length = kvs.length → (∀ (j : Nat) (v : Value), vs[j]? = some v → ∃ k x, kvs[j]? = some (k, x) ∧ knd.is k v = true) → Q (.ref D) frs ((D, seqObj "list" vs.toArray n) :: led)) : W c A (call (.type "list") [.ref a]) frs led Q := fun s S =>
  kdl_call (kdl_dict (At.sys S hl)) hh (d.at S (.led hl)) hz fun h' tk acc' c' hk hD hacc => ⟨_, _, S.push (tk := tk) (o := seqObj "list" acc'.toList.toArray c') (Ka.of hk) (by simpa using hD) (Nat.le_refl _),
    h _ c' acc'.toList (by rw [Array.length_toList]; exact hacc.1) fun j v e => hacc.2 j v (by rw [← Array.getElem?_toList]; exact e)⟩
theorem W_popAt {a : Addr} {vs : List Value} {n : Nat} {i : Int} {k : Nat} {u : Tok} {y : Value} {led' : Obj → Led} {Q : Value → Frs → Led → Prop} (U : ∀ o', Up a (seqObj "list" vs.toArray n) o' led (led' o')) (hk : i = (k : Int)) (hy : vs[k]? = some y) (hz : vs.length ≤ sizeLine)
    (h : ∀ m, Q y frs (led' (seqObj "list" (vs.eraseIdx k).toArray m))) : W c A (call (.builtin "list.pop") [.ref a, .int i u]) frs led Q := fun s S => by
  have hkl : k < vs.length := by
    rcases Nat.lt_or_ge k vs.length with h | h
    · exact h
    · rw [List.getElem?_eq_none h] at hy; cases hy
  have ho := S.ld _ (U default).mem
  have hy' : vs.toArray[k]? = some y := by rw [List.getElem?_toArray]; exact hy
  have hz' : vs.toArray.size ≤ sizeLine := by rw [List.size_toArray]; exact hz
  have g1 : Builtin.List.listFitsIndex i = true := by
    subst hk
    rw [sizeLine_eq] at hz
    unfold Builtin.List.listFitsIndex
    simp
    exact om74 hz hkl
  have g2 : seqIndex? i vs.toArray.size = some k := by
    subst hk
    unfold seqIndex?
    simp
    omega
  have g := @PySem.MeetsSeq.list_pop_at a vs.toArray n i u k y g1 g2 hy' hz'
  refine call_meets PySem.F.slot_list_pop ⟨_, ho, rfl⟩ PySem.F.entry_list_pop (PySem.F.args_list_pop_2 _ _) g ?_
  refine ⟨ho, ?_⟩
  · refine exX1 (mapSeq_ex (fun xs => xs.eraseIdxIfInBounds k) vs.toArray n) fun m hm => ?_
    have e : vs.toArray.eraseIdxIfInBounds k = (vs.eraseIdx k).toArray := by
      unfold Array.eraseIdxIfInBounds
      rw [dif_pos (by simpa using hkl)]
      simp
    rw [e] at hm
    refine ⟨_, _, S.upd (tk := s.toks) (h' := s.heap.update a (Obj.mapSeq fun xs => xs.eraseIdxIfInBounds k)) (U _) (fun b ob hb e => ((Heap.SameBut.update ..).2 b hb).trans e) ?_, h m⟩
    rw [Heap.get?_update_self _ ho (by rw [hm]; rfl), hm]
end
/-- these values are these numbers -/
def NA (vs : List Value) (os : List Nat) : Prop := IntsAre vs (os.map fun (n : Nat) => (n : Int))
theorem NA.len {vs : List Value} {os : List Nat} (h : NA vs os) : vs.length = os.length := by
  have := h.length
  simpa using this
theorem NA.nil : NA [] [] := IntsAre.nil
theorem NA.at : ∀ {vs : List Value} {os : List Nat}, NA vs os → ∀ {j o : Nat}, os[j]? = some o → ∃ t, vs[j]? = some (.int o t)
  | _, [], h, j, o, e => by simp at e
  | _, o' :: os, h, j, o, e => by
    refine exE2_2 (IntsAre.cons_inv (n := (o' : Int)) (ns := os.map fun (n : Nat) => (n : Int)) h) fun t vs' hrf2 h' => ?_; subst hrf2
    cases j with
    | zero => simp at e; subst e; exact ⟨t, rfl⟩
    | succ j => simp at e ⊢; exact NA.at (os := os) h' e
theorem NA.push {vs : List Value} {os : List Nat} (h : NA vs os) (o : Nat) (t : Tok) : NA (vs ++ [.int o t]) (os ++ [o]) := by
  unfold NA
  rw [List.map_append]
  exact IntsAre.append h (.cons _ _ .nil)
theorem NA.erase : ∀ {vs : List Value} {os : List Nat}, NA vs os → ∀ j, NA (vs.eraseIdx j) (os.eraseIdx j)
  | vs, [], h, j => by rw [IntsAre.nil_inv (vs := vs) h]; exact NA.nil
  | _, o' :: os, h, j => by
    obtain ⟨t, vs', rfl, h'⟩ := IntsAre.cons_inv (n := (o' : Int)) (ns := os.map fun (n : Nat) => (n : Int)) h
    cases j with
    | zero => exact h'
    | succ j => exact IntsAre.cons _ _ (NA.erase (os := os) h' j)
theorem NA.cons {vs : List Value} {os : List Nat} (o : Nat) (t : Tok) (h : NA vs os) : NA (.int o t :: vs) (o :: os) := IntsAre.cons _ _ h
end
section
noncomputable section
def TopR (b : Nat) (w : World) (s : Shared) (t : Thread) (r : Shared) : Prop := ∃ N, N ≤ b ∧ topRun treeTable tpw w 11 tAnn N s t = some r
theorem top_app {b b' : Nat} {w : World} {s s' : SharedT} {r : Shared} {l rest : List Stmt} {pos p' : Pos} (h : Ends b w s (th0 l pos) s' p') (k : TopR b' w s'.abs (restOf rest tEnv tCode p' [topFrame q0]) r) :
    TopR (b + b') w s.abs (restOf (l ++ rest) tEnv tCode pos [topFrame q0]) r :=
  let ⟨n, hn, e⟩ := h
  let ⟨N, hN, e'⟩ := k
  ⟨n + N, Nat.add_le_add hn hN, piece_app e e'⟩
theorem top_end (w : World) (p : Pos) : ∀ s : Shared, topRun treeTable tpw w 11 tAnn 2 s ⟨doneF .next, tCode, p, [topFrame q0]⟩ = some s
  | ⟨h, g, d, t, o⟩ => by kernel_rfl
theorem top_block (w : World) : ∀ s : Shared, segRun treeTable tpw w 11 tAnn 1 1 s (blockOf tBody tEnv tCode q0 [topFrame q0]) = some (.next, s, tCode, q0)
  | ⟨h, g, d, t, o⟩ => by kernel_rfl
theorem body_eq : tBody = lA ++ (l1 ++ (lC ++ (l2 ++ (lE ++ (l3 ++ (lG ++ (lH ++ (lI ++ (lJ ++ []))))))))) := by kernel_rfl
theorem top_rest (w : World) (os : OsState) : TopR 19000 w (st1 w os).abs (restOf tBody tEnv tCode q0 [topFrame q0]) (sJ w os).abs := by
  rw [body_eq]
  have h := top_app (ends_run (runA w os)) (top_app (end1 os w) (top_app (ends_run (runC w os)) (top_app (end2 w os) (top_app (ends_run (runE w os)) (top_app (end3 w os)
    (top_app (ends_run (runG w os)) (top_app (ends_run (runH os w)) (top_app (ends_run (runI w os)) (top_app (ends_run (runJ w os)) (⟨2, Nat.le_refl _, piece_nil (top_end w pJ _)⟩ : TopR 2 w _ _ _))))))))))
  obtain ⟨N, hN, e⟩ := h
  exact ⟨N, Nat.le_trans hN (by decide), e⟩
theorem top_run (w : World) (os : OsState) : topRun treeTable tpw w 11 tAnn 20000 (sh0 w os) (topStub tpw) = some ⟨hF w.params, Array.mk [], boot_drawn, 1910, os⟩ := by
  obtain ⟨N, hN, e⟩ := top_rest w os
  rw [← st1_abs] at e
  have h1 := preR_ok w os
  unfold preR at h1
  rw [← twDen_eq, ← twTop_eq, ← twTab_eq] at h1
  have h2 := go_top h1 (piece_block (top_block w (sh1 w os)) e)
  rw [sJ_eq] at h2
  have h3 := topRun_mono (20000 - (12 + (1 + N))) _ _ _ _ h2
  rw [show 12 + (1 + N) + (20000 - (12 + (1 + N))) = 20000 by omega] at h3
  exact h3
def qv : Program := { tpw with main := { tpw.main with body := [stAt 35] } }
def lv : List Str := ["parse_keqv_list", "parse_http_list", "_QUOPRI_MAP", "_QUOPRI_HEADER_MAP", "_QUOPRI_BODY_MAP", "ascii_lowercase", "ascii_uppercase", "ascii_letters", "digits", "unquote", "quote", "_QUOPRI_BODY_ENCODE_MAP", "_byteswap",
  "get_parent_map", "prepare_parent", "_SelectorContext", "_law_cells", "_law_wishes", "_law_figures", "_law_letter", "_law_told", "_law_book", "_law_led", "_law_singly", "_law_ring"]
abbrev twSeen := @PySem.W.Fast.tw4187177175401517315
theorem twSeen_eq : @openSeen = twSeen := PySem.W.Fast.te4187177175401517315
theorem boot_here (w : World) : (importEnds treeTable (opening tpw) w 600 (start (opening tpw)).1 (start (opening tpw)).2).map (fun s => (s.heap, s.gens, s.drawn, s.toks)) = some (boot_heap w.params, Array.mk [], boot_drawn, boot_toks) := by kernel_rfl
theorem fence_here (s : Shared) : fenceModules? tpw s = some s := by kernel_rfl
theorem boot_mine (w : World) : (fencedOpening treeTable tpw w 40000).map (fun s => (s.heap, s.gens, s.drawn, s.toks)) = some (boot_heap w.params, Array.mk [], boot_drawn, boot_toks) := by
  obtain ⟨s, hs, hv⟩ := Option.map_eq_some_iff.mp (boot_here w)
  have m := importEnds_mono 39400 _ _ _ _ hs
  unfold fencedOpening
  rw [show 40000 = 600 + 39400 from rfl, m]
  show ((fenceModules? tpw s)).map _ = _
  rw [fence_here s]
  exact congrArg some hv
theorem size_here (w : World) : ((boot_heap w.params).isNs mainGlobals && (Array.mk [] : Array GenState).size == 0, (boot_heap w.params).objs.size, (boot_heap w.params).nsMap mainGlobals "__annotations__") = (true, 11, tAnn) := by kernel_rfl
end
end
section
def one (ch : Nat) : Str := ⟨#[ch]⟩
/-! texts as lists of signs -/
def tx (l : List Nat) : Str := ⟨l.toArray⟩
@[simp] theorem tx_toList (l : List Nat) : (tx l).cps.toList = l := rfl
theorem tx_len (l : List Nat) : (tx l).length = l.length := List.size_toArray
theorem tx_cat (a b : List Nat) : tx a ++ tx b = tx (a ++ b) := by
  show (⟨a.toArray ++ b.toArray⟩ : Str) = ⟨(a ++ b).toArray⟩
  rw [List.append_toArray]
theorem tx_inj {a b : List Nat} (h : tx a = tx b) : a = b := by
  have := congrArg (fun x => x.cps.toList) h
  exact this
theorem tx_eq (x : Str) : x = tx x.cps.toList := rfl
theorem tx_beq (a b : List Nat) : (tx a == tx b) = (a == b) := by
  cases h : a == b
  · refine beq_eq_false_iff_ne.mpr fun e => ?_
    have := tx_inj e
    simp [this] at h
  · have : a = b := by simpa using h
    subst this
    exact beq_self_eq_true _
theorem occ_eq61 (k v : List Nat) (hk : 61 ∉ k) : Builtin.Str.occurrences (tx (k ++ 61 :: v)) (Str.ofString "=") 0 (tx (k ++ 61 :: v)).length 1 = [k.length] := by
  have hat : ∀ i, StrLaws.At (tx (k ++ 61 :: v)) (Str.ofString "=") (tx (k ++ 61 :: v)).length i ↔ (k ++ 61 :: v)[i]? = some 61 := fun i => StrLaws.subAt_one (tx (k ++ 61 :: v)) 61 i
  have h1 : (Builtin.Str.occurrences (tx (k ++ 61 :: v)) (Str.ofString "=") 0 (tx (k ++ 61 :: v)).length 1).length ≤ 1 := StrLaws.occ_length_le ..
  rcases StrLaws.occ_head (tx (k ++ 61 :: v)) (Str.ofString "=") 1 (Nat.le_refl _) with ⟨_, h⟩ | ⟨i, r, e, h, hm⟩
  · exact absurd ((hat k.length).mpr (by simp)) (h k.length)
  · rw [e] at h1 ⊢
    cases r with
    | cons => simp at h1
    | nil =>
      have hi := (hat i).mp h
      rcases Nat.lt_trichotomy i k.length with hl | hl | hl
      · rw [List.getElem?_append_left hl] at hi
        exact absurd (List.mem_of_getElem? hi) hk
      · rw [hl]
      · exact absurd ((hat k.length).mpr (by simp)) (hm _ hl)
theorem parts_eq61 (k v : List Nat) : Builtin.Str.partsBetween (tx (k ++ 61 :: v)) [k.length] 1 = [tx k, tx v] := by
  unfold Builtin.Str.partsBetween
  simp only [List.map_cons, List.map_nil, List.cons_append, List.nil_append, List.zip_cons_cons, List.zip_nil_right]
  have e1 : Builtin.Str.strSub (tx (k ++ 61 :: v)) 0 k.length = tx k := by
    unfold Builtin.Str.strSub tx
    simp
  have e2 : Builtin.Str.strSub (tx (k ++ 61 :: v)) (k.length + 1) (tx (k ++ 61 :: v)).length = tx v := by
    rw [tx_len]
    unfold Builtin.Str.strSub tx
    simp
    rw [List.take_of_length_le (by exact om278)]
  rw [e1, e2]
theorem strKind_ge (x : Str) : 1 ≤ Builtin.Str.strKind x := by unfold Builtin.Str.strKind; split <;> (try split) <;> decide
theorem item_tx (l : List Nat) (i : Nat) (h : i < l.length) : Txt.item (tx l) i = one l[i] := by
  unfold Txt.item Txt.charAt one
  have : seqIndex? (i : Int) (tx l).length = some i := by rw [tx_len]; unfold seqIndex?; simp; omega
  rw [this]
  show (⟨#[((l.toArray)[i]?).getD 0]⟩ : Str) = _
  simp [h]
theorem item_neg (l : List Nat) (h : l ≠ []) : Txt.item (tx l) (-1) = one (l.getLast h) := by
  have hl : 1 ≤ l.length := List.length_pos_iff.mpr h
  have := eq_of_beq (item_closes_neg (x := tx l) (i := -1) (j := (l.length : Int) - 1) (by exact om55) (by rw [tx_len]; exact om279 hl) (by rw [tx_len]; exact om280))
  rw [this]
  unfold one
  congr 2
  rw [show ((l.length : Int) - 1).toNat = l.length - 1 by exact om281, List.getLast_eq_getElem]
  show [(l.toArray).getD (l.length - 1) 0] = _
  rw [Array.getD_eq_getD_getElem?]
  simp [List.getElem?_eq_getElem (show l.length - 1 < l.length by exact om282 hl)]
theorem slice_tx (l : List Nat) (i j : Nat) (h : i ≤ j) (hj : j ≤ l.length) : Txt.slice (tx l) (some i) (some j) = tx ((l.drop i).take (j - i)) := by
  have := eq_of_beq (slice_closes (x := tx l) (i := i) (j := j) ⟨by exact om0, by exact om283 h, by simp; exact om17 hj⟩)
  rw [this]
  unfold tx
  congr 2
  simp
theorem slice_to (l : List Nat) (j : Nat) (hj : j ≤ l.length) : Txt.slice (tx l) none (some j) = tx (l.take j) := by
  have := eq_of_beq (slice_closes_to (x := tx l) (j := j) ⟨by exact om0, by simp; exact om17 hj⟩)
  rw [this]
  unfold tx
  congr 2
theorem slice_from (l : List Nat) (i : Nat) (hi : i ≤ l.length) : Txt.slice (tx l) (some i) none = tx (l.drop i) := by
  have := eq_of_beq (slice_closes_from (x := tx l) (i := i) ⟨by exact om0, by simp; exact om17 hi⟩)
  rw [this]
  unfold tx
  congr 2
  simp
  rw [List.take_of_length_le (by simp)]
theorem slice_mid (l : List Nat) (hl : 2 ≤ l.length) : Txt.slice (tx l) (some 1) (some (-1)) = tx ((l.drop 1).take (l.length - 2)) := by
  have : Txt.slice (tx l) (some 1) (some (-1)) = Txt.slice (tx l) (some ((1 : Nat) : Int)) (some ((l.length - 1 : Nat) : Int)) := by
    unfold Txt.slice
    rw [StrLaws.sliceIdx_neg_hi _ _ (by exact om55) (by rw [tx_len]; exact om43 hl), tx_len, show (-1 : Int) + l.length = ((l.length - 1 : Nat) : Int) by exact om284 hl]
    rfl
  rw [this, slice_tx l 1 (l.length - 1) (by exact om285 hl) (by exact om286)]
  congr 2
theorem join_tx (sep : List Nat) : ∀ ys : List (List Nat), Txt.join (tx sep) (ys.map tx) = tx (List.intercalate sep ys) := by
  intro ys
  show Builtin.Str.glued (tx sep) (ys.map tx) = _
  rw [StrLaws.glued_eq_join]
  induction ys with
  | nil => rfl
  | cons a r ih =>
    cases r with
    | nil => simp [List.intercalate, Str.join]
    | cons b r =>
      show tx a ++ tx sep ++ Str.join (tx sep) ((b :: r).map tx) = _
      rw [ih, tx_cat, tx_cat]
      congr 1
      simp [List.intercalate]
theorem stripBy_tx (goes : Nat → Bool) (a l b : List Nat) (ha : a.all goes = true) (hb : b.all goes = true) (hl : l ≠ []) (h1 : ∀ x ∈ l.head?, goes x = false) (h2 : ∀ x ∈ l.getLast?, goes x = false) :
    Txt.stripBy goes true true (tx (a ++ l ++ b)) = tx l := by
  have e1 : stripLo goes true (tx (a ++ l ++ b)) = a.length := by
    unfold stripLo
    rw [if_pos rfl, tx_toList, List.append_assoc, List.takeWhile_append_of_pos (by simpa using ha)]
    cases l with
    | nil => exact absurd rfl hl
    | cons x r =>
      have := h1 x (by simp)
      simp [this]
  have e2 : stripHi goes true (tx (a ++ l ++ b)) a.length = a.length + l.length := by
    unfold stripHi
    rw [if_pos rfl, tx_toList, tx_len, List.append_assoc, List.drop_left, List.reverse_append, List.takeWhile_append_of_pos (by simpa using hb)]
    have : l.reverse.takeWhile goes = [] := by
      cases hr : l.reverse with
      | nil => rfl
      | cons x r =>
        have h3 : l.getLast? = some x := by rw [← List.head?_reverse, hr]; rfl
        have := h2 x h3
        simp [this]
    rw [this]
    simp
    exact om287
  unfold Txt.stripBy
  split
  · rename_i h
    unfold stripSame at h
    rw [e1] at h
    simp only [Bool.and_eq_true, beq_iff_eq] at h
    obtain ⟨ha0, h⟩ := h
    rw [e2, tx_len] at h
    have ha0 : a = [] := List.eq_nil_of_length_eq_zero ha0
    subst ha0
    have hb0 : b = [] := List.eq_nil_of_length_eq_zero (by simp only [List.length_append, List.length_nil] at h; exact om288 h)
    subst hb0
    simp
  · unfold PySem.stripped
    rw [e1, e2]
    unfold Builtin.Str.strSub tx
    simp
end
section
theorem cells_cons {cm : Str → Option Value} {n : Str} {ns : List Str} {cs : List (Str × Addr)} {cl : Led} (e : cs.map (·.1) = n :: ns) (Y : CellsAre cm cs cl) :
    ∃ a o cs' cl', cs = (n, a) :: cs' ∧ cl = (a, o) :: cl' ∧ o.data = .cell (cm n) ∧ cs'.map (·.1) = ns ∧ CellsAre cm cs' cl' := by
  cases Y with
  | nil => cases e
  | cons h r =>
    rw [List.map_cons] at e
    injection e with e1 e2
    subst e1
    exact ⟨_, _, _, _, rfl, rfl, h, e2, r⟩
theorem cells_nil {cm : Str → Option Value} {cs : List (Str × Addr)} {cl : Led} (e : cs.map (·.1) = []) (Y : CellsAre cm cs cl) : cs = [] ∧ cl = [] := by
  cases Y with
  | nil => exact ⟨rfl, rfl⟩
  | cons => cases e
theorem cells_step {G : List (Str × Addr) → Led → Prop} {cm : Str → Option Value} {n : Str} {ns : List Str} {cs : List (Str × Addr)} {cl : Led} (e : cs.map (·.1) = n :: ns) (Y : CellsAre cm cs cl)
    (z : ∀ a o cs' cl', o.data = .cell (cm n) → cs'.map (·.1) = ns → CellsAre cm cs' cl' → G ((n, a) :: cs') ((a, o) :: cl')) : G cs cl := by
  obtain ⟨a, o, cs', cl', rfl, rfl, h, e', Y'⟩ := cells_cons e Y
  exact z a o cs' cl' h e' Y'
theorem cells6 {G : List (Str × Addr) → Led → Prop} {cm : Str → Option Value} {n6 n5 n4 n3 n2 n1 : Str} {cs : List (Str × Addr)} {cl : Led} (e : cs.map (·.1) = [n6, n5, n4, n3, n2, n1]) (Y : CellsAre cm cs cl)
    (z : ∀ (a6 a5 a4 a3 a2 a1 : Addr) (o6 o5 o4 o3 o2 o1 : Obj), o6.data = .cell (cm n6) → o5.data = .cell (cm n5) → o4.data = .cell (cm n4) → o3.data = .cell (cm n3) → o2.data = .cell (cm n2) → o1.data = .cell (cm n1) → G [(n6, a6), (n5, a5), (n4, a4), (n3, a3), (n2, a2), (n1, a1)] [(a6, o6), (a5, o5), (a4, o4), (a3, o3), (a2, o2), (a1, o1)]) : G cs cl :=
  cells_step e Y fun a6 o6 _ _ h6 e Y => cells_step (G := fun cs cl => G ((n6, a6) :: cs) ((a6, o6) :: cl)) e Y fun a5 o5 _ _ h5 e Y => cells_step (G := fun cs cl => G ((n6, a6) :: (n5, a5) :: cs) ((a6, o6) :: (a5, o5) :: cl)) e Y fun a4 o4 _ _ h4 e Y => cells_step (G := fun cs cl => G ((n6, a6) :: (n5, a5) :: (n4, a4) :: cs) ((a6, o6) :: (a5, o5) :: (a4, o4) :: cl)) e Y fun a3 o3 _ _ h3 e Y => cells_step (G := fun cs cl => G ((n6, a6) :: (n5, a5) :: (n4, a4) :: (n3, a3) :: cs) ((a6, o6) :: (a5, o5) :: (a4, o4) :: (a3, o3) :: cl)) e Y fun a2 o2 _ _ h2 e Y => cells_step (G := fun cs cl => G ((n6, a6) :: (n5, a5) :: (n4, a4) :: (n3, a3) :: (n2, a2) :: cs) ((a6, o6) :: (a5, o5) :: (a4, o4) :: (a3, o3) :: (a2, o2) :: cl)) e Y fun a1 o1 _ _ h1 e Y => by
    obtain ⟨rfl, rfl⟩ := cells_nil e Y
    exact z a6 a5 a4 a3 a2 a1 o6 o5 o4 o3 o2 o1 h6 h5 h4 h3 h2 h1
def figL (o : Nat) : List Nat := [hexd ((o / 16 : Nat) : Int), hexd ((o % 16 : Nat) : Int)]
theorem fig_figL (o : Nat) : fig o = tx (figL o) := by
  unfold fig tx figL
  rw [show ((o : Int) / 16) = ((o / 16 : Nat) : Int) by exact om34, show ((o : Int) % 16) = ((o % 16 : Nat) : Int) by exact om35]
theorem qtext_figL (o : Nat) : qtext o = tx (61 :: figL o) := rfl
section
variable {α β : Type} {c : Cx} {A : Around} {frs : Frs} {led : Led} {env : Env}
/-- a call of a def of the text with one cell -/
theorem W_fn1 {n : Nat} {f k : Addr} {qual params body scope} {vals : List Value} {binds : List (Str × Value)} (m : Loc) (x : Str) (v : Option Value) {Q : Value → Frs → Led → Prop} (hA : AOk (n + 1) A) (T : Tops c.base) (F : FnAt c.base f k qual params body scope) (hf : f ≠ tabP) (hk : k ≠ tabP)
    (hb : ∀ name doc pm an ct, bindArgs (fnX name qual params body scope [] .none .none doc pm an (.ref k) ct) ⟨vals, []⟩ = pure binds)
    (hkind : ∀ n, ∀ x ∈ binds, scope.names.lookup x.1 = some .local ∨ (scope.names.lookup x.1 = some .cell ∧ ((cellsFrom n scope.names []).lookup x.1).isSome = true))
    (hco : scope.isCoroutine = false) (hgen : scope.isGenerator = false) (hsk : scope.kind = .function) (hcl : (cellsFrom 0 scope.names []).map (·.1) = [x])
    (hm : ∀ L cs, ∀ p ∈ m, bindL (envX qual scope L f (.ref k) cs).kindOf binds (fun _ => none) p.1 = some p.2)
    (hv : ∀ L cs, bindC (envX qual scope L f (.ref k) cs).kindOf binds (fun _ => none) x = v)
    (h : ∀ (c' : Cx) (L ca : Addr) (co : Obj), c'.w = c.w → Tops c'.base → Kp c.base c'.base → (∀ a o, At c led a o → c'.base.get? a = some o ∧ a ≠ tabP) → co.data = .cell v →
      W c' (A.deeper (envX qual scope L f (.ref k) [(x, ca)])) (execs body (envX qual scope L f (.ref k) [(x, ca)])) [(L, m)] [(ca, co)] (fun fl f' l' => ∃ v res, (fl = .ret v ∨ (fl = .next ∧ v = .none)) ∧ res.Sublist l' ∧ Q v frs (res ++ led))) :
    W c A (call (.ref f) vals) frs led Q :=
  W_def m (binds := binds) hA T.n F hf hk hb hkind hco hgen hsk (fun c' L cs cl mf cm hw _ hk hat hcs Y hmf hcm => by
    rw [hcl] at hcs
    refine exE4_5 (cells_cons hcs Y) fun a o cs' cl' hrf4 hrf5 ho e2 Y2 => ?_; subst hrf4; subst hrf5
    refine exE0_2 (cells_nil e2 Y2) fun hrf0 hrf1 => ?_; subst hrf0; subst hrf1
    rw [hcm, hv] at ho
    exact h c' L a o hw (T.kp hk) hk hat ho) hm (by rw [hcl]; exact List.nodup_cons.mpr ⟨List.not_mem_nil, List.nodup_nil⟩)
end
section
variable {α β : Type} {c : Cx} {A : Around} {frs : Frs} {led : Led} {env : Env}
theorem W_catT {x y : Str} {t u : Tok} {Q : Value → Frs → Led → Prop} (a b : List Nat) (hx : x = tx a) (hy : y = tx b) (hz : a.length + b.length ≤ 100000) (h : ∀ t, Q (.str (tx (a ++ b)) t) frs led) : W c A (binaryOp .Add (.str x t) (.str y u)) frs led Q := by
  subst hx hy
  exact W_cat (by rw [tx_len, tx_len, sizeLine_eq]; exact om75 hz) fun t => by rw [tx_cat]; exact h t
end
section
variable {α β : Type} {c : Cx} {A : Around} {frs : Frs} {led : Led} {env : Env}
theorem W_sys {a : Addr} {o : Obj} {t : Sem α} {Q : α → Frs → Led → Prop} (hl : (a, o) ∈ led) (h : (a == sysModules) = false → W c A t frs led Q) : W c A t frs led Q := fun s S => h (At.sys S hl) s S
theorem W_iterDictS {K : Type} [DecidableEq K] {knd : KeyKind pw c.w K} {kvs : List (K × Value)} {ep : Nat} {o : Obj} {a : Addr} {Q : Value → Frs → Led → Prop} (hs : (a == sysModules) = false) (hl : At c led a o) (d : DOb knd kvs ep o)
    (h : ∀ I oi, KeyIt a 0 kvs.length ep oi → Q (.ref I) frs ((I, oi) :: led)) : W c A (pyIter (.ref a)) frs led Q := fun s S =>
  wpAny_pyIter_dict hs (d.at S hl) ⟨_, _, S.push (tk := s.toks) (Ka.of fun b o e => Heap.get?_push_of_some _ e) (Heap.get?_push_size _ rfl) (Nat.le_refl _), h _ _ ⟨rfl, rfl⟩⟩
theorem W_inDictS {K : Type} [DecidableEq K] {knd : KeyKind pw c.w K} {kvs : List (K × Value)} {ep : Nat} {o : Obj} {a : Addr} {k : K} {key : Value} {Q : Value → Frs → Led → Prop} (hs : (a == sysModules) = false) (hl : At c led a o) (d : DOb knd kvs ep o) (hkey : knd.is k key = true)
    (h : Q (.bool (valueAt kvs k).isSome) frs led) : W c A (compareOp .In key (.ref a)) frs led Q := fun s S =>
  wpAny_in_of hkey hs (d.at S hl).dictOf.mapOf ⟨_, _, S.tok, h⟩
theorem W_notInDictS {K : Type} [DecidableEq K] {knd : KeyKind pw c.w K} {kvs : List (K × Value)} {ep : Nat} {o : Obj} {a : Addr} {k : K} {key : Value} {Q : Value → Frs → Led → Prop} (hs : (a == sysModules) = false) (hl : At c led a o) (d : DOb knd kvs ep o) (hkey : knd.is k key = true)
    (h : Q (.bool (!(valueAt kvs k).isSome)) frs led) : W c A (compareOp .NotIn key (.ref a)) frs led Q := fun s S =>
  wpAny_notIn_of hkey hs (d.at S hl).dictOf.mapOf ⟨_, _, S.tok, h⟩
theorem any_tx (ys : List (List Nat)) (k : List Nat) : (ys.map tx).any (· == tx k) = decide (k ∈ ys) := by
  induction ys with
  | nil => rfl
  | cons y r ih =>
    rw [List.map_cons, List.any_cons, ih, tx_beq]
    by_cases e : y = k
    · subst e; simp
    · have e' : ¬ k = y := fun q => e q.symm
      simp [e, e']
theorem W_inStrs {a : Addr} {o : Obj} {vs : List Value} {ys : List (List Nat)} {k : List Nat} {t : Tok} {Q : Value → Frs → Led → Prop} (hl : At c led a o) (ho : ListO vs.toArray o) (hi : StrsAre vs (ys.map tx))
    (h : Q (.bool (decide (k ∈ ys))) frs led) : W c A (compareOp .In (.str (tx k) t) (.ref a)) frs led Q := fun s S => in_list_strs (ho.is S hl) hi (by rw [any_tx]; exact ⟨_, _, S, h⟩)
theorem W_notInStrs {a : Addr} {o : Obj} {vs : List Value} {ys : List (List Nat)} {k : List Nat} {t : Tok} {Q : Value → Frs → Led → Prop} (hl : At c led a o) (ho : ListO vs.toArray o) (hi : StrsAre vs (ys.map tx))
    (h : Q (.bool (!decide (k ∈ ys))) frs led) : W c A (compareOp .NotIn (.str (tx k) t) (.ref a)) frs led Q := fun s S => notin_list_strs (ho.is S hl) hi (by rw [any_tx]; exact ⟨_, _, S, h⟩)
end
end
section
/-! a dict's items; extend -/
abbrev itemIt (d : Addr) (i n ep : Nat) (ok ov : Value) : Obj := { cls := .type "dict_itemiterator", dict := none, data := .fields #[.none, .bool false, .ref d, .int i 0, .int n 0, .int ep 0, ok, ov], slots := #[] }
abbrev itemItOut (d : Addr) (i n ep : Nat) (ok ov : Value) (a : Addr) : Obj := { cls := .type "dict_itemiterator", dict := none, data := .fields #[rawInt a, .bool false, .ref d, .int i 0, .int n 0, .int ep 0, ok, ov], slots := #[] }
abbrev viewObj (d : Addr) : Obj := { cls := .type "dict_items", data := .fields #[.ref d] }
section
variable {α β : Type} {c : Cx} {A : Around} {frs : Frs} {led : Led} {env : Env}
theorem W_gmDict {K : Type} [DecidableEq K] {knd : KeyKind pw c.w K} {kvs : List (K × Value)} {ep : Nat} {o : Obj} {a : Addr} {name : Str} {id : String} {pl : Sem Bool} {Q : Value × List Value → Frs → Led → Prop} (slot : Slot "dict" name id) (ty : typeOf (.builtin id) = pure (.type "method_descriptor"))
    (hl : At c led a o) (d : DOb knd kvs ep o) (h : Q (.builtin id, [.ref a]) frs led) : W c A (getMethod (.ref a) name pl) frs led Q := fun s S =>
  getMethod_builtin (d.at S hl).dictOf.typeIs PySem.F.plainAttrs_dict slot ty (d.at S hl).dictOf.mapOf.noDict ⟨_, _, S, h⟩
theorem W_dictItems {K : Type} [DecidableEq K] {knd : KeyKind pw c.w K} {kvs : List (K × Value)} {ep : Nat} {o : Obj} {a : Addr} {Q : Value → Frs → Led → Prop} (hs : (a == sysModules) = false) (hl : At c led a o) (d : DOb knd kvs ep o)
    (h : ∀ V, Q (.ref V) frs ((V, viewObj a) :: led)) : W c A (call (.builtin "dict.items") [.ref a]) frs led Q := fun s S =>
  call_meetsIn PySem.F.slot_dict_items (d.at S hl).dictOf.typeIs PySem.F.entry_dict_items (PySem.F.args_dict_items_1 _) (meets_dict_items knd a hs)
    ⟨⟨kvs, (d.at S hl).dictOf⟩, ⟨_, _, S.push (tk := s.toks) (Ka.of fun b o e => Heap.get?_push_of_some _ e) (Heap.get?_push_size _ rfl) (Nat.le_refl _), h _⟩⟩
theorem W_iterItems {K : Type} [DecidableEq K] {knd : KeyKind pw c.w K} {kvs : List (K × Value)} {ep : Nat} {o : Obj} {a V : Addr} {Q : Value → Frs → Led → Prop} (hv : At c led V (viewObj a)) (hl : At c led a o) (d : DOb knd kvs ep o)
    (h : ∀ I, Q (.ref I) frs ((I, itemIt a 0 kvs.length ep .none .none) :: led)) : W c A (pyIter (.ref V)) frs led Q := fun s S =>
  wpAny_pyIter_items ⟨_, S.at hv, rfl, rfl⟩ (d.at S hl) ⟨_, _, S.push (tk := s.toks) (Ka.of fun b o e => Heap.get?_push_of_some _ e) (Heap.get?_push_size _ rfl) (Nat.le_refl _), h _⟩
theorem W_nextItems {K : Type} [DecidableEq K] {knd : KeyKind pw c.w K} {kvs : List (K × Value)} {ep i : Nat} {o : Obj} {a I : Addr} {k : K} {v ok ov : Value} {led' : Obj → Led} {Q : Option Value → Frs → Led → Prop} (U : ∀ o', Up I (itemIt a i kvs.length ep ok ov) o' led (led' o')) (hl : At c led a o) (d : DOb knd kvs ep o) (hx : kvs[i]? = some (k, v))
    (h : ∀ T key, knd.is k key = true → Q (some (.ref T)) frs ((T, seqObj "tuple" [key, v].toArray 0) :: led' (itemItOut a (i + 1) kvs.length ep key v T))) : W c A (pyNext (.ref I)) frs led Q := fun s S =>
  wpAny_pyNext_items_item (S.ld _ (U default).mem) (d.at S hl) hx fun key h' hk hit ht hsz hkeep =>
    have S1 := S.upd (tk := s.toks) (U (itemItOut a (i + 1) kvs.length ep key v s.heap.objs.size)) hkeep hit
    ⟨_, _, S1.add ht (fun hm => by
      have e := (U (itemItOut a (i + 1) kvs.length ep key v s.heap.objs.size)).keys
      unfold addrs at hm
      rw [e] at hm
      exact S.fresh (Nat.le_refl _) hm) S.sz (fun k e q => by
        obtain ⟨k', T⟩ := S.tb
        have h1 := S.new I (List.mem_append_right _ (List.mem_map_of_mem (f := (·.1)) (U default).mem))
        have h2 := S.tab
        have e2 := hkeep tabP _ (fun q => by rw [← q] at h1; exact absurd h1 (Nat.not_le.mpr h2)) T.tab
        have e3 : k' = some k := tabO_inj (Option.some.inj (e2.symm.trans e))
        obtain ⟨oc, vs, t, e1, _⟩ := T.code k e3
        have := Heap.lt_size e1
        rw [← q] at this
        exact Nat.lt_irrefl _ this), h _ key hk⟩
theorem W_letGoItems {elts : List Expr} {x1} {pos : Pos} {d I a : Addr} {i n ep : Nat} {ok ov : Value} {led' : Obj → Led} {Q : Unit → Frs → Led → Prop} (U : ∀ o', Up I (itemItOut d i n ep ok ov a) o' led (led' o')) (h : Q () frs (led' (itemIt d i n ep ok ov))) :
    W c A (letOwnedTupleGo (.Tuple elts x1 pos) (.ref I) (.ref a)) frs led Q := fun s S =>
  wpAny_letOwnedTupleGo_items (S.ld _ (U default).mem) fun h' hit hs => ⟨_, _, S.upd (tk := s.toks) (U _) (fun b ob hb e => (hs.2 b hb).trans e) hit, h⟩
theorem W_endItems {K : Type} [DecidableEq K] {knd : KeyKind pw c.w K} {kvs : List (K × Value)} {ep i : Nat} {o : Obj} {a I : Addr} {ok ov : Value} {led' : Led} {Q : Option Value → Frs → Led → Prop} (hh : A.handled = none) (R : Rm I led led') (hm : (I, itemIt a i kvs.length ep ok ov) ∈ led) (hl : At c led a o) (d : DOb knd kvs ep o) (hx : kvs[i]? = none)
    (h : Q none frs led') : W c A (pyNext (.ref I)) frs led Q := fun s S =>
  wpAny_pyNext_items_end hh (S.ld _ hm) (d.at S hl) hx fun h' hs => ⟨_, _, S.rm (tk := s.toks) R hs, h⟩
theorem W_extend {a b : Addr} {vs us : List Value} {n n2 : Nat} {led' : Obj → Led} {Q : Value → Frs → Led → Prop} (U : ∀ o', Up a (seqObj "list" vs.toArray n) o' led (led' o')) (hb : At c led b (seqObj "list" us.toArray n2)) (hz : vs.length + us.length ≤ sizeLine)
    (h : ∀ m, Q .none frs (led' (seqObj "list" (vs ++ us).toArray m))) : W c A (call (.builtin "list.extend") [.ref a, .ref b]) frs led Q := fun s S => by
  have ho := S.ld _ (U default).mem
  have hz' : vs.toArray.size + us.toArray.size ≤ sizeLine := by rw [List.size_toArray, List.size_toArray]; exact hz
  refine call_meets PySem.F.slot_list_extend ⟨_, ho, rfl⟩ PySem.F.entry_list_extend (PySem.F.args_list_extend_2 _ _) (@AutoSeq1.list_extend_list_list_0 a vs.toArray n b us.toArray n2 (extend_door hz') (Nat.le_trans (Nat.le_add_right _ _) hz') (Nat.le_succ_of_le hz')) ⟨ho, S.at hb, ?_⟩
  refine exX1 (mapSeq_ex (fun x => x ++ us.toArray) vs.toArray n) fun m hm => ?_
  rw [show vs.toArray ++ us.toArray = (vs ++ us).toArray by simp] at hm
  refine ⟨_, _, S.upd (tk := s.toks) (h' := s.heap.update a (Obj.mapSeq fun x => x ++ us.toArray)) (U _) (fun b ob hb e => ((Heap.SameBut.update ..).2 b hb).trans e) ?_, h m⟩
  rw [Heap.get?_update_self _ ho (by rw [hm]; rfl), hm]
end
end
section
/-! bytes -/
def bys (l : List Nat) : Array UInt8 := (l.map Nat.toUInt8).toArray
theorem bys_size (l : List Nat) : (bys l).size = l.length := by simp [bys]
theorem bys_get {l : List Nat} {i o : Nat} (h : l[i]? = some o) : (bys l)[i]? = some o.toUInt8 := by
  unfold bys
  rw [List.getElem?_toArray, List.getElem?_map, h]
  rfl
theorem u8_back {o : Nat} (h : o < 256) : o.toUInt8.toNat = o := by
  show (UInt8.ofNat o).toNat = o
  simp
  exact om76 h
def ByIt (b : Array UInt8) (t : Tok) (i : Nat) (o : Obj) : Prop := o.cls = .type "bytes_iterator" ∧ o.data = .fields #[.bytes b t, .int i 0]
section
variable {α β : Type} {c : Cx} {A : Around} {frs : Frs} {led : Led} {env : Env}
theorem W_iterBytes {b : Array UInt8} {t : Tok} {Q : Value → Frs → Led → Prop} (h : ∀ I o, ByIt b t 0 o → Q (.ref I) frs ((I, o) :: led)) : W c A (pyIter (.bytes b t)) frs led Q := fun s S =>
  KBw.pyIter_bytes ⟨_, _, S.push (tk := s.toks) (Ka.of fun b o e => Heap.get?_push_of_some _ e) (Heap.get?_push_size _ rfl) (Nat.le_refl _), h _ _ ⟨rfl, rfl⟩⟩
theorem W_selfBytes {I : Addr} {b : Array UInt8} {t : Tok} {i : Nat} {o : Obj} (hm : (I, o) ∈ led) (ho : ByIt b t i o) : W c A (pyIter (.ref I)) frs led (fun it' f l => it' = .ref I ∧ f = frs ∧ l = led) := fun s S =>
  KBw.pyIter_self ⟨o, S.ld _ hm, ho⟩ ⟨_, _, S, rfl, rfl, rfl⟩
theorem W_nextBytes {I : Addr} {l : List Nat} {t : Tok} {i n : Nat} {o : Obj} {led' : Obj → Led} {Q : Option Value → Frs → Led → Prop} (U : ∀ o', Up I o o' led (led' o')) (ho : ByIt (bys l) t i o) (hx : l[i]? = some n) (hn : n < 256)
    (h : ∀ o' u, ByIt (bys l) t (i + 1) o' → Q (some (.int n u)) frs (led' o')) : W c A (pyNext (.ref I)) frs led Q := fun s S =>
  KBw.next_item ⟨o, S.ld _ (U o).mem, ho⟩ (bys_get hx) fun h' hit hs => by
    obtain ⟨o', ho', hc⟩ := hit
    rw [u8_back hn]
    exact ⟨_, _, S.upd (tk := s.toks + 1) (U o') (fun b ob hb e => (hs.2 b hb).trans e) ho', h o' _ hc⟩
theorem W_endBytes {I : Addr} {l : List Nat} {t : Tok} {i : Nat} {o : Obj} {led' : Led} {Q : Option Value → Frs → Led → Prop} (hh : A.handled = none) (R : Rm I led led') (hm : (I, o) ∈ led) (ho : ByIt (bys l) t i o) (hx : l.length ≤ i)
    (h : Q none frs led') : W c A (pyNext (.ref I)) frs led Q := fun s S =>
  KBw.next_end hh ⟨o, S.ld _ hm, ho⟩ (by rw [Array.getElem?_eq_none_iff, bys_size]; exact hx) fun h' hs => ⟨_, _, S.rm (tk := s.toks) R hs, h⟩
theorem W_lenBytes {l : List Nat} {t : Tok} {Q : Value → Frs → Led → Prop} (hz : l.length ≤ 1000000) (h : ∀ t, Q (.int l.length t) frs led) : W c A (call (.builtin "len") [.bytes (bys l) t]) frs led Q := fun s S =>
  KBw.len_K (ks := KBw.bInts (bys l)) rfl (by rw [KBw.ints_length, bys_size]; exact om77 hz) (by rw [KBw.ints_length, bys_size]; exact ⟨_, _, S.tok, h _⟩)
theorem W_itemBytes {value slice : Expr} {l : List Nat} {t : Tok} {i : Nat} {u : Tok} {n : Nat} {Q : Value → Frs → Led → Prop} (hx : l[i]? = some n) (hn : n < 256) (hz : l.length ≤ 1000000)
    (hs : subscripted slice false (.bytes (bys l) t) (.int i u) = operate [.bytes (bys l) t, .int i u] (getItem (.bytes (bys l) t) (.int i u))) (ht : ∀ r, letTemporaryGo value (.bytes (bys l) t) r = pure ())
    (h : ∀ t, Q (.int n t) frs led) : W c A (subscriptTail value slice (.bytes (bys l) t) (.int i u)) frs led Q := fun s S => by
  have hi : i < l.length := by
    rcases Nat.lt_or_ge i l.length with h | h
    · exact h
    · rw [List.getElem?_eq_none h] at hx; cases hx
  refine KBy.item_N (x := l.map Nat.toUInt8) (by rw [List.length_map]; omega) (by exact om0) (by rw [List.length_map]; omega) ?_ hs ht
  have e : ((l.map Nat.toUInt8).getD (i : Int).toNat 0).toNat = n := by
    rw [show (i : Int).toNat = i from rfl, List.getD_eq_getElem?_getD, List.getElem?_map, hx]
    exact u8_back hn
  rw [e]
  exact ⟨_, _, S.tok, h _⟩
theorem W_sliceBytes {value slice : Expr} {l : List Nat} {t ti tj : Tok} {a : Addr} {i j : Int} {l' : List Nat} {Q : Value → Frs → Led → Prop} (hs' : At c led a (sliceObj (.int i ti) (.int j tj))) (hw : KBy.whole (bys l) (some i) (some j) = false)
    (hp : KBy.picked (bys l) (some i) (some j) = bys l') (hz : l'.length ≤ 1000000)
    (hs : subscripted slice false (.bytes (bys l) t) (.ref a) = operate [.ref a, .bytes (bys l) t] (getItem (.bytes (bys l) t) (.ref a))) (ht : ∀ r, letTemporaryGo value (.bytes (bys l) t) r = pure ())
    (h : ∀ t, Q (.bytes (bys l') t) frs led) : W c A (subscriptTail value slice (.bytes (bys l) t) (.ref a)) frs led Q := fun s S =>
  tail_of_ItemOn ⟨"bytes", _, FB.slot_bytes_getitem.lookup, typeIs_bytes _ _ _, getItem_meets (typeIs_bytes _ _ _) (by decide) FB.slot_bytes_getitem FB.entry_bytes_getitem (FB.args_bytes_getitem_2 _ _) (KBy.meets_slice (bys l) t a (.int _ _) (.int _ _) hw)
    ⟨⟨_, S.at hs', rfl, rfl⟩, by rw [hp, bys_size, sizeLine_eq]; exact om78 hz, by rw [hp]; exact ⟨_, _, S.tok, h _⟩⟩⟩ hs ht
theorem W_joinO {x : Str} {a : Addr} {o : Obj} {vs : List Value} {ys : List Str} {t : Tok} {Q : Value → Frs → Led → Prop} (hl : At c led a o) (ho : ListO vs.toArray o) (hs : StrsAre vs ys) (hok : JoinOk x ys = true)
    (h : ∀ t, Q (.str (Txt.join x ys) t) frs led) : W c A (call (.builtin "str.join") [.str x t, .ref a]) frs led Q := fun s S => by
  refine exE1_2 (strsAre_ex hs) fun l hrf1 hrf2 => ?_; subst hrf1; subst hrf2
  exact SC.join (ho.is S hl) rfl hok fun t' k => ⟨_, _, S.tok, h _⟩
end
theorem strs_set {vs : List Value} {ys : List Str} (h : StrsAre vs ys) : ∀ (j : Nat) (y : Str) (t : Tok), StrsAre (vs.set j (.str y t)) (ys.set j y) := by
  induction h with
  | nil => intro j y t; exact .nil
  | cons y' t' h ih =>
    intro j y t
    cases j with
    | zero => exact .cons _ _ h
    | succ j => exact .cons _ _ (ih j y t)
theorem joinFold (n : Nat) : ∀ (l : List Str) (a : Nat), (∀ y ∈ l, y.length ≤ 1000) → n ≤ 100 → l.foldl (fun a y => a + y.length + n) a ≤ a + 1100 * l.length := by
  intro l
  induction l with
  | nil => intro a _ _; simp
  | cons y r ih =>
    intro a h hn
    rw [List.foldl_cons, List.length_cons]
    have h1 := ih (a + y.length + n) (fun z hz => h z (List.mem_cons_of_mem _ hz)) hn
    have h2 := h y List.mem_cons_self
    exact om79 hn h1 h2
theorem joinOk_small {x : Str} {ys : List Str} (hx : x.length ≤ 100) (hn : ys.length ≤ 100) (hy : ∀ y ∈ ys, y.length ≤ 1000) : JoinOk x ys = true := by
  have h1 := joinFold x.length ys 0 hy hx
  unfold JoinOk Builtin.Str.tooLong
  rw [sizeLine_eq, ← List.foldl_toArray] at *
  have : ¬ (ys.toArray.foldl (fun a y => a + y.length + x.length) 0 > 16777216) := by exact om80 hn h1
  simpa using this
end
section
/-! comprehensions with a cell of their own; of two clauses -/
section
variable {α β : Type} {c : Cx} {A : Around} {frs : Frs} {led : Led} {env : Env}
theorem newFunctionEnv_1 {w : World} {E : Value → Shared → Prop} {s : Shared} {scope : Scope} {globals : Addr} {cl : List (Str × Addr)} {qual : Str} {x : Str} {code : Value} {Q : Env → Shared → Prop}
    (hcf : ∀ n, cellsFrom n scope.names cl = (x, n) :: cl) (hpc : ∀ h, pushCells h scope.names = h.push { cls := .type "cell", data := .cell none })
    (hQ : Q (newEnv scope s.heap.objs.size globals ((x, s.heap.objs.size + 1) :: cl) qual none code (some env) builtinsNs) { s with heap := (s.heap.push { cls := .type "dict", data := .dict #[] }).push { cls := .type "cell", data := .cell none } }) :
    wpAny (model pw w) A (newFunctionEnv scope globals cl [] qual none code (some env)) Q E s := by
  simp only [newFunctionEnv, Option.isSome_some, if_true]
  refine wpAny_bind (wpAny_alloc ?_)
  refine wpAny_bind (wpAny_layCells _ (fun name kind cells => by cases hkc : kind == NameKind.cell <;> simp [hkc]) _ _ _ _ ?_)
  dsimp only
  rw [hcf, hpc, Heap.size_push]
  refine wpAny_bind ?_
  rw [List.forIn_nil]
  exact wpAny_pure (wpAny_pure hQ)
theorem W_compBlock1 {elt : Expr} {g : Comprehension} {gs : List Comprehension} {scope : Scope} {cl : List (Str × Addr)} {pos : Pos} {x : Str} {Q : Value → Frs → Led → Prop}
    {first : Sem Value} {p0 : Pos}
    (hs : ∀ x, foldedSetIterable g.iter env x = pure x) (hclos : closureFor scope env = pure cl) (hkind : scope.kind = .function) (hnames : ∀ x ∈ scope.names, x.2 = .local → scope.names.lookup x.1 = some .local)
    (hcf : ∀ n, cellsFrom n scope.names cl = (x, n) :: cl) (hpc : ∀ h, pushCells h scope.names = h.push { cls := .type "cell", data := .cell none }) (hh : A.handled = none)
    (h : W c A first frs led (fun v f l => W c A (pyIter v) f l (fun it f l => ∀ D C K co, co.data = .cell none → Wc c A (.compStart (.ListComp elt (g :: gs) scope pos) 0 it (.ref D) (compEnvC scope ((x, K) :: cl) C env)) ((C, []) :: f) ((K, co) :: (D, seqObj "list" #[] 0) :: l)
      (fun fl f' l' => ∃ mC f2, f' = (C, mC) :: f2 ∧ f2 ≠ [] ∧ Q (.ref D) f2 l')))) :
    W c A (comprehension (.ListComp elt (g :: gs) scope pos) scope env p0 (newList []) false first none) frs led Q := fun s S => by
  refine wpAny_comprehension_free rfl hs hclos hkind hnames (h.out S fun v s f l S q => q.out S fun it s f l S q => ?_)
  refine wpAny_newObj_type (newFunctionEnv_1 hcf hpc ?_)
  dsimp only
  have hH2 : (s.heap.push { cls := .type "list", dict := none, data := .seq ([] : List Value).toArray }).get? s.heap.objs.size = some (seqObj "list" #[] 0) := Heap.get?_push_size _ rfl
  have hC : (s.heap.push { cls := .type "list", dict := none, data := .seq ([] : List Value).toArray }).objs.size = s.heap.objs.size + 1 := by rw [Heap.size_push]
  have hk1 : ∀ b o, s.heap.get? b = some o → (s.heap.push { cls := .type "list", dict := none, data := .seq ([] : List Value).toArray }).get? b = some o := fun b o e => Heap.get?_push_of_some _ e
  generalize s.heap.push { cls := .type "list", dict := none, data := .seq ([] : List Value).toArray } = H2 at hH2 hC hk1 ⊢
  have hns : (H2.push { cls := .type "dict", data := .dict #[] }).Ns H2.objs.size (fun _ => none) := Heap.Ns.new ..
  have hk2 : ∀ b o, H2.get? b = some o → (H2.push { cls := .type "dict", data := .dict #[] }).get? b = some o := fun b o e => Heap.get?_push_of_some _ e
  have hC3 : (H2.push { cls := .type "dict", data := .dict #[] }).objs.size = H2.objs.size + 1 := by rw [Heap.size_push]
  generalize H2.push { cls := .type "dict", data := .dict #[] } = H3 at hns hk2 hC3 ⊢
  have hk3 : ∀ b o, H3.get? b = some o → (H3.push { cls := .type "cell", data := .cell none }).get? b = some o := fun b o e => Heap.get?_push_of_some _ e
  have hK : (H3.push { cls := .type "cell", data := .cell none }).get? (H2.objs.size + 1) = some { cls := .type "cell", data := .cell none } := by rw [← hC3]; exact Heap.get?_push_size _ rfl
  have hns4 : FrOk (H3.push { cls := .type "cell", data := .cell none }) H2.objs.size [] := by
    obtain ⟨o, es, ep, e, r⟩ := hns
    exact ⟨_, ⟨o, es, ep, hk3 _ _ e, r⟩, fun p hp => nomatch hp⟩
  generalize H3.push { cls := .type "cell", data := .cell none } = H4 at hk3 hK hns4 ⊢
  have S₁ : Sx c f ((s.heap.objs.size, seqObj "list" #[] 0) :: l) { s with heap := H4, toks := s.toks } := S.push (tk := s.toks) (Ka.of fun b o e => hk3 _ _ (hk2 _ _ (hk1 _ _ e))) (hk3 _ _ (hk2 _ _ hH2)) (Nat.le_refl _)
  have hlt : ∀ a ∈ addrs f ((s.heap.objs.size, seqObj "list" #[] 0) :: l), a < s.heap.objs.size + 1 := fun a ha => by
    unfold addrs at ha
    rcases List.mem_append.mp ha with ha | ha
    · exact Nat.lt_succ_of_lt (S.size_le _ (List.mem_append_left _ ha))
    · rcases List.mem_cons.mp ha with ha | ha
      · rw [ha]; exact Nat.lt_succ_self _
      · exact Nat.lt_succ_of_lt (S.size_le _ (List.mem_append_right _ ha))
  have hsz := S.sz
  have hold : ∀ k, H4.get? tabP = some (tabO (some k)) → k < s.heap.objs.size := fun k e => S.tabOld (S.tabGet (Ka.of fun b o e => hk3 _ _ (hk2 _ _ (hk1 _ _ e))) e)
  have S₂ : Sx c f ((H2.objs.size + 1, { cls := .type "cell", data := .cell none }) :: (s.heap.objs.size, seqObj "list" #[] 0) :: l) { s with heap := H4, toks := s.toks } :=
    S₁.add hK (fun hm => by have := hlt _ hm; rw [hC] at this; unfold Addr at *; exact om81 this) (by rw [hC]; unfold Addr at *; exact om82 hsz) (fun k e q => by have := hold k e; rw [← q, hC] at this; unfold Addr at *; exact om83 this)
  have S₃ : Sx c ((H2.objs.size, []) :: f) ((H2.objs.size + 1, { cls := .type "cell", data := .cell none }) :: (s.heap.objs.size, seqObj "list" #[] 0) :: l) { s with heap := H4, toks := s.toks } :=
    S₂.addFr hns4 (fun hm => by
      unfold addrs at hm
      rcases List.mem_append.mp hm with hm | hm
      · have := hlt _ (List.mem_append_left _ hm); rw [hC] at this; unfold Addr at *; exact om36 this
      · rcases List.mem_cons.mp hm with hm | hm
        · have hm : H2.objs.size = H2.objs.size + 1 := hm
          exact om84 hm
        · have := hlt _ (List.mem_append_right _ hm); rw [hC] at this; unfold Addr at *; exact om36 this) (by rw [hC]; unfold Addr at *; exact om3 hsz) (fun k e q => by have := hold k e; rw [← q, hC] at this; unfold Addr at *; exact om12 this)
  refine codeAny_mono (q s.heap.objs.size H2.objs.size (H2.objs.size + 1) { cls := .type "cell", data := .cell none } rfl _ S₃) fun r s' z => ?_
  obtain ⟨fl, f', l', rfl, S', mC, f2, rfl, hf2, q⟩ := z
  obtain ⟨mf, hn, _⟩ := S'.fr _ (.head _)
  exact ⟨mf, hn, fun h' hs' => ⟨f2, l', S'.offFr (tk := s'.toks) hf2 hs', q⟩⟩
theorem W_ListComp1 {elt : Expr} {g : Comprehension} {gs : List Comprehension} {scope : Scope} {cl : List (Str × Addr)} {pos : Pos} {x : Str} {Q : Value → Frs → Led → Prop} (hg : g.is_async = 0)
    (hs : ∀ x, foldedSetIterable g.iter env x = pure x) (hclos : closureFor scope env = pure cl) (hkind : scope.kind = .function) (hnames : ∀ x ∈ scope.names, x.2 = .local → scope.names.lookup x.1 = some .local)
    (hcf : ∀ n, cellsFrom n scope.names cl = (x, n) :: cl) (hpc : ∀ h, pushCells h scope.names = h.push { cls := .type "cell", data := .cell none }) (hh : A.handled = none)
    (h : W c A (eval g.iter env) frs led (fun v f l => W c A (pyIter v) f l (fun it f l => ∀ D C K co, co.data = .cell none → Wc c A (.compStart (.ListComp elt (g :: gs) scope pos) 0 it (.ref D) (compEnvC scope ((x, K) :: cl) C env)) ((C, []) :: f) ((K, co) :: (D, seqObj "list" #[] 0) :: l)
      (fun fl f' l' => ∃ mC f2, f' = (C, mC) :: f2 ∧ f2 ≠ [] ∧ Q (.ref D) f2 l')))) :
    W c A (eval (.ListComp elt (g :: gs) scope pos) env) frs led Q := by
  obtain ⟨target, iter, ifs, a⟩ := g
  simp only at hg
  subst hg
  exact W_compBlock1 hs hclos hkind hnames hcf hpc hh h
end
section
variable {α β : Type} {c : Cx} {A : Around} {frs : Frs} {led : Led} {env : Env}
abbrev two (elt t1 i1 t2 i2 : Expr) (ifs : List Expr) (scope : Scope) (pos : Pos) : Expr := .ListComp elt [⟨t1, i1, [], 0⟩, ⟨t2, i2, ifs, 0⟩] scope pos
theorem compTurn_two0 (elt t1 i1 t2 i2 : Expr) (ifs : List Expr) (scope : Scope) (pos : Pos) (it acc : Value) (env : Env) :
    compTurn (two elt t1 i1 t2 i2 ifs scope pos) 0 it acc env = (do
      standAt i1.pos
      match ← pyNext it with
      | none => pure (.done .next)
      | some v =>
        letOwnedTupleGo t1 it v
        assign t1 env v
        let x ← eval i2 env
        standAt i2.pos
        let x ← foldedSetIterable i2 env x
        let _ ← runOwn (.compStart (two elt t1 i1 t2 i2 ifs scope pos) 1 (← holding [x] (pyIter x)) acc env) env
        again (.compLoop (two elt t1 i1 t2 i2 ifs scope pos) 0 it acc env)) := by
  first
    | rfl
    | (unfold compTurn; simp only [List.getElem?_cons_zero, List.getElem?_cons_succ, List.forIn_nil, pure_bind]; trace_state; rfl)
theorem compTurn_two1 (elt t1 i1 t2 i2 : Expr) (ifs : List Expr) (scope : Scope) (pos : Pos) (it acc : Value) (env : Env) :
    compTurn (two elt t1 i1 t2 i2 ifs scope pos) 1 it acc env = (do
      standAt i2.pos
      match ← pyNext it with
      | none => pure (.done .next)
      | some v =>
        letOwnedTupleGo t2 it v
        assign t2 env v
        let mut ok := true
        for c in ifs do
          if ok then ok ← isTrue c env (eval c env)
        if ok then
          (do let _ ← call (.builtin "list.append") [acc, ← eval elt env])
        again (.compLoop (two elt t1 i1 t2 i2 ifs scope pos) 1 it acc env)) := by rfl
end
section
variable {α β : Type} {c : Cx} {A : Around} {frs : Frs} {led : Led} {env : Env}
/-- a turn of the outer clause -/
def OutIn (c : Cx) (A : Around) (env : Env) (t1 : Expr) (it : Value) (K : Frs → Led → Prop) (Q : Flow → Frs → Led → Prop) : Option Value → Frs → Led → Prop
  | none, f, l => Q .next f l
  | some v, f, l => W c A (letOwnedTupleGo t1 it v) f l fun _ f l => W c A (assign t1 env v) f l fun _ f l => K f l
theorem OutIn_some {t1 : Expr} {it v : Value} {K : Frs → Led → Prop} {Q : Flow → Frs → Led → Prop} (h : W c A (letOwnedTupleGo t1 it v) frs led fun _ f l => W c A (assign t1 env v) f l fun _ f l => K f l) : OutIn c A env t1 it K Q (some v) frs led := h
theorem Wc_two0 {elt t1 i1 t2 i2 : Expr} {ifs : List Expr} {scope : Scope} {pos : Pos} {it acc : Value} {Q : Flow → Frs → Led → Prop} (hs : ∀ x, foldedSetIterable i2 env x = pure x) (hh : A.handled = none)
    (h : W c A (pyNext it) frs led (OutIn c A env t1 it (fun f l => W c A (eval i2 env) f l fun x f l => W c A (pyIter x) f l fun it2 f l => Wc c A (.compStart (two elt t1 i1 t2 i2 ifs scope pos) 1 it2 acc env) f l fun fl f l => Wc c A (.compLoop (two elt t1 i1 t2 i2 ifs scope pos) 0 it acc env) f l Q) Q)) :
    Wc c A (.compLoop (two elt t1 i1 t2 i2 ifs scope pos) 0 it acc env) frs led Q := fun s S => by
  refine codeAny_of_tree ?_
  rw [under_quiet rfl rfl]
  show wpAny _ A ((compTurn (two elt t1 i1 t2 i2 ifs scope pos) 0 it acc env).onRaise (fun x => do noteFrame x env; theTreesLotGoes x)) _ _ s
  refine wpAny_noted ?_
  rw [compTurn_two0]
  refine wpAny_bind (wpAny_standAt (wpAny_bind (h.out S fun r s₁ f l S₁ q => ?_)))
  cases r with
  | none => exact wpAny_pure ⟨_, _, _, rfl, S₁, q⟩
  | some v =>
    refine wpAny_bind (W.out q S₁ fun _ s₂ f l S₂ q => wpAny_bind (q.out S₂ fun _ s₃ f l S₃ q => wpAny_bind (W.out q S₃ fun x s₄ f l S₄ q => wpAny_bind (wpAny_standAt (wpAny_bind (wpAny_of_eq (hs x) (wpAny_bind (wpAny_holding (q.out S₄ fun it2 s₅ f l S₅ q => ?_)))))))))
    refine wpAny_bind (wpAny_runOwn ?_)
    rw [mark_none hh]
    refine q.out S₅ fun fl s₆ f l S₆ q => ?_
    exact wpAny_pure ⟨rfl, q s₆ S₆⟩
theorem Wc_two1 {elt t1 i1 t2 i2 : Expr} {ifs : List Expr} {scope : Scope} {pos : Pos} {it acc : Value} {Inv : Frs → Led → Prop} {Q : Flow → Frs → Led → Prop} (hi : ifs.length ≤ 1)
    (h : W c A (pyNext it) frs led (CompIn c A env elt t2 ifs it acc Inv Q)) (hI : ∀ f l, Inv f l → Wc c A (.compLoop (two elt t1 i1 t2 i2 ifs scope pos) 1 it acc env) f l Q) :
    Wc c A (.compLoop (two elt t1 i1 t2 i2 ifs scope pos) 1 it acc env) frs led Q := fun s S => by
  refine codeAny_of_tree ?_
  rw [under_quiet rfl rfl]
  show wpAny _ A ((compTurn (two elt t1 i1 t2 i2 ifs scope pos) 1 it acc env).onRaise (fun x => do noteFrame x env; theTreesLotGoes x)) _ _ s
  refine wpAny_noted ?_
  rw [compTurn_two1]
  refine wpAny_bind (wpAny_standAt (wpAny_bind (h.out S fun r s₁ f l S₁ q => ?_)))
  cases r with
  | none => exact wpAny_pure ⟨_, _, _, rfl, S₁, q⟩
  | some v =>
    refine wpAny_bind (W.out q S₁ fun _ s₂ f l S₂ q => wpAny_bind (q.out S₂ fun _ s₃ f l S₃ q => wpAny_bind ?_))
    have e := ifs_all env ifs hi
    refine (W_eq e q).out S₃ fun ok s₄ f l S₄ q => ?_
    cases ok with
    | true =>
      refine wpAny_bind (wpAny_bind (W.out q S₄ fun x s₅ f l S₅ q => wpAny_bind (q.out S₅ fun _ s₆ f l S₆ q => ?_)))
      exact wpAny_pure (wpAny_pure ⟨rfl, hI _ _ q s₆ S₆⟩)
    | false => exact wpAny_pure ⟨rfl, hI _ _ q s₄ S₄⟩
theorem Wc_start1 {elt t1 i1 t2 i2 : Expr} {ifs : List Expr} {scope : Scope} {pos : Pos} {it acc : Value} {Q : Flow → Frs → Led → Prop}
    (h0 : Wc c A (.compLoop (two elt t1 i1 t2 i2 ifs scope pos) 1 it acc env) frs led Q) (h : W c A (pyIter it) frs led (fun it' f l => it' = it ∧ f = frs ∧ l = led)) :
    Wc c A (.compStart (two elt t1 i1 t2 i2 ifs scope pos) 1 it acc env) frs led Q := fun s S => by
  refine codeAny_of_tree ?_
  show wpAny _ _ ((compStart (two elt t1 i1 t2 i2 ifs scope pos) 1 it acc env).onRaise (fun x => do noteFrame x env; standAt theWindowsPlace)) _ _ s
  refine wpAny_notedAt ?_
  unfold compStart
  show wpAny _ _ (ask >>= _) _ _ s
  refine wpAny_bind (wpAny_askSetting (wpAny_ite ?_))
  have k0 := h0 s S
  have k1 : wpAny (model pw c.w) A (pyIter it) (fun it' s' => codeAny (model pw c.w) A (.compLoop (two elt t1 i1 t2 i2 ifs scope pos) 1 it' acc env) (PostC c Q) s') (fun _ _ => False) s :=
    h.out S fun it' s' f l S' e => by
      refine exE0_3 e fun hrf0 hrf1 hrf2 => ?_; subst hrf0; subst hrf1; subst hrf2
      exact h0 s' S'
  split
  · first
      | exact wpAny_bind (wpAny_pure (wpAny_pure (And.intro rfl k0)))
      | exact wpAny_pure (And.intro rfl k0)
  · first
      | exact wpAny_bind (wpAny_rule (wpAny_bind (wpAny_standAt (wpAny_bind (wpAny_mono k1 (fun it' s' h' => wpAny_pure (And.intro rfl h')) fun _ _ x => x.elim)))))
      | (refine wpAny_bind (wpAny_rule ?_); show wpAny _ _ (standAt i2.pos >>= _) _ _ s; exact wpAny_bind (wpAny_standAt (wpAny_bind (wpAny_mono k1 (fun it' s' h' => wpAny_pure (And.intro rfl h')) fun _ _ x => x.elim))))
/-- the outer clause, by an invariant; N turns -/
theorem Wc_two0Ind {elt t1 i1 t2 i2 : Expr} {ifs : List Expr} {scope : Scope} {pos : Pos} {it acc : Value} {Q : Flow → Frs → Led → Prop} (hs : ∀ x, foldedSetIterable i2 env x = pure x) (hh : A.handled = none) (N : Nat) (Inv : Nat → Frs → Led → Prop) (h0 : Inv 0 frs led)
    (hstep : ∀ i, i < N → ∀ f l, Inv i f l → W c A (pyNext it) f l (OutIn c A env t1 it (fun f l => W c A (eval i2 env) f l fun x f l => W c A (pyIter x) f l fun it2 f l => Wc c A (.compStart (two elt t1 i1 t2 i2 ifs scope pos) 1 it2 acc env) f l fun fl f l => Inv (i + 1) f l) Q))
    (he : ∀ f l, Inv N f l → W c A (pyNext it) f l (fun r f l => r = none ∧ Q .next f l)) : Wc c A (.compLoop (two elt t1 i1 t2 i2 ifs scope pos) 0 it acc env) frs led Q := by
  suffices ∀ k i f l, i + k = N → Inv i f l → Wc c A (.compLoop (two elt t1 i1 t2 i2 ifs scope pos) 0 it acc env) f l Q from this N 0 frs led (Nat.zero_add _) h0
  intro k
  induction k with
  | zero =>
    intro i f l e hi'
    have : i = N := e
    subst this
    exact Wc_two0 hs hh (W_mono (he f l hi') fun r f l ⟨e, q⟩ => by subst e; exact q)
  | succ k ih =>
    intro i f l e hi'
    with_reducible refine' Wc_two0 hs hh (W_mono (hstep i (by exact om8 e) f l hi') fun r f l q => ?_)
    cases r with
    | none => exact q
    | some v => exact W_mono q fun _ f l q => W_mono q fun _ f l q => W_mono q fun _ f l q => W_mono q fun _ f l q => Wc_mono q fun _ f l q => ih (i + 1) f l (by exact om4 e) q
/-- the inner clause, by an invariant; N turns -/
theorem Wc_two1Ind {elt t1 i1 t2 i2 : Expr} {ifs : List Expr} {scope : Scope} {pos : Pos} {it acc : Value} {Q : Flow → Frs → Led → Prop} (hi : ifs.length ≤ 1) (N : Nat) (Inv : Nat → Frs → Led → Prop) (h0 : Inv 0 frs led)
    (hstep : ∀ i, i < N → ∀ f l, Inv i f l → W c A (pyNext it) f l (CompIn c A env elt t2 ifs it acc (Inv (i + 1)) Q))
    (he : ∀ f l, Inv N f l → W c A (pyNext it) f l (fun r f l => r = none ∧ Q .next f l)) : Wc c A (.compLoop (two elt t1 i1 t2 i2 ifs scope pos) 1 it acc env) frs led Q := by
  suffices ∀ k i f l, i + k = N → Inv i f l → Wc c A (.compLoop (two elt t1 i1 t2 i2 ifs scope pos) 1 it acc env) f l Q from this N 0 frs led (Nat.zero_add _) h0
  intro k
  induction k with
  | zero =>
    intro i f l e hi'
    have : i = N := e
    subst this
    exact Wc_two1 (Inv := fun _ _ => False) hi (W_mono (he f l hi') fun r f l ⟨e, q⟩ => by subst e; exact q) fun _ _ x => x.elim
  | succ k ih =>
    intro i f l e hi'
    exact Wc_two1 hi (hstep i (by exact om8 e) f l hi') fun f l q => ih (i + 1) f l (by exact om4 e) q
theorem W_hideO {t : Sem (Option Value)} {t1 i2 : Expr} {it : Value} {code : Value → Code} {I : Frs → Led → Prop} {Q : Flow → Frs → Led → Prop}
    (h : ∀ (J : Frs → Led → Prop) (K : Flow → Frs → Led → Prop), (∀ f l, I f l → J f l) → (∀ a f l, Q a f l → K a f l) → W c A t frs led (OutIn c A env t1 it (fun f l => W c A (eval i2 env) f l fun x f l => W c A (pyIter x) f l fun it2 f l => Wc c A (code it2) f l fun _ f l => J f l) K)) :
    W c A t frs led (OutIn c A env t1 it (fun f l => W c A (eval i2 env) f l fun x f l => W c A (pyIter x) f l fun it2 f l => Wc c A (code it2) f l fun _ f l => I f l) Q) := h I Q (fun _ _ q => q) fun _ _ _ q => q
end
end
section
/-! comparisons of lists; index; small things -/
section
variable {α β : Type} {c : Cx} {A : Around} {frs : Frs} {led : Led} {env : Env}
theorem W_leInt {a b : Int} {t u : Tok} {Q : Value → Frs → Led → Prop} (h : Q (.bool (decide (a ≤ b))) frs led) : W c A (compareOp .LtE (.int a t) (.int b u)) frs led Q := fun s S => PyProof.Rows.le_int ⟨_, _, S, h⟩
theorem W_ltInt {a b : Int} {t u : Tok} {Q : Value → Frs → Led → Prop} (h : Q (.bool (decide (a < b))) frs led) : W c A (compareOp .Lt (.int a t) (.int b u)) frs led Q := fun s S => PyProof.Rows.lt_int ⟨_, _, S, h⟩
theorem W_neLists {a b : Addr} {o p : Obj} {vs us : List Value} {Q : Value → Frs → Led → Prop} (hu : A.units < cLine) (ha : At c led a o) (ho : ListO vs.toArray o) (hb : At c led b p) (hp : ListO us.toArray p) (hl : vs.length = us.length)
    (he : ∀ (s : Shared) (j : Nat) (x y : Value), vs[j]? = some x → us[j]? = some y → SeqAt.EqAt A.in1 s x y true) (h : Q (.bool false) frs led) : W c A (compareOp .NotEq (.ref a) (.ref b)) frs led Q := fun s S => by
  refine SeqAt.RcNeAt.lists (e := fun _ => true) (ho.is S ha) (hp.is S hb) (by rw [List.size_toArray, List.size_toArray, hl]) hu (fun j k1 k2 => ?_) pw c.w _ _ ?_
  · refine he s j _ _ ?_ ?_
    · rw [← List.getElem?_toArray]; exact Array.getElem?_eq_getElem k1
    · rw [← List.getElem?_toArray]; exact Array.getElem?_eq_getElem k2
  · rw [show (!(List.range vs.toArray.size).all fun _ => true) = false by simp]
    exact ⟨_, _, S, h⟩
theorem W_neStrs {a b : Addr} {o p : Obj} {vs us : List Value} {ys : List Str} {Q : Value → Frs → Led → Prop} (hu : A.units < cLine) (ha : At c led a o) (ho : ListO vs.toArray o) (hb : At c led b p) (hp : ListO us.toArray p) (h1 : StrsAre vs ys) (h2 : StrsAre us ys)
    (h : Q (.bool false) frs led) : W c A (compareOp .NotEq (.ref a) (.ref b)) frs led Q := by
  with_reducible refine' W_neLists hu ha ho hb hp (h1.length.trans h2.length.symm) (fun s j x y e1 e2 => ?_) h
  obtain ⟨y1, t1, rfl, q1⟩ := StrsAre.item h1 j x e1
  obtain ⟨y2, t2, rfl, q2⟩ := StrsAre.item h2 j y e2
  rw [q1] at q2
  cases q2
  have := SeqAt.EqAt.str_str (A := A.in1) (s := s) y1 t1 y1 t2
  rw [beq_self_eq_true] at this
  exact this
theorem W_neInts {a b : Addr} {o p : Obj} {vs us : List Value} {ns : List Int} {Q : Value → Frs → Led → Prop} (hu : A.units < cLine) (ha : At c led a o) (ho : ListO vs.toArray o) (hb : At c led b p) (hp : ListO us.toArray p) (h1 : IntsAre vs ns) (h2 : IntsAre us ns)
    (h : Q (.bool false) frs led) : W c A (compareOp .NotEq (.ref a) (.ref b)) frs led Q := by
  with_reducible refine' W_neLists hu ha ho hb hp (h1.length.trans h2.length.symm) (fun s j x y e1 e2 => ?_) h
  obtain ⟨y1, t1, rfl, q1⟩ := IntsAre.at h1 j x e1
  obtain ⟨y2, t2, rfl, q2⟩ := IntsAre.at h2 j y e2
  rw [q1] at q2
  cases q2
  have := SeqAt.EqAt.int_int (A := A.in1) (s := s) y1 t1 y1 t2
  rw [beq_self_eq_true] at this
  exact this
theorem W_neLen {a b : Addr} {o p : Obj} {vs us : List Value} {Q : Value → Frs → Led → Prop} (hu : A.units < cLine) (ha : At c led a o) (ho : ListO vs.toArray o) (hb : At c led b p) (hp : ListO us.toArray p) (hl : vs.length ≠ us.length)
    (h : Q (.bool true) frs led) : W c A (compareOp .NotEq (.ref a) (.ref b)) frs led Q := fun s S =>
  SeqAt.RcNeAt.lists_lengths (ho.is S ha) (hp.is S hb) (by simpa using hl) hu pw c.w _ _ ⟨_, _, S, h⟩
theorem bits256 : ∀ n : Nat, n < 256 → (if n = 0 then 0 else n.log2 + 1) ≤ 8 := by decide +kernel
theorem W_index {a : Addr} {o : Obj} {vs : List Value} {os : List Nat} {k : Nat} {t : Tok} {Q : Value → Frs → Led → Prop} (hl : At c led a o) (ho : ListO vs.toArray o) (hi : NA vs os) (hk : k ∈ os) (hn : os.length = 4) (hr : ∀ x ∈ os, x < 256) (h : ∀ t, Q (.int (os.idxOf k : Nat) t) frs led) :
    W c A (call (.builtin "list.index") [.ref a, .int k t]) frs led Q := fun s S => by
  have e : (os.map fun (n : Nat) => (n : Int)).idxOf (k : Int) = os.idxOf k := by
    clear hi hk hn h hr
    induction os with
    | nil => rfl
    | cons x r ih =>
      have q : ((x : Int) == (k : Int)) = (x == k) := by
        by_cases q : x = k
        · subst q; simp
        · have q' : ¬ ((x : Int) = (k : Int)) := by exact om85 q
          rw [beq_eq_false_iff_ne.mpr q, beq_eq_false_iff_ne.mpr q']
      rw [List.map_cons, List.idxOf_cons, List.idxOf_cons, ih, q]
  refine index_list_ints (ho.is S hl) hi ?_ (List.mem_map_of_mem hk) ?_
  · match os, hn with
    | [a, b, c, d], _ =>
      have ha := bits256 a (hr a (by simp))
      have hb := bits256 b (hr b (by simp))
      have hc := bits256 c (hr c (by simp))
      have hd := bits256 d (hr d (by simp))
      simp [PyData.layable0, PyData.canLay0, PyData.depth, PyData.weight, PyData.canLayAll0, PyData.depthAll, PyData.weightAll]
      exact om86 ha hb hc hd
  · rw [e]; exact ⟨_, _, S.tok, h _⟩
theorem W_iterListO {l : Addr} {items : Array Value} {o : Obj} {Q : Value → Frs → Led → Prop} (hl : At c led l o) (ho : ListO items o) (h : ∀ I, Q (.ref I) frs ((I, seqItObj "list_iterator" l 0) :: led)) : W c A (pyIter (.ref l)) frs led Q := fun s S =>
  wpAny_pyIter_list (ho.is S hl) ⟨_, _, S.push (Ka.of fun b o e => Heap.get?_push_of_some _ e) (Heap.get?_push_size _ rfl) (Nat.le_refl _), h _⟩
theorem W_nextListO {I l : Addr} {i : Nat} {o ol : Obj} {items : Array Value} {v : Value} {led' : Obj → Led} {Q : Option Value → Frs → Led → Prop} (U : ∀ o', Up I o o' led (led' o')) (ho : SeqIt "list_iterator" l i o) (hl : At c led l ol) (hol : ListO items ol) (hx : items[i]? = some v)
    (h : ∀ o', SeqIt "list_iterator" l (i + 1) o' → Q (some v) frs (led' o')) : W c A (pyNext (.ref I)) frs led Q := fun s S =>
  wpAny_pyNext_list_item ⟨o, S.ld _ (U o).mem, ho⟩ (hol.is S hl) hx fun h' hit hs => by
    obtain ⟨o', ho', hc⟩ := hit
    exact ⟨_, _, S.upd (U o') (fun b ob hb e => (hs.2 b hb).trans e) ho', h o' hc⟩
theorem W_endListO {I l : Addr} {i : Nat} {o ol : Obj} {items : Array Value} {led' : Led} {Q : Option Value → Frs → Led → Prop} (hh : A.handled = none) (R : Rm I led led') (hm : (I, o) ∈ led) (ho : SeqIt "list_iterator" l i o) (hl : At c led l ol) (hol : ListO items ol) (hx : items[i]? = none)
    (h : Q none frs led') : W c A (pyNext (.ref I)) frs led Q := fun s S =>
  wpAny_pyNext_list_end hh ⟨o, S.ld _ hm, ho⟩ (hol.is S hl) hx fun h' hs => ⟨_, _, S.rm (tk := s.toks) R hs, h⟩
theorem tail_temp {w : World} {E : Value → Shared → Prop} {s : Shared} {value slice : Expr} {o i : Value} {T id : String} {ops : List Value} {Q : Value → Shared → Prop} (hT : s.TypeIs o T) (hl : typeLookup (.type T) "__getitem__" = pure (some (.builtin id)))
    (hg : wpAny (model pw w) A (getItem o i) Q E s) (hs : subscripted slice false o i = operate ops (getItem o i)) : wpAny (model pw w) A (subscriptTail value slice o i) Q E s := by
  unfold subscriptTail
  refine wpAny_bind ?_
  rw [getitemInPython_of_ne hT.not_modules]
  refine wpAny_bind (wpAny_specialOf hT hl ?_)
  have fin : wpAny (model pw w) A (subscripted slice false o i) (fun r s₃ => wpAny (model pw w) A (letTemporaryGo value o r >>= fun _ => pure r) Q E s₃) E s := by
    rw [hs]
    exact wpAny_operating (wpAny_mono hg (fun r s₃ h₃ => wpAny_bind (wpAny_letTemporaryGo (wpAny_pure h₃))) fun _ _ x => x)
  first
    | exact wpAny_pure (wpAny_bind fin)
    | exact wpAny_bind (wpAny_pure (wpAny_bind fin))
    | exact wpAny_bind fin
/-- an item of a list that stands behind any expression -/
theorem W_itemListT {value slice : Expr} {a : Addr} {its : Array Value} {o : Obj} {k : Int} {u : Tok} {x : Value} {Q : Value → Frs → Led → Prop} (hl : At c led a o) (ho : ListO its o) (h0 : 0 ≤ k) (h1 : k < 2 ^ 63) (hx : its[k.toNat]? = some x)
    (hs : subscripted slice false (.ref a) (.int k u) = operate [.ref a, .int k u] (getItem (.ref a) (.int k u))) (h : Q x frs led) : W c A (subscriptTail value slice (.ref a) (.int k u)) frs led Q := fun s S =>
  tail_temp (ho.is S hl).typeIs slot_list_getitem.lookup (wpAny_getItem_list (ho.is S hl) h0 h1 hx ⟨_, _, S, h⟩) hs
end
end
section
/-! bytearray -/
namespace BA
theorem sub_self : isSubtype (.type "bytearray") (.type "bytearray") = pure true := by rw [isSubtype_type]; kernel_rfl
theorem slot_set : Slot "bytearray" "__setitem__" "bytearray.__setitem__" :=
  .of (owner := "bytearray") (n := "__setitem__") (by rw [typeLookup_type, builtinLookup_eq_fast]; kernel_rfl) (by decide +kernel) (by decide +kernel) (by decide +kernel)
    (by first | exact .inl (by decide +kernel) | exact .inr (by decide +kernel)) (by rw [isSubtype_type]; kernel_rfl)
theorem entry_set : entryFor table "bytearray.__setitem__" = some Builtin.«bytearray.__setitem__» := entryFor_of_tree (by kernel_rfl)
theorem args_set (a b d : Value) : argsOk "bytearray.__setitem__" ⟨[a, b, d], []⟩ := by unfold argsOk; kernel_rfl
theorem look_buffer : typeLookup (.type "bytearray") "__buffer__" = pure (some (.builtin "bytearray.__buffer__")) := by rw [typeLookup_type, builtinLookup_eq_fast]; kernel_rfl
theorem look_release : typeLookup (.type "bytearray") "__release_buffer__" = pure (some (.builtin "bytearray.__release_buffer__")) := by rw [typeLookup_type, builtinLookup_eq_fast]; kernel_rfl
theorem no_bytes : typeLookup (.type "bytearray") "__bytes__" = pure none := by rw [typeLookup_type, builtinLookup_eq_fast]; kernel_rfl
theorem no_idx : typeLookup (.type "bytearray") "__index__" = pure none := by rw [typeLookup_type, builtinLookup_eq_fast]; kernel_rfl
theorem mro : mroOf (.type "bytearray") = pure [.type "bytearray", .type "object"] := by rw [mroOf_type]; kernel_rfl
theorem lookup_new : typeLookup (.type "bytearray") "__new__" = pure (some (.builtin "bytearray.__new__")) := by rw [typeLookup_type, builtinLookup_eq_fast]; kernel_rfl
theorem slot_init : Slot "bytearray" "__init__" "bytearray.__init__" :=
  .of (owner := "bytearray") (n := "__init__") (by rw [typeLookup_type, builtinLookup_eq_fast]; kernel_rfl) (by decide +kernel) (by decide +kernel) (by decide +kernel)
    (by first | exact .inl (by decide +kernel) | exact .inr (by decide +kernel)) (by rw [isSubtype_type]; kernel_rfl)
theorem called : TypeCalled "bytearray" "bytearray.__new__" "bytearray.__init__" :=
  ⟨by decide +kernel, by decide +kernel, ⟨_, _, mro⟩, madeBy_type mro lookup_new (by decide +kernel), by decide +kernel, by rw [isSubtype_type]; kernel_rfl, slot_init⟩
theorem typeCall (a : Value) : checkTypeCall "bytearray" ⟨[a], []⟩ = pure () := by kernel_rfl
theorem newCall (a : Value) : checkBuiltinCall "bytearray.__new__" ⟨[.type "bytearray", a], []⟩ = pure () := by kernel_rfl
theorem entry_new : entryFor table "bytearray.__new__" = some Builtin.«list.__new__» := entryFor_alias (id' := "list.__new__") (by rw [fastTable_eq_tree]; kernel_rfl) (by first | rfl | decide +kernel) (by decide +kernel) (by rw [fastTable_eq_tree]; kernel_rfl)
theorem entry_init : entryFor table "bytearray.__init__" = some Builtin.«bytearray.__init__» := entryFor_of_tree (by kernel_rfl)
theorem args_init (a b : Value) : argsOk "bytearray.__init__" ⟨[a, b], []⟩ := by unfold argsOk; kernel_rfl
theorem plain_new : plainId "bytearray.__new__" = true := by decide +kernel
theorem plain_init : plainId "bytearray.__init__" = true := by decide +kernel
theorem bind (v : Value) : Builtin.Bytes.bindOptional "bytearray.__init__" "bytearray" ["source", "encoding", "errors"] [v] [] = pure [some v, none, none] := by kernel_rfl
end BA
end
section
abbrev baObj (l : List Nat) : Obj := { cls := .type "bytearray", data := .bytearray (bys l) }
theorem bys_set (l : List Nat) (i n : Nat) : (bys l).setIfInBounds i n.toUInt8 = bys (l.set i n) := by
  unfold bys
  rw [List.setIfInBounds_toArray, ← List.map_set]
section
variable {prog : Program} {w : World} {A : Around} {E : Value → Shared → Prop} {s : Shared}
theorem wp_setBA {a : Addr} {l : List Nat} {i n : Nat} {ii nn : Int} {u v : Tok} {Q : Unit → Shared → Prop} (hii : ii = i) (hnn : nn = n) (ho : s.heap.get? a = some (baObj l)) (hi : i < l.length) (hn : n < 256) (hz : l.length ≤ 1000)
    (hQ : ∀ h', h'.get? a = some (baObj (l.set i n)) → Heap.SameBut a s.heap h' → Q () { s with heap := h' }) : wpAny (model prog w) A (setItem (.ref a) (.int ii u) (.int nn v)) Q E s := by
  have hT : s.TypeIs (.ref a) "bytearray" := ⟨_, ho, rfl⟩
  unfold setItem
  try with_reducible refine wpAny_holding ?_
  first | refine wpAny_bind (wpAny_pure ?_) | skip
  refine wpAny_bind (wpAny_sequenceKey hT (by decide) ?_)
  refine wpAny_bind (wpAny_callSpecial?_slot (name := Str.ofString "__setitem__") hT BA.slot_set
    (wpAny_call_entry BA.slot_set hT BA.entry_set ?_ (BA.args_set _ _ _)))
  unfold Builtin.«bytearray.__setitem__»
  dsimp only [List.isEmpty_nil, Bool.not_true]
  rw [if_neg (show ¬ ((!true) = true) by decide)]
  show wpAny _ _ (Builtin.Bytes.subscript? (.int ii u) >>= _) _ _ s
  refine wpAny_bind ?_
  unfold Builtin.Bytes.subscript?
  refine wpAny_bind (wpAny_specialOf (T := "int") (typeIs_int _ _ _) PySem.F.slot_int_index.lookup ?_)
  simp only [Option.isNone_some, Bool.false_eq_true, if_false]
  refine wpAny_bind (wpAny_of_eq (a := ii) (by rfl) ?_)
  have e1 : Builtin.Bytes.fitsIndex ii = true := by unfold Builtin.Bytes.fitsIndex; simp; exact om102 hii hi hz
  simp only [e1, Bool.not_true, Bool.false_eq_true, if_false]
  refine wpAny_pure ?_
  show wpAny _ _ (Builtin.Bytes.byteValue (.int nn v) >>= _) _ _ s
  refine wpAny_bind ?_
  unfold Builtin.Bytes.byteValue
  refine wpAny_bind (wpAny_of_eq (a := nn) (by rfl) ?_)
  have e2 : (decide (nn < 0) || decide (nn ≥ 256)) = false := by simp; exact om103 hnn hn
  simp only [e2, Bool.false_eq_true, if_false]
  refine wpAny_pure ?_
  refine wpAny_bind ?_
  unfold Builtin.Bytes.payload Builtin.Bytes.payload?
  refine wpAny_bind (wpAny_bind (wpAny_load ho ?_))
  refine wpAny_pure (wpAny_pure ?_)
  have e3 : seqIndex? ii (bys l).size = some i := by rw [hii, bys_size]; unfold seqIndex?; simp; omega
  dsimp only
  rw [e3]
  dsimp only
  refine wpAny_bind ?_
  show wpAny _ _ (updateBytearray a _) _ _ _
  unfold updateBytearray
  refine wpAny_bind (wpAny_load ho ?_)
  show wpAny _ _ (update a (Obj.mapBytearray fun x => x.setIfInBounds i nn.toNat.toUInt8) >>= fun _ => lookBehind a) _ _ _
  refine wpAny_bind (wpAny_update ho ?_)
  have hS₂ : (s.heap.update a (Obj.mapBytearray fun x => x.setIfInBounds i nn.toNat.toUInt8)).get? a = some (baObj (l.set i n)) := by
    have := Heap.get?_update_self (Obj.mapBytearray fun x => x.setIfInBounds i nn.toNat.toUInt8) ho rfl
    rw [this, hnn]
    show some ({ cls := .type "bytearray", data := .bytearray ((bys l).setIfInBounds i n.toUInt8) } : Obj) = _
    rw [bys_set]
  refine wpAny_lookBehind hS₂ ?_ ?_
  · show (if (bys (l.set i n)).size > sizeLine then some "bytearray:memory" else none) = none
    rw [if_neg]
    rw [bys_size, List.length_set, sizeLine_eq]
    exact om104 hz
  · exact wpAny_pure ⟨.none, rfl, wpAny_pure (hQ _ hS₂ (Heap.SameBut.update ..))⟩
theorem own_ba {a : Addr} {o : Obj} {name id : String} {Q : Bool → Shared → Prop} (ho : s.heap.get? a = some o) (hc : o.cls = .type "bytearray") (hl : typeLookup (.type "bytearray") (Str.ofString name) = pure (some (.builtin id)))
    (h1 : id.endsWith ("." ++ name) = true) (h2 : id.dropRight (name.length + 1) = "bytearray") (h : Q true s) : wpAny (model prog w) A (Builtin.Bytes.slotIsOwn (.ref a) name) Q E s := by
  have hT : s.TypeIs (.ref a) "bytearray" := ⟨_, ho, hc⟩
  unfold Builtin.Bytes.slotIsOwn
  refine wpAny_bind (wpAny_specialOf hT hl ?_)
  dsimp only
  rw [h1, h2]
  simp only [Bool.not_true, Bool.false_eq_true, if_false]
  exact wpAny_isInstance hT BA.sub_self h
theorem rel_ba {a : Addr} {o : Obj} {Q : Bool → Shared → Prop} (ho : s.heap.get? a = some o) (hc : o.cls = .type "bytearray") (h : Q false s) : wpAny (model prog w) A (Builtin.Bytes.ownRelease (.ref a)) Q E s := by
  unfold Builtin.Bytes.ownRelease
  exact wpAny_bind (own_ba ho hc BA.look_release (by decide +kernel) (by decide +kernel) (wpAny_pure h))
theorem bytesBA_new {a : Addr} {l : List Nat} {Q : Value → Shared → Prop} (ho : s.heap.get? a = some (baObj l)) (hz : l.length ≤ 1000)
    (hQ : ∀ t k, Q (.bytes (bys l) t) { s with toks := k }) :
    codeAny (model prog w) A (.call (.builtin "bytes.__new__") ⟨[.type "bytes", .ref a], []⟩) (wants Q E) s := by
  refine codeAny_of_tree ?_
  show wpAny _ A.in1 (do checkBuiltinCall "bytes.__new__" ⟨[.type "bytes", .ref a], []⟩; again (.builtin "bytes.__new__" ⟨[.type "bytes", .ref a], []⟩)) _ _ s
  refine wpAny_bind (wpAny_of_eq (PySem.F.bm_newCall _) (wpAny_pure ⟨plainId_quiet PySem.F.bm_plain _, codeAny_builtin PySem.F.bm_entry ?_⟩))
  rw [Around.under_plainId PySem.F.bm_plain _]
  have hT : s.TypeIs (.ref a) "bytearray" := ⟨_, ho, rfl⟩
  unfold Builtin.«bytes.__new__»
  refine wpAny_bind (wpAny_of_eq (a := true) rfl ?_)
  refine bm_if_false rfl ?_
  refine wpAny_bind (wpAny_of_eq PySem.F.bm_sub ?_)
  refine bm_if_false rfl ?_
  refine wpAny_bind (wpAny_of_eq (PySem.F.bm_bind _) ?_)
  refine wpAny_bind (wpAny_of_eq (a := ()) rfl ?_)
  refine wpAny_bind (wpAny_of_eq (a := ()) rfl ?_)
  refine bm_if_false rfl ?_
  refine wpAny_bind (wpAny_specialOf hT BA.no_bytes ?_)
  refine wpAny_bind (wpAny_bind ?_)
  show wpAny _ _ (load a >>= _) _ _ _
  refine wpAny_bind (wpAny_load ho ?_)
  refine wpAny_pure (wpAny_pure ?_)
  refine bm_if_false rfl ?_
  refine wpAny_bind (wpAny_specialOf hT BA.no_idx ?_)
  refine bm_if_true rfl ?_
  first
    | show wpAny _ _ (Builtin.Bytes.buffer? "bytes.__new__" (.ref a) true >>= _) _ _ _
    | (refine wpAny_bind ?_; show wpAny _ _ (Builtin.Bytes.buffer? "bytes.__new__" (.ref a) true >>= _) _ _ _)
  refine wpAny_bind ?_
  unfold Builtin.Bytes.buffer?
  refine wpAny_bind (wpAny_specialOf hT BA.look_buffer ?_)
  show wpAny _ _ (Builtin.Bytes.slotIsOwn (.ref a) "__buffer__" >>= _) _ _ _
  refine wpAny_bind (own_ba ho rfl BA.look_buffer (by decide +kernel) (by decide +kernel) ?_)
  simp only [Bool.not_true, Bool.false_eq_true, if_false]
  refine wpAny_bind (wpAny_specialOf hT BA.look_buffer ?_)
  show wpAny _ _ (Builtin.Bytes.ownRelease (.ref a) >>= _) _ _ _
  refine wpAny_bind (rel_ba ho rfl ?_)
  simp only [Bool.false_eq_true, if_false]
  refine wpAny_bind ?_
  unfold Builtin.Bytes.payload Builtin.Bytes.payload?
  refine wpAny_bind (wpAny_bind (wpAny_load ho ?_))
  refine wpAny_pure (wpAny_pure ?_)
  refine wpAny_pure ?_
  dsimp only
  refine wpAny_bind (wpAny_rule ?_)
  refine wpAny_bind (wpAny_mkBytes ?_ (by rw [bys_size, sizeLine_eq]; exact om24 hz))
  show wpAny _ _ (if (Value.type "bytes" == Value.type "bytes") = true then _ else _) _ _ _
  refine bm_if_true (by decide) ?_
  first
    | exact wpAny_pure (hQ _ _)
    | exact wpAny_bind (wpAny_pure (wpAny_pure (hQ _ _)))
theorem call_bytesBA {a : Addr} {l : List Nat} {Q : Value → Shared → Prop} (ho : s.heap.get? a = some (baObj l)) (hz : l.length ≤ 1000)
    (hQ : ∀ t k, Q (.bytes (bys l) t) { s with toks := k }) : wpAny (model prog w) A (call (.type "bytes") [.ref a]) Q E s := by
  refine callType_codes (Q₁ := fun obj s₁ => s₁.TypeIs obj "bytes" ∧ Q obj s₁) PySem.F.bm_called (PySem.F.bm_typeCall _) PySem.F.entry_object_init
    (bytesBA_new ho hz fun t k => ⟨PySem.W.typeIs_bytes _ _ _, hQ t k⟩) fun obj s₁ h₁ => ?_
  exact ⟨h₁.1, PySem.F.args_object_init_2 obj _, object_init_meets PySem.F.bm_called.init.lookup PySem.F.bm_called.made (by decide) prog w A.in1 _ s₁ ⟨h₁.1, rfl, h₁.2⟩⟩
end
section
variable {α β : Type} {c : Cx} {A : Around} {frs : Frs} {led : Led} {env : Env}
theorem W_bytesBA {a : Addr} {l : List Nat} {Q : Value → Frs → Led → Prop} (ho : At c led a (baObj l)) (hz : l.length ≤ 1000) (h : ∀ t, Q (.bytes (bys l) t) frs led) : W c A (call (.type "bytes") [.ref a]) frs led Q := fun s S =>
  call_bytesBA (S.at ho) hz fun t k => ⟨_, _, S.tok, h t⟩
theorem W_setBA {a : Addr} {l : List Nat} {i n : Nat} {ii nn : Int} {u v : Tok} {led' : Obj → Led} {Q : Unit → Frs → Led → Prop} (U : ∀ o', Up a (baObj l) o' led (led' o')) (hii : ii = i) (hnn : nn = n) (hi : i < l.length) (hn : n < 256) (hz : l.length ≤ 1000)
    (h : Q () frs (led' (baObj (l.set i n)))) : W c A (setItem (.ref a) (.int ii u) (.int nn v)) frs led Q := fun s S =>
  wp_setBA hii hnn (S.ld _ (U default).mem) hi hn hz fun h' hd hs => ⟨_, _, S.upd (tk := s.toks) (U _) (fun b ob hb e => (hs.2 b hb).trans e) hd, h⟩
theorem byteArr_bys (os : List Nat) : byteArr (os.map fun (n : Nat) => (n : Int)) = bys os := by
  unfold byteArr bys
  rw [List.map_map]
  rfl
theorem W_bytesInts {a : Addr} {o : Obj} {vs : List Value} {os : List Nat} {Q : Value → Frs → Led → Prop} (hh : A.handled = none) (hl : At c led a o) (ho : ListO vs.toArray o) (hi : NA vs os) (hr : ∀ x ∈ os, x < 256) (hz : os.length ≤ 1000)
    (h : ∀ t, Q (.bytes (bys os) t) frs led) : W c A (call (.type "bytes") [.ref a]) frs led Q := fun s S =>
  call_bytes_ints (ho.is S hl) hi (fun n hn => by obtain ⟨m, hm, rfl⟩ := List.mem_map.mp hn; have := hr m hm; exact om105 this) (by rw [hi.len, sizeLine_eq]; exact om24 hz) hh fun h' t k hk => by
    rw [byteArr_bys]
    exact ⟨_, _, S.grow (Ka.of hk), h t⟩
end
end
section
/-! dict of a list of pairs; sorted; isinstance -/
section
variable {w : World} {A : Around} {E : Value → Shared → Prop} {s : Shared}
theorem noKeys_list : typeLookup (.type "list") "keys" = pure none := by rw [typeLookup_type, builtinLookup_eq_fast]; kernel_rfl
theorem keys_len : ("keys" : Str).length + 100 ≤ sizeLine := by rw [sizeLine_eq]; decide +kernel
theorem keysQ_list {a : Addr} {xs : Array Value} {k : Nat} {Q : Option Value → Shared → Prop} (hx : s.heap.get? a = some (seqObj "list" xs k)) (hA : A.handled = none)
    (h : ∀ h' tk, (∀ b o, s.heap.get? b = some o → h'.get? b = some o) → Q none { s with heap := h', toks := tk }) : wpAny (model pw w) A (getAttr? (.ref a) "keys") Q E s := by
  obtain ⟨hp, g, d, tk, os⟩ := s
  have hT : ∀ tk', (⟨hp, g, d, tk', os⟩ : Shared).TypeIs (.ref a) "list" := fun _ => ⟨_, hx, rfl⟩
  have f1 := sub_AttributeError
  have f3 := F.slot_list_getattribute.lookup
  have f4 := F.slot_list_getattribute.bind (.ref a)
  have f5 := am_list_getattr_none
  unfold getAttr? getAttrBy? getAttrBy
  repeat (any_goals (first | with_reducible assumption | exact hT _ | ((with_reducible show wpAny _ _ (call (Value.builtin "list.__getattribute__") _ _) _ _ _); refine call_meets F.slot_list_getattribute (hT _) am_entry_list_getattribute (F.args_list_getattribute_2 _ _) (meets_getattribute_miss_list a xs k #[] "keys" _ noKeys_list (by decide +kernel) keys_len) ⟨hx, hA, fun h' tk' e hx' => ?_⟩) | wp_step))
  refine exX2 hx'.there fun t' u' he => ?_
  show wpAny _ _ (getattributeRaised _ _ _ _ _ _ _) _ _ _
  unfold getattributeRaised
  repeat (any_goals (first | assumption | wp_step))
  exact h _ _ hx'.keeps
end
section
variable {c : Cx} {A : Around} {frs : Frs} {led : Led}
theorem W_isBytes {b : Array UInt8} {t : Tok} {Q : Value → Frs → Led → Prop} (h : Q (.bool true) frs led) : W c A (call (.builtin "isinstance") [.bytes b t, .type "bytes"]) frs led Q := fun s S =>
  call_isinstance_yes (PySem.W.typeIs_bytes _ _ _) rfl (by rw [isSubtype_type]; kernel_rfl) ⟨_, _, S, h⟩
theorem W_sorted {a : Addr} {o : Obj} {vs : List Value} {ns : List Int} {Q : Value → Frs → Led → Prop} (hl : At c led a o) (ho : ListO vs.toArray o) (hi : IntsAre vs ns) (h64 : vs.length < 64)
    (h : ∀ D vs' ns' e, IntsAre vs' ns' → ns'.Perm ns → ns'.Pairwise (· ≤ ·) → Q (.ref D) frs ((D, seqObj "list" vs'.toArray e) :: led)) : W c A (call (.builtin "sorted") [.ref a]) frs led Q := fun s S => by
  refine sorted_ints (ho.is S hl) hi h64 fun out ns' a1 a2 a3 => ?_
  refine exX1 (sortedAll_at s.heap vs out) fun e he => ?_
  exact ⟨_, _, S.push (tk := s.toks) (o := seqObj "list" out.toList.toArray e) (Ka.of fun _ _ => sortedAll_old) (by simpa using he) (Nat.le_succ _), h _ out.toList ns' e a1 a2 a3⟩
end
end
section
theorem entry_dul : entryFor table "dict.update.loop" = some Builtin.«dict.update.loop» := by first | exact entryFor_of_tree (by kernel_rfl) | exact entryFor_of_fast (by kernel_rfl)
theorem plain_dul : plainId "dict.update.loop" = true := by decide +kernel
section
variable {c : Cx} {A : Around} {frs : Frs} {led : Led}
theorem dofDOb {K : Type} [DecidableEq K] {w : World} {knd : KeyKind pw w K} {kvs : List (K × Value)} {a : Addr} {h : Heap} (d : h.DictOf knd a kvs) : ∃ o ep, h.get? a = some o ∧ DOb knd kvs ep o := by
  obtain ⟨o, es, ep, ho, r, hd⟩ := d
  exact ⟨o, ep, ho, r, es, hd⟩
theorem Wc_dictLoop {K : Type} [DecidableEq K] {knd : KeyKind pw c.w K} {D It l : Addr} {vs : List Value} {n0 : Nat} {ks : List (K × Value)} (hA : A.in1.handled = none) (hl : At c led l (seqObj "list" vs.toArray n0)) (hvl : vs.length = ks.length)
    (hks : ∀ (j : Nat) (e : K × Value), ks[j]? = some e → ∃ tp n key, vs[j]? = some (.ref tp) ∧ At c led tp (seqObj "tuple" [key, e.2].toArray n) ∧ knd.is e.1 key = true) (hz : ks.length ≤ 1000) :
    ∀ (m i : Nat) (oi oD : Obj) (ep : Nat) (kvs : List (K × Value)) (t : Tok), i + m = ks.length → kvs.length ≤ i → SeqIt "list_iterator" l i oi → DOb knd kvs ep oD →
      Wc c A (.builtin "dict.update.loop" ⟨[.ref D, .ref It, .int i t, .none], []⟩) frs ((It, oi) :: (D, oD) :: led) (fun fl f l => fl = .ret .none ∧ f = frs ∧ ∃ oD' ep', DOb knd ((ks.drop i).foldl (fun acc e => stored acc e.1 e.2) kvs) ep' oD' ∧ l = (D, oD') :: led) := by
  intro m
  induction m with
  | zero =>
    intro i oi oD ep kvs t hi hk hoi hd s S
    refine codeAny_builtin entry_dul ?_
    rw [Around.under_plainId plain_dul _]
    unfold Builtin.«dict.update.loop»
    dsimp only
    refine wpAny_bind ((W_endList (Q := fun r f l => r = none ∧ f = frs ∧ l = (D, oD) :: led) hA .head (.head _) hoi hl.cons.cons (by simp; exact om106 hvl hi) ⟨rfl, rfl, rfl⟩).out S fun r s' f l S' e => ?_)
    refine exE0_3 e fun hrf0 hrf1 hrf2 => ?_; subst hrf0; subst hrf1; subst hrf2
    rw [List.drop_eq_nil_of_le (by exact om37 hi)]
    show wpAny _ _ (Builtin.Dict.addKeywords D [] >>= fun _ => ret .none) _ _ _
    exact wpAny_bind (wpAny_of_eq (a := ()) rfl (wpAny_pure ⟨_, _, _, rfl, S', rfl, rfl, _, ep, hd, rfl⟩))
  | succ m ih =>
    intro i oi oD ep kvs t hi hk hoi hd s S
    have hil : i < ks.length := by exact om8 hi
    refine exE3_3 (hks i ks[i] (List.getElem?_eq_getElem hil)) fun tp n key hv ht hkey => ?_
    refine codeAny_builtin entry_dul ?_
    rw [Around.under_plainId plain_dul _]
    unfold Builtin.«dict.update.loop»
    dsimp only
    refine wpAny_bind ((W_nextList (Q := fun r f lx => r = some (.ref tp) ∧ f = frs ∧ ∃ oi', SeqIt "list_iterator" l (i + 1) oi' ∧ lx = (It, oi') :: (D, oD) :: led) (led' := fun o' => (It, o') :: (D, oD) :: led) (fun o' => .head) hoi hl.cons.cons (v := .ref tp) (by simpa using hv) fun o' ho' => ⟨rfl, rfl, _, ho', rfl⟩).out S fun r s' f l2 S' e => ?_)
    obtain ⟨rfl, rfl, oi', hoi', rfl⟩ := e
    have hit := S'.at ht.cons.cons
    have key2 : wpAny (model pw c.w) A.in1 (Builtin.Dict.pairItems (.ref tp)) (fun r s₂ => r = [key, ks[i].2] ∧ s₂ = s') (fun _ _ => False) s' := by
      unfold Builtin.Dict.pairItems
      refine wpAny_bind (wpAny_typeOf (⟨_, hit, rfl⟩ : s'.TypeIs (.ref tp) "tuple") ?_)
      refine bm_if_true (by decide) ?_
      first
        | exact wpAny_bind (wpAny_seqItems hit rfl (wpAny_pure ⟨rfl, rfl⟩))
        | exact wpAny_bind (wpAny_bind (wpAny_seqItems hit rfl (wpAny_pure (wpAny_pure ⟨rfl, rfl⟩))))
    show wpAny _ _ (holding [.ref tp] _ >>= fun _ => _) _ _ _
    refine wpAny_bind (wpAny_holding (wpAny_bind (wpAny_tryCatch (wpAny_mono key2 (fun r s₂ e => ?_) fun _ _ x => x.elim))))
    refine exE0_2 e fun hrf0 hrf1 => ?_; subst hrf0; subst hrf1
    dsimp only
    refine wpAny_holding (wpAny_dictSet_pairs hkey (hd.at S' (.led (.tail _ (.head _)))).dictOf (fun h' hd' hs => ?_) (by rw [sizeLine_eq]; exact om107 hz hi hk))
    refine exE2_2 (dofDOb hd') fun oD' ep' ho' hdo' => ?_
    have S2 : Sx c f ((It, oi') :: (D, oD') :: led) { s₂ with heap := h', toks := s₂.toks + 1 } := S'.upd (.tail .head) (fun b ob hb e => (hs.2 b hb).trans e) ho'
    refine wpAny_pure ⟨plainId_quiet plain_dul _, ?_⟩
    have hlen : (stored kvs ks[i].1 ks[i].2).length ≤ i + 1 := by
      unfold stored
      split
      · rw [List.length_map]; exact om3 hk
      · rw [List.length_append, List.length_singleton]; exact om15 hk
    have := ih (i + 1) oi' oD' ep' _ 0 (by exact om4 hi) hlen hoi' hdo' _ S2
    rw [List.drop_eq_getElem_cons hil, List.foldl_cons]
    exact this
theorem stored_fresh {K : Type} [DecidableEq K] : ∀ (ks acc : List (K × Value)), ((acc ++ ks).map (·.1)).Nodup → ks.foldl (fun acc e => stored acc e.1 e.2) acc = acc ++ ks
  | [], acc, _ => by simp
  | e :: r, acc, h => by
    have he : acc.any (fun x => decide (x.1 = e.1)) = false := by
      rw [List.any_eq_false]
      intro x hx hq
      have hq := of_decide_eq_true hq
      rw [List.map_append, List.nodup_append] at h
      exact h.2.2 x.1 (List.mem_map_of_mem hx) e.1 (by simp) hq
    rw [List.foldl_cons]
    have e1 : stored acc e.1 e.2 = acc ++ [e] := by
      unfold stored
      rw [if_neg (by rw [he]; decide)]
    rw [e1, stored_fresh r (acc ++ [e]) (by rw [List.append_assoc]; exact h)]
    simp
theorem W_dictPairs {K : Type} [DecidableEq K] {knd : KeyKind pw c.w K} {l : Addr} {vs : List Value} {n0 : Nat} {ks : List (K × Value)} (hA : A.handled = none) (hl : At c led l (seqObj "list" vs.toArray n0)) (hvl : vs.length = ks.length)
    (hks : ∀ (j : Nat) (e : K × Value), ks[j]? = some e → ∃ tp n key, vs[j]? = some (.ref tp) ∧ At c led tp (seqObj "tuple" [key, e.2].toArray n) ∧ knd.is e.1 key = true) (hz : ks.length ≤ 1000) (hn : (ks.map (·.1)).Nodup)
    {Q : Value → Frs → Led → Prop} (h : ∀ D oD ep, DOb knd ks ep oD → Q (.ref D) frs ((D, oD) :: led)) : W c A (call (.type "dict") [.ref l]) frs led Q := fun s S => by
  refine callType_codes (Q₁ := fun obj s₁ => obj = .ref s.heap.objs.size ∧ s₁ = { s with heap := s.heap.push { cls := .type "dict", data := .dict #[] } }) F.kt_called_dict (F.kt_typeCall_dict_1 _) F.entry_dict_init (kt_code_dict_new _ ⟨rfl, rfl⟩) ?_
  rintro obj s₁ ⟨rfl, rfl⟩
  have hnew : (s.heap.push { cls := .type "dict", data := .dict #[] }).DictOf knd s.heap.objs.size [] := Heap.DictOf.new s.heap
  refine exE2_2 (dofDOb hnew) fun oD ep ho hd => ?_
  have S1 : Sx c frs ((s.heap.objs.size, oD) :: led) { s with heap := s.heap.push { cls := .type "dict", data := .dict #[] } } := S.push (tk := s.toks) (Ka.of fun b o e => Heap.get?_push_of_some _ e) ho (Nat.le_refl _)
  refine ⟨hnew.typeIs, F.args_dict_init_2 _ _, ?_⟩
  unfold Builtin.«dict.__init__»
  refine wpAny_bind ?_
  unfold Builtin.Dict.selfAndRest
  refine wpAny_bind (wpAny_notOrdered_dict hnew.typeIs ?_)
  show wpAny _ _ (pure (s.heap.objs.size, [Value.ref l])) _ _ _
  refine wpAny_pure ?_
  show wpAny _ _ (Builtin.Dict.updateFrom "dict.__init__" s.heap.objs.size (.ref l) [] .none) _ _ _
  unfold Builtin.Dict.updateFrom
  have hl1 := S1.at hl.cons
  refine wpAny_bind (wpAny_typeOf (⟨_, hl1, rfl⟩ : Shared.TypeIs _ (.ref l) "list") ?_)
  refine bm_if_true (by decide) ?_
  refine wpAny_bind (keysQ_list hl1 hA fun h' tk hk => ?_)
  have S2 : Sx c frs ((s.heap.objs.size, oD) :: led) { s with heap := h', toks := tk } := S1.grow (Ka.of hk)
  refine bm_if_true rfl ?_
  refine wpAny_bind (wpAny_rule (wpAny_bind ((W_iterList (Q := fun v f l' => f = frs ∧ ∃ I, v = .ref I ∧ l' = (I, seqItObj "list_iterator" l 0) :: (s.heap.objs.size, oD) :: led) hl.cons fun I => ⟨rfl, I, rfl, rfl⟩).out S2 fun v s₃ f l' S3 e => ?_)))
  obtain ⟨rfl, I, rfl, rfl⟩ := e
  refine wpAny_pure ⟨plainId_quiet plain_dul _, ?_⟩
  show codeAny _ _ (.builtin "dict.update.loop" ⟨[_, _, .int ((0 : Nat) : Int) 0, .none], []⟩) _ _
  refine codeAny_mono (Wc_dictLoop (A := A.in1) (knd := knd) hA hl hvl hks hz ks.length 0 _ oD ep [] 0 (by exact om38) (Nat.zero_le _) ⟨rfl, rfl⟩ hd s₃ S3) fun r s₄ z => ?_
  obtain ⟨fl, f, l', rfl, S4, rfl, rfl, oD', ep', hd', rfl⟩ := z
  rw [List.drop_zero, stored_fresh ks [] (by simpa using hn)] at hd'
  exact ⟨rfl, _, _, S4, h _ _ _ hd'⟩
end
end
section
open PySem
open PySem.Sem (wp)
set_option maxRecDepth 100000

structure WalksZ (prog : Program) (w : World) (A : Around) (I S : Addr) (n : Nat) (P : Nat → Value → Prop) (St : Nat → Shared → Prop) (Fin : Shared → Prop) : Prop where
  frame : ∀ i (s : Shared) h' tk, St i s → s.toks ≤ tk → (∀ b, b ≠ S → ∀ o, s.heap.get? b = some o → h'.get? b = some o) → (∃ o, h'.get? S = some o) → St i { s with heap := h', toks := tk }
  item : ∀ i (s : Shared) (Q : Option Value → Shared → Prop) (E : Value → Shared → Prop), i < n → St i s →
    (∀ v s', P i v → St (i + 1) s' → s'.heap.get? S = s.heap.get? S → Q (some v) s') → wpAny (model prog w) A (pyNext (.ref I)) Q E s
  done : ∀ (s : Shared) (Q : Option Value → Shared → Prop) (E : Value → Shared → Prop), St n s → (∀ s', Fin s' → s'.heap.get? S = s.heap.get? S → Q none s') → wpAny (model prog w) A (pyNext (.ref I)) Q E s
  self : ∀ i (s : Shared) (Q : Value → Shared → Prop) (E : Value → Shared → Prop), St i s → Q (.ref I) s → wpAny (model prog w) A (pyIter (.ref I)) Q E s
  typ : ∀ i s, St i s → s.TypeIs (.ref I) "generator"

section
variable {prog : Program} {w : World} {A : Around} {R : Result → Shared → Prop} {I : Addr} {n : Nat} {P : Nat → Value → Prop} {St : Nat → Shared → Prop} {Fin : Shared → Prop}

theorem z_loop (S : Addr) (W : WalksZ prog w A.in1 I S n P St Fin) (hn : n ≤ sizeLine) (res : Value) :
    ∀ (k i : Nat) (s : Shared) (acc : Array Value) (c : Nat), n - i = k → i ≤ n → St i s → s.heap.get? S = some { cls := .type "list", dict := none, data := .seq acc c, slots := #[] } → ItemsOf P acc i →
    (∀ s' acc' c', Fin s' → s'.heap.get? S = some { cls := .type "list", dict := none, data := .seq acc' c', slots := #[] } → ItemsOf P acc' n → R (.ok (.ret res)) s') →
    codeAny (model prog w) A (.builtin "list.extend.loop" ⟨[.ref S, .ref I, res], []⟩) R s := by
  intro k
  induction k with
  | zero =>
    intro i s acc c hk hi hst hS hacc hR
    have hin : i = n := by omega
    subst hin
    refine codeAny_builtin F.entry_extend_loop ?_
    rw [Around.under_plainId F.plain_extend_loop _]
    show wpAny _ A.in1 (pyNext (.ref I) >>= _) _ _ s
    refine wpAny_bind (W.done s _ _ hst fun s' hm e => ?_)
    exact wpAny_pure (hR s' acc c hm (e.trans hS) hacc)
  | succ k ih =>
    intro i s acc c hk hi hst hS hacc hR
    have hlt : i < n := by omega
    refine codeAny_builtin F.entry_extend_loop ?_
    rw [Around.under_plainId F.plain_extend_loop _]
    show wpAny _ A.in1 (pyNext (.ref I) >>= _) _ _ s
    refine wpAny_bind (W.item i s _ _ hlt hst fun v s' hP hst' hm => ?_)
    have hS' := hm.trans hS
    show wpAny _ A.in1 (updateSeq S (·.push v) >>= _) _ _ _
    refine wpAny_bind ?_
    refine wpAny_updateSeq hS' rfl (wpAny_pure ⟨plainId_quiet F.plain_extend_loop _, ih (i + 1) _ (acc.push v) _ (by omega) hlt (W.frame _ s' _ s'.toks hst' (Nat.le_refl _) (fun b hb o e => ?_) ⟨_, Heap.get?_update_self _ hS' rfl⟩) (Heap.get?_update_self _ hS' rfl) (hacc.push hP) fun s'' acc' c' hm'' hS'' hacc' => ?_⟩)
      (by rw [hacc.1]; omega) (by show (acc.push v).size ≤ sizeLine + 1; rw [Array.size_push, hacc.1]; omega)
    · exact (Heap.get?_update_other _ _ (Ne.symm hb)).trans e
    · with_reducible exact hR s'' acc' c' hm'' hS'' hacc'

theorem z_extend (S : Addr) (W : WalksZ prog w A.in1 I S n P St Fin) (hSI : S ≠ I) (res : Value) (c₀ : Nat) {s : Shared} (hst : St 0 s)
    (hS : s.heap.get? S = some { cls := .type "list", data := .seq #[] c₀ })
    (hR : ∀ s' acc' c', Fin s' → s'.heap.get? S = some { cls := .type "list", dict := none, data := .seq acc' c', slots := #[] } → ItemsOf P acc' n → R (.ok (.ret res)) s') (hn : n ≤ sizeLine) :
    wpAny (model prog w) A.in1 (Builtin.List.listExtendWith (.ref S) (.ref I) res)
      (fun fin s' => match fin with | .done f => R (.ok f) s' | .again c' => c'.quiet = true ∧ codeAny (model prog w) A c' R s') (fun e s' => R (.error e) s') s := by
  unfold Builtin.List.listExtendWith
  refine wpAny_bind (wpAny_typeOf (W.typ 0 _ hst) ?_)
  have h1 : Builtin.List.listSameRef (.ref S) (.ref I) = false := by simp [Builtin.List.listSameRef, hSI]
  have h2 : (Value.type "generator" == Value.type "list") = false := by decide
  have h3 : (Value.type "generator" == Value.type "tuple") = false := by decide
  simp only [h1, h2, h3, Bool.or_false, Bool.false_eq_true, if_false]
  refine wpAny_bind (W.self 0 _ _ _ hst ?_)
  refine wpAny_bind (wpAny_holding ?_)
  unfold Builtin.List.listLengthHint
  refine wpAny_bind (wpAny_specialOf (W.typ 0 _ hst) F.gen_no_len ?_)
  show wpAny _ A.in1 (specialOf (Value.ref I) (Str.ofString "__length_hint__") >>= _) _ _ _
  refine wpAny_bind (wpAny_specialOf (W.typ 0 _ hst) F.gen_no_hint ?_)
  refine wpAny_pure ?_
  show wpAny _ A.in1 (rule "list.extend.makes-room" >>= fun _ => Builtin.List.listTouch (.ref S) >>= fun _ =>
    again (.builtin "list.extend.loop" ⟨[.ref S, .ref I, res], []⟩)) _ _ _
  refine wpAny_bind (wpAny_rule ?_)
  refine wpAny_bind ?_
  show wpAny _ A.in1 (updateSeq S (·.push .none) >>= fun _ => updateSeq S (·.pop)) _ _ _
  refine wpAny_bind (wpAny_updateSeq hS rfl ?_)
  have hS₂ := Heap.get?_update_self (Obj.mapSeq (·.push Value.none)) hS rfl
  refine wpAny_updateSeq (hz := by seq_fits) hS₂ rfl ?_
  have hS₃ := Heap.get?_update_self (Obj.mapSeq (·.pop)) hS₂ rfl
  have oth : ∀ b, b ≠ S → ∀ o, s.heap.get? b = some o → ((s.heap.update S (Obj.mapSeq (·.push Value.none))).update S (Obj.mapSeq (·.pop))).get? b = some o :=
    fun b hb o e => (Heap.get?_update_other _ _ (Ne.symm hb)).trans ((Heap.get?_update_other _ _ (Ne.symm hb)).trans e)
  refine wpAny_pure ⟨plainId_quiet F.plain_extend_loop _, z_loop S W hn _ n 0 _ _ _ rfl (Nat.zero_le _)
    (W.frame 0 s _ s.toks hst (Nat.le_refl _) oth ⟨_, hS₃⟩) hS₃ (ItemsOf.nil P) fun s' acc' c' hm hS' hacc => ?_⟩
  with_reducible exact hR s' acc' c' hm hS' hacc

theorem z_init (S : Addr) (W : WalksZ prog w A.in1 I S n P St Fin) (hSI : S ≠ I) {s : Shared} (hst : St 0 s)
    (hS : s.heap.get? S = some { cls := .type "list", data := .seq #[] })
    (hR : ∀ s' acc' c', Fin s' → s'.heap.get? S = some { cls := .type "list", dict := none, data := .seq acc' c', slots := #[] } → ItemsOf P acc' n → R (.ok (.ret .none)) s') (hn : n ≤ sizeLine) :
    wpAny (model prog w) A.in1 (Builtin.«list.__init__» ⟨[.ref S, .ref I], []⟩)
      (fun fin s' => match fin with | .done f => R (.ok f) s' | .again c' => c'.quiet = true ∧ codeAny (model prog w) A c' R s') (fun e s' => R (.error e) s') s := by
  show wpAny _ A.in1 (do let old ← Builtin.List.listItems (.ref S); Builtin.List.listUpdate (.ref S) (fun _ => #[]); letGo old.toList.reverse; Builtin.List.listExtendWith (.ref S) (.ref I) .none) _ _ s
  refine wpAny_bind ?_
  unfold Builtin.List.listItems
  refine wpAny_bind (wpAny_seqItems hS rfl (wpAny_pure ?_))
  show wpAny _ A.in1 (updateSeq S (fun _ => #[]) >>= fun _ => letGo (#[] : Array Value).toList.reverse >>= fun _ => Builtin.List.listExtendWith (.ref S) (.ref I) .none) _ _ s
  refine wpAny_bind (wpAny_updateSeq hS rfl ?_)
  have hS₂ := Heap.get?_update_self (Obj.mapSeq (fun _ => (#[] : Array Value))) hS rfl
  have oth : ∀ b, b ≠ S → ∀ o, s.heap.get? b = some o → (s.heap.update S (Obj.mapSeq (fun _ => (#[] : Array Value)))).get? b = some o :=
    fun b hb o e => (Heap.get?_update_other _ _ (Ne.symm hb)).trans e
  refine wpAny_bind (wpAny_letGo ?_)
  exact z_extend S W hSI .none _ (W.frame 0 s _ s.toks hst (Nat.le_refl _) oth ⟨_, hS₂⟩) hS₂ hR hn
end

section
variable {prog : Program} {w : World} {A : Around} {E : Value → Shared → Prop} {s : Shared}
variable {I : Addr} {n : Nat} {P : Nat → Value → Prop} {St : Nat → Shared → Prop} {Fin : Shared → Prop}

theorem z_list {Q : Value → Shared → Prop} (W : WalksZ prog w A.in1.in1 I s.heap.objs.size n P St Fin) (hI : I ≠ s.heap.objs.size) (hst : St 0 { s with heap := s.heap.push { cls := .type "list", data := .seq #[] } })
    (hQ : ∀ s' acc' c', Fin s' → s'.heap.get? s.heap.objs.size = some { cls := .type "list", dict := none, data := .seq acc' c', slots := #[] } → ItemsOf P acc' n → Q (.ref s.heap.objs.size) s') (hn : n ≤ sizeLine) :
    wpAny (model prog w) A (call (.type "list") [.ref I]) Q E s := by
  refine callType_codes (Q₁ := fun obj s₁ => obj = .ref s.heap.objs.size ∧ s₁ = { s with heap := s.heap.push { cls := .type "list", data := .seq #[] } }) F.called_list (F.typeCall_list_1 _) F.entry_list_init
    (code_list_new _ ⟨rfl, rfl⟩) fun obj s₁ h₁ => ?_
  obtain ⟨rfl, rfl⟩ := h₁
  have hS : (s.heap.push { cls := .type "list", data := .seq #[] }).get? s.heap.objs.size = some { cls := .type "list", data := .seq #[] } := Heap.get?_push_size _ rfl
  refine ⟨⟨_, hS, rfl⟩, F.args_list_init_2 _ _, z_init _ W (Ne.symm hI) hst hS (fun s' acc' c' hm hS' hacc => ?_) hn⟩
  exact ⟨rfl, hQ s' acc' c' hm hS' hacc⟩
end
end
section
open PySem
open PySem.Sem (wp)
set_option maxRecDepth 100000

def gP (c : Cx) (S : Addr) (B : Addr × Obj) (n : Nat) (s₀ s' : Shared) : Prop := n = 0 ∧ ∃ frs led oS, B ∈ led ∧ s₀.heap.get? S = some oS ∧ Sx c frs (led ++ [(S, oS)]) s'
def gY (c : Cx) (S : Addr) (B : Addr × Obj) (PV : Nat → Value → Prop) (N : Nat) : Protocol := fun m s₀ v s' kap =>
  PV (N - 1 - m) v ∧ ∃ frs led oS, B ∈ led ∧ s₀.heap.get? S = some oS ∧ Sx c frs (led ++ [(S, oS)]) s' ∧ ∀ s'' oS', Sx c frs (led ++ [(S, oS')]) s'' → kap (.send .none) s''
def Gz (c : Cx) (A : Around) (S : Addr) (B : Addr × Obj) (PV : Nat → Value → Prop) (N n : Nat) (code : Code) (t : Sem Fin) (fs : List Frame) (frs : Frs) (led : Led) : Prop :=
  ∀ s₀ s oS, s₀.heap.get? S = some oS → Sx c frs (led ++ [(S, oS)]) s → Seg (model pw c.w) A (fun n s₀ r s' => r = .ok (.ret .none) ∧ gP c S B n s₀ s') (gY c S B PV N) n s₀ code t fs s

theorem Sx.last {c : Cx} {frs : Frs} {led : Led} {S : Addr} {oS : Obj} {s : Shared} (X : Sx c frs (led ++ [(S, oS)]) s) : s.heap.get? S = some oS :=
  X.ld (S, oS) (by simp)

section
variable {α : Type} {c : Cx} {A : Around} {S : Addr} {B : Addr × Obj} {PV : Nat → Value → Prop} {N n : Nat} {code : Code} {fs : List Frame} {frs : Frs} {led : Led} {env : Env}
  {K : Flow → Sem Fin} {H : Value → Sem Fin} {gd : Bool → Bool} {lv : List Value → List Value}

theorem Gz_wrap {m : Sem α} {K : α → Sem Fin} (h : ∀ oS, W c (A.over code fs) m frs (led ++ [(S, oS)]) (fun a f l => ∃ l', l = l' ++ [(S, oS)] ∧ Gz c A S B PV N n code (K a) fs f l')) :
    Gz c A S B PV N n code (m.wrap K H gd lv) fs frs led := fun s₀ s oS e X =>
  seg_wrap (wpAny_mono (h oS s X) (fun _ s' ⟨_, _, X', _, el, q⟩ => q s₀ s' oS e (el ▸ X')) (fun _ _ x => x.elim))

theorem Gz_nil (h : Gz c A S B PV N n code (K .next) fs frs led) : Gz c A S B PV N n code ((execs [] env).wrap K H gd lv) fs frs led := fun s₀ s oS e X => seg_execs_nil (h s₀ s oS e X)
theorem Gz_cons {st : Stmt} {rest : List Stmt}
    (h : Gz c A S B PV N n code ((exec st env).wrap (fun f => match f with | .next => (execs rest env).wrap K H gd lv | f => K f) H gd lv) fs frs led) :
    Gz c A S B PV N n code ((execs (st :: rest) env).wrap K H gd lv) fs frs led := fun s₀ s oS e X => seg_execs_cons (h s₀ s oS e X)

theorem Gz_yield {e : Expr} {ypos pos : Pos} (hfs : splitAtGen fs = none) (hgd : gd false = false) (hfg : fs.any Frame.guarded = false)
    (h : ∀ oS, W c (A.over code fs) (eval e env) frs (led ++ [(S, oS)]) (fun v f l => ∃ l', l = l' ++ [(S, oS)] ∧ B ∈ l' ∧ PV (N - 1 - n) v ∧ Gz c A S B PV N n code (K .next) fs f l'))
    (hco : env.scope.isCoroutine = false := by rfl) (hi : interactive env = false := by rfl) :
    Gz c A S B PV N (n + 1) code ((exec (.Expr (.Yield (some e) ypos) pos) env).wrap K H gd lv) fs frs led := fun s₀ s oS eS X =>
  seg_Expr_Yield hfs hgd hfg (wpAny_mono (h oS s X) (fun v s' ⟨f, l, X', l', el, hB, hv, q⟩ kap hk => by
    subst el
    exact ⟨hv, f, l', oS, hB, eS, X', fun s'' oS' X'' => hk .none s'' (q s'' s'' oS' X''.last X'')⟩) (fun _ _ x => x.elim)) hco hi

theorem Gz_end (frs) (led) (hB : B ∈ led) : Gz c A S B PV N 0 code (leafOf (.ok (.ret .none))) [] frs led := fun s₀ s oS e X =>
  seg_end _ ⟨rfl, rfl, frs, led, oS, hB, e, X⟩
theorem Gz_leaf {k h g l c₁ p₁ kp} (r : Result) (hk : Gz c A S B PV N n c₁ (k r) fs frs led) : Gz c A S B PV N n code (leafOf r) (.ret k h g l c₁ p₁ kp :: fs) frs led :=
  fun s₀ s oS e X => seg_leaf r (hk s₀ s oS e X)
theorem Gz_again {c' : Code} (hq : c'.quiet = true) (hc : Gz c A S B PV N n c' ((model pw c.w).den c') fs frs led) : Gz c A S B PV N n code (.pure (.again c')) fs frs led :=
  fun s₀ s oS e X => seg_again hq (hc s₀ s oS e X)
theorem Gz_at {p' : Pos} {k : Unit → Sem Fin} (h : Gz c A S B PV N n code (k ()) fs frs led) : Gz c A S B PV N n code (.at p' k) fs frs led := fun s₀ s oS e X => seg_at (h s₀ s oS e X)
theorem Gz_call {c' : Code} {h g l} {k : Result → Sem Fin} (hc : ∀ p, Gz c A S B PV N n c' ((model pw c.w).den c') (.ret k h g l code p [] :: fs) frs led) :
    Gz c A S B PV N n code (.call c' h g l k) fs frs led := fun s₀ s oS e X => seg_call fun p => hc p s₀ s oS e X
end
end
section
open PySem
open PySem.Sem (wp)
set_option maxRecDepth 100000
section
variable {α : Type} {c : Cx} {A : Around} {S : Addr} {B : Addr × Obj} {PV : Nat → Value → Prop} {N n : Nat} {code : Code} {fs : List Frame} {frs : Frs} {led : Led} {env : Env}
  {K : Flow → Sem Fin} {H : Value → Sem Fin} {gd : Bool → Bool} {lv : List Value → List Value}

def forK (env : Env) (K : Flow → Sem Fin) (H : Value → Sem Fin) (gd : Bool → Bool) (lv : List Value → List Value) (r : Result) : Sem Fin :=
  ((match r with | .ok f => (.pure f : Sem Flow) | .error e => .raise e).onRaise fun (x : Value) => do
        if (← field x 1) == Value.none then unsupported "frame.own-activation:exception-without-traceback"
        setFlight x env.frame).wrap K H gd lv

theorem Gz_For {target iter : Expr} {body : List Stmt} {pos : Pos} (hs : ∀ x, foldedSetIterable iter env x = pure x)
    (h : ∀ oS, W c (A.over code fs) (eval iter env) frs (led ++ [(S, oS)]) fun x f l => ∃ l', l = l' ++ [(S, oS)] ∧ ∀ oS, W c (A.over code fs) (pyIter x) f (l' ++ [(S, oS)]) fun it f l => ∃ l', l = l' ++ [(S, oS)] ∧
      ∀ p, Gz c A S B PV N n (.forLoop target it body [] env) ((model pw c.w).den (.forLoop target it body [] env)) (.ret (forK env K H gd lv) none (gd false) (lv []) code p [] :: fs) f l') :
    Gz c A S B PV N n code ((exec (.For target iter body [] pos) env).wrap K H gd lv) fs frs led := by
  rw [exec_For]
  refine Gz_at ?_
  show Gz c A S B PV N n code ((eval iter env >>= fun x => foldedSetIterable iter env x >>= fun x => standAt iter.pos >>= fun _ => holding [x] (pyIter x) >>= fun it => runOwn (.forLoop target it body [] env) env).wrap K H gd lv) fs frs led
  rw [Sem.bind_eq_wrap', Sem.wrap_wrap]
  with_reducible refine' Gz_wrap fun oS => W_mono (h oS) fun x f l q => ?_
  obtain ⟨l', rfl, q⟩ := q
  refine ⟨l', rfl, ?_⟩
  rw [hs]
  show Gz c A S B PV N n code (.at iter.pos fun _ => (holding [x] (pyIter x) >>= fun it => runOwn (.forLoop target it body [] env) env).wrap K H gd lv) fs f l'
  with_reducible refine' Gz_at ?_
  rw [Sem.bind_eq_wrap', Sem.wrap_wrap]
  with_reducible refine' Gz_wrap fun oS => W_holding (W_mono (q oS) fun it f l q => ?_)
  obtain ⟨l', rfl, q⟩ := q
  refine ⟨l', rfl, ?_⟩
  exact Gz_call q

theorem Gz_forLoop {target : Expr} {it : Value} {body : List Stmt}
    (h : ∀ oS, W c (A.over (.forLoop target it body [] env) fs) (pyNext it) frs (led ++ [(S, oS)]) fun r f l => match r with
      | none => ∃ l', l = l' ++ [(S, oS)] ∧ ∀ code, Gz c A S B PV N n code (leafOf (.ok .next)) fs f l'
      | some v => ∃ l', l = l' ++ [(S, oS)] ∧ ∀ oS, W c (A.over (.forLoop target it body [] env) fs) (letOwnedTupleGo target it v >>= fun _ => assign target env v) f (l' ++ [(S, oS)]) fun _ f l =>
        ∃ l', l = l' ++ [(S, oS)] ∧ ∀ H', Gz c A S B PV N n (.forLoop target it body [] env) ((execs body env).wrap (fun f => match f with
            | .next | .cont => .pure (.again (.forLoop target it body [] env))
            | .brk => .pure (.done .next)
            | .ret v => .pure (.done (.ret v))) H' id id) fs f l') :
    Gz c A S B PV N n (.forLoop target it body [] env) ((model pw c.w).den (.forLoop target it body [] env)) fs frs led := by
  show Gz c A S B PV N n _ ((forTurn target it body [] env).onRaise (fun x => do noteFrame x env; theTreesLotGoes x)) fs frs led
  rw [Sem.onRaise_eq_wrap]
  show Gz c A S B PV N n _ (.at target.pos fun _ => (((pyNext it).onRaise (fun _ => standAt { target.pos with line := 0 })) >>= fun r => match r with
    | none => again (.block [] env)
    | some v => letOwnedTupleGo target it v >>= fun _ => assign target env v >>= fun _ => execs body env >>= fun f => match f with
      | .next | .cont => again (.forLoop target it body [] env)
      | .brk => pure (.done .next)
      | .ret v => pure (.done (.ret v))).wrap _ _ _ _) fs frs led
  with_reducible refine' Gz_at ?_
  rw [Sem.bind_eq_wrap', Sem.onRaise_eq_wrap, Sem.wrap_wrap, Sem.wrap_wrap]
  with_reducible refine' Gz_wrap fun oS => W_mono (h oS) fun r f l q => ?_
  cases r with
  | none =>
    obtain ⟨l', rfl, q⟩ := q
    exact ⟨l', rfl, Gz_again (by rfl) (q _)⟩
  | some v =>
    obtain ⟨l', rfl, q⟩ := q
    refine ⟨l', rfl, ?_⟩
    have e : ∀ (K' : Flow → Sem Fin) (H' : Value → Sem Fin) , ((letOwnedTupleGo target it v >>= fun _ => assign target env v >>= fun _ => execs body env >>= K').wrap .pure H' id id) =
        (letOwnedTupleGo target it v >>= fun _ => assign target env v).wrap (fun _ => (execs body env).wrap (fun f => (K' f).wrap .pure H' id id) H' id id) H' id id := by
      intro K' H'
      simp only [Sem.bind_eq_wrap', Sem.wrap_wrap]
      rfl
    show Gz c A S B PV N n _ ((letOwnedTupleGo target it v >>= fun _ => assign target env v >>= fun _ => execs body env >>= fun f => match f with
      | .next | .cont => again (.forLoop target it body [] env)
      | .brk => pure (.done .next)
      | .ret v => pure (.done (.ret v))).wrap _ _ _ _) fs f l'
    rw [e]
    with_reducible refine' Gz_wrap fun oS => W_mono (q oS) fun _ f l q => ?_
    obtain ⟨l', rfl, q⟩ := q
    refine ⟨l', rfl, ?_⟩
    rw [Sem.wrap_congr (execs body env) _ _ (K' := fun f => match f with
            | .next | .cont => .pure (.again (.forLoop target it body [] env))
            | .brk => .pure (.done .next)
            | .ret v => .pure (.done (.ret v))) (fun f => by cases f <;> rfl) (fun _ => rfl)]
    exact q _
end
end
section
open PySem
open PySem.Sem (wp)
set_option maxRecDepth 100000
section
variable {α : Type} {c : Cx} {A : Around} {S : Addr} {B : Addr × Obj} {PV : Nat → Value → Prop} {N n : Nat} {code : Code} {fs : List Frame} {frs : Frs} {led : Led} {env : Env}
  {K : Flow → Sem Fin} {H : Value → Sem Fin} {gd : Bool → Bool} {lv : List Value → List Value}

/-- a statement that yields nothing, by the W rules -/
theorem Gz_st {st : Stmt} (h : ∀ oS, W c (A.over code fs) (exec st env) frs (led ++ [(S, oS)]) fun fl f l => ∃ l', l = l' ++ [(S, oS)] ∧ Gz c A S B PV N n code (K fl) fs f l') :
    Gz c A S B PV N n code ((exec st env).wrap K H gd lv) fs frs led := Gz_wrap h

theorem Gz_If {test : Expr} {body orelse : List Stmt} {pos : Pos}
    (h : ∀ oS, W c (A.over code fs) (isTrue test env (eval test env)) frs (led ++ [(S, oS)]) fun b f l => ∃ l', l = l' ++ [(S, oS)] ∧
      (b = true → Gz c A S B PV N n code ((execs body env).wrap K H gd lv) fs f l') ∧ (b = false → Gz c A S B PV N n code ((execs orelse env).wrap K H gd lv) fs f l')) :
    Gz c A S B PV N n code ((exec (.If test body orelse pos) env).wrap K H gd lv) fs frs led := by
  rw [exec_If]
  refine Gz_at ?_
  show Gz c A S B PV N n code ((isTrue test env (eval test env) >>= fun b => if b then execs body env else execs orelse env).wrap K H gd lv) fs frs led
  rw [Sem.bind_eq_wrap', Sem.wrap_wrap]
  with_reducible refine' Gz_wrap fun oS => W_mono (h oS) fun b f l q => ?_
  obtain ⟨l', rfl, q1, q2⟩ := q
  refine ⟨l', rfl, ?_⟩
  cases b with
  | true => exact q1 rfl
  | false => exact q2 rfl

theorem Gz_func {body : List Stmt}
    (h : ∀ H', Gz c A S B PV N n (.func body env) ((execs body env).wrap (fun f => .pure (.done (.ret (match f with | .ret v => v | _ => .none)))) H' id id) fs frs led) :
    Gz c A S B PV N n (.func body env) ((model pw c.w).den (.func body env)) fs frs led := fun s₀ s oS e X => seg_func (h _ s₀ s oS e X)

theorem Gz_Assign {st : Stmt} {rest : List Stmt}
    (h : ∀ oS, W c (A.over code fs) (exec st env) frs (led ++ [(S, oS)]) fun fl f l => fl = .next ∧ ∃ l', l = l' ++ [(S, oS)] ∧ Gz c A S B PV N n code ((execs rest env).wrap K H gd lv) fs f l') :
    Gz c A S B PV N n code ((execs (st :: rest) env).wrap K H gd lv) fs frs led :=
  Gz_cons (Gz_wrap fun oS => W_mono (h oS) fun fl f l ⟨e, l', el, q⟩ => ⟨l', el, by subst e; exact q⟩)
end
end
section
open PySem
open PySem.Sem (wp)
set_option maxRecDepth 100000
section
variable {prog : Program} {w : World} {A : Around} {E : Value → Shared → Prop} {s : Shared}

/-- `next` of a generator function's object, by the rule that tells that the state stays bare -/
theorem pyNext_genQ {a : Addr} {g n : Nat} {gs : GenState} {P : Nat → Shared → Shared → Prop} {Y : Protocol} {Q : Option Value → Shared → Prop} (hh : A.handled = none)
    (hl : s.heap.NoLimit) (hroom : A.depth < recursionLimit)
    (hg : s.heap.IsGen a g) (hgs : s.gens[g]? = some gs)
    (hgo : gs.Goes (model prog w) A.in1 (fun n s₀ r s₁ => r = .ok (.ret .none) ∧ P n s₀ s₁) Y n (.send .none) (s.setGen g .running))
    (hY : ∀ v s₁ gs', gs'.bare = true → Y (n - 1) (s.setGen g .running) v s₁ (fun r' s'' => match n with
        | 0 => False
        | m + 1 => gs'.Goes (model prog w) A.in1 (fun n s₀ r s₁ => r = .ok (.ret .none) ∧ P n s₀ s₁) Y m r' s'') → Q (some v) (s₁.setGen g gs'))
    (hP : ∀ s₁, P n (s.setGen g .running) s₁ → ∀ h', (∀ b o, s₁.heap.get? b = some o → h'.get? b = some o) → Q none { s₁.setGen g .finished with heap := h' }) :
    wpAny (model prog w) A (pyNext (.ref a)) Q E s := by
  unfold pyNext
  refine wpAny_bind (wpAny_attempt (wpAny_callSpecial?_slot (name := Str.ofString "__next__") hg.typeIs slot_gen_next
    (wpAny_call_entry slot_gen_next hg.typeIs entry_gen_next ?_ (args_gen_next _))))
  show wpAny _ A.in1 (Builtin.Generator.genWake (.ref a) (.send .none)) _ _ s
  unfold Builtin.Generator.genWake
  refine wpAny_bind (wpAny_holding (wpAny_genNumber hg (wpAny_bind (wpAny_genState hgs ?_))))
  cases gs with
  | running => exact hgo.elim
  | finished => exact hgo.elim
  | _ =>
    refine wpAny_bind (wpAny_roomToWake hl hroom ?_)
    show wpAny _ A.in1 (.resume g (.send .none) [] _) _ _ s
    refine wpAny_resumeQ hgs hgo (fun x s₁ hx => ?_) (fun v s₁ gs' hb hv => ?_)
    · obtain ⟨rfl, hp⟩ := hx
      show wpAny _ A.in1 (newExc (.type "StopIteration") [] >>= _) _ _ _
      refine wpAny_bind ?_
      simp only [newExc, newTuple]
      refine wpAny_bind (wpAny_newObj_type ?_ (by size_fits))
      refine wpAny_bind (m := firstArgMember _ _) (wpAny_of_eq (a := Value.none) (by first | rfl | (simp only [firstArgMember]; rfl)) ?_)
      refine wpAny_newObj_type ?_ (by size_fits)
      simp only [raiseNew]
      refine wpAny_bind (wpAny_bind (wpAny_handled ?_))
      first | rw [show A.in1.handled = none from hh] | rw [hh]
      refine wpAny_throw ?_
      refine wpAny_bind (wpAny_isInstance (T := "StopIteration") (b := true) ⟨_, Heap.get?_push_size _ rfl, rfl⟩ isSubtype_stop ?_)
      exact wpAny_pure (hP s₁ hp _ fun b o hb => Heap.get?_push_of_some _ (Heap.get?_push_of_some _ hb))
    · exact wpAny_pure ⟨v, rfl, wpAny_pure (hY v s₁ gs' hb hv)⟩
end
end
section
open PySem
open PySem.Sem (wp)
set_option maxRecDepth 100000
section
variable {c : Cx} {A : Around} {S g I : Addr} {oI : Obj} {PV : Nat → Value → Prop} {N : Nat}

def GenO (g : Nat) (o : Obj) : Prop := ∃ nm qn, o.cls = .type "generator" ∧ o.data = .fields #[.int g 0, nm, qn] ∧ o.slots = #[]
theorem GenO.is {g : Nat} {o : Obj} {h : Heap} {I : Addr} (x : GenO g o) (e : h.get? I = some o) : h.IsGen I g := let ⟨nm, qn, a, b, d⟩ := x; ⟨o, nm, qn, e, a, b, d⟩
inductive gSt (c : Cx) (A : Around) (S g : Addr) (B : Addr × Obj) (PV : Nat → Value → Prop) (N i : Nat) (s : Shared) : Prop
  | mk (gs : GenState) (frs : Frs) (led : Led) (oS : Obj) (e : s.gens[g]? = some gs) (b : gs.bare = true) (hi : i ≤ N) (e2 : s.heap.get? S = some oS) (hB : B ∈ led) (X : Sx c frs (led ++ [(S, oS)]) (s.setGen g .running))
    (z : ∀ s'' oS', Sx c frs (led ++ [(S, oS')]) s'' → gs.Goes (model pw c.w) A.in1 (fun n s₀ r s₁ => r = .ok (.ret .none) ∧ gP c S B n s₀ s₁) (gY c S B PV N) (N - i) (.send .none) s'')
inductive gFin (c : Cx) (S g : Addr) (s' : Shared) : Prop
  | mk (s₁ : Shared) (h' : Heap) (frs : Frs) (led : Led) (oS : Obj) (X : Sx c frs (led ++ [(S, oS)]) s₁) (r : s₁.gens[g]? = some .running) (k : ∀ b o, s₁.heap.get? b = some o → h'.get? b = some o) (e : s' = { s₁.setGen g .finished with heap := h' })

theorem up_last {S : Addr} {oS oS' : Obj} : ∀ led : Led, Up S oS oS' (led ++ [(S, oS)]) (led ++ [(S, oS')])
  | [] => .head
  | _ :: r => .tail (up_last r)

theorem Sx.othS {frs : Frs} {led : Led} {oS oS' : Obj} {s : Shared} {h' : Heap} {tk : Nat} (X : Sx c frs (led ++ [(S, oS)]) s)
    (hk : ∀ b, b ≠ S → ∀ o, s.heap.get? b = some o → h'.get? b = some o) (hS : h'.get? S = some oS') : Sx c frs (led ++ [(S, oS')]) { s with heap := h', toks := tk } :=
  X.upd (up_last led) (fun b ob hb e => hk b hb ob e) hS

theorem walksZ_of (hh : A.handled = none) (hroom : A.depth < recursionLimit) (hrun : c.gens[g]? = some .running) (hI : GenO g oI) (hlim : ∀ h, Kp c.base h → h.NoLimit) :
    WalksZ pw c.w A I S N PV (gSt c A S g (I, oI) PV N) (gFin c S g) where
  frame := by
    rintro i s h' tk ⟨gs, frs, led, oS, h1, h2, h3, h4, hB, X, h5⟩ htk hk ⟨oS', hS'⟩
    exact ⟨gs, frs, led, oS', h1, h2, h3, hS', hB, X.othS hk hS', h5⟩
  item := by
    rintro i s Q E hi ⟨gs, frs, led, oS, h1, h2, h3, h4, hB, X, h5⟩ hQ
    refine pyNext_genQ hh (hlim _ X.keep) hroom (hI.is (X.ld _ (List.mem_append_left _ hB))) h1 (h5 _ _ X) (fun v s₁ gs' hb hY => ?_) (fun s₁ hP => ?_)
    · obtain ⟨hv, frs', led', oS', hB', e1, X', hk⟩ := hY
      have e0 : oS' = oS := Option.some.inj (e1.symm.trans h4)
      subst e0
      obtain ⟨m, hm⟩ : ∃ m, N - i = m + 1 := ⟨N - i - 1, by omega⟩
      have hrun' := X'.gens.1 g _ hrun
      refine hQ v _ (by rw [show N - 1 - (N - i - 1) = i by omega] at hv; exact hv) ⟨gs', frs', led', oS', ?_, hb, by omega, X'.last, hB', ?_, fun s'' oS'' X'' => ?_⟩ (X'.last.trans h4.symm)
      · have hlt := (Array.getElem?_eq_some_iff.mp hrun').1
        simp [Shared.setGen, hlt]
      · have hlt := (Array.getElem?_eq_some_iff.mp hrun').1
        have e : (s₁.setGen g gs').setGen g .running = s₁ := by
          obtain ⟨h, gn, d, t, os⟩ := s₁
          simp only [Shared.setGen] at hrun' hlt ⊢
          congr 1
          apply Array.ext
          · simp
          · intro j h1 h2
            have := (Array.getElem?_eq_some_iff.mp hrun').2
            by_cases hj : g = j
            · subst hj; simp_all
            · rw [Array.getElem_setIfInBounds, if_neg hj, Array.getElem_setIfInBounds, if_neg hj]
              simpa using h2
        rw [e]
        exact X'
      · have := hk s'' oS'' X''
        rw [hm] at this
        rw [show N - (i + 1) = m by omega]
        exact this
    · exact absurd hP.1 (by omega)
  done := by
    rintro s Q E ⟨gs, frs, led, oS, h1, h2, h3, h4, hB, X, h5⟩ hQ
    rw [Nat.sub_self] at h5
    refine pyNext_genQ hh (hlim _ X.keep) hroom (hI.is (X.ld _ (List.mem_append_left _ hB))) h1 (h5 _ _ X) (fun v s₁ gs' hb hY => ?_) (fun s₁ hP h' hk => ?_)
    · obtain ⟨hv, frs', led', oS', hB', e1, X', hk⟩ := hY
      exact (hk _ _ X').elim
    · obtain ⟨_, frs', led', oS', hB', e1, X'⟩ := hP
      exact hQ _ ⟨s₁, h', frs', led', oS', X', X'.gens.1 g _ hrun, hk, rfl⟩ ((hk _ _ X'.last).trans e1.symm)
  self := by
    rintro i s Q E ⟨gs, frs, led, oS, h1, h2, h3, h4, hB, X, h5⟩ hQ
    exact wpAny_pyIter_gen (hI.is (X.ld _ (List.mem_append_left _ hB))) hQ
  typ := by
    rintro i s ⟨gs, frs, led, oS, h1, h2, h3, h4, hB, X, h5⟩
    exact (hI.is (X.ld _ (List.mem_append_left _ hB))).typeIs
end
end
section
theorem AOk.overF {n : Nat} {A : Around} {body : List Stmt} {env : Env} (h : AOk (n + 1) A) : AOk n (A.over (.func body env) []) := by
  obtain ⟨h1, h2, h3, h4, l, h5⟩ := h
  refine ⟨h1, ?_, ?_, ?_, ⟨env :: l, ?_⟩⟩
  · unfold Around.over
    dsimp only
    rw [h2]; rfl
  · show A.depth + 0 + 1 + n ≤ 600
    exact om186 h3
  · show A.units + 0 + 3 + 4 * n ≤ 9000
    exact om187 h4
  · unfold Around.over
    dsimp only
    rw [h5]; rfl
theorem AOk.overL {n : Nat} {A : Around} {body b : List Stmt} {env : Env} {t : Expr} {it : Value} {k : Result → Sem Fin} {g : Bool} {l : List Value} {p : Pos} (h : AOk (n + 1) A) :
    AOk n (A.over (.forLoop t it b [] env) [.ret k none g l (.func body env) p []]) := by
  obtain ⟨h1, h2, h3, h4, l, h5⟩ := h
  refine ⟨?_, ?_, ?_, ?_, ⟨env :: l, ?_⟩⟩
  · show (marksOver _ (A.handled, A.handled)).1 = _
    rw [h1]; rfl
  · unfold Around.over
    dsimp only
    rw [h2]; rfl
  · show A.depth + (1 + 0) + 0 + n ≤ 600
    exact om188 h3
  · show A.units + (3 + 0) + 0 + 4 * n ≤ 9000
    exact om189 h4
  · unfold Around.over
    dsimp only
    rw [h5]; rfl
section
variable {c : Cx} {A : Around} {frs : Frs} {led : Led} {env : Env}
theorem raw_listGen {m : Loc} {N n : Nat} {F k : Addr} {oF : Obj} {params : Arguments} {body : List Stmt} {scope : Scope} {vals : List Value} {name doc pm an ct} {PV : Nat → Value → Prop} {Q : Value → Frs → Led → Prop}
    (hA : AOk (n + 5) A) (T : TopN c.base) (hkc : c.kc = some k) (hF : At c led F oF) (hd : oF.data = .func (fnX name selQ params body scope [] .none .none doc pm an (.ref k) ct))
    (hb : bindArgs (fnX name selQ params body scope [] .none .none doc pm an (.ref k) ct) ⟨vals, []⟩ = pure m)
    (hkind : ∀ x ∈ m, scope.names.lookup x.1 = some .local)
    (hco : scope.isCoroutine = false) (hgen : scope.isGenerator = true) (hsk : scope.kind = .function) (hcl : ∀ n, cellsFrom n scope.names [] = [])
    (hm : ∀ L cs, ∀ p ∈ m, bindL (envX selQ scope L F (.ref k) cs).kindOf m (fun _ => none) p.1 = some p.2) (hN : N ≤ sizeLine)
    (h : ∀ (c' : Cx) (L I S : Addr) (oI : Obj), c'.w = c.w → TopN c'.base → Kp c.base c'.base → (∀ a o, At c led a o → c'.base.get? a = some o ∧ a ≠ tabP) → ∀ A', AOk (n + 2) A' →
      Gz c' A' S (I, oI) PV N N (.func body (envX selQ scope L F (.ref k) [])) ((model pw c'.w).den (.func body (envX selQ scope L F (.ref k) []))) [] [(L, m)] [(I, oI)])
    (hQ : ∀ S items n', ItemsOf PV items N → Q (.ref S) frs ((S, seqObj "list" items n') :: led)) (s : Shared) (S : Sx c frs led s) :
    wpAny (model pw c.w) A (call (.ref F) vals) (fun v s' => wpAny (model pw c.w) A (call (.type "list") [v]) (fun v => Post c (Q v)) (fun _ _ => False) s') (fun _ _ => False) s := by
  have T' := T.kp S.keep
  with_reducible refine' exX1 S.tb fun kk TB => ?_
  have hkk := TB.pin k hkc
  subst hkk
  have hcode := TB.code k rfl
  obtain ⟨oc, vs, t, e2, d2, e3⟩ := hcode
  refine wpAny_call (codeAny_call_generator hA.room (S.at hF) hd hco hgen rfl ⟨k, oc, vs, t, rfl, e2, d2, e3⟩ ?_)
  rw [hb]
  refine wpAny_pure (wpAny_newFunctionEnv_cells hsk (fun x hx => .inl (hkind x hx)) fun env' he s₁ x => ?_)
  rw [show (cellsFrom (s.heap.objs.size + 1) (fnX name selQ params body scope [] .none .none doc pm an (.ref k) ct).scope.names []) = [] from hcl _] at he
  have he2 : env' = envX selQ scope s.heap.objs.size F (.ref k) [] := he
  subst he2
  refine ⟨T'.nolimit.keeps x.toInCall.keep, ?_⟩
  with_reducible refine' exE2_2 x.done fun h₁ tk e hk1 => ?_
  have hns := x.toInCall.ns
  subst e
  dsimp only at hns ⊢
  generalize hoI : ({ cls := .type "generator", data := .fields #[.int s.gens.size 0, .str (fnX name selQ params body scope [] .none .none doc pm an (.ref k) ct).name tk, .str (fnX name selQ params body scope [] .none .none doc pm an (.ref k) ct).qualname (tk + 1)] } : Obj) = oI
  have hG : GenO s.gens.size oI := by subst hoI; exact ⟨_, _, rfl, rfl, rfl⟩
  have hfr : oI.isFreed = false := by subst hoI; rfl
  clear hoI
  have hLlt : s.heap.objs.size < h₁.objs.size := hns.lt
  have hszP : (h₁.push oI).objs.size = h₁.objs.size + 1 := Heap.size_push ..
  have kP : Ka h₁ (h₁.push oI) := fun b o e => Heap.get?_push_of_some _ e
  have hI : (h₁.push oI).get? h₁.objs.size = some oI := Heap.get?_push_size _ hfr
  generalize (h₁.push oI) = h₂ at hszP kP hI ⊢
  have kL : Ka h₂ (h₂.push (seqObj "list" #[] 0)) := fun b o e => Heap.get?_push_of_some _ e
  have hS : (h₂.push (seqObj "list" #[] 0)).get? h₂.objs.size = some (seqObj "list" #[] 0) := Heap.get?_push_size _ rfl
  have habove : ∀ a ∈ addrs [(s.heap.objs.size, m)] ([(h₁.objs.size, oI)] ++ [(h₂.objs.size, seqObj "list" #[] 0)]), s.heap.objs.size ≤ a := by
    intro a ha
    unfold addrs at ha
    simp only [List.map_cons, List.map_nil, List.cons_append, List.nil_append, List.mem_cons, List.not_mem_nil, or_false] at ha
    unfold Addr at *
    exact om190 hLlt hszP ha
  have hgl : ((s.gens.push (.fresh (.func body (envX selQ scope s.heap.objs.size F (.ref k) [])))).setIfInBounds s.gens.size .running)[s.gens.size]? = some .running := by simp
  let c' : Cx := ⟨c.w, s.heap, (s.gens.push (.fresh (.func body (envX selQ scope s.heap.objs.size F (.ref k) [])))).setIfInBounds s.gens.size .running, s.drawn, s.os, c.kc⟩
  have X : ∀ tk', Sx c' [(s.heap.objs.size, m)] ([(h₁.objs.size, oI)] ++ [(h₂.objs.size, seqObj "list" #[] 0)]) ⟨h₂.push (seqObj "list" #[] 0), (s.gens.push (.fresh (.func body (envX selQ scope s.heap.objs.size F (.ref k) [])))).setIfInBounds s.gens.size .running, s.drawn, tk', s.os⟩ := by
    intro tk'
    refine ⟨fun b o _ e => kL _ _ (kP _ _ (hk1 _ _ e)), fun f hf => ?_, fun p hp => ?_, ?_, habove, ?_, S.tbIn (fun b o e => kL _ _ (kP _ _ (hk1 _ _ e))) habove, GensOk.refl _, rfl, rfl, by simp⟩
    · rw [List.mem_singleton.mp hf]
      obtain ⟨o, es, ep, e, r⟩ := hns
      exact ⟨_, ⟨o, es, ep, kL _ _ (kP _ _ e), r⟩, hm _ _⟩
    · rcases List.mem_cons.mp hp with rfl | hp
      · exact kL _ _ hI
      · rw [List.mem_singleton.mp hp]; exact hS
    · unfold addrs
      simp only [List.map_cons, List.map_nil, List.cons_append, List.nil_append, List.nodup_cons, List.mem_cons, List.not_mem_nil, or_false, not_or, List.nodup_nil, and_true, not_false_eq_true]
      unfold Addr at *
      exact om191 hLlt hszP
    · have := S.tab
      have := S.sz
      show tabP < s.heap.objs.size
      unfold Addr at *
      exact om22 (by assumption) this
  have hA2 : AOk (n + 3) A.in1.in1 := hA.in1.in1
  refine z_list (n := N) (P := PV) (St := gSt c' A.in1.in1 h₂.objs.size s.gens.size (h₁.objs.size, oI) PV N) (Fin := gFin c' h₂.objs.size s.gens.size) (walksZ_of (c := c') (S := h₂.objs.size) hA2.handled hA2.room hgl hG fun h hk => (T'.kp hk).nolimit) (by show h₁.objs.size ≠ h₂.objs.size; exact om192 hszP) ?_ ?_ hN
  · refine ⟨.fresh (.func body (envX selQ scope s.heap.objs.size F (.ref k) [])), [(s.heap.objs.size, m)], [(h₁.objs.size, oI)], seqObj "list" #[] 0, by simp, rfl, Nat.zero_le _, hS, List.mem_singleton.mpr rfl, X _, fun s'' oS' X'' => ⟨rfl, ?_⟩⟩
    exact h c' s.heap.objs.size h₁.objs.size h₂.objs.size oI rfl T' S.keep (fun a o ha => ⟨S.at ha, ha.ne S⟩) A.in1.in1.in1 hA2.in1 s'' s'' oS' X''.last X''
  · intro s' acc' c'' hfin hget hit
    obtain ⟨s₂, h', frs', led', oS, Z, hrun, hk', rfl⟩ := hfin
    have hgr : GensOk c.gens (s₂.setGen s.gens.size .finished).gens := by
      refine ⟨fun i st e => ?_, fun hb => ?_⟩
      · have e1 := S.gens.1 i st e
        have hi : i < s.gens.size := (Array.getElem?_eq_some_iff.mp e1).1
        have e2 : c'.gens[i]? = some st := by
          show ((s.gens.push _).setIfInBounds s.gens.size .running)[i]? = some st
          rw [Array.getElem?_setIfInBounds_ne (by exact om49 hi), Array.getElem?_push_lt hi]
          rw [Array.getElem?_eq_getElem hi] at e1
          exact e1
        have e3 := Z.gens.1 i st e2
        show (s₂.gens.setIfInBounds s.gens.size .finished)[i]? = some st
        rw [Array.getElem?_setIfInBounds_ne (by exact om49 hi)]
        exact e3
      · have b1 : AllBare c'.gens := by
          intro y hy
          rcases Array.mem_or_eq_of_mem_setIfInBounds hy with hy | rfl
          · exact (AllBare.push (S.gens.2 hb) (g := .fresh (.func body (envX selQ scope s.heap.objs.size F (.ref k) []))) rfl) y hy
          · rfl
        have b2 := Z.gens.2 b1
        intro y hy
        rcases Array.mem_or_eq_of_mem_setIfInBounds hy with hy | rfl
        · exact b2 y hy
        · rfl
    have Z' : Sx ⟨c.w, s.heap, s₂.gens.setIfInBounds s.gens.size .finished, s.drawn, s.os, c.kc⟩ frs' (led' ++ [(h₂.objs.size, oS)]) { s₂.setGen s.gens.size .finished with heap := h' } := by
      have Z1 := Z.grow (h' := h') (tk := s₂.toks) hk'
      exact ⟨Z1.keep, Z1.fr, Z1.ld, Z1.nd, Z1.new, Z1.tab, Z1.tb, GensOk.refl _, Z1.dr, Z1.os, Z1.ne⟩
    have S2 : Sx c frs led { s₂.setGen s.gens.size .finished with heap := h' } := S.backG Z' hgr fun a e k T => T.pin a e
    have hmem : h₂.objs.size ∈ addrs frs' (led' ++ [(h₂.objs.size, oS)]) := by unfold addrs; simp
    have hnew := Z.new _ hmem
    refine ⟨_, _, S2.add hget (fun q => Nat.lt_irrefl _ (Nat.lt_of_lt_of_le (S.size_le _ q) hnew)) (Nat.le_trans S.sz hnew) (fun kk e q => ?_), hQ _ _ _ hit⟩
    obtain ⟨k', TB'⟩ := Z'.tb
    have e3 : k' = some kk := tabO_inj (Option.some.inj (TB'.tab.symm.trans e))
    exact TB'.own kk e3 (q ▸ hmem)
end
end
section
/-! int of two figures to the base 16 -/
def hexT : List Nat := [48, 49, 50, 51, 52, 53, 54, 55, 56, 57, 65, 66, 67, 68, 69, 70]
theorem hexT_eq : hexT = (List.range 16).map (fun i => hexd (i : Nat)) := by kernel_rfl
theorem hex_all : hexT.map (fun a => hexT.map fun b => (int_private% "readNumeral") 0 16 [a, b]) = (List.range 16).map fun i => (List.range 16).map fun j => (int_private% "Numeral.value") ((16 * i + j : Nat) : Int) := by kernel_rfl
theorem hex_read (i j : Nat) (hi : i < 16) (hj : j < 16) : (int_private% "readNumeral") 0 16 [hexd i, hexd j] = (int_private% "Numeral.value") ((16 * i + j : Nat) : Int) := by
  have h := hex_all
  rw [hexT_eq, List.map_map] at h
  have h2 := List.map_inj_left.mp h i (List.mem_range.mpr hi)
  dsimp only [Function.comp] at h2
  rw [List.map_map] at h2
  have h3 := List.map_inj_left.mp h2 j (List.mem_range.mpr hj)
  exact h3
theorem wp_hex {M : Model} {A : Around} {E : Value → Shared → Prop} {s : Shared} {Q : Value → Shared → Prop} {v : Value} {text : List Nat} {n : Int}
    (hs : (text.takeWhile (· != 0)).length ≤ 640) (hr : (int_private% "readNumeral") 0 16 (text.takeWhile (· != 0)) = (int_private% "Numeral.value") n)
    (ha : ((text.takeWhile (· != 0)).length == text.length) = true) (h : Q (.int n s.toks) { s with toks := s.toks + 1 }) :
    wpAny M A ((int_private% "intFromText") v text 16) Q E s := by
  obtain ⟨hp, g, d, tk, os⟩ := s
  repeat (any_goals (first
    | assumption
    | (with_reducible refine wpAny_ite_true (decide_eq_true hs) ?_)
    | (with_reducible refine wpAny_ite_true (decide_eq_true ha) ?_)
    | wp_step))
  all_goals (try rw [hr])
  all_goals (try dsimp only)
  repeat (any_goals (first
    | assumption
    | (with_reducible refine wpAny_ite_true (decide_eq_true hs) ?_)
    | (with_reducible refine wpAny_ite_true (decide_eq_true ha) ?_)
    | wp_step))
structure Hid1 (p : Prop) : Prop where
  out : p
theorem hexd_ne0 (i : Nat) : hexd i ≠ 0 := by unfold hexd; split <;> omega
theorem hexd_lt (i : Nat) (h : i < 16) : hexd i < 128 := by unfold hexd; split <;> omega
set_option maxHeartbeats 4000000 in
theorem gives_hex {i j : Nat} {u v : Tok} (hi : i < 16) (hj : j < 16) : Gives (Builtin.«int.__new__» ⟨[.type "int", .str (tx [hexd i, hexd j]) u, .int 16 v], []⟩) (.int ((16 * i + j : Nat) : Int)) :=
  .of_wp fun M A E s Q h => by
    obtain ⟨hp, g, d, tk, os⟩ := s
    have f1 := PySem.F.conv_sub_int
    have f2 := PySem.F.madeHere_int
    have f6 : typeOf (.str (tx [hexd i, hexd j]) u) = pure (.type "str") := rfl
    have hasc : ((tx [hexd i, hexd j]).cps.all (· < 128)) = true := by
      show ([hexd i, hexd j].toArray.all (· < 128)) = true
      simp [hexd_lt i hi, hexd_lt j hj]
    have e1 : (hexd i != 0) = true := by have := hexd_ne0 i; simpa using this
    have e2 : (hexd j != 0) = true := by have := hexd_ne0 j; simpa using this
    have htw : ([hexd i, hexd j] : List Nat).takeWhile (· != 0) = [hexd i, hexd j] := by
      simp only [List.takeWhile, e1, e2]
    have g1 : (([hexd i, hexd j] : List Nat).takeWhile (· != 0)).length ≤ 640 := by rw [htw]; exact Nat.le_of_ble_eq_true rfl
    have g2 : (int_private% "readNumeral") 0 16 (([hexd i, hexd j] : List Nat).takeWhile (· != 0)) = (int_private% "Numeral.value") ((16 * i + j : Nat) : Int) := by rw [htw]; exact hex_read i j hi hj
    have g3 : ((([hexd i, hexd j] : List Nat).takeWhile (· != 0)).length == ([hexd i, hexd j] : List Nat).length) = true := by rw [htw]; rfl
    have hk := Hid1.mk (And.intro g1 (And.intro g2 g3))
    clear e1 e2 g1 g2 g3
    clear hi hj htw
    repeat (any_goals (first
      | with_reducible assumption
      | (with_reducible refine wpAny_ite_true hasc ?_)
      | ((with_reducible show wpAny _ _ ((int_private% "intFromText") _ _ _) _ _ _); refine wp_hex hk.out.1 hk.out.2.1 hk.out.2.2 ?_)
      | wp_step))
    rw [if_pos hasc, tx_toList]
    repeat (any_goals (first
      | with_reducible assumption
      | (with_reducible refine wpAny_ite_true (decide_eq_true hk.out.1) ?_)
      | wp_step))
    all_goals (try rw [show Int.toNat 16 = 16 from rfl, hk.out.2.1])
    all_goals (try dsimp only)
    repeat (any_goals (first
      | with_reducible assumption
      | (with_reducible refine wpAny_ite_true (decide_eq_true hk.out.2.2) ?_)
      | wp_step))
    all_goals first | exact ⟨_, rfl, h⟩ | skip
theorem typeCall_int_2 (a b : Value) : checkTypeCall "int" ⟨[a, b], []⟩ = pure () := by kernel_rfl
theorem newCall_int_2 (a b : Value) : checkBuiltinCall "int.__new__" ⟨[.type "int", a, b], []⟩ = pure () := by kernel_rfl
theorem figE (o : Nat) (h : o < 256) : fig o = tx [hexd ((o / 16 : Nat) : Int), hexd ((o % 16 : Nat) : Int)] := by
  unfold fig tx
  rw [show ((o : Int) / 16) = ((o / 16 : Nat) : Int) by exact om34, show ((o : Int) % 16) = ((o % 16 : Nat) : Int) by exact om35]
section
variable {α β : Type} {c : Cx} {A : Around} {frs : Frs} {led : Led} {env : Env}
theorem W_int16 {o : Nat} {t u : Tok} {Q : Value → Frs → Led → Prop} (ho : o < 256) (h : ∀ t, Q (.int o t) frs led) : W c A (call (.type "int") [.str (fig o) t, .int 16 u]) frs led Q := fun s S => by
  rw [figE o ho]
  refine callType_new PySem.F.called_int PySem.F.newNe_int (typeCall_int_2 _ _) (newCall_int_2 _ _) (fun obj => PySem.F.args_object_init_3 _ _ _) PySem.F.entry_int_new (gives_hex (by exact om10 ho) (by exact om11)).meets (show (Made.int _).post _ s from ⟨rfl, ?_⟩)
  rw [show 16 * (o / 16) + o % 16 = o by exact om198]
  exact ⟨_, _, S.tok, h _⟩
theorem W_chr {o : Nat} {t : Tok} {Q : Value → Frs → Led → Prop} (ho : o < 256) (h : ∀ t, Q (.str (one o) t) frs led) : W c A (call (.builtin "chr") [.int o t]) frs led Q := fun s S =>
  PySem.P.chr_of_int (by simp; exact om199 ho) ⟨_, _, S.tok, h _⟩
theorem W_ord {o : Nat} {t : Tok} {Q : Value → Frs → Led → Prop} (h : ∀ t, Q (.int o t) frs led) : W c A (call (.builtin "ord") [.str (one o) t]) frs led Q := fun s S =>
  PySem.P.ord_of_char ⟨_, _, S.tok, h _⟩
end
end
section
/-! contexts without decoders -/
def noDec : Code → Bool
  | .builtin id _ => !(Builtin.Bytes.decodersThatHold.contains id)
  | _ => true
def NDb (l : List (Code × Pos)) : Prop := ∀ q ∈ l, noDec q.1 = true
def wpN {α : Type} (M : Model) (A : Around) (t : Sem α) (Q : α → Shared → Prop) (E : Value → Shared → Prop) (s : Shared) : Prop :=
  ∀ Γ p, Γ.In A → noDec Γ.code = true → NDb Γ.below → Sem.wp M Γ t (fun a _ s' => Q a s') (fun e _ s' => E e s') p s
def codeN (M : Model) (A : Around) (c : Code) (R : Result → Shared → Prop) (s : Shared) : Prop :=
  ∀ Γ p, Γ.code = c → Γ.Below A → NDb Γ.below → wpCode M Γ R p s
section
variable {α β : Type} {M : Model} {A : Around} {E : Value → Shared → Prop} {s : Shared}
theorem N_of {t : Sem α} {Q : α → Shared → Prop} (h : wpAny M A t Q E s) : wpN M A t Q E s := fun Γ p hΓ _ _ => h Γ p hΓ
theorem N_mono {t : Sem α} {Q Q' : α → Shared → Prop} {E' : Value → Shared → Prop} (h : wpN M A t Q E s) (hQ : ∀ a s, Q a s → Q' a s) (hE : ∀ e s, E e s → E' e s) : wpN M A t Q' E' s :=
  fun Γ p hΓ hc hb => Sem.wp_mono M Γ t (fun a _ s => hQ a s) (fun e _ s => hE e s) p s (h Γ p hΓ hc hb)
theorem N_bind {m : Sem α} {f : α → Sem β} {Q : β → Shared → Prop} (h : wpN M A m (fun a s' => wpN M A (f a) Q E s') E s) : wpN M A (m >>= f) Q E s := fun Γ p hΓ hc hb => by
  rw [Sem.wp_bind']
  exact Sem.wp_mono M Γ m (fun a p' s' h' => h' Γ p' hΓ hc hb) (fun _ _ _ h' => h') p s (h Γ p hΓ hc hb)
/-- first what holds everywhere, then what holds here -/
theorem N_bindA {m : Sem α} {f : α → Sem β} {Q : β → Shared → Prop} (h : wpAny M A m (fun a s' => wpN M A (f a) Q E s') E s) : wpN M A (m >>= f) Q E s := N_bind (N_of h)
theorem N_pure {a : α} {Q : α → Shared → Prop} (h : Q a s) : wpN M A (pure a) Q E s := N_of (wpAny_pure h)
theorem N_holding {vs : List Value} {m : Sem α} {Q : α → Shared → Prop} (h : wpN M A m Q E s) : wpN M A (holding vs m) Q E s := fun Γ p hΓ hc hb => by rw [Sem.wp_holding]; exact h Γ p hΓ hc hb
theorem N_onRaise {m : Sem α} {k : Value → Sem Unit} {Q : α → Shared → Prop} (h : wpN M A m Q (fun _ _ => False) s) : wpN M A (m.onRaise k) Q E s := fun Γ p hΓ hc hb => by
  rw [Sem.wp_onRaise]
  exact Sem.wp_mono M Γ m (fun _ _ _ h' => h') (fun e p' s' h' => h'.elim) p s (h Γ p hΓ hc hb)
theorem codeN_of {c : Code} {R : Result → Shared → Prop} (h : codeAny M A c R s) : codeN M A c R s := fun Γ p hc hΓ _ => h Γ p hc hΓ
theorem codeN_mono {c : Code} {R R' : Result → Shared → Prop} (h : codeN M A c R s) (hR : ∀ r s, R r s → R' r s) : codeN M A c R' s := fun Γ p hc hΓ hb => wpCode_mono hR (h Γ p hc hΓ hb)
theorem codeN_of_tree {c : Code} {R : Result → Shared → Prop} (hn : noDec c = true)
    (h : wpN M (A.under c) (M.den c) (fun fin s' => match fin with | .done f => R (.ok f) s' | .again c' => c'.quiet = true ∧ codeN M A c' R s') (fun e s' => R (.error e) s') s) : codeN M A c R s := fun Γ p hc hΓ hb => by
  rw [wpCode_iff_wp, hc]
  refine Sem.wp_mono M Γ _ (fun fin p' s' h' => ?_) (fun _ _ _ h' => h') p s (h Γ p (hc ▸ hΓ.in) (by rw [hc]; exact hn) hb)
  cases fin with
  | done f => exact h'
  | again c' => exact ⟨h'.1, h'.2 (Γ.goto c') p' rfl (hΓ.goto c') hb⟩
theorem N_runValue {c : Code} {Q : Value → Shared → Prop} (hc : codeN M A c (fun r s' => match r with | .ok (.ret v) => Q v s' | .ok _ => False | .error e => E e s') s) : wpN M A (runValue c) Q E s := fun Γ p hΓ hn hb => by
  rw [Sem.wp_runValue]
  refine hc _ p rfl (hΓ.enter c none p (by intro x; cases x)) fun q hq => ?_
  rcases List.mem_cons.mp hq with rfl | hq
  · exact hn
  · exact hb q hq
theorem N_call {f : Value} {pos : List Value} {kw : List (Str × Value)} {Q : Value → Shared → Prop} (hc : codeN M A (.call f ⟨pos, kw⟩) (fun r s' => match r with | .ok (.ret v) => Q v s' | .ok _ => False | .error e => E e s') s) :
    wpN M A (call f pos kw) Q E s := N_runValue hc
/-! trees -/
variable {env : Env}
theorem N_execs_cons {st : Stmt} {rest : List Stmt} {Q : Flow → Shared → Prop} (h : wpN M A (exec st env) (fun f s' => f = .next ∧ wpN M A (execs rest env) Q E s') E s) : wpN M A (execs (st :: rest) env) Q E s := fun Γ p hΓ hc hb => by
  rw [execs_cons, Sem.wp_bind']
  refine Sem.wp_mono M Γ _ (fun f p' s' h' => ?_) (fun _ _ _ h' => h') _ _ (h Γ p hΓ hc hb)
  obtain ⟨rfl, h'⟩ := h'
  exact h' Γ p' hΓ hc hb
theorem N_Assign_Name {x : Str} {pos' pos : Pos} {value : Expr} {Q : Flow → Shared → Prop} (h : wpN M A (eval value env) (fun v s₁ => wpAny M A (storeName env x v) (fun _ => Q .next) E s₁) E s)
    (hs : swapsWith value (some (.Name x pos')) pos.line env = pure false) : wpN M A (exec (.Assign [.Name x pos'] value pos) env) Q E s := fun Γ p hΓ hc hb => by
  simp only [exec_Assign_Name env x pos' value pos hs, Sem.wp_bind', Sem.wp_cmd_standAt, Sem.wp_bindName, Sem.wp_pure']
  exact Sem.wp_mono M Γ _ (fun v _ s₁ h₁ => h₁ Γ _ hΓ) (fun _ _ _ h' => h') _ _ (h Γ _ hΓ hc hb)
theorem N_Call_Name {id : Str} {p pos : Pos} {args : List Expr} {Q : Value → Shared → Prop} (h : wpAny M A (eval (.Name id p) env) (fun f s₁ => wpN M A (callWith pos f [] (backTo pos (starEach args env)) []) Q E s₁) E s) :
    wpN M A (eval (.Call (.Name id p) args [] pos) env) Q E s := by
  show wpN M A (do callWith pos (← eval (.Name id p) env) [] (backTo pos (starEach args env)) (backToKw pos (keywordEach [] env))) Q E s
  exact N_bindA h
end
end
section
/-! calls in contexts without decoders -/
section
variable {w : World} {A : Around} {E : Value → Shared → Prop} {s : Shared} {R : Result → Shared → Prop}
theorem N_keep {α : Type} {M : Model} {vs : List Value} {m : Sem α} {Q : α → Shared → Prop} (h : wpN M A m Q E s) : wpN M A (m.keep vs) Q E s := fun Γ p hΓ hc hb => by rw [Sem.wp_keep]; exact h Γ p hΓ hc hb
theorem codeN_func {body : List Stmt} {env : Env} (h : wpN (model pw w) (A.deeper env) (execs body env) (fun f s' => R (.ok (.ret (match f with | .ret v => v | _ => .none))) s') (fun _ _ => False) s) :
    codeN (model pw w) A (.func body env) R s := by
  refine codeN_of_tree rfl ?_
  show wpN _ (A.deeper env) (do point; match ← (execs body env).onRaise (leaving env) with | .ret v => ret v | _ => ret .none) _ _ s
  with_reducible refine' N_bindA (wpAny_point (N_bind (N_onRaise (N_mono h (fun f s' h' => ?_) fun _ _ h' => h'))))
  cases f <;> exact N_pure h'
theorem codeN_call_function {a : Addr} {args : Args} {o : Obj} {fd : FuncData} {body : List Stmt} (hroom : A.depth < recursionLimit) (ho : s.heap.get? a = some o)
    (hd' : o.data = .func fd) (hco : fd.scope.isCoroutine = false) (hgen : fd.scope.isGenerator = false) (hbody : fd.body = .stmts body) (hcd : s.heap.CodeRec fd.code fd.qualname)
    (h : wpAny (model pw w) A.in1 (bindArgs fd args) (fun binds s₁ =>
      wpAny (model pw w) A.in1 (newFunctionEnv fd.scope fd.globals fd.closure binds (fd.qualname ++ ".<locals>.") (some a) fd.code none fd.builtins)
        (fun env s₂ => s₂.heap.NoLimit ∧ codeN (model pw w) A (.func body env) R s₂) (fun e s' => R (.error e) s') s₁) (fun e s' => R (.error e) s') s) :
    codeN (model pw w) A (.call (.ref a) args) R s := by
  refine codeN_of_tree rfl (N_of ?_)
  show wpAny _ A.in1 (callAny (.ref a) args) _ _ s
  simp only [callAny]
  refine wpAny_bind (wpAny_load ho ?_)
  obtain ⟨c, oc, vs, tq, hc, hoc, hdc, hq⟩ := hcd
  simp only [hd', callFunction, hco, hgen, hbody, hc]
  rw [hc] at h
  refine wpAny_bind (m := field (.ref c) 1) (wpAny_field hoc hdc hq (wpAny_bind (wpAny_pure ?_)))
  exact wpAny_bind (wpAny_mono h (fun binds s₁ h₁ => wpAny_bind (wpAny_mono h₁ (fun env s₂ h₂ => wpAny_bind (wpAny_enterFrame h₂.1 hroom
    (wpAny_pure (And.intro rfl h₂.2)))) fun _ _ h' => h')) fun _ _ h' => h')
theorem codeN_call_cells {a : Addr} {o : Obj} {fd : FuncData} {body : List Stmt} {vals : List Value} {binds : List (Str × Value)}
    (hroom : A.depth < recursionLimit) (ho : s.heap.get? a = some o) (hdata : o.data = .func fd) (hlim : s.heap.NoLimit) (hcd : s.heap.CodeRec fd.code fd.qualname)
    (hbody : fd.body = .stmts body) (hbind : bindArgs fd ⟨vals, []⟩ = pure binds) (hclo : fd.closure = [])
    (hkind : ∀ x ∈ binds, fd.scope.names.lookup x.1 = some .local ∨ (fd.scope.names.lookup x.1 = some .cell ∧ ((cellsFrom (s.heap.objs.size + 1) fd.scope.names []).lookup x.1).isSome = true))
    (h : ∀ s₁, InCallC s (callEnvC fd s.heap.objs.size a).locals (bindL (callEnvC fd s.heap.objs.size a).kindOf binds fun _ => none) (callEnvC fd s.heap.objs.size a).cells
        (bindC (callEnvC fd s.heap.objs.size a).kindOf binds fun _ => none) s₁ →
      wpN (model pw w) (A.deeper (callEnvC fd s.heap.objs.size a)) (execs body (callEnvC fd s.heap.objs.size a)) (fun f s' => R (.ok (.ret (match f with | .ret v => v | _ => .none))) s') (fun _ _ => False) s₁)
    (hco : fd.scope.isCoroutine = false) (hgen : fd.scope.isGenerator = false) (hk : fd.scope.kind = .function) :
    codeN (model pw w) A (.call (.ref a) ⟨vals, []⟩) R s := by
  refine codeN_call_function hroom ho hdata hco hgen hbody hcd ?_
  rw [hbind, hclo]
  refine wpAny_pure (wpAny_newFunctionEnv_cells hk hkind fun env he s' x => ?_)
  subst he
  exact ⟨hlim.keeps x.toInCall.keep, codeN_func (h s' x)⟩
theorem N_callWith_type {M : Model} {pos : Pos} {T : String} {args : List (Bool × Sem Value)} {Q : Value → Shared → Prop} (hplain : args.any (·.1) = false)
    (h : wpAny M A (evalArgs (.type T) true args []) (fun a s₁ => wpN M A (call (.type T) a.pos a.kw) Q E s₁) E s) : wpN M A (callWith pos (.type T) [] args []) Q E s := by
  unfold callWith
  with_reducible refine' N_bindA (wpAny_holding (wpAny_mono h (fun a s₁ h₁ => N_bindA (wpAny_standAt ?_)) fun _ _ x => x))
  simp only [hplain, List.any_nil, Bool.or_false]
  with_reducible refine' N_bindA (wpAny_pure ?_)
  exact N_bind (N_mono h₁ (fun r s₂ hr => N_of (wpAny_bind (wpAny_holding (wpAny_point (wpAny_pure hr))))) fun _ _ x => x)
theorem N_callWith_function {pos : Pos} {a : Addr} {o : Obj} {fd : FuncData} {args : List (Bool × Sem Value)} {Q : Value → Shared → Prop} (hplain : args.any (·.1) = false)
    (h : wpAny (model pw w) A (evalArgs (.ref a) true args []) (fun x s₁ => (s₁.heap.get? a = some o ∧ o.data = .func fd) ∧ wpN (model pw w) A (call (.ref a) x.pos x.kw) Q E s₁) E s) :
    wpN (model pw w) A (callWith pos (.ref a) [] args []) Q E s := by
  unfold callWith
  with_reducible refine' N_bindA (wpAny_holding (wpAny_mono h (fun x s₁ h₁ => N_bindA (wpAny_standAt ?_)) fun _ _ x => x))
  have tail : ∀ {t : Sem Value}, wpN (model pw w) A t Q E s₁ → wpN (model pw w) A (t >>= fun r => holding [r] point >>= fun _ => pure r) Q E s₁ :=
    fun ht => N_bind (N_mono ht (fun r s₂ hr => N_of (wpAny_bind (wpAny_holding (wpAny_point (wpAny_pure hr))))) fun _ _ x => x)
  simp only [hplain, List.any_nil, Bool.or_false]
  with_reducible refine' N_bindA (m := keeperOf (.ref a)) ?_
  unfold keeperOf
  refine wpAny_bind (wpAny_load h₁.1.1 ?_)
  rw [h₁.1.2]
  refine wpAny_pure ?_
  first
    | exact tail (by unfold callMarked; exact N_keep h₁.2)
    | exact tail h₁.2
    | (split <;> first
      | exact tail h₁.2
      | exact tail (by unfold callMarked; exact N_keep h₁.2))
    | (show wpN _ _ (if _ then _ else _) _ _ _
       split <;> first
      | exact tail h₁.2
      | exact tail (by unfold callMarked; exact N_keep h₁.2))
end
end
section
/-! bytearray(n), where no decoder waits -/
set_option maxRecDepth 1000000 in
set_option maxHeartbeats 4000000 in
theorem owner_ba_new : ("bytearray.__new__".splitOn ".__new__").headD "" = "bytearray" := by simp +decide [String.splitOn, String.splitOnAux]
section
variable {w : World} {A : Around} {E : Value → Shared → Prop} {s : Shared} {R : Result → Shared → Prop}
theorem code_ba_new (a : Value) {Q₁ : Value → Shared → Prop} (h : Q₁ (.ref s.heap.objs.size) { s with heap := s.heap.push { cls := .type "bytearray", data := .bytearray #[] } }) :
    codeAny (model pw w) A (.call (.builtin "bytearray.__new__") ⟨[.type "bytearray", a], []⟩) (wants Q₁ E) s := by
  refine codeAny_of_tree ?_
  show wpAny _ A.in1 (do checkBuiltinCall "bytearray.__new__" ⟨[.type "bytearray", a], []⟩; again (.builtin "bytearray.__new__" ⟨[.type "bytearray", a], []⟩)) _ _ s
  refine wpAny_bind (wpAny_of_eq (BA.newCall a) (wpAny_pure ⟨plainId_quiet BA.plain_new _, codeAny_builtin_stack BA.entry_new rfl fun p st => ?_⟩))
  rw [Around.under_plainId BA.plain_new _]
  have hsub := BA.sub_self
  have hown := owner_ba_new
  obtain ⟨hp, g, d, tk, os⟩ := s
  simp only [hown]
  wp_walk
  exact h
theorem codeN_builtin {id : String} {args : Args} {b : Builtin} (hn : noDec (.builtin id args) = true) (hb : entryFor table id = some b)
    (h : wpN (model pw w) (A.under (.builtin id args)) (b args) (fun fin s' => match fin with | .done f => R (.ok f) s' | .again c' => c'.quiet = true ∧ codeN (model pw w) A c' R s') (fun e s' => R (.error e) s') s) :
    codeN (model pw w) A (.builtin id args) R s := by
  refine codeN_of_tree hn ?_
  show wpN _ _ (match entryFor table id with | some b => b args | none => unsupported ((withoutEnding? id "#data").getD id)) _ _ s
  rw [hb]; exact h
theorem exp_off (self : Value) (f : Code × Pos → Bool) (hf : Builtin.Bytes.exported self = (do return (← stack).any f))
    (h1 : ∀ c p, c.isGuard = false → noDec c = true → f (c, p) = false) {M : Model} {Q : Bool → Shared → Prop} (hg : A.guards = some []) (h : Q false s) : wpN M A (Builtin.Bytes.exported self) Q E s := fun Γ p hΓ hc hb => by
  rw [hf]
  show Q (((Γ.code, p) :: Γ.below).any f) s
  have e := hΓ.2.2.2.1 [] hg
  have e1 : Γ.code.guards = [] := (List.append_eq_nil_iff.mp e).1
  have e2 : guardsOf Γ.below = [] := (List.append_eq_nil_iff.mp e).2
  have g1 : Γ.code.isGuard = false := by
    cases hx : Γ.code.isGuard with
    | false => rfl
    | true => unfold Code.guards at e1; rw [hx] at e1; cases e1
  have : ((Γ.code, p) :: Γ.below).any f = false := by
    rw [List.any_eq_false]
    intro q hq
    rcases List.mem_cons.mp hq with rfl | hq
    · rw [h1 _ _ g1 hc]; decide
    · have g2 : q.1.isGuard = false := by
        cases hx : q.1.isGuard with
        | false => rfl
        | true =>
          have : q.1 ∈ guardsOf Γ.below := List.mem_filter.mpr ⟨List.mem_map_of_mem (f := (·.1)) hq, hx⟩
          rw [e2] at this
          cases this
      rw [show q = (q.1, q.2) from rfl, h1 _ _ g2 (hb q hq)]
      decide
  rw [this]
  exact h
theorem N_exported (self : Value) {M : Model} {Q : Bool → Shared → Prop} (hg : A.guards = some []) (h : Q false s) : wpN M A (Builtin.Bytes.exported self) Q E s := by
  refine exp_off self _ rfl (fun c p hgd hnd => ?_) hg h
  cases c
  case builtin id args =>
    have hn : Builtin.Bytes.decodersThatHold.contains id = false := by simpa [noDec] using hnd
    have hgi : guardIds.contains id = false := hgd
    have ne : ∀ s, guardIds.contains s = true → ¬ id = s := fun s hs e => by rw [e, hs] at hgi; cases hgi
    delta PySem.Builtin.Bytes.exported.match_1
    with_unfolding_all change dite (id = "bytearray.__contains__") _ _ = false
    refine (dif_neg (ne _ (by decide +kernel))).trans ?_
    refine (dif_neg (ne _ (by decide +kernel))).trans ?_
    refine (dif_neg (ne _ (by decide +kernel))).trans ?_
    refine (dif_neg (ne _ (by decide +kernel))).trans ?_
    refine (dif_neg (ne _ (by decide +kernel))).trans ?_
    obtain ⟨pos, kw⟩ := args
    cases pos with
    | nil => rfl
    | cons v r =>
      show (Builtin.Bytes.sameRef v self && Builtin.Bytes.decodersThatHold.contains id) = false
      rw [hn, Bool.and_false]
  all_goals rfl
theorem call_ba_new (a : Value) {Q : Value → Shared → Prop} (h : Q (.ref s.heap.objs.size) { s with heap := s.heap.push { cls := .type "bytearray", data := .bytearray #[] } }) : wpAny (model pw w) A (call (.builtin "bytearray.__new__") [.type "bytearray", a]) Q E s :=
  wpAny_call (codeAny_mono (code_ba_new a h) fun r s' hr => by
    cases r with
    | error e => exact hr
    | ok fl => cases fl <;> exact hr)
theorem N_if {α : Type} {M : Model} {c : Prop} [Decidable c] {x y : Sem α} {Q : α → Shared → Prop} (hc : ¬ c) (h : wpN M A y Q E s) : wpN M A (if c then x else y) Q E s := by rw [if_neg hc]; exact h
theorem any_if {α : Type} {M : Model} {c : Prop} [Decidable c] {x y : Sem α} {Q : α → Shared → Prop} (hc : ¬ c) (h : wpAny M A y Q E s) : wpAny M A (if c then x else y) Q E s := by rw [if_neg hc]; exact h
/-- the object's __init__ with a number -/
theorem N_baInit {a : Addr} {n : Int} {t : Tok} {Q : Fin → Shared → Prop} (hg : A.guards = some []) (h0 : 0 ≤ n) (h1 : n ≤ 1000) (ho1 : s.heap.get? a = some { cls := .type "bytearray", data := .bytearray #[] })
    (h : ∀ h' : Heap, (∀ b, b ≠ a → h'.get? b = s.heap.get? b) → h'.get? a = some (baObj (List.replicate n.toNat 0)) → Q (.done (.ret .none)) { s with heap := h' }) :
    wpN (model pw w) A (Builtin.«bytearray.__init__» ⟨[.ref a, .int n t], []⟩) Q E s := by
  have ho2 : (s.heap.update a (Obj.mapBytearray fun _ => #[])).get? a = some { cls := .type "bytearray", data := .bytearray #[] } := Heap.get?_update_self (Obj.mapBytearray fun _ => #[]) ho1 rfl
  have hk2 : ∀ b, b ≠ a → (s.heap.update a (Obj.mapBytearray fun _ => #[])).get? b = s.heap.get? b := fun b e => Heap.get?_update_other _ _ (Ne.symm e)
  have ho3 : ((s.heap.update a (Obj.mapBytearray fun _ => #[])).update a (Obj.mapBytearray fun _ => Array.replicate n.toNat 0)).get? a = some (baObj (List.replicate n.toNat 0)) := by
    rw [Heap.get?_update_self (Obj.mapBytearray fun _ => Array.replicate n.toNat 0) ho2 rfl]
    show some ({ cls := .type "bytearray", data := .bytearray (Array.replicate n.toNat 0) } : Obj) = some { cls := .type "bytearray", data := .bytearray (bys (List.replicate n.toNat 0)) }
    unfold bys
    rw [List.map_replicate, List.toArray_replicate]
    rfl
  have hk3 : ∀ b, b ≠ a → ((s.heap.update a (Obj.mapBytearray fun _ => #[])).update a (Obj.mapBytearray fun _ => Array.replicate n.toNat 0)).get? b = s.heap.get? b := fun b e =>
    (Heap.get?_update_other _ _ (Ne.symm e)).trans (hk2 b e)
  have e1 : Builtin.Bytes.fitsIndex n = true := by unfold Builtin.Bytes.fitsIndex; simp; omega
  have e2 : Builtin.Bytes.tooLong n.toNat = false := KBy.tooLong_not (by omega)
  have e3 : ¬ n < 0 := by omega
  have e4 : (if (bys (List.replicate n.toNat 0)).size > sizeLine then some "bytearray:memory" else none) = none := by
    rw [if_neg]
    rw [bys_size, List.length_replicate, sizeLine_eq]
    omega
  unfold Builtin.«bytearray.__init__»
  dsimp only
  refine N_bindA (rel_ba ho1 rfl ?_)
  refine N_if (by decide) ?_
  refine N_bindA (wpAny_of_eq (BA.bind _) ?_)
  dsimp only
  refine N_bindA (wpAny_of_eq (a := ()) rfl ?_)
  refine N_bindA (wpAny_of_eq (a := ()) rfl ?_)
  refine N_bind ?_
  refine N_bind (N_exported _ hg ?_)
  show wpN _ _ (do let r ← Builtin.Bytes.exportsOf (.ref a); pure (decide (r > 0))) _ _ _
  refine N_bindA ?_
  unfold Builtin.Bytes.exportsOf
  refine wpAny_bind (wpAny_load ho1 (wpAny_pure ?_))
  refine N_pure ?_
  refine N_if (by decide) ?_
  refine N_of (wpAny_bind ?_)
  show wpAny _ _ (updateBytearray a _) _ _ _
  unfold updateBytearray
  refine wpAny_bind (wpAny_load ho1 ?_)
  show wpAny _ _ (update a (Obj.mapBytearray fun _ => #[]) >>= fun _ => lookBehind a) _ _ _
  refine wpAny_bind (wpAny_update ho1 ?_)
  refine wpAny_lookBehind ho2 rfl ?_
  refine wpAny_bind (wpAny_of_eq (a := none) rfl ?_)
  refine any_if (by decide) ?_
  refine wpAny_bind ?_
  refine any_if (by decide) ?_
  refine any_if (by decide) ?_
  refine wpAny_pure ?_
  refine wpAny_bind (wpAny_specialOf (T := "int") (typeIs_int _ _ _) PySem.F.slot_int_index.lookup ?_)
  refine bm_if_true rfl ?_
  refine wpAny_bind (wpAny_attempt (wpAny_of_eq (a := n) rfl ?_))
  dsimp only
  refine any_if (by rw [e1]; decide) ?_
  refine any_if e3 ?_
  refine any_if (by simp; omega) ?_
  refine any_if (by rw [e2]; decide) ?_
  refine wpAny_bind (wpAny_rule ?_)
  by_cases hn0 : n > 0
  · rw [if_pos hn0]
    refine wpAny_bind ?_
    show wpAny _ _ (updateBytearray a _) _ _ _
    unfold updateBytearray
    refine wpAny_bind (wpAny_load ho2 ?_)
    show wpAny _ _ (update a (Obj.mapBytearray fun _ => Array.replicate n.toNat 0) >>= fun _ => lookBehind a) _ _ _
    refine wpAny_bind (wpAny_update ho2 ?_)
    exact wpAny_lookBehind ho3 e4 (wpAny_pure (h _ hk3 ho3))
  · rw [if_neg hn0]
    refine wpAny_pure (h _ hk2 ?_)
    rw [show n.toNat = 0 by omega]
    exact ho2
theorem N_bytearray {n : Int} {t : Tok} {Q : Value → Shared → Prop} (hg : A.guards = some []) (hh : A.handled = none) (h0 : 0 ≤ n) (h1 : n ≤ 1000)
    (h : ∀ h' : Heap, (∀ b o, s.heap.get? b = some o → h'.get? b = some o) → h'.get? s.heap.objs.size = some (baObj (List.replicate n.toNat 0)) → Q (.ref s.heap.objs.size) { s with heap := h' }) :
    wpN (model pw w) A (call (.type "bytearray") [.int n t]) Q E s := by
  have ho1 : (s.heap.push { cls := .type "bytearray", data := .bytearray #[] }).get? s.heap.objs.size = some { cls := .type "bytearray", data := .bytearray #[] } := Heap.get?_push_size _ rfl
  have hT : Shared.TypeIs { s with heap := s.heap.push { cls := .type "bytearray", data := .bytearray #[] } } (.ref s.heap.objs.size) "bytearray" := ⟨_, ho1, rfl⟩
  refine N_call (codeN_of_tree rfl ?_)
  show wpN _ _ (callAny (.type "bytearray") _) _ _ _
  refine N_pure ⟨Code.quiet_builtin _ (by decide +kernel), codeN_builtin (by show (!(Builtin.Bytes.decodersThatHold.contains "type.__call__")) = true; decide +kernel) PySem.F.entry_type_call ?_⟩
  rw [Around.under_plain (weight_type_call_type "bytearray" [.int n t] []) rfl]
  unfold Builtin.«type.__call__»
  dsimp only
  refine N_if (by decide) ?_
  refine N_if (by rw [BA.called.canCreate]; decide) ?_
  refine N_bindA (wpAny_of_eq (BA.typeCall _) ?_)
  refine N_bindA (wpAny_of_eq BA.mro ?_)
  refine N_if (by decide) ?_
  refine N_bindA (wpAny_of_eq BA.called.made ?_)
  dsimp only
  refine N_bindA (wpAny_pure ?_)
  refine N_bindA (wpAny_holding (call_ba_new _ ?_))
  refine N_bindA (wpAny_isInstance hT BA.sub_self ?_)
  refine N_if (by decide) ?_
  refine N_bind (N_holding ?_)
  unfold callSpecial?
  refine N_bindA (wpAny_specialOf hT BA.slot_init.lookup ?_)
  dsimp only
  refine N_holding (N_bindA (wpAny_of_eq (BA.slot_init.bind _) ?_))
  dsimp only
  refine N_bind (N_call (codeN_of_tree rfl ?_))
  show wpN _ _ (do checkBuiltinCall "bytearray.__init__" ⟨[.ref s.heap.objs.size, .int n t], []⟩; again (.builtin "bytearray.__init__" ⟨[.ref s.heap.objs.size, .int n t], []⟩)) _ _ _
  refine N_bindA (BA.slot_init.check _ _ _ _ _ _ _ _ hT (BA.args_init _ _) ?_)
  refine N_pure ⟨plainId_quiet BA.plain_init _, codeN_builtin (by show (!(Builtin.Bytes.decodersThatHold.contains "bytearray.__init__")) = true; decide +kernel) BA.entry_init ?_⟩
  rw [Around.under_plainId BA.plain_init _]
  refine N_baInit hg h0 h1 ho1 fun h' hk ho => ?_
  refine N_pure ?_
  refine N_if (by decide) ?_
  exact N_pure (h _ (fun b o e => (hk b (Nat.ne_of_lt (Heap.lt_size e))).trans (Heap.get?_push_of_some _ e)) ho)
end
end
section
/-! walks in contexts without decoders -/
def WN {α : Type} (c : Cx) (A : Around) (t : Sem α) (frs : Frs) (led : Led) (Q : α → Frs → Led → Prop) : Prop :=
  ∀ s, Sx c frs led s → wpN (model pw c.w) A t (fun v => Post c (Q v)) (fun _ _ => False) s
section
variable {α β : Type} {c : Cx} {A : Around} {frs : Frs} {led : Led} {env : Env}
theorem WN_of {t : Sem α} {Q : α → Frs → Led → Prop} (h : W c A t frs led Q) : WN c A t frs led Q := fun s S => N_of (h s S)
theorem WN_mono {t : Sem α} {Q Q' : α → Frs → Led → Prop} (h : WN c A t frs led Q) (hQ : ∀ a f l, Q a f l → Q' a f l) : WN c A t frs led Q' :=
  fun s S => N_mono (h s S) (fun _ _ ⟨f, l, S', q⟩ => ⟨f, l, S', hQ _ _ _ q⟩) fun _ _ x => x
theorem WN_wk {f0 : Frs} {l0 : Led} {t : Sem α} {Q : α → Frs → Led → Prop} (w : Wk f0 l0 frs led) (h : WN c A t f0 l0 Q) : WN c A t frs led Q := fun s S => h s (w.sx S)
theorem WN_cons {st : Stmt} {rest : List Stmt} {Q : Flow → Frs → Led → Prop} (h : WN c A (exec st env) frs led (fun fl f l => fl = .next ∧ WN c A (execs rest env) f l Q)) : WN c A (execs (st :: rest) env) frs led Q :=
  fun s S => N_execs_cons (N_mono (h s S) (fun fl s' ⟨f, l, S', e, q⟩ => ⟨e, q s' S'⟩) fun _ _ x => x)
theorem WN_AssignName {x : Str} {p pos : Pos} {value : Expr} {Q : Flow → Frs → Led → Prop} (h : WN c A (eval value env) frs led (fun v f l => W c A (storeName env x v) f l (fun _ => Q .next)))
    (hs : swapsWith value (some (.Name x p)) pos.line env = pure false) : WN c A (exec (.Assign [.Name x p] value pos) env) frs led Q :=
  fun s S => N_Assign_Name (N_mono (h s S) (fun v s' ⟨f, l, S', q⟩ => q s' S') fun _ _ x => x) hs
theorem WN_CallName {x : Str} {p pos : Pos} {args : List Expr} {Q : Value → Frs → Led → Prop} (h : W c A (eval (.Name x p) env) frs led (fun f fr l => WN c A (callWith pos f [] (backTo pos (starEach args env)) []) fr l Q)) :
    WN c A (eval (.Call (.Name x p) args [] pos) env) frs led Q := fun s S => N_Call_Name (wpAny_mono (h s S) (fun v s' ⟨f, l, S', q⟩ => q s' S') fun _ _ x => x)
theorem WN_callTy {pos : Pos} {id : String} {e : Expr} {rest : List Expr} {Q : Value → Frs → Led → Prop}
    (h : W c A (spliced (backTo pos (starEach (e :: rest) env))) frs led (fun vs fr l => WN c A (call (.type id) vs) fr l Q)) (he : starEach (e :: rest) env = (false, eval e env) :: starEach rest env)
    (hp : (backTo pos (starEach (e :: rest) env)).any (·.1) = false) : WN c A (callWith pos (.type id) [] (backTo pos (starEach (e :: rest) env)) []) frs led Q := fun s S => by
  with_reducible refine' N_callWith_type hp ?_
  rw [he] at h ⊢
  exact evalArgs_plain (wpAny_mono (h s S) (fun vs s' ⟨f, l, S', q⟩ => q s' S') fun _ _ x => x)
theorem WN_callFn {pos : Pos} {f k : Addr} {e : Expr} {rest : List Expr} {qual params body scope} {Q : Value → Frs → Led → Prop} (F : FnAt c.base f k qual params body scope) (hf : f ≠ tabP)
    (h : W c A (spliced (backTo pos (starEach (e :: rest) env))) frs led (fun vs fr l => WN c A (call (.ref f) vs) fr l Q)) (he : starEach (e :: rest) env = (false, eval e env) :: starEach rest env)
    (hp : (backTo pos (starEach (e :: rest) env)).any (·.1) = false) : WN c A (callWith pos (.ref f) [] (backTo pos (starEach (e :: rest) env)) []) frs led Q := fun s S => by
  obtain ⟨o, name, doc, pm, an, ct, oc, vs, t, e1, d, _⟩ := F
  with_reducible refine' N_callWith_function (o := o) (fd := fnX name qual params body scope [] .none .none doc pm an (.ref k) ct) hp ?_
  rw [he] at h ⊢
  exact evalArgs_plain (wpAny_mono (h s S) (fun vs s' ⟨f, l, S', q⟩ => ⟨⟨S'.keep _ _ hf e1, d⟩, q s' S'⟩) fun _ _ x => x)
theorem WN_bytearray {n : Nat} {t : Tok} {Q : Value → Frs → Led → Prop} (hg : A.guards = some []) (hh : A.handled = none) (h1 : n ≤ 1000) (h : ∀ a, Q (.ref a) frs ((a, baObj (List.replicate n 0)) :: led)) :
    WN c A (call (.type "bytearray") [.int n t]) frs led Q := fun s S =>
  N_bytearray hg hh (by exact om0) (by exact om258 h1) fun h' hk ho => ⟨_, _, S.push (tk := s.toks) (Ka.of hk) ho (Nat.le_refl _), h _⟩
/-- the way into a def of the text, from a state of which the heap alone is known -/
theorem N_enter {w : World} {A : Around} {s : Shared} (m : Loc) {n : Nat} {f k : Addr} {qual params body scope} {vals : List Value} {binds : List (Str × Value)} {R : Value → Shared → Prop} (hA : AOk (n + 1) A) (T : TopN s.heap) (htab : tabP < s.heap.objs.size) {kc : Option Addr} (htb : ∃ k, TabAt s.heap s.heap [] kc k) (F : FnAt s.heap f k qual params body scope)
    (hb : ∀ name doc pm an ct, bindArgs (fnX name qual params body scope [] .none .none doc pm an (.ref k) ct) ⟨vals, []⟩ = pure binds)
    (hkind : ∀ n, ∀ x ∈ binds, scope.names.lookup x.1 = some .local ∨ (scope.names.lookup x.1 = some .cell ∧ ((cellsFrom n scope.names []).lookup x.1).isSome = true))
    (hco : scope.isCoroutine = false) (hgen : scope.isGenerator = false) (hsk : scope.kind = .function)
    (hm : ∀ L cs, ∀ p ∈ m, bindL (envX qual scope L f (.ref k) cs).kindOf binds (fun _ => none) p.1 = some p.2)
    (hnd : ((cellsFrom 0 scope.names []).map (·.1)).Nodup)
    (h : ∀ (L : Addr) (cs : List (Str × Addr)) (cl : Led), cs.map (·.1) = (cellsFrom 0 scope.names []).map (·.1) → CellsAre (bindC (envX qual scope L f (.ref k) cs).kindOf binds (fun _ => none)) cs cl →
      WN ⟨w, s.heap, s.gens, s.drawn, s.os, kc⟩ (A.deeper (envX qual scope L f (.ref k) cs)) (execs body (envX qual scope L f (.ref k) cs)) [(L, m)] cl (fun fl f' l' => ∃ v, (fl = .ret v ∨ (fl = .next ∧ v = .none)) ∧ ∀ s', Sx ⟨w, s.heap, s.gens, s.drawn, s.os, kc⟩ f' l' s' → R v s')) :
    wpN (model pw w) A (call (.ref f) vals) R (fun _ _ => False) s := by
  obtain ⟨o, name, doc, pm, an, ct, oc, vs, t, e1, d, e2, d2, e3⟩ := F
  refine N_call (codeN_call_cells hA.room e1 d T.nolimit ⟨k, oc, vs, t, rfl, e2, d2, e3⟩ rfl (hb name doc pm an ct) rfl (hkind _) (fun s₁ x => ?_) hco hgen hsk)
  with_reducible refine' exE2_2 x.done fun h₁ tk e hk1 => ?_
  refine exE1_2 (Cl.news (h₀ := s.heap) (L := s.heap.objs.size) (h := s₁.heap) (Nat.le_refl _) fun n c hm => ⟨x.cell n c (lookup_of_mem_nodup (cellsFrom_names scope.names 0 (s.heap.objs.size + 1) [] [] rfl ▸ hnd) hm), x.above n c hm⟩) fun cells NC Y => ?_
  have hkeys : cells.map (·.1) = (cellsFrom (s.heap.objs.size + 1) scope.names []).map (·.2) := cellsAre_keys Y
  have S' : Sx ⟨w, s.heap, s.gens, s.drawn, s.os, kc⟩ [(s.heap.objs.size, m)] cells s₁ := by
    subst e
    have habove : ∀ a ∈ addrs [(s.heap.objs.size, m)] cells, s.heap.objs.size ≤ a := fun a ha => by
      unfold addrs at ha
      rcases List.mem_append.mp ha with ha | ha
      · rw [List.mem_singleton.mp ha]; exact Nat.le_refl _
      · rw [hkeys] at ha
        obtain ⟨⟨n, b⟩, hp, e⟩ := List.mem_map.mp ha
        have := x.above n b hp
        subst e
        exact Nat.le_of_lt this
    have htb' : ∃ k, TabAt s.heap h₁ (addrs [(s.heap.objs.size, m)] cells) kc k := by
      with_reducible refine' exX1 htb fun k T => ?_
      refine ⟨k, hk1 _ _ T.tab, fun a e h => ?_, fun a e => let ⟨oc, vs, t, e1, r⟩ := T.code a e; ⟨oc, vs, t, hk1 _ _ e1, r⟩, .inl T.tab, T.pin⟩
      obtain ⟨oc, vs, t, e1, r⟩ := T.code a e
      exact Nat.lt_irrefl _ (Nat.lt_of_lt_of_le (Heap.lt_size e1) (habove a h))
    refine ⟨Kp.of hk1, fun f hf => ?_, fun p hp => (NC p hp).1, ?_, habove, htab, htb', GensOk.refl _, rfl, rfl, by simp⟩
    · rw [List.mem_singleton.mp hf]
      exact ⟨_, x.toInCall.ns, hm _ _⟩
    · unfold addrs
      rw [List.map_cons, List.map_nil, List.cons_append, List.nil_append, List.nodup_cons]
      refine ⟨fun q => ?_, ?_⟩
      · obtain ⟨p, hp, e⟩ := List.mem_map.mp q
        exact (NC p hp).2.1 e
      · rw [hkeys]
        exact List.pairwise_map.mpr x.apart
  have key := h s.heap.objs.size (cellsFrom (s.heap.objs.size + 1) scope.names []) cells (cellsFrom_names scope.names 0 (s.heap.objs.size + 1) [] [] rfl).symm Y
  refine N_mono (key s₁ S') (fun fl s' ⟨f', l', Z, v, hv, q⟩ => ?_) fun _ _ x => x.elim
  rcases hv with rfl | ⟨rfl, rfl⟩
  · exact q s' Z
  · exact q s' Z
/-- a call of a def of the text without cells -/
theorem WN_fn {n : Nat} {f k : Addr} {qual params body scope} {vals : List Value} {m : Loc} {Q : Value → Frs → Led → Prop} (hA : AOk (n + 1) A) (T : Tops c.base) (F : FnAt c.base f k qual params body scope) (hf : f ≠ tabP) (hk : k ≠ tabP)
    (hb : ∀ name doc pm an ct, bindArgs (fnX name qual params body scope [] .none .none doc pm an (.ref k) ct) ⟨vals, []⟩ = pure m)
    (hkind : ∀ x ∈ m, scope.names.lookup x.1 = some .local)
    (hco : scope.isCoroutine = false) (hgen : scope.isGenerator = false) (hsk : scope.kind = .function) (hcl : cellsFrom 0 scope.names [] = [])
    (hm : ∀ L cs, ∀ p ∈ m, bindL (envX qual scope L f (.ref k) cs).kindOf m (fun _ => none) p.1 = some p.2)
    (h : ∀ (c' : Cx) (L : Addr), c'.w = c.w → Tops c'.base →
      WN c' (A.deeper (envX qual scope L f (.ref k) [])) (execs body (envX qual scope L f (.ref k) [])) [(L, m)] [] (fun fl f' l' => ∃ v, (fl = .ret v ∨ (fl = .next ∧ v = .none)) ∧ Q v frs led)) :
    WN c A (call (.ref f) vals) frs led Q := fun s S => by
  have T' := T.kp S.keep
  refine N_enter m (binds := m) hA T'.n (by have := S.tab; have := S.sz; unfold Addr at *; exact om22 (by assumption) this) (S.tbIn (Ka.refl _) (fun _ h => absurd h List.not_mem_nil)) (F.kp S.keep hf hk) hb (fun _ x hx => .inl (hkind x hx)) hco hgen hsk hm (by rw [hcl]; exact .nil) fun L cs cl hcs Y => ?_
  rw [hcl] at hcs
  cases cs with
  | cons => cases hcs
  | nil =>
    cases Y
    with_reducible refine' WN_mono (h ⟨c.w, s.heap, s.gens, s.drawn, s.os, c.kc⟩ L rfl T') fun fl f' l' ⟨v, hv, q⟩ => ⟨v, hv, fun s' Z => ?_⟩
    exact ⟨_, _, S.back Z, q⟩
end
end
section
/-! own head: the library's open head, for walks in contexts without decoders -/
theorem wp_of_wpN_done {M : Model} {A : Around} {Γ : Ctx} {t : Sem Fin} {R : Result → Shared → Prop} {s : Shared} (hin : Γ.In A) (hd : noDec Γ.code = true) (hb : NDb Γ.below)
    (h : wpN M A t (fun fin s' => ∃ f, fin = .done f ∧ R (.ok f) s') (fun e s' => R (.error e) s') s) (p : Pos) :
    Sem.wp M Γ t (Sem.finPost M Γ R) (fun e _ s' => R (.error e) s') p s := by
  refine Sem.wp_mono M Γ t (fun fin p' s' h' => ?_) (fun _ _ _ h' => h') p s (h Γ p hin hd hb)
  obtain ⟨f, rfl, hf⟩ := h'
  exact hf
theorem thread_ends_bothN {prog : Program} {w : World} {t : Sem Fin} {s : Shared} {R : Result → Shared → Prop} (hreg : s.asleep)
    (h : wpN (model prog w) callerA t (fun fin s' => ∃ f, fin = .done f ∧ (R (.ok f) s' ∧ leftWithCleanup s'.gens = false)) (fun e s' => R (.error e) s' ∧ leftWithCleanup s'.gens = false) s) :
    ∃ n r s' s'', runN (denote table) prog w n s ⟨t, .builtin "claim.caller" {}, default, []⟩ = .halted (outcomeOf r) s' ∧
      schedN (denote table) prog w n (.single s ⟨t, .builtin "claim.caller" {}, default, []⟩) = .halted (outcomeOf r) s' ∧ s'.forget = s''.forget ∧ R r s'' := by
  refine exE4_4 (wp_halts_full (M := model prog w) (R := R) hreg (wp_of_wpN_done (R := fun r s' => R r s' ∧ leftWithCleanup s'.gens = false) caller_in rfl (fun _ h => nomatch h) h default)) fun n r s₁ s₂ hs hn hfo hR => ?_
  exact ⟨n, r, s₂, s₁, hn, hs, hfo, hR⟩
theorem callFrom_of_specN' {c : ClaimW} {tree : List Value → Sem Fin} {w : World} {s : Shared} {free : Addr → Prop} {gens : Prop} {kept : Heap → Prop} (hz : s.asleep) (hgens : s.gens = #[])
    (hspec : ∀ args, c.pre args = true → WData.layableAll args = true →
      ∀ ord : List DictEntry → List DictEntry, (∀ l, (ord l).Perm l) →
      ∃ vs s₁, layAllW c.records (classAt s.heap) w.params ord args s = some (vs, s₁) ∧
        wpN (model c.prog w) callerA (tree vs) (fun fin s' => ∃ f, fin = .done f ∧ (c.Ends s args vs s₁ (.ok f) s' ∧ s'.os = s.os ∧ AllBare s'.gens ∧ kept s'.heap))
          (fun e s' => c.Ends s args vs s₁ (.error e) s' ∧ s'.os = s.os ∧ AllBare s'.gens ∧ kept s'.heap) s₁) :
    c.CallFrom (fun vs => ⟨tree vs, .builtin "claim.caller" {}, default, []⟩) w free gens kept s := by
  intro args hpre hlay ord hord
  refine exE2_2 (hspec args hpre hlay ord hord) fun vs s₁ hlaid hcode => ?_
  have hal := layAllW_rest _ _ _ hlaid
  obtain ⟨k, r, s', s'', hrun, hsched, hfo, hcase, hos, hkp⟩ := thread_ends_bothN (prog := c.prog) (w := w) (t := tree vs) (s := s₁)
    (R := fun r s' => c.Ends s args vs s₁ r s' ∧ s'.os = s.os ∧ kept s'.heap)
    (Shared.asleep_of_life hal.2.2.2 hz)
    (N_mono hcode (by
      rintro fin s' ⟨f, e, h1, h2, h3, h4⟩
      exact ⟨f, e, ⟨h1, h2, h4⟩, leftWithCleanup_false_of_bare h3⟩) (by
      rintro e s' ⟨h1, h2, h3, h4⟩
      exact ⟨⟨h1, h2, h4⟩, leftWithCleanup_false_of_bare h3⟩))
  refine exE0_5 (Shared.forget_eq hfo) fun eh _ _ eo _ => ?_
  have hcase := hcase.congr eh
  have hkp : kept s'.heap := by first | exact eh ▸ hkp | (rw [eh] at hkp; exact hkp) | (rw [← eh] at hkp; exact hkp)
  rw [← eo] at hos
  have hlife : s'.heap.life = s.heap.life := (runN_life _ _ _ hrun).trans hal.2.2.2
  refine ⟨vs, s₁, hlaid, k, _, s', hsched, ?_, (fun _ i x hx => by rw [hgens] at hx; simp at hx), hkp, by rw [hlife], Shared.rest_eq hos⟩
  rcases hcase with ⟨v, rfl, d1, d2, d3, d4, d5⟩ | ⟨e, ob, cls, rfl, d1, d2, d3, d4, d5⟩
  · exact .inl ⟨v, rfl, d1, d2, d3, fun b o y _ => d4 b o y, d5⟩
  · exact .inr ⟨e, ob, cls, rfl, d1, d2, d3, d4, fun b o y _ => d5 b o y⟩
theorem open_anyN' {r : RowW} {run : Value → List Value → Sem Value} {tree : List Value → Sem Fin} {q : Program} {loose defs kps : List Str} {writes : Bool} {Xt : Shared → Bool} {XP : (Str → Option Value) → Heap → Prop} {α : Type} {Yf : Shared → α} {Ya : World → α} {YP : World → Heap → Prop} {N : Nat}
    (left : LeftO r.prog q loose Xt Yf Ya N) (hY : ∀ w s, Yf s = Ya w → YP w s.heap) (hYk : ∀ w h h', YP w h → (∀ b o, h.get? b = some o → h'.get? b = some o) → YP w h') (hX : ∀ s, Xt s = true → XP (s.heap.nsMap mainGlobals) s.heap) (hXk : ∀ mg h h', XP mg h → (∀ b o, h.get? b = some o → h'.get? b = some o) → XP mg h')
    (hRf : ∀ s, Xt s = true → RecFacts r.records s.heap) (hwr : (!writes || r.records.isEmpty) = true) (ok : (chainsOk q && opensWell r.prog && (frees r && r.within.isEmpty)) = true) (hb : r.prog.bare) (hw : r.promised)
    (ht : ∀ vs (w : World) (s : Shared) mg f (Q : Fin → Shared → Prop) (E : Value → Shared → Prop), s.heap.Ns mainGlobals mg → mg r.name = some f → wpN (model r.prog w) callerA (run f vs) (fun v s' => Q (.done (.ret v)) s') E s → wpN (model r.prog w) callerA (tree vs) Q E s)
    (pin : ∀ w s, s.heap.isNs mainGlobals = true → Ground q loose [] XP w s (s.heap.nsMap mainGlobals) (s.heap.nsMap builtinsNs) s.heap → ∀ n ∈ defs, isTheDefsW r.prog s.heap n)
    (call : ∀ (w : World) (s₀ s₁ : Shared) (mg mb : Str → Option Value), Ground q loose r.records XP w s₀ mg mb s₁.heap → YP w s₁.heap → ∀ (args : List WData) (vs : List Value) (as : List Addr),
      r.claim.pre args = true → WData.layableAll args = true → Laid r.records w s₀ s₁ args vs as → sysModules < s₀.heap.objs.size → ∃ f, mg r.name = some f ∧
        wpN (model r.prog w) callerA (run f vs) (fun v s' => GoodWG r.claim (classAt s₀.heap) (ExcName.means s₀.heap) args s₁ (.ok (.ret v)) s')
          (fun e s' => GoodWG r.claim (classAt s₀.heap) (ExcName.means s₀.heap) args s₁ (.error e) s') s₁) : r.claim.HoldsOpenBy (fun vs => ⟨tree vs, .builtin "claim.caller" {}, default, []⟩) defs kps writes := by
  refine exE0_2 (Bool.and_eq_true_iff.mp ok) fun ok k5 => ?_
  refine exE0_2 (Bool.and_eq_true_iff.mp ok) fun hch o1 => ?_
  refine exE0_2 (Bool.and_eq_true_iff.mp k5) fun k5 k6 => ?_
  refine exE0_5 (frees_parts k5) fun hsame hu ha hap hm => ?_
  refine ⟨⟨hb, o1, by show r.makers.map _ = []; rw [hm]; rfl⟩, hw.witness, fun w => ⟨(left.behind hX hch w).1, fun s' hs' => ?_⟩⟩
  obtain ⟨s₀, hf, hg0, s, hT, hz, hgens, hg, G00, y⟩ := (left.behind (XP := fun mg h => XP mg h ∧ RecFacts r.records h) (fun s hs => ⟨hX s hs, hRf s hs⟩) hch w).2 s' hs'
  have G0 : Ground q loose [] XP w s (s.heap.nsMap mainGlobals) (s.heap.nsMap builtinsNs) s.heap := ⟨G00.T, G00.B, G00.D, G00.TE, G00.TD, G00.W, G00.X.1, G00.cls, G00.has, G00.apart, G00.once, G00.K⟩
  have RF := G00.X.2
  have hT' := hT
  refine ⟨s₀, hf, hg0, s, hT, pin w s hg G0, RF.1, RF.2.1, ?_⟩
  have hgens : s.gens = #[] := Array.eq_empty_of_size_eq_zero (beq_iff_eq.mp hgens)
  have G : Ground q loose r.records XP w s _ _ s.heap := RF.ground G0
  refine callFrom_of_specN' (c := r.claim) hz hgens fun args hpre hlay ord hord => ?_
  obtain ⟨⟨vs, s₁⟩, hlaid⟩ := Option.isSome_iff_exists.mp (layAllW_isSome (P := w.params) (ord := ord) G.has args r.args s (pre_splitW hpre).1)
  have keeps := layAllW_keeps _ _ _ hlaid
  have hal := layAllW_rest _ _ _ hlaid
  refine exE1_3 (reads_layAllW hord _ _ _ hlaid hlay s₁.heap (fun _ _ e => e)) fun as hrd hin hold => ?_
  have L : Laid r.records w s s₁ args vs as := ⟨⟨ord, hord, hlaid⟩, hrd, hin, hold, keeps, hal.1.trans hgens, hal.2.2.1⟩
  have G₁ := G.keeps hXk keeps
  refine exE1_2 (call w s s₁ _ _ G₁ (hYk _ _ _ (hY w s y) keeps) args vs as hpre hlay L G.low) fun f hf h => ?_
  have hi := ident_freeW hu ha hap
  have hwi : r.claim.within = [] := List.isEmpty_iff.mp k6
  exact ⟨vs, s₁, hlaid, ht vs w s₁ _ f _ _ G₁.T.g hf (N_mono h (fun v s' g => ⟨_, rfl, have z := g.laid (c := r.claim) hsame hwi hi L; ⟨z.1, z.2.1, z.2.2, fun q => ⟨namesKept_of hT' hg kps keeps g.2.1.old, noTable hwr q⟩⟩⟩) fun e s' g => have z := g.laid (c := r.claim) hsame hwi hi L; ⟨z.1, z.2.1, z.2.2, fun q => ⟨namesKept_of hT' hg kps keeps g.2.1.old, noTable hwr q⟩⟩)⟩
abbrev WalkN' (q : Program) (loose : List Str) (XP : (Str → Option Value) → Heap → Prop) (YP : World → Heap → Prop) (r : RowW) (d : DefRec) (kwd : List (Str × Expr)) (run : Value → List Value → Sem Value) : Prop :=
  ∀ (w : World) (s₀ s₁ : Shared) (mg mb : Str → Option Value), Ground q loose r.records XP w s₀ mg mb s₁.heap → YP w s₁.heap → ∀ (a : Addr) (o : Obj) (pm cd doc dV kV : Value), s₁.heap.get? a = some o →
    o.data = .func { docDef d.name d.params d.body d.scope pm cd doc with defaults := dV, kwdefaults := kV } → s₁.heap.CodeRec cd d.name → Dflts mg s₁.heap d.params kwd dV kV → mg d.name = some (.ref a) → s₁.gens = #[] →
    ∀ (args : List WData) (vals : List Value) (as : List Addr), r.claim.pre args = true → WData.layableAll args = true → ReadsAllW r.records (classAt s₀.heap) s₁.heap vals args as → WellAll w.params s₁.heap vals args → (∀ a ∈ as, (a == sysModules) = false) →
      wpN (model r.prog w) callerA (run (.ref a) vals) (fun v s' => GoodWG r.claim (classAt s₀.heap) (ExcName.means s₀.heap) args s₁ (.ok (.ret v)) s')
        (fun e s' => GoodWG r.claim (classAt s₀.heap) (ExcName.means s₀.heap) args s₁ (.error e) s') s₁
theorem holdsOpenN {r : OpenRow} {q : Program} {loose : List Str} {Xt : Shared → Bool} {XP : (Str → Option Value) → Heap → Prop} {α : Type} {Yf : Shared → α} {Ya : World → α} {YP : World → Heap → Prop} {d : DefRec} {kwd : List (Str × Expr)} {N : Nat}
    (left : LeftO r.prog q loose Xt Yf Ya N) (hY : ∀ w s, Yf s = Ya w → YP w s.heap) (hYk : ∀ w h h', YP w h → (∀ b o, h.get? b = some o → h'.get? b = some o) → YP w h')
    (hX : ∀ s, Xt s = true → XP (s.heap.nsMap mainGlobals) s.heap) (hXk : ∀ mg h h', XP mg h → (∀ b o, h.get? b = some o → h'.get? b = some o) → XP mg h')
    (hdef : defOf q r.name = some (d, kwd)) (hp : r.prog.theDef r.name = some (d.params, d.body, d.scope)) (hk : kwWritten? d.params.kwonlyargs d.params.kw_defaults = some kwd) (hRf : ∀ s, Xt s = true → RecFacts r.records s.heap) (hwr : (!r.writes || r.records.isEmpty) = true)
    (k1 : r.wellSaid = true) (ok : (chainsOk q && opensWell r.prog && (frees r.toRowW && r.within.isEmpty)) = true) (hb : r.prog.bare) (hw : r.toRowW.promised)
    (call : WalkN' q loose XP YP r.toRowW d kwd fun f vs => PySem.call f vs) : r.Holds := by
  refine ⟨k1, hw, open_anyN' (r := r.toRowW) (run := fun f vs => PySem.call f vs) (tree := fun vs => do match ← nsGet mainNs r.name with
      | some f => do ret (← PySem.call f vs)
      | none => unsupported "claim.caller:no-such-global") left hY hYk hX hXk hRf hwr ok hb hw
    (fun vs w s mg f Q E hg hf h => N_bindA (wpAny_nsGet hg (by rw [hf]; exact N_bind (N_mono h (fun _ _ x => N_pure x) fun _ _ x => x))))
    (fun w s hg G n hn => ?_) fun w s₀ s₁ mg mb G Y args vs as hpre hlay L low => ?_⟩
  · obtain rfl : n = r.name := by split at hn <;> simp_all
    exact pinned_of_view hg G hdef hp hk
  · refine exE7_5 (G.fn hdef) fun a o pm cd doc dV kV h1 h2 h3 h4 h5 => ?_
    exact ⟨.ref a, h1, call w s₀ s₁ mg mb G Y a o pm cd doc dV kV h2 h3 h4 h5 (defOf_name hdef ▸ h1) L.gens args vs as hpre hlay L.reads L.well (L.low low)⟩
end
section
/-! one step of a walk: the rule for the tree at hand -/
local macro_rules | `(tactic| walk_at "mem") => `(tactic| focus ((repeat (first | (with_reducible exact List.mem_cons_self) | (with_reducible refine' List.mem_cons_of_mem _ ?_))); done))
local macro_rules | `(tactic| walk_at "at") => `(tactic| first | ((with_reducible refine' At.led ?a); (case a => walk_at "mem")) | walk_at "atc" | exact At.base (by with_reducible assumption) (by with_reducible assumption) | exact At.base (by with_reducible assumption) (by decide))
local macro_rules | `(tactic| walk_at "atc") => `(tactic| first | with_reducible assumption | ((with_reducible refine' At.cons ?a); (case a => walk_at "atc")))
local macro_rules | `(tactic| walk_at "up") => `(tactic| first | (with_reducible exact Up.head) | ((with_reducible refine' Up.tail ?h1); (case h1 => walk_at "up")))
local macro_rules | `(tactic| walk_at "rm") => `(tactic| first | (with_reducible exact Rm.head) | ((with_reducible refine' Rm.tail ?h1); (case h1 => walk_at "rm")))
local macro_rules | `(tactic| walk_at "keep") => `(tactic| (intro p hp; (repeat (first | (rcases List.mem_cons.mp hp with hp | hp; · (subst hp; exact ⟨by walk_at "mem", by decide⟩)) | exact absurd hp List.not_mem_nil))))
local macro_rules | `(tactic| walk_at "sub") => `(tactic| (intro p hp; (repeat (first | (rcases List.mem_cons.mp hp with hp | hp; · (subst hp; walk_at "mem")) | exact absurd hp List.not_mem_nil))))
local macro_rules | `(tactic| walk_at "kne") => `(tactic| focus ((repeat (first | (with_reducible exact KNe.nil) | ((with_reducible refine' KNe.cons ?h1 ?_); (case h1 => decide)))); done))
local macro_rules | `(tactic| walk_at "setl") => `(tactic| first | (with_reducible exact SetL.new) | ((with_reducible refine' SetL.head ?h1); (case h1 => walk_at "kne")) | ((with_reducible refine' SetL.tail ?h1 ?h2); (case h1 => decide); (case h2 => walk_at "setl")))
local macro_rules | `(tactic| walk_at "sl") => `(tactic| with_reducible first | exact List.Sublist.refl _ | exact List.Sublist.slnil | (refine' List.Sublist.cons_cons _ ?_; walk_at "sl") | (refine' List.Sublist.cons _ ?_; walk_at "sl"))
local macro_rules | `(tactic| walk_at "fw") => `(tactic| first | exact FW.refl _ | (refine' FW.cons ?_ ?_; walk_at "sub"; walk_at "fw"))
local macro_rules | `(tactic| walk_at "wk") => `(tactic| (refine' Wk.mk ?_ ?_; walk_at "fw"; walk_at "sl"))
local macro_rules | `(tactic| walk_at "topn") => `(tactic| first | with_reducible assumption | exact Tops.n (by with_reducible assumption))
local macro_rules | `(tactic| walk_at "glmem") => `(tactic| first | (unfold gl; walk_at "mem") | (unfold bl; walk_at "mem"))
local macro_rules | `(tactic| walk_at "hand") => `(tactic| first | with_reducible assumption | exact AOk.handled (by with_reducible assumption) | (show Around.handled _ = none; exact AOk.handled (by assumption)))
local macro_rules | `(tactic| walk_at "size") => `(tactic| first | with_reducible assumption | (simp only [List.length_append, List.length_cons, List.length_nil]; rw [PySem.sizeLine_eq]; omega) | (rw [PySem.sizeLine_eq]; omega))
local macro_rules | `(tactic| walk_at "fnat") => `(tactic| first
  | (with_reducible refine' Tops.keqv (by assumption))
  | (with_reducible refine' Tops.http (by assumption))
  | (with_reducible refine' Tops.unq (by assumption))
  | (with_reducible refine' Tops.quo (by assumption))
  | (with_reducible refine' Tops.swap (by assumption))
  | (with_reducible refine' Tops.pmap (by assumption))
  | (with_reducible refine' Tops.prep (by assumption))
  | (with_reducible refine' Tops.cells (by assumption))
  | (with_reducible refine' Tops.wish (by assumption))
  | (with_reducible refine' Tops.figs (by assumption))
  | (with_reducible refine' Tops.letter (by assumption))
  | (with_reducible refine' Tops.told (by assumption))
  | (with_reducible refine' Tops.book (by assumption))
  | (with_reducible refine' Tops.led (by assumption))
  | (with_reducible refine' Tops.singly (by assumption))
  | (with_reducible refine' Tops.ring (by assumption)))
local macro_rules | `(tactic| walk_at "m") => `(tactic| first
  | ((with_reducible refine' W_storeCell ?h1 ?h2 ?h3 ?h4 ?h5 (fun _ _ => ?_)); (case h1 => rfl); (case h2 => rfl); (case h3 => rfl); (case h4 => intro o'; walk_at "up"); (case h5 => with_reducible assumption))
  | ((with_reducible refine' W_iterTuple ?h1 (fun _ => ?_)); (case h1 => walk_at "at"))
  | ((with_reducible refine' W_AugSub ?_ ?h2); (case h2 => intros; rfl))
  | (with_reducible refine' W_range1 (fun _ _ _ _ => ?_))
  | (with_reducible refine' Again_next ?_)
  | (with_reducible refine' W_Slice ?_)
  | (with_reducible refine' W_partNone ?_)
  | (with_reducible refine' W_partSome ?_)
  | (with_reducible refine' W_neg (fun _ => ?_))
  | ((with_reducible refine' W_AssignSub ?_ ?h2); (case h2 => rfl))
  | ((with_reducible refine' W_pairList ?h1 ?h2 ?h3 ?_); (case h1 => walk_at "hand"); (case h2 => walk_at "at"); (case h3 => rfl))
  | ((with_reducible refine' W_pairTuple ?h1 ?h2 ?h3 ?_); (case h1 => walk_at "hand"); (case h2 => walk_at "at"); (case h3 => rfl))
  | (with_reducible refine' comp_done (List.cons_ne_nil _ _) ?_)
  | (with_reducible refine' comp_done (by assumption) ?_)
  | (with_reducible refine' next_and ?_)
  | (with_reducible refine' none_and ?_)
  | ((with_reducible refine' W_iterList ?h1 (fun _ => ?_)); (case h1 => walk_at "at"))
  | ((with_reducible refine' W_iterListO ?h1 ?h2 (fun _ => ?_)); (case h1 => walk_at "at"); (case h2 => with_reducible assumption))
  | ((with_reducible refine' W_ListComp ?h1 ?h2 ?h3 ?h4 ?h5 ?h6 ?h7 ?_); (case h1 => rfl); (case h2 => intros; rfl); (case h3 => rfl); (case h4 => rfl); (case h5 => decide); (case h6 => decide); (case h7 => walk_at "hand"))
  | ((with_reducible refine' W_AssignComp ?h1 ?h2 ?h3 ?h4 ?h5 ?h6 ?h7 ?h8 ?_); (case h1 => rfl); (case h2 => rfl); (case h3 => intros; rfl); (case h4 => rfl); (case h5 => rfl); (case h6 => decide); (case h7 => decide); (case h8 => walk_at "hand"))
  | (with_reducible refine' if_t ?_)
  | (with_reducible refine' if_nt ?_)
  | (with_reducible refine' if_nf ?_)
  | (with_reducible refine' if_f ?_)
  | (with_reducible refine' ex_bool ?_)
  | ((with_reducible refine' W_callBu1 ?_ ?h2 ?h3); (case h2 => rfl); (case h3 => rfl))
  | ((with_reducible refine' W_callBuN ?_ ?h2 ?h3); (case h2 => rfl); (case h3 => rfl))
  | ((with_reducible refine' W_callTyN ?_ ?h2 ?h3); (case h2 => rfl); (case h3 => rfl))
  | ((with_reducible refine' W_callFnN ?h1 ?h2 ?_ ?h4); (case h1 => walk_at "fnat"); (case h2 => decide); (case h4 => rfl))
  | (with_reducible refine' W_callBu0 ?_)
  | ((with_reducible refine' W_gmList ?h1 ?h2 ?h3 ?_); (case h1 => with_reducible first | exact PySem.F.slot_list_append | exact PySem.F.slot_list_pop | exact PySem.F.slot_list_extend | exact PySem.F.slot_list_index); (case h2 => with_reducible first | exact PySem.F.type_list_append | exact PySem.F.type_list_pop | exact PySem.F.type_list_extend | exact PySem.F.type_list_index); (case h3 => walk_at "at"))
  | ((with_reducible refine' W_gmStr ?h1 ?h2 ?_); (case h1 => with_reducible first | exact PySem.F.slot_str_strip | exact PySem.F.slot_str_join | exact PySem.F.slot_str_split); (case h2 => with_reducible first | exact PySem.F.type_str_strip | exact PySem.F.type_str_join | exact PySem.F.type_str_split))
  | ((with_reducible refine' W_appendL ?h1 ?h2 ?_); (case h1 => walk_at "up"); (case h2 => walk_at "size"))
  | ((with_reducible refine' W_ExprNone ?_ ?h2 ?h3); (case h2 => rfl); (case h3 => rfl))
  | (with_reducible refine' And.intro (rfl : Value.none = Value.none) ?_)
  | (with_reducible refine' Then_next ?_)
  | (with_reducible refine' Then_ret ?_)
  | (with_reducible refine' Then_cont ?_)
  | (with_reducible refine' ForTurn_none ?_)
  | (with_reducible refine' ForTurn_some ?_)
  | ((with_reducible refine' W_set ?h1 ?h2 ?h3 ?h4 ?_); (case h1 => rfl); (case h2 => rfl); (case h3 => rfl); (case h4 => walk_at "setl"))
  | ((with_reducible refine' W_set2 ?h1 ?h2 ?h3 ?h4 ?_); (case h1 => rfl); (case h2 => rfl); (case h3 => rfl); (case h4 => walk_at "setl"))
  | ((with_reducible refine' W_Assign2 ?_ ?h2 ?h3); (case h2 => rfl); (case h3 => rfl))
  | (with_reducible refine' CompTurn_some ?_)
  | (with_reducible refine' CompEmit_true ?_)
  | (with_reducible refine' CompEmit_false ?_)
  | (with_reducible refine' OutIn_some ?_)
  | (with_reducible refine' Turn_next ?_)
  | (with_reducible refine' Turn_cont ?_)
  | (with_reducible refine' Turn_ret ?_)
  | (with_reducible refine' TurnIn_some ?_)
  | (with_reducible refine' CompIn_some ?_)
  | (with_reducible refine' EmitIn_true ?_)
  | (with_reducible refine' EmitIn_false ?_)
  | (with_reducible refine' W_letGo ?_)
  | (with_reducible refine' W_assignName ?_)
  | (with_reducible refine' W_cons ?_)
  | (with_reducible refine' W_nil ?_)
  | (with_reducible refine' W_Return ?_)
  | (with_reducible refine' W_If ?_)
  | ((with_reducible refine' W_local ?h1 ?h2 ?h3 ?h4 ?h5 ?_); (case h1 => rfl); (case h2 => rfl); (case h3 => rfl); (case h4 => walk_at "mem"); (case h5 => decide))
  | ((with_reducible refine' W_cell ?h1 ?h2 ?h3 ?h4 ?h5 ?h6 ?_); (case h1 => rfl); (case h2 => rfl); (case h3 => rfl); (case h4 => walk_at "at"); (case h5 => first | with_reducible assumption | rfl); (case h6 => decide))
  | ((with_reducible refine' W_free ?h1 ?h2 ?h3 ?h4 ?h5 ?h6 ?h7 ?_); (case h1 => rfl); (case h2 => rfl); (case h3 => rfl); (case h4 => walk_at "at"); (case h5 => first | with_reducible assumption | rfl); (case h6 => decide); (case h7 => decide))
  | ((with_reducible refine' W_global ?h1 ?h2 ?h3 ?h4 ?h5 ?h6 ?_); (case h1 => walk_at "topn"); (case h2 => rfl); (case h3 => rfl); (case h4 => rfl); (case h5 => walk_at "glmem"); (case h6 => decide))
  | ((with_reducible refine' W_builtin ?h1 ?h2 ?h3 ?h4 ?h5 ?h6 ?h7 ?_); (case h1 => walk_at "topn"); (case h2 => rfl); (case h3 => rfl); (case h4 => rfl); (case h5 => rfl); (case h6 => walk_at "glmem"); (case h7 => decide))
  | (with_reducible refine' W_int (fun _ => ?_))
  | (with_reducible refine' W_str (fun _ => ?_))
  | (with_reducible refine' W_List ?_)
  | (with_reducible refine' W_Tuple ?_)
  | ((with_reducible refine' And.intro ?h1 (fun _ => ?_)); (case h1 => exact Nat.le_of_ble_eq_true rfl))
  | (with_reducible refine' W_none ?_)
  | (with_reducible refine' W_bool ?_)
  | (with_reducible refine' W_BinOp ?_)
  | (with_reducible refine' W_Subscript ?_)
  | ((with_reducible refine' W_Method ?_ ?h2); (case h2 => with_unfolding_all rfl))
  | ((with_reducible refine' W_isTrue_Compare ?_ ?h2); (case h2 => with_unfolding_all rfl))
  | ((with_reducible refine' W_Compare ?_ ?h2); (case h2 => with_unfolding_all rfl))
  | (with_reducible refine' W_isTrue_Not ?_)
  | (with_reducible refine' W_isTrue_BoolOp ?_)
  | (with_reducible refine' W_and_nil ?_)
  | (with_reducible refine' W_and_cons ?_)
  | ((with_reducible refine' W_isTrue_value ?_ ?h2); (case h2 => rfl))
  | (with_reducible refine' W_UnaryOp ?_)
  | ((with_reducible refine' W_Assign_Name ?_ ?h2); (case h2 => rfl))
  | (with_reducible refine' W_AugAssign_Name ?_)
  | ((with_reducible refine' W_loadLocal ?h1 ?h2 ?h3 ?h4 ?_); (case h1 => rfl); (case h2 => rfl); (case h3 => rfl); (case h4 => walk_at "mem"))
  | (with_reducible refine' W_Continue ?_)
  | (with_reducible refine' W_CallName ?_)
  | ((with_reducible refine' W_args_cons ?_ ?h2); (case h2 => rfl))
  | (with_reducible refine' W_args_nil ?_)
  | (with_reducible refine' W_add (fun _ => ?_))
  | (with_reducible refine' W_sub (fun _ => ?_))
  | (with_reducible refine' W_leInt ?_)
  | (with_reducible refine' W_ltInt ?_)
  | (with_reducible refine' W_eqStr ?_)
  | (with_reducible refine' W_eqInt ?_)
  | (with_reducible refine' W_truthy_bool ?_)
  | ((with_reducible refine' W_Assign1 ?_ ?h2 ?h3 ?h4); (case h2 => rfl); (case h3 => rfl); (case h4 => rfl))
  | ((with_reducible refine' W_For ?h1 ?_ ?h3); (case h1 => walk_at "hand"); (case h3 => intros; rfl)))
local macro_rules | `(tactic| walk_at "name") => `(tactic| first | ((with_reducible refine' W_local ?h1 ?h2 ?h3 ?h4 ?h5 ?_); (case h1 => rfl); (case h2 => rfl); (case h3 => rfl); (case h4 => walk_at "mem"); (case h5 => decide)) | ((with_reducible refine' W_cell ?h1 ?h2 ?h3 ?h4 ?h5 ?h6 ?_); (case h1 => rfl); (case h2 => rfl); (case h3 => rfl); (case h4 => walk_at "at"); (case h5 => first | with_reducible assumption | rfl); (case h6 => decide)) | ((with_reducible refine' W_free ?h1 ?h2 ?h3 ?h4 ?h5 ?h6 ?h7 ?_); (case h1 => rfl); (case h2 => rfl); (case h3 => rfl); (case h4 => walk_at "at"); (case h5 => first | with_reducible assumption | rfl); (case h6 => decide); (case h7 => decide)) | ((with_reducible refine' W_global ?h1 ?h2 ?h3 ?h4 ?h5 ?h6 ?_); (case h1 => walk_at "topn"); (case h2 => rfl); (case h3 => rfl); (case h4 => rfl); (case h5 => walk_at "glmem"); (case h6 => decide)) | ((with_reducible refine' W_builtin ?h1 ?h2 ?h3 ?h4 ?h5 ?h6 ?h7 ?_); (case h1 => walk_at "topn"); (case h2 => rfl); (case h3 => rfl); (case h4 => rfl); (case h5 => rfl); (case h6 => walk_at "glmem"); (case h7 => decide)))
local macro_rules | `(tactic| walk_at "go") => `(tactic| repeat (walk_at "m"))
local macro_rules | `(tactic| walk_at "start") => `(tactic| (refine' W_cons ?_))
local macro_rules | `(tactic| walk_at "env1") => `(tactic| (intro L cs; walk_at "loc"))
local macro_rules | `(tactic| walk_at "loc") => `(tactic| first | exact List.forall_mem_nil _ | (refine' List.forall_mem_cons.mpr ⟨rfl, ?_⟩; walk_at "loc"))
section
section
variable {c : Cx} {A : Around} {frs : Frs} {led : Led}
theorem item_hex' (i : Int) (h0 : 0 ≤ i) (h1 : i < 16) : Txt.item (Str.ofString "0123456789ABCDEF") i = ⟨#[hexd i]⟩ := item_hex i h0 h1
theorem fig_len (o : Int) : (fig o).length = 2 := rfl
theorem c_figures {n : Nat} {o : Int} {t : Tok} {Q : Value → Frs → Led → Prop} (hA : AOk (n + 1) A) (T : Tops c.base)
    (h0 : 0 ≤ o) (h1 : o < 256) (h : ∀ t, Q (.str (fig o) t) frs led) : W c A (call (.ref 124) [.int o t]) frs led Q := by
  with_reducible refine' W_fn (m := [("octet", .int o t)]) hA T T.figs ?z1 ?z2 ?z3 ?z4 ?z5 ?z6 ?z7 ?z8 ?z9 ?_
  case z1 => decide
  case z2 => decide
  case z3 => (intros; rfl)
  case z4 => walk_at "loc"
  case z5 => rfl
  case z6 => rfl
  case z7 => rfl
  case z8 => rfl
  case z9 => walk_at "env1"
  intro c' L hw T' hk hat
  with_reducible refine' W_hide fun R hR => ?_
  walk_at "start"
  walk_at "go"
  with_reducible refine' W_div ?z1 ?z2 fun _ => ?_
  case z1 => decide
  case z2 => decide
  with_reducible refine' W_itemStr ?_ ?_ ?z1 ?z2 ?z3 fun _ => ?_
  case z1 => decide
  case z2 => rfl
  case z3 => (intros; rfl)
  · show -((16 : Nat) : Int) ≤ _; exact om108 h0
  · show _ < ((16 : Nat) : Int); exact om109 h1
  walk_at "go"
  with_reducible refine' W_mod ?z1 fun _ => ?_
  case z1 => decide
  with_reducible refine' W_itemStr ?_ ?_ ?z1 ?z2 ?z3 fun _ => ?_
  case z1 => decide
  case z2 => rfl
  case z3 => (intros; rfl)
  · show -((16 : Nat) : Int) ≤ _; exact om110
  · show _ < ((16 : Nat) : Int); exact om111
  rw [item_hex' _ (by exact om112 h0) (by exact om113 h1), item_hex' _ (by exact om114) (by exact om115)]
  with_reducible refine' W_cat ?z1 fun t' => ?_
  case z1 => (show (1:Nat)+1 ≤ sizeLine; decide)
  walk_at "go"
  exact hR _ _ _ ⟨_, [], .inl rfl, List.nil_sublist _, h t'⟩
end
end
section
/-! _byteswap -/
def swSet (l acc : List Nat) (p : Nat) : List Nat := acc.set (4 * (p / 4) + 3 - p % 4) (l.getD p 0)
def swRun (l : List Nat) (n : Nat) : List Nat := (List.range n).foldl (swSet l) (List.replicate 16 0)
def swapL (l : List Nat) : List Nat := swRun l 16
theorem swRun_len (l : List Nat) : ∀ n, (swRun l n).length = 16 := by
  intro n
  unfold swRun
  induction n with
  | zero => rfl
  | succ n ih =>
    rw [List.range_succ, List.foldl_append]
    show (List.set _ _ _).length = 16
    rw [List.length_set]
    exact ih
theorem swRun_succ (l : List Nat) (n : Nat) : swRun l (n + 1) = swSet l (swRun l n) n := by unfold swRun; rw [List.range_succ, List.foldl_append]; rfl
section
variable {c : Cx} {A : Around} {frs : Frs} {led : Led}
theorem c_swap {n : Nat} {l : List Nat} {t tb : Tok} {Q : Value → Frs → Led → Prop} (hA : AOk (n + 1) A) (T : Tops c.base) (hl : l.length = 16) (hr : ∀ x ∈ l, x < 256)
    (h : ∀ t, Q (.bytes (bys (swapL l)) t) frs led) : WN c A (call (.ref 68) [.bytes (bys l) tb, .int 4 t]) frs led Q := by
  with_reducible refine' WN_fn (m := [("data", .bytes (bys l) tb), ("width", .int 4 t)]) hA T T.swap ?z1 ?z2 ?z3 ?z4 ?z5 ?z6 ?z7 ?z8 ?z9 ?_
  case z1 => decide
  case z2 => decide
  case z3 => (intros; rfl)
  case z4 => walk_at "loc"
  case z5 => rfl
  case z6 => rfl
  case z7 => rfl
  case z8 => rfl
  case z9 => walk_at "env1"
  intro c' L hw T'
  have hA' : AOk n (A.deeper (envX (Str.ofString "_byteswap") (fnS (stAt 20)) L 68 (.ref 67) [])) := hA.deeper
  refine WN_cons ?_
  with_reducible refine' WN_AssignName ?_ ?z1
  case z1 => rfl
  with_reducible refine' WN_CallName ?_
  walk_at "go"
  with_reducible refine' WN_callTy ?_ ?z1 ?z2
  case z1 => rfl
  case z2 => rfl
  walk_at "go"
  with_reducible refine' W_lenBytes ?z1 fun _ => ?_
  case z1 => exact om25 hl
  walk_at "go"
  rw [hl]
  with_reducible refine' WN_bytearray hA'.guards hA'.handled ?z1 fun D => ?_
  case z1 => decide
  walk_at "go"
  with_reducible refine' WN_of ?_
  walk_at "go"
  with_reducible refine' W_lenBytes ?z1 fun _ => ?_
  case z1 => exact om25 hl
  walk_at "go"
  rw [hl]
  with_reducible refine' W_range3 ?z1 ?z2 fun R _ _ _ => ?_
  case z1 => decide
  case z2 => decide
  with_reducible refine' W_iterRange ?z1 ?z2 (n := 4) ?z3 fun I => ?_
  case z1 => exact (.led (.head _))
  case z2 => rfl
  case z3 => rfl
  with_reducible refine' Wc_forInd 4 (fun i f l' => ∃ (x left : Int), x = 4 * (i : Int) ∧ left = 4 - (i : Int) ∧ Wk [(L, [("data", .bytes (bys l) tb), ("width", .int 4 t), ("swapped_data", .ref D)])] [(I, rangeIt x left 4), (D, baObj (swRun l (4 * i)))] f l') ?h0 ?_ ?_
  case h0 =>
    refine' exI2 0 (4) ⟨rfl, rfl, ?w⟩
    case w =>
      rw [show swRun l (4 * 0) = List.replicate 16 0 from rfl]
      walk_at "wk"
  · intro i hi f l' hI
    first | with_reducible refine' W_hideT fun J K hJ hK => ?_ | with_reducible refine' W_hideC fun J K hJ hK => ?_ | with_reducible refine' W_hideO fun J K hJ hK => ?_
    with_reducible refine' exE2_3 hI fun x left hx hleft hwk => ?_
    clear hI
    with_reducible refine' W_wk hwk ?_
    with_reducible refine' W_nextRange ?z1 ?z2 fun ti => ?_
    case z1 => intro o'; walk_at "up"
    case z2 => exact om116 hi hleft
    walk_at "go"
    with_reducible refine' W_iterRangeN (n := 4) ?z1 ?z2 fun I2 x0 l0 hx0 hl0 => ?_
    case z1 => exact (.led (.head _))
    case z2 => decide
    with_reducible refine' Wc_forInd 4 (fun j f l' => ∃ (x' left' : Int), x' = j ∧ left' = (4 : Nat) - (j : Int) ∧ Wk [(L, [("data", .bytes (bys l) tb), ("width", .int 4 t), ("swapped_data", .ref D), ("i", .int x ti)])] [(I2, rangeIt x' left' 1), (I, rangeIt (x + 4) (left - 1) 4), (D, baObj (swRun l (4 * i + j)))] f l') ?h0 ?_ ?_
    case h0 =>
      refine' exI2 x0 l0 ⟨hx0, hl0, ?w⟩
      case w =>
        rw [show 4 * i + 0 = 4 * i from rfl]
        walk_at "wk"
    · intro j hj f l' hI
      first | with_reducible refine' W_hideT fun J K hJ hK => ?_ | with_reducible refine' W_hideC fun J K hJ hK => ?_ | with_reducible refine' W_hideO fun J K hJ hK => ?_
      with_reducible refine' exE2_3 hI fun x' left' hx' hleft' hwk => ?_
      clear hI
      with_reducible refine' W_wk hwk ?_
      with_reducible refine' W_nextRangeN ?z1 hx' hleft' hj fun tj x2 left2 hx2 hl2 => ?_
      case z1 => intro o'; walk_at "up"
      walk_at "go"
      have hp : 4 * i + j < l.length := by exact om117 hl hi hj
      rw [show x + (j : Int) = ((4 * i + j : Nat) : Int) by exact om118 hx]
      with_reducible refine' W_itemBytes (List.getElem?_eq_getElem hp) (hr _ (List.getElem_mem hp)) ?z1 ?z2 ?z3 fun _ => ?_
      case z1 => exact om25 hl
      case z2 => rfl
      case z3 => (intros; rfl)
      walk_at "go"
      with_reducible refine' W_setBA ?z1 (i := 4 * i + 3 - j) ?z2 ?z3 ?z4 (hr _ (List.getElem_mem hp)) ?z5 ?_
      case z1 => (intro o'; walk_at "up")
      case z2 => exact om119 hx hj
      case z3 => rfl
      case z4 => (rw [swRun_len]; exact om120 hl hp)
      case z5 => (rw [swRun_len]; decide)
      walk_at "go"
      refine' hJ _ _ (exI2 x2 left2 ⟨hx2, hl2, ?w⟩)
      case w =>
        have e : swRun l (4 * i + (j + 1)) = (swRun l (4 * i + j)).set (4 * i + 3 - j) l[4 * i + j] := by
          rw [show 4 * i + (j + 1) = (4 * i + j) + 1 from rfl, swRun_succ]
          unfold swSet
          rw [List.getD_eq_getElem?_getD, List.getElem?_eq_getElem hp, Option.getD_some, show 4 * ((4 * i + j) / 4) + 3 - (4 * i + j) % 4 = 4 * i + 3 - j by exact om121 hj]
        rw [e]
        walk_at "wk"
    · intro f l' hI
      with_reducible refine' exE2_3 hI fun x' left' hx' hleft' hwk => ?_
      clear hI
      with_reducible refine' W_wk hwk ?_
      with_reducible refine' W_endRangeN hA'.handled ?z1 ?z2 hleft' ⟨rfl, ?_⟩
      case z1 => walk_at "rm"
      case z2 => walk_at "mem"
      walk_at "go"
      refine' hJ _ _ (exI2 (x + 4) (left - 1) ⟨by exact om122 hx, by exact om123 hleft, ?w⟩)
      case w =>
        rw [show 4 * (i + 1) = 4 * i + 4 from rfl]
        walk_at "wk"
  · intro f l' hI
    with_reducible refine' exE2_3 hI fun x left hx hleft hwk => ?_
    clear hI
    with_reducible refine' W_wk hwk ?_
    with_reducible refine' W_endRange hA'.handled ?z1 ?z2 ?z3 ⟨rfl, ?_⟩
    case z1 => walk_at "rm"
    case z2 => walk_at "mem"
    case z3 => exact om124 hleft
    walk_at "go"
    with_reducible refine' W_bytesBA ?z1 ?z2 fun _ => ?_
    case z1 => walk_at "at"
    case z2 => (rw [swRun_len]; decide)
    walk_at "go"
    exact ⟨_, .inl rfl, h _⟩
end
end
section
/-! parse_http_list -/
structure HS where
  res : List Str
  part : Str
  esc : Bool
  quo : Bool
def hstep (st : HS) (ch : Nat) : HS :=
  if st.esc = true then ⟨st.res, st.part ++ one ch, false, st.quo⟩
  else if st.quo = true then
    if (ch == 92) = true then ⟨st.res, st.part, true, true⟩
    else ⟨st.res, st.part ++ one ch, false, !(ch == 34)⟩
  else if (ch == 44) = true then ⟨st.res ++ [st.part], (Str.ofString ""), false, false⟩
  else ⟨st.res, st.part ++ one ch, false, ch == 34⟩
def hrun (st : HS) (cs : List Nat) : HS := cs.foldl hstep st
def hinit : HS := ⟨[], (Str.ofString ""), false, false⟩
def hparts (st : HS) : List Str := if st.part.length = 0 then st.res else st.res ++ [st.part]
theorem len_cat (x y : Str) : (x ++ y).length = x.length + y.length := Array.size_append
theorem hstep_len (st : HS) (ch n : Nat) (h : st.part.length ≤ n ∧ st.res.length ≤ n ∧ ∀ p ∈ st.res, p.length ≤ n) : (hstep st ch).part.length ≤ n + 1 ∧ (hstep st ch).res.length ≤ n + 1 ∧ ∀ p ∈ (hstep st ch).res, p.length ≤ n + 1 := by
  with_reducible refine' exE0_3 h fun a b d => ?_
  have o : (one ch).length = 1 := rfl
  have e : (Str.ofString "").length = 0 := rfl
  unfold hstep
  split
  · exact ⟨by show (_ ++ _ : Str).length ≤ _; rw [len_cat, o]; exact om15 a, by show st.res.length ≤ _; exact om3 b, fun p hp => Nat.le_succ_of_le (d p hp)⟩
  · split
    · split
      · exact ⟨by show st.part.length ≤ _; exact om3 a, by show st.res.length ≤ _; exact om3 b, fun p hp => Nat.le_succ_of_le (d p hp)⟩
      · exact ⟨by show (_ ++ _ : Str).length ≤ _; rw [len_cat, o]; exact om15 a, by show st.res.length ≤ _; exact om3 b, fun p hp => Nat.le_succ_of_le (d p hp)⟩
    · split
      · refine ⟨Nat.zero_le _, by show (st.res ++ [st.part]).length ≤ _; rw [List.length_append]; simpa using b, fun p hp => ?_⟩
        rcases List.mem_append.mp hp with hp | hp
        · exact Nat.le_succ_of_le (d p hp)
        · rw [List.mem_singleton.mp hp]; exact Nat.le_succ_of_le a
      · exact ⟨by show (_ ++ _ : Str).length ≤ _; rw [len_cat, o]; exact om15 a, by show st.res.length ≤ _; exact om3 b, fun p hp => Nat.le_succ_of_le (d p hp)⟩
theorem hrun_len (st : HS) : ∀ (cs : List Nat) (n : Nat), (st.part.length ≤ n ∧ st.res.length ≤ n ∧ ∀ p ∈ st.res, p.length ≤ n) → (hrun st cs).part.length ≤ n + cs.length ∧ (hrun st cs).res.length ≤ n + cs.length ∧ ∀ p ∈ (hrun st cs).res, p.length ≤ n + cs.length := by
  intro cs
  induction cs generalizing st with
  | nil => intro n h; exact h
  | cons ch r ih =>
    intro n h
    have := ih (hstep st ch) (n + 1) (hstep_len st ch n h)
    rw [List.length_cons, show n + (r.length + 1) = n + 1 + r.length by exact om131]
    exact this
theorem hinit_len (cs : List Nat) : (hrun hinit cs).part.length ≤ cs.length ∧ (hrun hinit cs).res.length ≤ cs.length ∧ ∀ p ∈ (hrun hinit cs).res, p.length ≤ cs.length := by
  have := hrun_len hinit cs 0 ⟨Nat.le_refl _, Nat.le_refl _, fun p hp => nomatch hp⟩
  simpa using this
theorem hrun_take (st : HS) (cs : List Nat) (i : Nat) (h : i < cs.length) : hrun st (cs.take (i + 1)) = hstep (hrun st (cs.take i)) cs[i] := by
  unfold hrun
  rw [List.take_succ_eq_append_getElem h, List.foldl_append]
  rfl
theorem strs_push {vs : List Value} {ys : List Str} (h : StrsAre vs ys) (y : Str) (t : Tok) : StrsAre (vs ++ [.str y t]) (ys ++ [y]) := by
  induction h with
  | nil => exact .cons _ _ .nil
  | cons y' t' _ ih => exact .cons _ _ ih
theorem one_eq (a b : Nat) : (one a == (⟨#[b]⟩ : Str)) = (a == b) := by
  cases h : a == b
  · have : a ≠ b := by simpa using h
    refine beq_eq_false_iff_ne.mpr fun e => this ?_
    have := congrArg Str.cps e
    simpa [one] using this
  · have : a = b := by simpa using h
    subst this
    exact beq_self_eq_true _
section
variable {c : Cx} {A : Around} {frs : Frs} {led : Led}
theorem c_http {n : Nat} {x : Str} {t : Tok} {Q : Value → Frs → Led → Prop} (hA : AOk (n + 1) A) (T : Tops c.base)
    (hasc : x.cps.all (· < 128) = true) (hz : x.length ≤ 100000) (h : ∀ a vs n, StrsAre vs ((hparts (hrun hinit x.cps.toList)).map Txt.strip) → Q (.ref a) frs ((a, seqObj "list" vs.toArray n) :: led)) : W c A (call (.ref 26) [.str x t]) frs led Q := by
  with_reducible refine' W_fn (m := [("s", .str x t)]) hA T T.http ?z1 ?z2 ?z3 ?z4 ?z5 ?z6 ?z7 ?z8 ?z9 ?_
  case z1 => decide
  case z2 => decide
  case z3 => (intros; rfl)
  case z4 => walk_at "loc"
  case z5 => rfl
  case z6 => rfl
  case z7 => rfl
  case z8 => rfl
  case z9 => walk_at "env1"
  intro c' L hw T' hk hat
  with_reducible refine' W_hide fun R hR => ?_
  have hA' : AOk n (A.deeper (envX (Str.ofString "parse_http_list") (fnS (stAt 2)) L 26 (.ref 25) [])) := hA.deeper
  walk_at "start"
  walk_at "go"
  with_reducible refine' W_iterStr hasc fun I o ho => ?_
  rename_i R tp0
  have hlist : x.cps.toList.length = x.length := rfl
  with_reducible refine' Wc_forInd x.length (fun i f l => ∃ (res : List Str) (part : Str) (esc quo : Bool) (o : Obj) (vs : List Value) (n : Nat) (tp : Tok), hrun hinit (x.cps.toList.take i) = ⟨res, part, esc, quo⟩ ∧
    Wk [(L, [("s", .str x t), ("res", .ref R), ("part", .str part tp), ("escape", .bool esc), ("quote", .bool quo)])] [(I, o), (R, seqObj "list" vs.toArray n)] f l ∧ StrIt x t i o ∧ StrsAre vs res) ?z1 ?_ ?_
  case z1 => exact ⟨[], (Str.ofString ""), false, false, o, [], 0, tp0, rfl, Wk.refl _ _, ho, .nil⟩
  · intro i hi f l hI
    first | with_reducible refine' W_hideT fun J K hJ hK => ?_ | with_reducible refine' W_hideC fun J K hJ hK => ?_ | with_reducible refine' W_hideO fun J K hJ hK => ?_
    with_reducible refine' exE8_4 hI fun res part esc quo o vs n tp hst hwk ho hs => ?_
    clear hI
    with_reducible refine' W_wk hwk ?_
    have hi' : i < x.cps.toList.length := hi
    have hlen := hinit_len (x.cps.toList.take i)
    rw [hst, List.length_take] at hlen
    dsimp only at hlen
    have hp1 : part.length ≤ 100000 := by omega
    have hp2 : vs.length ≤ sizeLine := by have := hs.length; rw [sizeLine_eq]; omega
    have hnext := hrun_take hinit x.cps.toList i hi'
    rw [hst] at hnext
    have hx : x.cps[i]? = some x.cps.toList[i] := (Array.getElem?_eq_getElem hi).trans rfl
    generalize x.cps.toList[i] = ch at hx hnext
    with_reducible refine' W_nextStr ?z1 ho hx fun o' t' ho' => ?_
    case z1 => intro o'; walk_at "up"
    have k92 : (({ cps := #[ch] } : Str) == Str.ofString "\\") = (ch == 92) := one_eq ch 92
    have k34 : (({ cps := #[ch] } : Str) == Str.ofString "\"") = (ch == 34) := one_eq ch 34
    have k44 : (({ cps := #[ch] } : Str) == Str.ofString ",") = (ch == 44) := one_eq ch 44
    have hsz : part.length + ({ cps := #[ch] } : Str).length ≤ sizeLine := by show part.length + 1 ≤ _; rw [sizeLine_eq]; exact om132 hp1
    walk_at "go"
    cases esc with
    | true =>
      walk_at "go"
      with_reducible refine' W_iaddStr hsz fun _ => ?_
      walk_at "go"
      exact hJ _ _ (exI8 res (part ++ ⟨#[ch]⟩) false quo o' vs n _ ⟨hnext.trans (by simp [hstep, one]), by walk_at "wk", ho', hs⟩)
    | false =>
      walk_at "go"
      cases quo with
      | true =>
        walk_at "go"
        rw [k92]
        with_reducible refine' if_b (fun hc => ?_) fun hc => ?_
        · walk_at "go"
          exact hJ _ _ (exI8 res part true true o' vs n _ ⟨hnext.trans (by simp [hstep, hc]), by walk_at "wk", ho', hs⟩)
        · walk_at "go"
          rw [k34]
          with_reducible refine' if_b (fun hc2 => ?_) fun hc2 => ?_
          · walk_at "go"
            with_reducible refine' W_iaddStr hsz fun _ => ?_
            walk_at "go"
            exact hJ _ _ (exI8 res (part ++ ⟨#[ch]⟩) false false o' vs n _ ⟨hnext.trans (by simp [hstep, hc, hc2, one]), by walk_at "wk", ho', hs⟩)
          · walk_at "go"
            with_reducible refine' W_iaddStr hsz fun _ => ?_
            walk_at "go"
            exact hJ _ _ (exI8 res (part ++ ⟨#[ch]⟩) false true o' vs n _ ⟨hnext.trans (by simp [hstep, hc, hc2, one]), by walk_at "wk", ho', hs⟩)
      | false =>
        walk_at "go"
        rw [k44]
        with_reducible refine' if_b (fun hc => ?_) fun hc => ?_
        · walk_at "go"
          exact hJ _ _ (exI8 (res ++ [part]) (Str.ofString "") false false o' (vs ++ [.str part tp]) (n + 1) _ ⟨hnext.trans (by simp [hstep, hc]), by walk_at "wk", ho', strs_push hs _ _⟩)
        · walk_at "go"
          rw [k34]
          with_reducible refine' if_b (fun hc2 => ?_) fun hc2 => ?_
          · walk_at "go"
            with_reducible refine' W_iaddStr hsz fun _ => ?_
            walk_at "go"
            exact hJ _ _ (exI8 res (part ++ ⟨#[ch]⟩) false true o' vs n _ ⟨hnext.trans (by simp [hstep, hc, hc2, one]), by walk_at "wk", ho', hs⟩)
          · walk_at "go"
            with_reducible refine' W_iaddStr hsz fun _ => ?_
            walk_at "go"
            exact hJ _ _ (exI8 res (part ++ ⟨#[ch]⟩) false false o' vs n _ ⟨hnext.trans (by simp [hstep, hc, hc2, one]), by walk_at "wk", ho', hs⟩)
  · intro f l hI
    with_reducible refine' exE8_4 hI fun res part esc quo o vs n tp hst hwk ho hs => ?_
    clear hI
    with_reducible refine' W_wk hwk ?_
    rw [show x.length = x.cps.toList.length from rfl, List.take_length] at hst
    have hlen := hinit_len x.cps.toList
    rw [hst] at hlen
    dsimp only at hlen
    have hp2 : vs.length ≤ sizeLine := by have := hs.length; rw [sizeLine_eq]; omega
    have hp1 : part.length ≤ sizeLine := by rw [sizeLine_eq]; omega
    with_reducible refine' W_endStr hA'.handled Rm.head List.mem_cons_self ho (Array.getElem?_eq_none (Nat.le_refl _)) ⟨rfl, ?_⟩
    have hpa : hparts (hrun hinit x.cps.toList) = if (part.length == 0) = true then res else res ++ [part] := by
      rw [hst]; unfold hparts; dsimp only; cases part.length <;> rfl
    have hbound : ∀ p ∈ hparts (hrun hinit x.cps.toList), p.length ≤ sizeLine := by
      intro p hp
      rw [hpa] at hp
      split at hp
      · have := hlen.2.2 p hp; rw [sizeLine_eq]; exact om39 hz hlist this
      · rcases List.mem_append.mp hp with hp | hp
        · have := hlen.2.2 p hp; rw [sizeLine_eq]; exact om39 hz hlist this
        · rw [List.mem_singleton.mp hp]; exact hp1
    have hcount : (hparts (hrun hinit x.cps.toList)).length ≤ 100001 := by
      rw [hpa]
      split
      · omega
      · rw [List.length_append]; simp; omega
    generalize hparts (hrun hinit x.cps.toList) = parts at *
    with_reducible refine' Then_next ?_
    with_reducible refine' W_consMid (fun f l => ∃ vs' n', Wk [(L, [("res", .ref R)])] [(R, seqObj "list" vs'.toArray n')] f l ∧ StrsAre vs' parts) ?_ ?_
    · walk_at "go"
      with_reducible refine' W_truthy_str hp1 ?_
      cases hc : part.length == 0 with
      | true =>
        walk_at "go"
        exact ⟨vs, n, by walk_at "wk", by rw [hpa, hc]; exact hs⟩
      | false =>
        walk_at "go"
        exact ⟨vs ++ [.str part tp], n + 1, by walk_at "wk", by rw [hpa, hc]; exact strs_push hs _ _⟩
    · intro f l hI
      with_reducible refine' exE2_2 hI fun vs' n' hwk hs' => ?_
      clear hI
      with_reducible refine' W_wk hwk ?_
      walk_at "go"
      intro D C
      rename_i I2
      with_reducible refine' Wc_compStart ?_ ?z1
      case z1 => exact (W_selfList (by walk_at "mem") ⟨rfl, rfl⟩)
      with_reducible refine' Wc_compInd ?z1 parts.length (fun i f l => ∃ (o : Obj) (ws : List Value) (n2 : Nat), Wk [(C, []), (L, [("res", .ref R)])] [(D, seqObj "list" ws.toArray n2), (I2, o), (R, seqObj "list" vs'.toArray n')] f l ∧ SeqIt "list_iterator" R i o ∧
        StrsAre ws ((parts.map Txt.strip).take i)) ?z2 ?_ ?_
      case z1 => decide
      case z2 => exact ⟨_, [], 0, Wk.refl _ _, ⟨rfl, rfl⟩, .nil⟩
      · intro i hi f l hI
        first | with_reducible refine' W_hideT fun J K hJ hK => ?_ | with_reducible refine' W_hideC fun J K hJ hK => ?_ | with_reducible refine' W_hideO fun J K hJ hK => ?_
        with_reducible refine' exE3_3 hI fun o ws n2 hwk ho hws => ?_
        clear hI
        with_reducible refine' W_wk hwk ?_
        with_reducible refine' exX1 (hs'.at (List.getElem?_eq_getElem hi)) fun tq hx => ?_
        have hwl : ws.length ≤ sizeLine := by have := hws.length; rw [List.length_take] at this; rw [sizeLine_eq]; simp at this; exact om133 hcount this
        with_reducible refine' W_nextList (v := .str parts[i] tq) ?z1 ho ?z2 ?z3 fun o' ho' => ?_
        case z1 => intro o'; walk_at "up"
        case z2 => walk_at "at"
        case z3 => simpa using hx
        walk_at "go"
        with_reducible refine' W_strip (hbound _ (List.getElem_mem hi)) ?z1 fun _ => ?_
        case z1 => rfl
        walk_at "go"
        refine hJ _ _ (exI3 o' (ws ++ [_]) (n2 + 1) ⟨by walk_at "wk", ho', ?_⟩)
        rw [List.take_succ_eq_append_getElem (by simpa using hi), List.getElem_map]
        exact strs_push hws _ _
      · intro f l hI
        with_reducible refine' exE3_3 hI fun o ws n2 hwk ho hws => ?_
        clear hI
        with_reducible refine' W_wk hwk ?_
        with_reducible refine' W_endList hA'.handled ?z1 ?z2 ho ?z3 ?z4 ⟨rfl, ?_⟩
        case z1 => walk_at "rm"
        case z2 => walk_at "mem"
        case z3 => walk_at "at"
        case z4 => (have := hs'.length; simp; exact om6 this)
        walk_at "go"
        rw [List.take_of_length_le (by simp)] at hws
        exact hR _ _ _ ⟨_, [(D, _)], .inl rfl, by walk_at "sl", h _ _ _ hws⟩
end
end
section
/-! parse_keqv_list -/
abbrev TD := List (List Nat × List Nat)
def kput (d : TD) (k v : List Nat) : TD := if d.any (fun e => decide (e.1 = k)) then d.map (fun e => if e.1 = k then (e.1, v) else e) else d ++ [(k, v)]
def unq (v : List Nat) : List Nat := if (v.head? == some 34 && v.getLast? == some 34) = true then (v.drop 1).take (v.length - 2) else v
def keqv (es : TD) : TD := es.foldl (fun d e => kput d e.1 (unq e.2)) []
inductive KV : List (Str × Value) → TD → Prop
  | nil : KV [] []
  | cons (k v : List Nat) (t : Tok) {a : List (Str × Value)} {b : TD} : KV a b → KV ((tx k, .str (tx v) t) :: a) ((k, v) :: b)
theorem KV.len {a : List (Str × Value)} {b : TD} (h : KV a b) : a.length = b.length := by
  induction h with
  | nil => rfl
  | cons _ _ _ _ ih => simp [ih]
theorem KV.any {a : List (Str × Value)} {b : TD} (h : KV a b) (k : List Nat) : a.any (fun e => decide (e.1 = tx k)) = b.any (fun e => decide (e.1 = k)) := by
  induction h with
  | nil => rfl
  | cons k' v t _ ih =>
    rw [List.any_cons, List.any_cons, ih]
    congr 1
    exact decide_eq_decide.mpr ⟨fun e => tx_inj e, fun e => e ▸ rfl⟩
theorem KV.push {a : List (Str × Value)} {b : TD} (h : KV a b) (k v : List Nat) (t : Tok) : KV (a ++ [(tx k, .str (tx v) t)]) (b ++ [(k, v)]) := by
  induction h with
  | nil => exact .cons _ _ _ .nil
  | cons k' v' t' _ ih => exact .cons _ _ _ ih
theorem KV.map {a : List (Str × Value)} {b : TD} (h : KV a b) (k v : List Nat) (t : Tok) : KV (a.map fun kv => if kv.1 = tx k then (kv.1, .str (tx v) t) else kv) (b.map fun e => if e.1 = k then (e.1, v) else e) := by
  induction h with
  | nil => exact .nil
  | cons k' v' t' _ ih =>
    rw [List.map_cons, List.map_cons]
    by_cases e : k' = k
    · subst e
      rw [if_pos rfl, if_pos rfl]
      exact .cons _ _ _ ih
    · rw [if_neg (fun q => e (tx_inj q)), if_neg e]
      exact .cons _ _ _ ih
theorem KV.put {a : List (Str × Value)} {b : TD} (h : KV a b) (k v : List Nat) (t : Tok) : KV (stored a (tx k) (.str (tx v) t)) (kput b k v) := by
  unfold stored kput
  rw [h.any k]
  split
  · with_reducible exact h.map k v t
  · with_reducible exact h.push k v t
theorem kput_len (d : TD) (k v : List Nat) : (kput d k v).length ≤ d.length + 1 := by
  unfold kput
  split <;> simp
theorem keqv_len : ∀ (es : TD) (d : TD), (es.foldl (fun d e => kput d e.1 (unq e.2)) d).length ≤ d.length + es.length
  | [], d => Nat.le_refl _
  | e :: r, d => by
    have := keqv_len r (kput d e.1 (unq e.2))
    have := kput_len d e.1 (unq e.2)
    rw [List.foldl_cons, List.length_cons]
    exact om40 (by assumption) this
def line (e : List Nat × List Nat) : Str := tx (e.1 ++ 61 :: e.2)
theorem it0 (v : List Nat) (h : 0 < v.length) : (Txt.item (tx v) 0 == Str.ofString "\"") = (v.head? == some 34) := by
  have := item_tx v 0 h
  rw [show ((0 : Nat) : Int) = 0 from rfl] at this
  rw [this, show (one v[0] == Str.ofString "\"") = (v[0] == 34) from one_eq _ 34]
  cases v with
  | nil => exact absurd h (by simp)
  | cons a r => simp
theorem it1 (v : List Nat) (h : 0 < v.length) : (Txt.item (tx v) (-1) == Str.ofString "\"") = (v.getLast? == some 34) := by
  have hne : v ≠ [] := List.length_pos_iff.mp h
  rw [item_neg v hne, show (one (v.getLast hne) == Str.ofString "\"") = (v.getLast hne == 34) from one_eq _ 34, List.getLast?_eq_some_getLast hne]
  simp
theorem strs2 {vs : List Value} {x y : Str} (h : StrsAre vs [x, y]) : ∃ t1 t2, vs = [.str x t1, .str y t2] := by
  cases h with
  | cons _ t1 h => cases h with
    | cons _ t2 h => cases h; exact ⟨t1, t2, rfl⟩
section
variable {c : Cx} {A : Around} {frs : Frs} {led : Led}
theorem c_keqv {n : Nat} {a : Addr} {vs : List Value} {n0 : Nat} {es : TD} {Q : Value → Frs → Led → Prop} (hA : AOk (n + 1) A) (T : Tops c.base)
    (hl : At c led a (seqObj "list" vs.toArray n0)) (hs : StrsAre vs (es.map line)) (hes : ∀ e ∈ es, 61 ∉ e.1 ∧ 2 ≤ e.2.length ∧ e.1.length ≤ 1000 ∧ e.2.length ≤ 1000) (hn : es.length ≤ 1000)
    (h : ∀ D o ep kvs, DOb (PySem.strKind pw c.w) kvs ep o → KV kvs (keqv es) → Q (.ref D) frs ((D, o) :: led)) : W c A (call (.ref 21) [.ref a]) frs led Q := by
  with_reducible refine' W_fn (m := [("l", .ref a)]) hA T T.keqv ?z1 ?z2 ?z3 ?z4 ?z5 ?z6 ?z7 ?z8 ?z9 ?_
  case z1 => decide
  case z2 => decide
  case z3 => (intros; rfl)
  case z4 => walk_at "loc"
  case z5 => rfl
  case z6 => rfl
  case z7 => rfl
  case z8 => rfl
  case z9 => walk_at "env1"
  intro c' L hw T' hk hat
  with_reducible refine' W_hide fun R hR => ?_
  have hA' : AOk n (A.deeper (envX (Str.ofString "parse_keqv_list") (fnS (stAt 1)) L 21 (.ref 20) [])) := hA.deeper
  with_reducible refine' exE0_2 (hat _ _ hl) fun hb hne => ?_
  rw [← hw] at h
  walk_at "start"
  walk_at "go"
  with_reducible refine' W_DictEmpty (PySem.strKind pw c'.w) fun D o ep hd => ?_
  walk_at "go"
  rename_i I
  with_reducible refine' Wc_forInd es.length (fun i f l => ∃ (o oi : Obj) (kvs : List (Str × Value)) (ep : Nat), Wk [(L, [("l", .ref a), ("parsed", .ref D)])] [(I, oi), (D, o)] f l ∧ SeqIt "list_iterator" a i oi ∧ DOb (PySem.strKind pw c'.w) kvs ep o ∧ KV kvs (keqv (es.take i))) ?z1 ?_ ?_
  case z1 => exact ⟨o, _, [], ep, Wk.refl _ _, ⟨rfl, rfl⟩, hd, .nil⟩
  · intro i hi f l hI
    first | with_reducible refine' W_hideT fun J K hJ hK => ?_ | with_reducible refine' W_hideC fun J K hJ hK => ?_ | with_reducible refine' W_hideO fun J K hJ hK => ?_
    with_reducible refine' exE4_4 hI fun o oi kvs ep hwk ho hd hkv => ?_
    clear hI
    with_reducible refine' W_wk hwk ?_
    with_reducible refine' exX1 (hs.at (j := i) (y := line es[i]) (by simp [hi])) fun tq hx => ?_
    have hei := hes _ (List.getElem_mem hi)
    have hkeq : keqv (es.take (i + 1)) = kput (keqv (es.take i)) es[i].1 (unq es[i].2) := by
      unfold keqv
      rw [List.take_succ_eq_append_getElem hi, List.foldl_append]
      rfl
    generalize es[i] = e at hx hei hkeq
    obtain ⟨k, v⟩ := e
    dsimp only at hei
    with_reducible refine' W_nextList (v := .str (line (k, v)) tq) ?z1 ho ?z2 ?z3 fun o' ho' => ?_
    case z1 => intro o'; walk_at "up"
    case z2 => walk_at "at"
    case z3 => simpa using hx
    walk_at "go"
    with_reducible refine' exE0_4 hei fun hk61 hv2 hkl hvl => ?_
    have hly : (line (k, v)).length = k.length + v.length + 1 := by unfold line; rw [tx_len]; simp; exact om134
    have hocc : Builtin.Str.occurrences (line (k, v)) (Str.ofString "=") 0 (line (k, v)).length (limitOf (line (k, v)) 1) = [k.length] := occ_eq61 k v hk61
    with_reducible refine' W_split1 ?z1 ?z2 ?z3 ?_ ?z4 fun a2 ws hws => ?_
    case z1 => (rw [hly, sizeLine_eq]; exact om135 hkl hvl)
    case z2 => rfl
    case z3 => rfl
    case z4 => (rw [hocc]; rfl)
    · have h1 : ¬ (line (k, v)).length < (Str.ofString "=").length := by rw [hly]; show ¬ _ < 1; exact om136
      have e : Builtin.Str.strKind (Str.ofString "=") = 1 := by decide +kernel
      have h2 : ¬ Builtin.Str.strKind (line (k, v)) < Builtin.Str.strKind (Str.ofString "=") := by rw [e]; exact Nat.not_lt.mpr (strKind_ge _)
      simp [h1, h2]
    rw [hocc, show (Str.ofString "=").length = 1 from rfl] at hws
    unfold line at hws
    rw [parts_eq61] at hws
    dsimp only at hws
    refine exX2 (strs2 hws) fun t1 t2 hrf2 => ?_; subst hrf2
    walk_at "go"
    have hvz : (tx v).length ≤ sizeLine := by rw [tx_len, sizeLine_eq]; exact om24 hvl
    have fin : ∀ (v' : List Nat) (tv : Tok) (ll : Led) (o1 : Obj) (ep1 : Nat), v' = unq v → [(I, o'), (D, o1)].Sublist ll → DOb (PySem.strKind pw c'.w) (stored kvs (tx k) (.str (tx v') tv)) ep1 o1 →
        ∃ (o oi : Obj) (kvs : List (Str × Value)) (ep : Nat), Wk [(L, [("l", .ref a), ("parsed", .ref D)])] [(I, oi), (D, o)] [(L, [("l", .ref a), ("parsed", .ref D), ("elt", .str (line (k, v)) tq), ("k", .str (tx k) t1), ("v", .str (tx v') tv)])] ll ∧ SeqIt "list_iterator" a (i + 1) oi ∧ DOb (PySem.strKind pw c'.w) kvs ep o ∧ KV kvs (keqv (es.take (i + 1))) := by
      intro v' tv ll o1 ep1 e hsl hd1
      subst e
      exact exI4 o1 o' _ ep1 ⟨⟨by walk_at "fw", hsl⟩, ho', hd1, by rw [hkeq]; exact hkv.put k _ tv⟩
    have hkz : kvs.length ≤ sizeLine := by
      have h1 := hkv.len
      have h2 := keqv_len (es.take i) []
      unfold keqv at h1
      rw [List.length_take, List.length_nil] at h2
      rw [sizeLine_eq]
      exact om41 hn h1 h2
    with_reducible refine' W_itemStr ?z1 ?z2 hvz ?z3 ?z4 fun _ => ?_
    case z1 => (rw [tx_len]; exact om137)
    case z2 => (rw [tx_len]; exact om138 hv2)
    case z3 => rfl
    case z4 => (intros; rfl)
    walk_at "go"
    rw [it0 v (by exact om42 hv2)]
    with_reducible refine' if_b (fun hc1 => ?_) fun hc1 => ?_
    · walk_at "go"
      with_reducible refine' W_itemStr ?z1 ?z2 hvz ?z3 ?z4 fun _ => ?_
      case z1 => (rw [tx_len]; exact om43 hv2)
      case z2 => (rw [tx_len]; exact om139)
      case z3 => rfl
      case z4 => (intros; rfl)
      walk_at "go"
      rw [it1 v (by exact om42 hv2)]
      with_reducible refine' if_b (fun hc2 => ?_) fun hc2 => ?_
      · walk_at "go"
        intro a3
        with_reducible refine' W_slice_ss ?z1 hvz (slice_mid v hv2) ?z2 ?z3 fun _ => ?_
        case z1 => walk_at "at"
        case z2 => rfl
        case z3 => (intros; rfl)
        walk_at "go"
        with_reducible refine' W_setDict ?z1 hd (strKind_is _ _ _ _) hkz fun o1 ep1 hd1 => ?_
        case z1 => intro o'; walk_at "up"
        walk_at "go"
        exact hJ _ _ (fin _ _ _ o1 ep1 (by unfold unq; rw [hc1, hc2]; rfl) (by walk_at "sl") hd1)
      · walk_at "go"
        with_reducible refine' W_setDict ?z1 hd (strKind_is _ _ _ _) hkz fun o1 ep1 hd1 => ?_
        case z1 => intro o'; walk_at "up"
        walk_at "go"
        exact hJ _ _ (fin _ _ _ o1 ep1 (by unfold unq; rw [hc1, hc2]; rfl) (by walk_at "sl") hd1)
    · walk_at "go"
      with_reducible refine' W_setDict ?z1 hd (strKind_is _ _ _ _) hkz fun o1 ep1 hd1 => ?_
      case z1 => intro o'; walk_at "up"
      walk_at "go"
      exact hJ _ _ (fin _ _ _ o1 ep1 (by unfold unq; rw [hc1]; rfl) (by walk_at "sl") hd1)
  · intro f l hI
    with_reducible refine' exE4_4 hI fun o oi kvs ep hwk ho hd hkv => ?_
    clear hI
    with_reducible refine' W_wk hwk ?_
    with_reducible refine' W_endList hA'.handled ?z1 ?z2 ho ?z3 ?z4 ⟨rfl, ?_⟩
    case z1 => walk_at "rm"
    case z2 => walk_at "mem"
    case z3 => walk_at "at"
    case z4 => (have := hs.length; simp at this; simp; exact om6 this)
    walk_at "go"
    rw [List.take_length] at hkv
    exact hR _ _ _ ⟨_, [(D, _)], .inl rfl, by walk_at "sl", h _ _ _ _ hd hkv⟩
end
end
section
/-! quote, unquote -/
section
variable {c : Cx} {A : Around} {frs : Frs} {led : Led}
theorem c_quote {n : Nat} {o : Nat} {t : Tok} {Q : Value → Frs → Led → Prop} (hA : AOk (n + 1) A) (T : Tops c.base)
    (ho : o < 256) (h : ∀ t, Q (.str (qtext o) t) frs led) : W c A (call (.ref 56) [.str (one o) t]) frs led Q := by
  refine W_fn (m := [("c", .str (one o) t)]) hA T T.quo (by decide) (by decide) (by intros; rfl) (by walk_at "loc") rfl rfl rfl rfl (by walk_at "env1") ?_
  intro c' L hw T' hk hat
  with_reducible refine' W_hide fun R hR => ?_
  with_reducible refine' exE2_2 T'.qmap fun vs n1 hq hs => ?_
  walk_at "start"
  walk_at "go"
  with_reducible refine' W_ord fun _ => ?_
  with_reducible refine' exX1 (hs.at (j := o) (y := qtext o) (by simp [ho])) fun tq hx => ?_
  refine W_itemList (.base hq (by decide)) (by exact om0) (by exact om140 ho) (by simpa using hx) rfl (by intros; rfl) ?_
  walk_at "go"
  with_reducible exact hR _ _ _ ⟨_, [], .inl rfl, List.nil_sublist _, h _⟩
theorem c_unquote {n : Nat} {x : Str} {o : Nat} {t : Tok} {Q : Value → Frs → Led → Prop} (hA : AOk (n + 1) A) (T : Tops c.base)
    (ho : o < 256) (hx : Txt.slice x (some 1) (some 3) = fig o) (hz : x.length ≤ 100) (h : ∀ t, Q (.str (one o) t) frs led) : W c A (call (.ref 49) [.str x t]) frs led Q := by
  refine W_fn (m := [("s", .str x t)]) hA T T.unq (by decide) (by decide) (by intros; rfl) (by walk_at "loc") rfl rfl rfl rfl (by walk_at "env1") ?_
  intro c' L hw T' hk hat
  with_reducible refine' W_hide fun R hR => ?_
  walk_at "start"
  walk_at "go"
  intro a3
  refine W_slice_ss (by walk_at "at") (by rw [sizeLine_eq]; exact om141 hz) hx rfl (by intros; rfl) fun _ => ?_
  walk_at "go"
  with_reducible refine' W_int16 ho fun _ => ?_
  walk_at "go"
  with_reducible refine' W_chr ho fun _ => ?_
  walk_at "go"
  exact hR _ _ _ ⟨_, [], .inl rfl, List.nil_sublist _, h _⟩
/-! _law_cells -/
def CellsAt (b : Int) (its : Array Value) : Prop := its.size = 5 ∧ ∀ j : Nat, j < 5 → ∃ n t, its[j]? = some (.int n t) ∧ 0 ≤ n ∧ n ≤ b
theorem CellsAt.set {b b' : Int} {its : Array Value} (h : CellsAt b its) (hb : b ≤ b') (j : Nat) (n : Int) (t : Tok) (h0 : 0 ≤ n) (hn : n ≤ b') : CellsAt b' (its.setIfInBounds j (.int n t)) := by
  refine ⟨by rw [Array.size_setIfInBounds]; exact h.1, fun i hi => ?_⟩
  rw [Array.getElem?_setIfInBounds]
  by_cases e : j = i
  · subst e
    rw [if_pos rfl, if_pos (by rw [h.1]; exact hi)]
    exact ⟨n, t, rfl, h0, hn⟩
  · rw [if_neg e]
    refine exE2_3 (h.2 i hi) fun m u q r1 r2 => ?_
    exact ⟨m, u, q, r1, Int.le_trans r2 hb⟩
theorem c_cells {n : Nat} {a : Addr} {o : Obj} {vs : List Value} {Q : Value → Frs → Led → Prop} (hA : AOk (n + 1) A) (T : Tops c.base)
    (hl : At c led a o) (ho : ListO vs.toArray o) (hi : ∀ j, j < vs.length → ∃ n t, vs[j]? = some (.int n t)) (hn : vs.length ≤ 63)
    (h : ∀ a its o, ListO its o → CellsAt 100000000 its → Q (.ref a) frs ((a, o) :: led)) : W c A (call (.ref 110) [.ref a]) frs led Q := by
  refine W_fn (m := [("script", .ref a)]) hA T T.cells (by decide) (by decide) (by intros; rfl) (by walk_at "loc") rfl rfl rfl rfl (by walk_at "env1") ?_
  intro c' L hw T' hk hat
  with_reducible refine' W_hide fun R hR => ?_
  have hA' : AOk n (A.deeper (envX (Str.ofString "_law_cells") (fnS (stAt 26)) L 110 (.ref 109) [])) := hA.deeper
  with_reducible refine' exE0_2 (hat _ _ hl) fun hb hne => ?_
  walk_at "start"
  walk_at "go"
  refine W_lenO (.base hb hne) ho (by simp; exact om142 hn) fun _ => ?_
  walk_at "go"
  rename_i t5 D t6 R r1 r2 r3
  rw [show vs.toArray.size = vs.length from List.size_toArray]
  with_reducible refine' W_iterRangeN ?z1 (n := vs.length) ?z2 fun I x0 l0 hx0 hl0 => ?_
  case z1 => exact (.led (by walk_at "mem"))
  case z2 => exact om143 hn
  with_reducible refine' Wc_forInd vs.length (fun i f l => ∃ (x left : Int) (o : Obj) (its : Array Value), x = i ∧ left = vs.length - i ∧ Wk [(L, [("script", .ref a), ("cells", .ref D)])] [(I, rangeIt x left 1), (D, o)] f l ∧ ListO its o ∧ CellsAt (1000000 * (i + 1)) its) ?h0 ?_ ?_
  case h0 =>
    refine' exI4 x0 l0 _ _ ⟨hx0, hl0, ⟨?a, ?b⟩, ?c, ?d⟩
    case a => walk_at "fw"
    case b => walk_at "sl"
    case c => exact ListO.of _ _
    case d =>
    refine ⟨rfl, fun j hj => ?_⟩
    have : j = 0 ∨ j = 1 ∨ j = 2 ∨ j = 3 ∨ j = 4 := by exact om26 hj
    rcases this with rfl | rfl | rfl | rfl | rfl <;> exact ⟨_, _, rfl, by decide, by decide⟩
  · intro i hi' f l hI
    first | refine W_hideT fun J K hJ hK => ?_ | refine W_hideC fun J K hJ hK => ?_ | refine W_hideO fun J K hJ hK => ?_
    with_reducible refine' exE4_5 hI fun x left o1 its hx hleft hwk ho1 hc => ?_
    clear hI
    with_reducible refine' W_wk hwk ?_
    with_reducible refine' W_nextRangeN ?z1 hx hleft hi' fun tk x' left' hx' hl' => ?_
    case z1 => intro o'; walk_at "up"
    walk_at "go"
    with_reducible refine' W_mod ?z1 fun _ => ?_
    case z1 => decide
    with_reducible refine' exE2_3 ?z1 fun m tm hm hm0 hm1 => ?_
    case z1 => exact (hc.2 (i % 5) (Nat.mod_lt _ (by decide)))
    with_reducible refine' exX2 (hi i hi') fun q tq hq => ?_
    have e5 : ((i : Int) % 5).toNat = i % 5 := by exact om144
    refine W_getListO (.led (by walk_at "mem")) ho1 (by exact om44) (by exact om45) (by rw [e5]; exact hm) ?_
    walk_at "go"
    refine W_itemListO (.base hb hne) ho (by exact om0) (by exact om145 hn hi') (by simpa using hq) rfl (by intros; rfl) ?_
    walk_at "go"
    with_reducible refine' W_pow ?z1 ?z2 ?z3 fun _ => ?_
    case z1 => decide
    case z2 => decide
    case z3 => decide
    with_reducible refine' W_mod ?z1 fun _ => ?_
    case z1 => decide
    with_reducible refine' W_iaddInt fun _ => ?_
    refine W_setListO (led' := fun o' => _) (fun o' => by walk_at "up") ho1 (by exact om44) (by exact om45) (by rw [hc.1]; exact om146) fun o2 ho2 => ?_
    walk_at "go"
    have e6 : (10 : Int) ^ (6 : Int).toNat = 1000000 := rfl
    refine hJ _ _ (exI4 x' left' o2 _ ⟨hx', hl', ?_, ho2, ?_⟩)
    · walk_at "wk"
    · rw [e5]
      refine hc.set (by exact om147) _ _ _ (by rw [e6]; exact om148 hm0) (by rw [e6]; exact om149 hm1)
  · intro f l hI
    with_reducible refine' exE4_5 hI fun x left o1 its hx hleft hwk ho1 hc => ?_
    clear hI
    with_reducible refine' W_wk hwk ?_
    with_reducible refine' W_endRangeN hA'.handled ?z1 ?z2 hleft ⟨rfl, ?_⟩
    case z1 => walk_at "rm"
    case z2 => walk_at "mem"
    walk_at "go"
    exact hR _ _ _ ⟨_, [(D, _)], .inl rfl, by walk_at "sl", h _ _ _ ho1 ⟨hc.1, fun j hj => by refine exE2_3 (hc.2 j hj) fun m u q r1 r2 => ?_; exact ⟨m, u, q, r1, by exact om150 hn r2⟩⟩⟩
end
end
section
/-! _law_wishes -/
structure WS where
  left : List Nat
  num : Nat
  acc : List Nat
def wstep (s : WS) (size : Nat) : WS := ⟨s.left.eraseIdx (s.num % size), s.num / size, s.acc ++ [s.left.getD (s.num % size) 0]⟩
def wishesOf (os : List Nat) (num : Nat) : List Nat := ([4, 3, 2, 1].foldl wstep ⟨os, num, []⟩).acc
section
variable {c : Cx} {A : Around} {frs : Frs} {led : Led}
theorem c_wish {n : Nat} {a : Addr} {o : Obj} {vs : List Value} {os : List Nat} {num : Nat} {t : Tok} {Q : Value → Frs → Led → Prop} (hA : AOk (n + 1) A) (T : Tops c.base)
    (hl : At c led a o) (ho : ListO vs.toArray o) (hi : NA vs os) (hn : os.length = 4)
    (h : ∀ a vs n, NA vs (wishesOf os num) → Q (.ref a) frs ((a, seqObj "list" vs.toArray n) :: led)) : W c A (call (.ref 117) [.ref a, .int num t]) frs led Q := by
  with_reducible refine' W_fn (m := [("octets", .ref a), ("number", .int num t)]) hA T T.wish ?z1 ?z2 ?z3 ?z4 ?z5 ?z6 ?z7 ?z8 ?z9 ?_
  case z1 => decide
  case z2 => decide
  case z3 => (intros; rfl)
  case z4 => walk_at "loc"
  case z5 => rfl
  case z6 => rfl
  case z7 => rfl
  case z8 => rfl
  case z9 => walk_at "env1"
  intro c' L hw T' hk hat
  with_reducible refine' W_hide fun R hR => ?_
  have hA' : AOk n (A.deeper (envX (Str.ofString "_law_wishes") (fnS (stAt 27)) L 117 (.ref 116) [])) := hA.deeper
  with_reducible refine' exE0_2 (hat _ _ hl) fun hb hne => ?_
  have hvl := hi.len
  walk_at "start"
  walk_at "go"
  with_reducible refine' W_listOfList ?z1 ho ?z2 fun D n1 => ?_
  case z1 => exact (.base hb hne)
  case z2 => (rw [sizeLine_eq]; exact om151 hn hvl)
  walk_at "go"
  rename_i W1 t4 t3 t2 t1 R I
  with_reducible refine' Wc_forInd 4 (fun i f l => ∃ (left acc : List Nat) (num' : Nat) (tn : Tok) (oi : Obj) (ls ws : List Value) (n2 n3 : Nat), ([4, 3, 2, 1].take i).foldl wstep ⟨os, num, []⟩ = ⟨left, num', acc⟩ ∧ left.length = 4 - i ∧
    Wk [(L, [("number", .int num' tn), ("left", .ref D), ("wishes", .ref W1)])] [(I, oi), (R, seqObj "tuple" [.int 4 t4, .int 3 t3, .int 2 t2, .int 1 t1].toArray 0), (W1, seqObj "list" ws.toArray n2), (D, seqObj "list" ls.toArray n3)] f l ∧
    SeqIt "tuple_iterator" R i oi ∧ NA ls left ∧ NA ws acc) ?h0 ?_ ?_
  case h0 =>
    refine exI9 os [] num t (seqItObj "tuple_iterator" R 0) vs [] 0 n1 ⟨rfl, hn, ⟨?_, ?_⟩, ⟨rfl, rfl⟩, hi, .nil⟩
    · walk_at "fw"
    · walk_at "sl"
  · intro i hi' f l hI
    first | with_reducible refine' W_hideT fun J K hJ hK => ?_ | with_reducible refine' W_hideC fun J K hJ hK => ?_ | with_reducible refine' W_hideO fun J K hJ hK => ?_
    with_reducible refine' exE9_6 hI fun left acc num' tn oi ls ws n2 n3 hst hll hwk hoi hls hws => ?_
    clear hI
    with_reducible refine' W_wk hwk ?_
    have hwl := hws.len
    have hlsl := hls.len
    have hsz : ∃ (size : Nat) (ts : Tok), size = 4 - i ∧ ([.int 4 t4, .int 3 t3, .int 2 t2, .int 1 t1] : List Value)[i]? = some (.int (size : Int) ts) ∧ ([4, 3, 2, 1].take (i + 1)).foldl wstep ⟨os, num, []⟩ = wstep ⟨left, num', acc⟩ size := by
      have : i = 0 ∨ i = 1 ∨ i = 2 ∨ i = 3 := by exact om5 hi'
      rcases this with rfl | rfl | rfl | rfl
      · exact ⟨4, t4, rfl, rfl, by rw [← hst]; rfl⟩
      · exact ⟨3, t3, rfl, rfl, by rw [← hst]; rfl⟩
      · exact ⟨2, t2, rfl, rfl, by rw [← hst]; rfl⟩
      · exact ⟨1, t1, rfl, rfl, by rw [← hst]; rfl⟩
    with_reducible refine' exE2_3 hsz fun size ts hsize hat4 hnext => ?_
    have hacc : acc.length ≤ 1000 := by
      have : acc.length = i := by
        have e : i = 0 ∨ i = 1 ∨ i = 2 ∨ i = 3 := by exact om5 hi'
        have := congrArg (fun s => s.acc.length) hst
        rcases e with rfl | rfl | rfl | rfl <;> simp [wstep] at this <;> omega
      exact om156 hi' this
    with_reducible refine' W_nextTuple ?z1 hoi ?z2 ?z3 fun o' ho' => ?_
    case z1 => intro o'; walk_at "up"
    case z2 => walk_at "at"
    case z3 => simpa using hat4
    walk_at "go"
    with_reducible refine' W_mod ?z1 fun _ => ?_
    case z1 => exact om157 hi' hsize
    rw [show ((num' : Int) % (size : Int)) = ((num' % size : Nat) : Int) from by omega]
    walk_at "go"
    have hlt : num' % size < left.length := by rw [hll, ← hsize]; exact Nat.mod_lt _ (by exact om158 hi' hsize)
    with_reducible refine' exX1 (hls.at (List.getElem?_eq_getElem hlt)) fun tq hq => ?_
    with_reducible refine' W_popAt ?z1 ?z2 hq ?z3 fun m => ?_
    case z1 => (intro o'; walk_at "up")
    case z2 => rfl
    case z3 => (rw [sizeLine_eq]; exact om159 hll hlsl)
    walk_at "go"
    with_reducible refine' W_div ?z1 ?z2 fun _ => ?_
    case z1 => exact om160 hll hsize hlt
    case z2 => exact om161 hsize
    rw [show ((num' : Int) / (size : Int)) = ((num' / size : Nat) : Int) from by omega]
    walk_at "go"
    refine' hJ _ _ (exI9 (left.eraseIdx (num' % size)) (acc ++ [left.getD (num' % size) 0]) (num' / size) _ o' _ _ _ _ ⟨hnext, ?a, ?w, ho', ?c, ?d⟩)
    case w => walk_at "wk"
    case c => exact hls.erase _
    case d =>
      rw [List.getD_eq_getElem?_getD, List.getElem?_eq_getElem hlt, Option.getD_some]
      exact hws.push _ _
    case a =>
      rw [List.length_eraseIdx_of_lt hlt]
      exact om162 hll
  · intro f l hI
    with_reducible refine' exE9_6 hI fun left acc num' tn oi ls ws n2 n3 hst hll hwk hoi hls hws => ?_
    clear hI
    with_reducible refine' W_wk hwk ?_
    with_reducible refine' W_endTuple hA'.handled ?z1 ?z2 hoi ?z3 ?z4 ⟨rfl, ?_⟩
    case z1 => walk_at "rm"
    case z2 => walk_at "mem"
    case z3 => walk_at "at"
    case z4 => rfl
    walk_at "go"
    refine hR _ _ _ ⟨_, [(W1, _)], .inl rfl, by walk_at "sl", h _ _ _ ?_⟩
    have : acc = wishesOf os num := by
      unfold wishesOf
      rw [show [4, 3, 2, 1] = ([4, 3, 2, 1] : List Nat).take 4 from rfl, hst]
    rw [← this]
    exact hws
end
end
section
/-! _law_told -/
def toldL (w : List Nat) : List (List Nat) := [61 :: figL (w.getD 3 0), 61 :: figL (w.getD 2 0), 61 :: figL (w.getD 1 0), 61 :: 34 :: (figL (w.getD 0 0) ++ [34])]
section
variable {c : Cx} {A : Around} {frs : Frs} {led : Led}
theorem c_told {n : Nat} {a : Addr} {o : Obj} {vs : List Value} {ws : List Nat} {Q : Value → Frs → Led → Prop} (hA : AOk (n + 2) A) (T : Tops c.base)
    (hl : At c led a o) (ho : ListO vs.toArray o) (hi : NA vs ws) (hn : ws.length = 4) (hr : ∀ x ∈ ws, x < 256)
    (h : ∀ a vs n, StrsAre vs ((toldL ws).map tx) → Q (.ref a) frs ((a, seqObj "list" vs.toArray n) :: led)) : W c A (call (.ref 134) [.ref a]) frs led Q := by
  refine W_fn1 (binds := [("wishes", .ref a)]) [] "wishes" (some (.ref a)) hA T T.told (by decide) (by decide) (by intros; rfl) (by intro n x hx; rw [List.mem_singleton.mp hx]; exact .inr ⟨rfl, rfl⟩) rfl rfl rfl rfl (fun _ _ _ h => nomatch h) (fun _ _ => rfl) ?_
  intro c' L ca co hw T' hk hat hco
  with_reducible refine' W_hide fun R hR => ?_
  have hA' : AOk (n + 1) (A.deeper (envX (Str.ofString "_law_told") (fnS (stAt 30)) L 134 (.ref 133) [("wishes", ca)])) := hA.deeper
  with_reducible refine' exE0_2 (hat _ _ hl) fun hb hne => ?_
  walk_at "start"
  walk_at "go"
  intro D C
  rename_i t3 t2 t1 R I
  have hvl := hi.len
  with_reducible refine' Wc_compStart ?_ ?z1
  case z1 => exact (W_selfTuple (by walk_at "mem") ⟨rfl, rfl⟩)
  with_reducible refine' Wc_compInd ?z1 3 (fun i f l => ∃ (oi : Obj) (us : List Value) (n2 : Nat), Wk [(C, []), (L, [])] [(D, seqObj "list" us.toArray n2), (I, oi), (R, seqObj "tuple" [.int 3 t3, .int 2 t2, .int 1 t1].toArray 0), (ca, co)] f l ∧ SeqIt "tuple_iterator" R i oi ∧
    StrsAre us (((toldL ws).map tx).take i)) ?z2 ?_ ?_
  case z1 => decide
  case z2 => exact ⟨_, [], 0, Wk.refl _ _, ⟨rfl, rfl⟩, .nil⟩
  · intro i hi' f l hI
    first | with_reducible refine' W_hideT fun J K hJ hK => ?_ | with_reducible refine' W_hideC fun J K hJ hK => ?_ | with_reducible refine' W_hideO fun J K hJ hK => ?_
    with_reducible refine' exE3_3 hI fun oi us n2 hwk hoi hus => ?_
    clear hI
    with_reducible refine' W_wk hwk ?_
    have hsz : ∃ (k : Nat) (tk : Tok), k < 4 ∧ ([.int 3 t3, .int 2 t2, .int 1 t1] : List Value)[i]? = some (.int (k : Int) tk) ∧ ((toldL ws).map tx).take (i + 1) = ((toldL ws).map tx).take i ++ [tx (61 :: figL (ws.getD k 0))] := by
      have : i = 0 ∨ i = 1 ∨ i = 2 := by exact om163 hi'
      rcases this with rfl | rfl | rfl
      · exact ⟨3, t3, by decide, rfl, rfl⟩
      · exact ⟨2, t2, by decide, rfl, rfl⟩
      · exact ⟨1, t1, by decide, rfl, rfl⟩
    with_reducible refine' exE2_3 hsz fun k tk hk4 hat3 hnext => ?_
    have hul : us.length ≤ sizeLine := by have := hus.length; rw [List.length_take] at this; rw [sizeLine_eq]; exact om164 hi' this
    with_reducible refine' W_nextTuple ?z1 hoi ?z2 ?z3 fun o' ho' => ?_
    case z1 => intro o'; walk_at "up"
    case z2 => walk_at "at"
    case z3 => simpa using hat3
    walk_at "go"
    have hkl : k < ws.length := by exact om2 hn hk4
    with_reducible refine' exX1 (hi.at (List.getElem?_eq_getElem hkl)) fun tq hq => ?_
    have hw256 : ws[k] < 256 := hr _ (List.getElem_mem hkl)
    with_reducible refine' W_itemListO ?z1 ho ?z2 ?z3 ?z4 ?z5 ?z6 ?_
    case z1 => exact (.base hb hne)
    case z2 => exact om0
    case z3 => exact om1 hk4
    case z4 => simpa using hq
    case z5 => rfl
    case z6 => (intros; rfl)
    walk_at "go"
    with_reducible refine' c_figures hA' T' ?z1 ?z2 fun _ => ?_
    case z1 => exact om0
    case z2 => exact om27 hw256
    with_reducible refine' W_catT [61] (figL ws[k]) ?z1 (fig_figL _) (Nat.le_of_ble_eq_true rfl) fun _ => ?_
    case z1 => rfl
    walk_at "go"
    refine' hJ _ _ (exI3 o' _ _ ⟨?w, ho', ?d⟩)
    case w => walk_at "wk"
    case d =>
      rw [hnext, List.getD_eq_getElem?_getD, List.getElem?_eq_getElem hkl]
      exact strs_push hus _ _
  · intro f l hI
    with_reducible refine' exE3_3 hI fun oi us n2 hwk hoi hus => ?_
    clear hI
    with_reducible refine' W_wk hwk ?_
    with_reducible refine' W_endTuple hA'.handled ?z1 ?z2 hoi ?z3 ?z4 ⟨rfl, ?_⟩
    case z1 => walk_at "rm"
    case z2 => walk_at "mem"
    case z3 => walk_at "at"
    case z4 => rfl
    walk_at "go"
    have hul : us.length ≤ sizeLine := by have := hus.length; rw [List.length_take] at this; rw [sizeLine_eq]; exact om165 this
    have hkl : 0 < ws.length := by exact om166 hn
    with_reducible refine' exX1 (hi.at (List.getElem?_eq_getElem hkl)) fun tq hq => ?_
    have hw256 : ws[0] < 256 := hr _ (List.getElem_mem hkl)
    with_reducible refine' W_itemListO ?z1 ho ?z2 ?z3 ?z4 ?z5 ?z6 ?_
    case z1 => exact (.base hb hne)
    case z2 => exact om33
    case z3 => exact om167
    case z4 => simpa using hq
    case z5 => rfl
    case z6 => (intros; rfl)
    walk_at "go"
    with_reducible refine' c_figures hA' T' ?z1 ?z2 fun _ => ?_
    case z1 => exact om0
    case z2 => exact om27 hw256
    with_reducible refine' W_catT [61, 34] (figL ws[0]) ?z1 (fig_figL _) (Nat.le_of_ble_eq_true rfl) fun _ => ?_
    case z1 => rfl
    walk_at "go"
    with_reducible refine' W_catT _ [34] rfl rfl (Nat.le_of_ble_eq_true rfl) fun _ => ?_
    walk_at "go"
    refine hR _ _ _ ⟨_, [(D, _)], .inl rfl, by walk_at "sl", h _ _ _ ?_⟩
    have e : (toldL ws).map tx = ((toldL ws).map tx).take 3 ++ [tx ([61, 34] ++ figL ws[0] ++ [34])] := by
      rw [show ws[0] = ws.getD 0 0 by rw [List.getD_eq_getElem?_getD, List.getElem?_eq_getElem hkl]; rfl]
      rfl
    rw [e]
    exact strs_push hus _ _
end
end
section
/-! _law_singly -/
def lk (d : TD) (k : List Nat) : Option (List Nat) := (d.find? fun e => decide (e.1 = k)).map (·.2)
def go (d : TD) (k : List Nat) : List Nat := (lk d k).getD []
def goN (d : TD) : Nat → List Nat → List Nat
  | 0, k => k
  | n + 1, k => go d (goN d n k)
def sgStep (d : TD) (due : List (List Nat)) (k : List Nat) : List (List Nat) := if goN d 4 k ∈ due then due else due ++ [goN d 4 k]
theorem sg_in {d : TD} {due : List (List Nat)} {k : List Nat} (h : goN d 4 k ∈ due) : sgStep d due k = due := if_pos h
theorem sg_out {d : TD} {due : List (List Nat)} {k : List Nat} (h : ¬ goN d 4 k ∈ due) : sgStep d due k = due ++ [goN d 4 k] := if_neg h
def singly (d : TD) : List (List Nat) := (d.map (·.1)).foldl (sgStep d) []
theorem KV.look {kvs : List (Str × Value)} {d : TD} (h : KV kvs d) (k v : List Nat) (e : lk d k = some v) : ∃ t, valueAt kvs (tx k) = some (.str (tx v) t) := by
  induction h with
  | nil => simp [lk] at e
  | cons k' v' t h ih =>
    rename_i a1 b1
    by_cases q : k' = k
    · subst q
      have : lk ((k', v') :: b1) k' = some v' := by unfold lk; rw [List.find?_cons]; simp
      rw [this] at e
      cases e
      exact ⟨t, by unfold valueAt; rw [List.find?_cons]; simp⟩
    · have q' : ¬ tx k' = tx k := fun x => q (tx_inj x)
      have e1 : lk ((k', v') :: b1) k = lk b1 k := by unfold lk; rw [List.find?_cons]; simp [q]
      rw [e1] at e
      with_reducible refine' exX1 (ih e) fun t' h' => ?_
      exact ⟨t', by unfold valueAt at h' ⊢; rw [List.find?_cons]; simp only [q', decide_false]; exact h'⟩
theorem KV.get {kvs : List (Str × Value)} {d : TD} (h : KV kvs d) : ∀ {i : Nat} {e : List Nat × List Nat}, d[i]? = some e → ∃ t, kvs[i]? = some (tx e.1, .str (tx e.2) t) := by
  induction h with
  | nil => intro i e q; simp at q
  | cons k v t h ih =>
    intro i e q
    cases i with
    | zero => simp at q; subst q; exact ⟨t, rfl⟩
    | succ i => simp at q ⊢; exact ih q
/-- the values are keys -/
def Closed (d : TD) : Prop := ∀ e ∈ d, (lk d e.2).isSome = true
theorem lk_mem {d : TD} {k v : List Nat} (h : lk d k = some v) : (k, v) ∈ d := by
  unfold lk at h
  cases hf : d.find? (fun e => decide (e.1 = k)) with
  | none => rw [hf] at h; cases h
  | some e =>
    rw [hf] at h
    have h1 := List.mem_of_find?_eq_some hf
    have h2 := List.find?_some hf
    simp at h h2
    subst h h2
    exact h1
theorem lk_some_of_mem {d : TD} {e : List Nat × List Nat} (h : e ∈ d) : (lk d e.1).isSome = true := by
  unfold lk
  rw [Option.isSome_map, List.find?_isSome]
  exact ⟨e, h, by simp⟩
theorem Closed.go {d : TD} (h : Closed d) {k : List Nat} (hk : (lk d k).isSome = true) : lk d k = some (Mine.go d k) ∧ (lk d (Mine.go d k)).isSome = true := by
  obtain ⟨v, hv⟩ := Option.isSome_iff_exists.mp hk
  have : Mine.go d k = v := by unfold Mine.go; rw [hv]; rfl
  rw [this]
  exact ⟨hv, h _ (lk_mem hv)⟩
theorem Closed.goN {d : TD} (h : Closed d) {k : List Nat} (hk : (lk d k).isSome = true) : ∀ n, (lk d (Mine.goN d n k)).isSome = true
  | 0 => hk
  | n + 1 => (h.go (Closed.goN h hk n)).2
theorem sg_len (d : TD) : ∀ (ks : List (List Nat)) (due : List (List Nat)), (ks.foldl (sgStep d) due).length ≤ due.length + ks.length
  | [], due => Nat.le_refl _
  | k :: r, due => by
    have := sg_len d r (sgStep d due k)
    have h : (sgStep d due k).length ≤ due.length + 1 := by unfold sgStep; split <;> simp
    rw [List.foldl_cons, List.length_cons]
    exact om40 this h
section
variable {c : Cx} {A : Around} {frs : Frs} {led : Led}
theorem c_singly {n : Nat} {a : Addr} {o : Obj} {ep : Nat} {kvs : List (Str × Value)} {d : TD} {Q : Value → Frs → Led → Prop} (hA : AOk (n + 1) A) (T : Tops c.base)
    (hl : At c led a o) (hsys : (a == sysModules) = false) (hd : DOb (PySem.strKind pw c.w) kvs ep o) (hkv : KV kvs d) (hcl : Closed d) (hn : d.length ≤ 1000)
    (h : ∀ a vs n, StrsAre vs ((singly d).map tx) → Q (.ref a) frs ((a, seqObj "list" vs.toArray n) :: led)) : W c A (call (.ref 153) [.ref a]) frs led Q := by
  with_reducible refine' W_fn (m := [("pointed", .ref a)]) hA T T.singly ?z1 ?z2 ?z3 ?z4 ?z5 ?z6 ?z7 ?z8 ?z9 ?_
  case z1 => decide
  case z2 => decide
  case z3 => (intros; rfl)
  case z4 => walk_at "loc"
  case z5 => rfl
  case z6 => rfl
  case z7 => rfl
  case z8 => rfl
  case z9 => walk_at "env1"
  intro c' L hw T' hk hat
  with_reducible refine' W_hide fun R hR => ?_
  have hA' : AOk n (A.deeper (envX (Str.ofString "_law_singly") (fnS (stAt 33)) L 153 (.ref 152) [])) := hA.deeper
  with_reducible refine' exE0_2 (hat _ _ hl) fun hb hne => ?_
  have hkl := hkv.len
  rw [← hw] at hd
  walk_at "start"
  walk_at "go"
  rename_i D
  with_reducible refine' W_iterDictS hsys ?z1 hd fun I oi hoi => ?_
  case z1 => exact (.base hb hne)
  with_reducible refine' Wc_forInd d.length (fun i f l => ∃ (oi : Obj) (us : List Value) (n2 : Nat), Wk [(L, [("pointed", .ref a), ("due", .ref D)])] [(I, oi), (D, seqObj "list" us.toArray n2)] f l ∧ KeyIt a i kvs.length ep oi ∧
    StrsAre us ((((d.map (·.1)).take i).foldl (sgStep d) []).map tx)) ?z1 ?_ ?_
  case z1 => exact ⟨oi, [], 0, Wk.refl _ _, hoi, .nil⟩
  · intro i hi f l hI
    first | with_reducible refine' W_hideT fun J K hJ hK => ?_ | with_reducible refine' W_hideC fun J K hJ hK => ?_ | with_reducible refine' W_hideO fun J K hJ hK => ?_
    with_reducible refine' exE3_3 hI fun oi us n2 hwk hoi hus => ?_
    clear hI
    with_reducible refine' W_wk hwk ?_
    with_reducible refine' exX1 (hkv.get (List.getElem?_eq_getElem hi)) fun tv hx => ?_
    have hmem := lk_some_of_mem (List.getElem_mem hi)
    have hnext : ((d.map (·.1)).take (i + 1)).foldl (sgStep d) [] = sgStep d (((d.map (·.1)).take i).foldl (sgStep d) []) d[i].1 := by
      rw [List.take_succ_eq_append_getElem (by simpa using hi), List.foldl_append, List.getElem_map]
      rfl
    have hul : us.length ≤ sizeLine := by
      have h1 := hus.length
      have h2 := sg_len d ((d.map (·.1)).take i) []
      rw [List.length_take, List.length_nil, List.length_map] at h2
      rw [List.length_map] at h1
      rw [sizeLine_eq]
      exact om41 hn h1 h2
    generalize d[i].1 = k at *
    with_reducible refine' W_nextDict ?z1 hoi ?z2 hd hx fun o' key hkey ho' => ?_
    case z1 => intro o'; walk_at "up"
    case z2 => exact (.base hb hne)
    refine exX1 (Value.isStrOf_shape hkey) fun tk hrf1 => ?_; subst hrf1
    walk_at "go"
    rename_i R t5 t6 t7 t8
    with_reducible refine' W_iterRangeN (n := 4) ?z1 ?z2 fun I2 x0 l0 hx0 hl0 => ?_
    case z1 => exact (.led (.head _))
    case z2 => decide
    with_reducible refine' Wc_forInd 4 (fun j f l => ∃ (x left : Int) (tp : Tok), x = j ∧ left = (4 : Nat) - (j : Int) ∧ Wk [(L, [("pointed", .ref a), ("due", .ref D), ("place", .str (tx (goN d j k)) tp)])] [(I2, rangeIt x left 1), (I, o'), (D, seqObj "list" us.toArray n2)] f l) ?h0 ?_ ?_
    case h0 =>
      refine' exI3 x0 l0 _ ⟨hx0, hl0, ?w⟩
      case w =>
        rw [show goN d 0 k = k from rfl]
        walk_at "wk"
    · intro j hj f l hI
      first | with_reducible refine' W_hideT fun J K hJ hK => ?_ | with_reducible refine' W_hideC fun J K hJ hK => ?_ | with_reducible refine' W_hideO fun J K hJ hK => ?_
      with_reducible refine' exE3_3 hI fun x left tp hx hleft hwk => ?_
      clear hI
      with_reducible refine' W_wk hwk ?_
      with_reducible refine' W_nextRangeN ?z1 hx hleft hj fun tk x' left' hx' hl' => ?_
      case z1 => intro o'; walk_at "up"
      walk_at "go"
      with_reducible refine' exE0_2 (hcl.go (hcl.goN hmem j)) fun hg1 hg2 => ?_
      with_reducible refine' exX1 (hkv.look _ _ hg1) fun tw hw => ?_
      with_reducible refine' W_getDict ?z1 hd (strKind_is _ _ _ _) hw ?z2 ?z3 ?_
      case z1 => exact (.base hb hne)
      case z2 => rfl
      case z3 => (intros; rfl)
      walk_at "go"
      refine' hJ _ _ (exI3 x' left' _ ⟨hx', hl', ?w⟩)
      case w =>
        rw [show goN d (j + 1) k = go d (goN d j k) from rfl]
        walk_at "wk"
    · intro f l hI
      with_reducible refine' exE3_3 hI fun x left tp hx hleft hwk => ?_
      clear hI
      with_reducible refine' W_wk hwk ?_
      with_reducible refine' W_endRangeN hA'.handled ?z1 ?z2 hleft ⟨rfl, ?_⟩
      case z1 => walk_at "rm"
      case z2 => walk_at "mem"
      walk_at "go"
      with_reducible refine' W_notInStrs ?z1 (ListO.of _ _) hus ?_
      case z1 => exact (.led (by walk_at "mem"))
      walk_at "go"
      with_reducible refine' if_b (fun hc => ?_) fun hc => ?_
      · walk_at "go"
        refine' hJ _ _ (exI3 o' _ _ ⟨?w, ho', ?d⟩)
        case w => walk_at "wk"
        case d =>
          rw [hnext, sg_out (by simpa using hc), List.map_append]
          exact strs_push hus _ _
      · walk_at "go"
        refine' hJ _ _ (exI3 o' _ _ ⟨?w, ho', ?d⟩)
        case w => walk_at "wk"
        case d =>
          rw [hnext, sg_in (by simpa using hc)]
          exact hus
  · intro f l hI
    with_reducible refine' exE3_3 hI fun oi us n2 hwk hoi hus => ?_
    clear hI
    with_reducible refine' W_wk hwk ?_
    with_reducible refine' W_endDict hA'.handled ?z1 ?z2 hoi ?z3 hd ?z4 ⟨rfl, ?_⟩
    case z1 => walk_at "rm"
    case z2 => walk_at "mem"
    case z3 => exact (.base hb hne)
    case z4 => (rw [List.getElem?_eq_none_iff]; exact om6 hkl)
    walk_at "go"
    refine hR _ _ _ ⟨_, [(D, _)], .inl rfl, by walk_at "sl", h _ _ _ ?_⟩
    rw [List.take_of_length_le (by simp)] at hus
    exact hus
end
end
section
/-! _law_ring -/
def asgV : Stmt → Expr
  | .Assign _ v _ => v
  | _ => .Constant .none 0 ⟨0, 0, 0, 0⟩
def cElt : Expr → Expr
  | .ListComp e _ _ _ => e
  | e => e
def cScope : Expr → Scope
  | .ListComp _ _ s _ => s
  | _ => default
def ringB (i : Nat) : Stmt := (fnB (stAt 34)).getD i (.Pass ⟨0, 0, 0, 0⟩)
section
variable {c : Cx} {A : Around} {frs : Frs} {led : Led}
/-- a row of rank -/
theorem c_rankrow {L C K ao : Addr} {cs : List (Str × Addr)} {co coo oo : Obj} {wa : Addr} {vo vw : List Value} {os ws : List Nat} {aO : Addr} {Q : Value → Frs → Led → Prop} (hh : A.handled = none) (T : Tops c.base)
    (hK : At c led K co) (hco : co.data = .cell (some (.ref wa))) {nw : Nat} (hw : At c led wa (seqObj "list" vw.toArray nw)) (hvw : NA vw ws) (hwl : ws.length = 4) (hwr : ∀ x ∈ ws, x < 256)
    (hO : At c led aO coo) (hcoo : coo.data = .cell (some (.ref ao))) (ho : At c led ao oo) (hoo : ListO vo.toArray oo) (hvo : NA vo os) (hol : os.length = 4) (hmem : ∀ x ∈ os, x ∈ ws)
    (h : ∀ a vs n, NA vs (os.map fun o => ws.idxOf o) → Q (.ref a) frs ((a, seqObj "list" vs.toArray n) :: led)) (hne : frs ≠ []) :
    W c A (eval (cElt (asgV (ringB 0))) (compEnvC (cScope (asgV (ringB 0))) [("wishes", K), ("octets", aO)] C (envX (Str.ofString "_law_ring") (fnS (stAt 34)) L 158 (.ref 157) cs))) frs led Q := by
  refine W_ListComp rfl ?_ rfl rfl ?_ ?_ hh ?_
  · intro _; rfl
  · decide
  · decide
  walk_at "go"
  intro D C2
  rename_i I
  have hol' := hvo.len
  with_reducible refine' Wc_compStart ?_ ?z1
  case z1 => exact (W_selfList (by walk_at "mem") ⟨rfl, rfl⟩)
  with_reducible refine' Wc_compInd ?z1 4 (fun i f l => ∃ (oi : Obj) (us : List Value) (n2 : Nat), Wk ((C2, []) :: frs) ((D, seqObj "list" us.toArray n2) :: (I, oi) :: led) f l ∧ SeqIt "list_iterator" ao i oi ∧ NA us ((os.map fun o => ws.idxOf o).take i)) ?z2 ?_ ?_
  case z1 => decide
  case z2 => exact ⟨_, [], 0, Wk.refl _ _, ⟨rfl, rfl⟩, NA.nil⟩
  · intro i hi f l hI
    first | with_reducible refine' W_hideT fun J K hJ hK => ?_ | with_reducible refine' W_hideC fun J K hJ hK => ?_ | with_reducible refine' W_hideO fun J K hJ hK => ?_
    with_reducible refine' exE3_3 hI fun oi us n2 hwk hoi hus => ?_
    clear hI
    with_reducible refine' W_wk hwk ?_
    have hil : i < os.length := by exact om2 hol hi
    with_reducible refine' exX1 (hvo.at (List.getElem?_eq_getElem hil)) fun tq hq => ?_
    have hul := hus.len
    rw [List.length_take] at hul
    with_reducible refine' W_nextListO ?z1 hoi ?z2 hoo ?z3 fun o' ho' => ?_
    case z1 => intro o'; walk_at "up"
    case z2 => walk_at "atc"
    case z3 => simpa using hq
    walk_at "go"
    with_reducible refine' W_index ?z1 (ListO.of _ _) hvw (hmem _ (List.getElem_mem hil)) hwl hwr fun _ => ?_
    case z1 => walk_at "atc"
    walk_at "go"
    refine' hJ _ _ (exI3 o' _ _ ⟨?w, ho', ?d⟩)
    case w => walk_at "wk"
    case d =>
      rw [List.take_succ_eq_append_getElem (by simpa using hil), List.getElem_map]
      exact hus.push _ _
  · intro f l hI
    with_reducible refine' exE3_3 hI fun oi us n2 hwk hoi hus => ?_
    clear hI
    with_reducible refine' W_wk hwk ?_
    with_reducible refine' W_endListO hh ?z1 ?z2 hoi ?z3 hoo ?z4 ⟨rfl, ?_⟩
    case z1 => walk_at "rm"
    case z2 => walk_at "mem"
    case z3 => walk_at "atc"
    case z4 => (simp; exact om125 hol hol')
    refine comp_done hne ?_
    rw [List.take_of_length_le (by simp; exact om16 hol)] at hus
    with_reducible exact h _ _ _ hus
end
end
section
section
variable {c : Cx} {A : Around} {frs : Frs} {led : Led}
/-- a row of reach -/
theorem c_reachrow {L C K aR aH aHl rr : Addr} {cs : List (Str × Addr)} {co coR coH oR oH orr : Obj} {rows : Array Value} {vr vh : List Value} {rk hs : List Nat} {k : Nat} {tk : Tok} {Q : Value → Frs → Led → Prop} (hh : A.handled = none) (T : Tops c.base)
    (hK : At c led K co) (hco : co.data = .cell (some (.int k tk))) (hk : k < 4)
    (hcR : At c led aR coR) (hcoR : coR.data = .cell (some (.ref rr))) (hR : At c led rr oR) (hoR : ListO rows oR) {ra : Addr} (hra : rows[k]? = some (.ref ra)) (hrow : At c led ra orr) (horr : ListO vr.toArray orr) (hvr : NA vr rk) (hrl : rk.length = 4)
    (hcH : At c led aH coH) (hcoH : coH.data = .cell (some (.ref aHl))) (hH : At c led aHl oH) (hoH : ListO vh.toArray oH) (hvh : NA vh hs) (hhl : hs.length = 4)
    (h : ∀ a n, Q (.ref a) frs ((a, seqObj "list" (((List.range 4).map fun j => decide (rk.getD j 0 ≤ hs.getD k 0)).map Value.bool).toArray n) :: led)) (hne : frs ≠ []) :
    W c A (eval (cElt (asgV (ringB 2))) (compEnvC (cScope (asgV (ringB 2))) [("k", K), ("rank", aR), ("has", aH)] C (envX (Str.ofString "_law_ring") (fnS (stAt 34)) L 158 (.ref 157) cs))) frs led Q := by
  refine W_ListComp rfl ?_ rfl rfl ?_ ?_ hh ?_
  · intro _; rfl
  · decide
  · decide
  walk_at "go"
  with_reducible refine' W_iterRangeN (n := 4) ?z1 ?z2 fun I x0 l0 hx0 hl0 => ?_
  case z1 => exact (.led (.head _))
  case z2 => decide
  intro D C2
  with_reducible refine' Wc_compStart ?_ ?z1
  case z1 => exact (W_selfRange (by walk_at "mem"))
  with_reducible refine' Wc_compInd ?z1 4 (fun j f l => ∃ (x left : Int) (n2 : Nat), x = j ∧ left = (4 : Nat) - (j : Int) ∧ Wk ((C2, []) :: frs) ((D, seqObj "list" (((List.range j).map fun j => decide (rk.getD j 0 ≤ hs.getD k 0)).map Value.bool).toArray n2) :: (I, rangeIt x left 1) :: led) f l) ?h0 ?_ ?_
  case z1 => decide
  case h0 =>
    refine' exI3 x0 l0 0 ⟨hx0, hl0, ?w⟩
    case w =>
      rw [show ((List.range 0).map fun j => decide (rk.getD j 0 ≤ hs.getD k 0)).map Value.bool = [] from rfl]
      walk_at "wk"
  · intro j hj f l hI
    first | with_reducible refine' W_hideT fun J K hJ hK => ?_ | with_reducible refine' W_hideC fun J K hJ hK => ?_ | with_reducible refine' W_hideO fun J K hJ hK => ?_
    with_reducible refine' exE3_3 hI fun x left n2 hx hleft hwk => ?_
    clear hI
    with_reducible refine' W_wk hwk ?_
    have hjl : j < rk.length := by exact om2 hrl hj
    have hkl : k < hs.length := by exact om126 hk hhl
    with_reducible refine' exX1 (hvr.at (List.getElem?_eq_getElem hjl)) fun tq hq => ?_
    with_reducible refine' exX1 (hvh.at (List.getElem?_eq_getElem hkl)) fun th hth => ?_
    with_reducible refine' W_nextRangeN ?z1 hx hleft hj fun tj x' left' hx' hl' => ?_
    case z1 => intro o'; walk_at "up"
    walk_at "go"
    with_reducible refine' W_itemListO ?z1 hoR ?z2 ?z3 ?z4 ?z5 ?z6 ?_
    case z1 => walk_at "atc"
    case z2 => exact om0
    case z3 => exact om1 hk
    case z4 => simpa using hra
    case z5 => rfl
    case z6 => (intros; rfl)
    walk_at "go"
    with_reducible refine' W_itemListT ?z1 horr ?z2 ?z3 ?z4 ?z5 ?_
    case z1 => walk_at "atc"
    case z2 => exact om0
    case z3 => exact om1 hj
    case z4 => simpa using hq
    case z5 => rfl
    walk_at "go"
    with_reducible refine' W_itemListO ?z1 hoH ?z2 ?z3 ?z4 ?z5 ?z6 ?_
    case z1 => walk_at "atc"
    case z2 => exact om0
    case z3 => exact om1 hk
    case z4 => simpa using hth
    case z5 => rfl
    case z6 => (intros; rfl)
    walk_at "go"
    have e : ((List.range (j + 1)).map fun j => decide (rk.getD j 0 ≤ hs.getD k 0)).map Value.bool = ((List.range j).map fun j => decide (rk.getD j 0 ≤ hs.getD k 0)).map Value.bool ++ [Value.bool (decide ((rk[j] : Int) ≤ (hs[k] : Int)))] := by
      rw [List.range_succ, List.map_append, List.map_append]
      congr 1
      show [Value.bool (decide (rk.getD j 0 ≤ hs.getD k 0))] = _
      rw [List.getD_eq_getElem?_getD, List.getElem?_eq_getElem hjl, List.getD_eq_getElem?_getD, List.getElem?_eq_getElem hkl, Option.getD_some, Option.getD_some]
      congr 2
      exact decide_eq_decide.mpr (by exact om127)
    with_reducible refine' W_appendL ?z1 ?z2 ?_
    case z1 => walk_at "up"
    case z2 => (rw [List.length_map, List.length_map, List.length_range, sizeLine_eq]; exact om128 hj)
    refine' hJ _ _ (exI3 x' left' _ ⟨hx', hl', ?w⟩)
    case w =>
      rw [e]
      walk_at "wk"
  · intro f l hI
    with_reducible refine' exE3_3 hI fun x left n2 hx hleft hwk => ?_
    clear hI
    with_reducible refine' W_wk hwk ?_
    with_reducible refine' W_endRangeN hh ?z1 ?z2 hleft ⟨rfl, ?_⟩
    case z1 => walk_at "rm"
    case z2 => walk_at "mem"
    refine comp_done hne ?_
    with_reducible exact h _ _
end
end
section
/-! the closing of reach -/
theorem lt4 {k : Nat} (h : k < 4) : k = 0 ∨ k = 1 ∨ k = 2 ∨ k = 3 := by exact om5 h
theorem p4_sel (s0 s1 s2 s3 : Addr) {k : Nat} (hk : k < 4) : (#[Value.ref s0, .ref s1, .ref s2, .ref s3] : Array Value)[((k : Nat) : Int).toNat]? = some (.ref (if k = 0 then s0 else if k = 1 then s1 else if k = 2 then s2 else s3)) := by
  rcases lt4 hk with rfl | rfl | rfl | rfl <;> rfl
def p4 {α : Type} (a b d e : α) (k : Nat) : α := if k = 0 then a else if k = 1 then b else if k = 2 then d else e
def upd {α : Type} (r : Nat → α) (k : Nat) (x : α) (i : Nat) : α := if i = k then x else r i
def rowA (M : Nat → Nat → Bool) (k : Nat) : Array Value := ((List.range 4).map fun j => Value.bool (M k j)).toArray
def setM (M : Nat → Nat → Bool) (k j : Nat) (a b : Nat) : Bool := if a = k ∧ b = j then true else M a b
theorem rowA_get (M : Nat → Nat → Bool) (k j : Nat) (hj : j < 4) : (rowA M k)[j]? = some (.bool (M k j)) := by
  unfold rowA
  rw [List.getElem?_toArray, List.getElem?_map, List.getElem?_range hj]
  rfl
theorem rowA_set (M : Nat → Nat → Bool) (k j : Nat) (hj : j < 4) : (rowA M k).setIfInBounds j (.bool true) = rowA (setM M k j) k := by
  have : j = 0 ∨ j = 1 ∨ j = 2 ∨ j = 3 := by exact om5 hj
  rcases this with rfl | rfl | rfl | rfl <;> simp [rowA, setM, List.range_succ]
theorem rowA_other (M : Nat → Nat → Bool) (k j a : Nat) (ha : a ≠ k) : rowA (setM M k j) a = rowA M a := by
  unfold rowA setM
  simp [ha]
abbrev seg (s0 s1 s2 s3 : Addr) (ro : Nat → Obj) (rest : Led) : Led := (s3, ro 3) :: (s2, ro 2) :: (s1, ro 1) :: (s0, ro 0) :: rest
theorem seg_at {c : Cx} {s0 s1 s2 s3 : Addr} {ro : Nat → Obj} {rest : Led} {k : Nat} (hk : k < 4) : At c (seg s0 s1 s2 s3 ro rest) (p4 s0 s1 s2 s3 k) (ro k) := by
  rcases lt4 hk with rfl | rfl | rfl | rfl
  · exact .led (.tail _ (.tail _ (.tail _ (.head _))))
  · exact .led (.tail _ (.tail _ (.head _)))
  · exact .led (.tail _ (.head _))
  · exact .led (.head _)
theorem seg_up {s0 s1 s2 s3 : Addr} {ro : Nat → Obj} {rest : Led} {k : Nat} (hk : k < 4) (o' : Obj) : Up (p4 s0 s1 s2 s3 k) (ro k) o' (seg s0 s1 s2 s3 ro rest) (seg s0 s1 s2 s3 (upd ro k o') rest) := by
  rcases lt4 hk with rfl | rfl | rfl | rfl
  · exact .tail (.tail (.tail .head))
  · exact .tail (.tail .head)
  · exact .tail .head
  · exact .head
section
variable {c : Cx} {A : Around} {rest : Led}
theorem c_fw {L a6 DR s0 s1 s2 s3 : Addr} {cs : List (Str × Addr)} {o6 oD : Obj} {ro : Nat → Obj} {M : Nat → Nat → Bool} {P : Nat → Nat → Prop} {Q : Flow → Frs → Led → Prop} (hh : A.handled = none) (T : Tops c.base)
    (h6 : At c rest a6 o6) (g6 : o6.data = .cell (some (.ref DR))) (hD : At c rest DR oD) (hoD : ListO #[.ref s0, .ref s1, .ref s2, .ref s3] oD)
    (hro : ∀ k, k < 4 → ListO (rowA M k) (ro k)) (hM : ∀ k j, k < 4 → j < 4 → M k j = true → P k j) (hP : ∀ a b d, P a b → P b d → P a d)
    (hq : ∀ f l ro M, Wk [(L, [])] (seg s0 s1 s2 s3 ro rest) f l → (∀ k, k < 4 → ListO (rowA M k) (ro k)) → (∀ k j, k < 4 → j < 4 → M k j = true → P k j) → Q .next f l) :
    W c A (exec (ringB 3) (envX (Str.ofString "_law_ring") (fnS (stAt 34)) L 158 (.ref 157) (("reach", a6) :: cs))) [(L, [])] (seg s0 s1 s2 s3 ro rest) Q := by
  refine W_For hh ?_ (by intro _; rfl)
  walk_at "go"
  with_reducible refine' W_iterRangeN (n := 4) ?z1 ?z2 fun I1 x1 l1 hx1 hl1 => ?_
  case z1 => exact (.led (.head _))
  case z2 => decide
  with_reducible refine' Wc_forInd 4 (fun i f l => ∃ (x left : Int) (ro : Nat → Obj) (M : Nat → Nat → Bool), x = i ∧ left = (4 : Nat) - (i : Int) ∧ Wk [(L, [])] ((I1, rangeIt x left 1) :: seg s0 s1 s2 s3 ro rest) f l ∧ (∀ k, k < 4 → ListO (rowA M k) (ro k)) ∧ (∀ k j, k < 4 → j < 4 → M k j = true → P k j)) ?h0 ?_ ?_
  case h0 =>
    refine' exI4 x1 l1 ro M ⟨hx1, hl1, ?w, hro, hM⟩
    case w => walk_at "wk"
  · clear hro hM
    intro i hi f l hI
    first | with_reducible refine' W_hideT fun J K hJ hK => ?_ | with_reducible refine' W_hideC fun J K hJ hK => ?_ | with_reducible refine' W_hideO fun J K hJ hK => ?_
    with_reducible refine' exE4_5 hI fun x left ro M hx hleft hwk hro hM => ?_
    clear hI
    with_reducible refine' W_wk hwk ?_
    with_reducible refine' W_nextRangeN ?z1 hx hleft hi fun t1 x1' l1' hx1' hl1' => ?_
    case z1 => intro o'; walk_at "up"
    walk_at "go"
    with_reducible refine' W_iterRangeN (n := 4) ?z1 ?z2 fun I2 x2 l2 hx2 hl2 => ?_
    case z1 => exact (.led (.head _))
    case z2 => decide
    with_reducible refine' Wc_forInd 4 (fun k f l => ∃ (x left : Int) (ro : Nat → Obj) (M : Nat → Nat → Bool), x = k ∧ left = (4 : Nat) - (k : Int) ∧ Wk [(L, [("middle", .int i t1)])] ((I2, rangeIt x left 1) :: (I1, rangeIt x1' l1' 1) :: seg s0 s1 s2 s3 ro rest) f l ∧ (∀ k, k < 4 → ListO (rowA M k) (ro k)) ∧ (∀ k j, k < 4 → j < 4 → M k j = true → P k j)) ?h0 ?_ ?_
    case h0 =>
      refine' exI4 x2 l2 ro M ⟨hx2, hl2, ?w, hro, hM⟩
      case w => walk_at "wk"
    · clear hro hM
      intro k hk f l hI
      first | with_reducible refine' W_hideT fun J K hJ hK => ?_ | with_reducible refine' W_hideC fun J K hJ hK => ?_ | with_reducible refine' W_hideO fun J K hJ hK => ?_
      with_reducible refine' exE4_5 hI fun x left ro M hx hleft hwk hro hM => ?_
      clear hI
      with_reducible refine' W_wk hwk ?_
      with_reducible refine' W_nextRangeN ?z1 hx hleft hk fun t2 x2' l2' hx2' hl2' => ?_
      case z1 => intro o'; walk_at "up"
      walk_at "go"
      with_reducible refine' W_iterRangeN (n := 4) ?z1 ?z2 fun I3 x3 l3 hx3 hl3 => ?_
      case z1 => exact (.led (.head _))
      case z2 => decide
      with_reducible refine' Wc_forInd 4 (fun j f l => ∃ (x left : Int) (ro : Nat → Obj) (M : Nat → Nat → Bool), x = j ∧ left = (4 : Nat) - (j : Int) ∧ Wk [(L, [("middle", .int i t1), ("k", .int k t2)])] ((I3, rangeIt x left 1) :: (I2, rangeIt x2' l2' 1) :: (I1, rangeIt x1' l1' 1) :: seg s0 s1 s2 s3 ro rest) f l ∧ (∀ k, k < 4 → ListO (rowA M k) (ro k)) ∧ (∀ k j, k < 4 → j < 4 → M k j = true → P k j)) ?h0 ?_ ?_
      case h0 =>
        refine' exI4 x3 l3 ro M ⟨hx3, hl3, ?w, hro, hM⟩
        case w => walk_at "wk"
      · clear hro hM
        intro j hj f l hI
        first | with_reducible refine' W_hideT fun J K hJ hK => ?_ | with_reducible refine' W_hideC fun J K hJ hK => ?_ | with_reducible refine' W_hideO fun J K hJ hK => ?_
        with_reducible refine' exE4_5 hI fun x left ro M hx hleft hwk hro hM => ?_
        clear hI
        with_reducible refine' W_wk hwk ?_
        have hD' : ∀ {a b d e f g h : Addr × Obj}, At c (a :: b :: d :: e :: f :: g :: h :: rest) DR oD := (hD.cons.cons.cons.cons.cons.cons.cons)
        have h6' : ∀ {a b d e f g h : Addr × Obj}, At c (a :: b :: d :: e :: f :: g :: h :: rest) a6 o6 := (h6.cons.cons.cons.cons.cons.cons.cons)
        with_reducible refine' W_nextRangeN ?z1 hx hleft hj fun t3 x3' l3' hx3' hl3' => ?_
        case z1 => intro o'; walk_at "up"
        walk_at "go"
        have stay : ∀ f l, Wk [(L, [("middle", .int i t1), ("k", .int k t2)])] ((I3, rangeIt x3' l3' 1) :: (I2, rangeIt x2' l2' 1) :: (I1, rangeIt x1' l1' 1) :: seg s0 s1 s2 s3 ro rest) f l → J f l :=
          fun f l w => hJ _ _ (exI4 x3' l3' ro M ⟨hx3', hl3', w, hro, hM⟩)
        first | (refine W_cell rfl rfl rfl h6' g6 (by decide) ?_; walk_at "go") | skip
        with_reducible refine' W_itemListO hD' hoD ?z1 ?z2 (x := .ref (p4 s0 s1 s2 s3 k)) (p4_sel _ _ _ _ hk) ?z3 ?z4 ?_
        case z1 => exact om0
        case z2 => exact om1 hk
        case z3 => rfl
        case z4 => (intros; rfl)
        walk_at "go"
        refine W_itemListT (seg_at hk).cons.cons.cons (hro k hk) (by exact om0) (by exact om1 hi) (rowA_get M k i hi) rfl ?_
        walk_at "go"
        refine if_b (fun hc1 => ?_) fun hc1 => ?_
        · walk_at "go"
          first | (refine W_cell rfl rfl rfl h6' g6 (by decide) ?_; walk_at "go") | skip
          with_reducible refine' W_itemListO hD' hoD ?z1 ?z2 (x := .ref (p4 s0 s1 s2 s3 i)) (p4_sel _ _ _ _ hi) ?z3 ?z4 ?_
          case z1 => exact om0
          case z2 => exact om1 hi
          case z3 => rfl
          case z4 => (intros; rfl)
          walk_at "go"
          refine W_itemListT (seg_at hi).cons.cons.cons (hro i hi) (by exact om0) (by exact om1 hj) (rowA_get M i j hj) rfl ?_
          walk_at "go"
          refine if_b (fun hc2 => ?_) fun hc2 => ?_
          · walk_at "go"
            first | (refine W_cell rfl rfl rfl h6' g6 (by decide) ?_; walk_at "go") | skip
            with_reducible refine' W_itemListO hD' hoD ?z1 ?z2 (x := .ref (p4 s0 s1 s2 s3 k)) (p4_sel _ _ _ _ hk) ?z3 ?z4 ?_
            case z1 => exact om0
            case z2 => exact om1 hk
            case z3 => rfl
            case z4 => (intros; rfl)
            walk_at "go"
            with_reducible refine' W_setListO (led' := fun o' => (I3, rangeIt x3' l3' 1) :: (I2, rangeIt x2' l2' 1) :: (I1, rangeIt x1' l1' 1) :: seg s0 s1 s2 s3 (upd ro k o') rest) (fun o' => .tail (.tail (.tail (seg_up hk o')))) (hro k hk) ?z1 ?z2 ?z3 fun o' ho' => ?_
            case z1 => exact om0
            case z2 => exact om1 hj
            case z3 => (simp [rowA]; exact om129 hj)
            walk_at "go"
            refine hJ _ _ (exI4 x3' l3' (upd ro k o') (setM M k j) ⟨hx3', hl3', ?_, fun a ha => ?_, fun a b ha hb hab => ?_⟩)
            · walk_at "wk"
            · unfold upd
              by_cases e : a = k
              · subst e
                rw [if_pos rfl, ← rowA_set M a j hj]
                exact ho'
              · rw [if_neg e, rowA_other M k j a e]
                exact hro a ha
            · unfold setM at hab
              split at hab
              · rename_i e
                rw [e.1, e.2]
                with_reducible exact hP k i j (hM k i hk hi hc1) (hM i j hi hj hc2)
              · with_reducible exact hM a b ha hb hab
          · walk_at "go"
            exact stay _ _ (by walk_at "wk")
        · walk_at "go"
          exact stay _ _ (by walk_at "wk")
      · intro f l hI
        with_reducible refine' exE4_5 hI fun x left ro M hx hleft hwk hro hM => ?_
        clear hI
        with_reducible refine' W_wk hwk ?_
        with_reducible refine' W_endRangeN hh ?z1 ?z2 hleft ⟨rfl, ?_⟩
        case z1 => walk_at "rm"
        case z2 => walk_at "mem"
        walk_at "go"
        refine hJ _ _ (exI4 x2' l2' ro M ⟨hx2', hl2', ?_, hro, hM⟩)
        walk_at "wk"
    · intro f l hI
      with_reducible refine' exE4_5 hI fun x left ro M hx hleft hwk hro hM => ?_
      clear hI
      with_reducible refine' W_wk hwk ?_
      with_reducible refine' W_endRangeN hh ?z1 ?z2 hleft ⟨rfl, ?_⟩
      case z1 => walk_at "rm"
      case z2 => walk_at "mem"
      walk_at "go"
      refine hJ _ _ (exI4 x1' l1' ro M ⟨hx1', hl1', ?_, hro, hM⟩)
      walk_at "wk"
  · intro f l hI
    with_reducible refine' exE4_5 hI fun x left ro M hx hleft hwk hro hM => ?_
    clear hI
    with_reducible refine' W_wk hwk ?_
    with_reducible refine' W_endRangeN hh ?z1 ?z2 hleft ⟨rfl, ?_⟩
    case z1 => walk_at "rm"
    case z2 => walk_at "mem"
    exact hq _ _ ro M (Wk.refl _ _) hro hM
end
end
section
section
variable {c : Cx} {A : Around} {led : Led}
theorem c_ringend {L a6 a5 a4 DR DH D r0 r1 r2 r3 s0 s1 s2 s3 : Addr} {cs : List (Str × Addr)} {o6 o5 o4 oDR oDH oD : Obj} {ro rko : Nat → Obj} {rkv : Nat → List Value} {vh : List Value} {rk : Nat → List Nat} {hs : List Nat} {M : Nat → Nat → Bool} {Q : Flow → Frs → Led → Prop} (hh : A.handled = none) (hu : A.units < cLine) (T : Tops c.base)
    (h6 : At c led a6 o6) (g6 : o6.data = .cell (some (.ref DR))) (hDR : At c led DR oDR) (hoDR : ListO #[.ref s0, .ref s1, .ref s2, .ref s3] oDR)
    (hs6 : ∀ k, k < 4 → At c led (p4 s0 s1 s2 s3 k) (ro k)) (hro : ∀ k, k < 4 → ListO (rowA M k) (ro k))
    (h5 : At c led a5 o5) (g5 : o5.data = .cell (some (.ref DH))) (hDH : At c led DH oDH) (hoDH : ListO vh.toArray oDH) (hvh : NA vh hs) (hhl : hs.length = 4)
    (h4 : At c led a4 o4) (g4 : o4.data = .cell (some (.ref D))) (hD : At c led D oD) (hoD : ListO #[.ref r0, .ref r1, .ref r2, .ref r3] oD)
    (hr4 : ∀ k, k < 4 → At c led (p4 r0 r1 r2 r3 k) (rko k)) (hrk : ∀ k, k < 4 → ListO (rkv k).toArray (rko k)) (hna : ∀ k, k < 4 → NA (rkv k) (rk k)) (hrl : ∀ k, k < 4 → (rk k).length = 4)
    (hno : ∀ k j, k < 4 → j < 4 → (rk k).getD j 0 < hs.getD k 0 → M j k = false) (hq : ∀ f l, Q (.ret (.bool false)) f l) :
    W c A (exec (ringB 4) (envX (Str.ofString "_law_ring") (fnS (stAt 34)) L 158 (.ref 157) (("reach", a6) :: ("has", a5) :: ("rank", a4) :: cs))) [(L, [])] led Q := by
  refine W_Return ?_
  with_reducible refine' W_Compare ?_ ?z1
  case z1 => with_unfolding_all rfl
  with_reducible refine' W_ListComp ?z1 ?z2 ?z3 ?z4 ?z5 ?z6 hh ?_
  case z1 => rfl
  case z2 => (intro _; rfl)
  case z3 => rfl
  case z4 => rfl
  case z5 => decide
  case z6 => decide
  walk_at "go"
  with_reducible refine' W_iterRangeN (n := 4) ?z1 ?z2 fun I1 x1 l1 hx1 hl1 => ?_
  case z1 => exact (.led (.head _))
  case z2 => decide
  intro DC C
  with_reducible refine' Wc_compStart ?_ ?z1
  case z1 => exact (W_selfRange (by walk_at "mem"))
  with_reducible refine' Wc_two0Ind ?z1 hh 4 (fun i f l => ∃ (x left : Int), x = i ∧ left = (4 : Nat) - (i : Int) ∧ Wk [(C, []), (L, [])] ((DC, seqObj "list" #[] 0) :: (I1, rangeIt x left 1) :: led) f l) ?h0 ?_ ?_
  case z1 => (intro _; rfl)
  case h0 =>
    refine' exI2 x1 l1 ⟨hx1, hl1, ?w⟩
    case w => walk_at "wk"
  · intro k hk f l hI
    first | with_reducible refine' W_hideT fun J K hJ hK => ?_ | with_reducible refine' W_hideC fun J K hJ hK => ?_ | with_reducible refine' W_hideO fun J K hJ hK => ?_
    with_reducible refine' exE2_3 hI fun x left hx hleft hwk => ?_
    clear hI
    with_reducible refine' W_wk hwk ?_
    with_reducible refine' W_nextRangeN ?z1 hx hleft hk fun t1 x1' l1' hx1' hl1' => ?_
    case z1 => intro o'; walk_at "up"
    walk_at "go"
    with_reducible refine' W_iterRangeN (n := 4) ?z1 ?z2 fun I2 x2 l2 hx2 hl2 => ?_
    case z1 => exact (.led (.head _))
    case z2 => decide
    with_reducible refine' Wc_start1 ?_ ?z1
    case z1 => exact (W_selfRange (by walk_at "mem"))
    with_reducible refine' Wc_two1Ind ?z1 4 (fun j f l => ∃ (x left : Int), x = j ∧ left = (4 : Nat) - (j : Int) ∧ Wk [(C, [("k", .int k t1)]), (L, [])] ((I2, rangeIt x left 1) :: (DC, seqObj "list" #[] 0) :: (I1, rangeIt x1' l1' 1) :: led) f l) ?h0 ?_ ?_
    case z1 => decide
    case h0 =>
      refine' exI2 x2 l2 ⟨hx2, hl2, ?w⟩
      case w => walk_at "wk"
    · intro j hj f l hI
      first | with_reducible refine' W_hideT fun J K hJ hK => ?_ | with_reducible refine' W_hideC fun J K hJ hK => ?_ | with_reducible refine' W_hideO fun J K hJ hK => ?_
      with_reducible refine' exE2_3 hI fun x left hx hleft hwk => ?_
      clear hI
      with_reducible refine' W_wk hwk ?_
      have hjl : j < (rk k).length := by rw [hrl k hk]; exact hj
      have hkl : k < hs.length := by exact om2 hhl hk
      with_reducible refine' exX1 ((hna k hk).at (List.getElem?_eq_getElem hjl)) fun tq hq1 => ?_
      with_reducible refine' exX1 (hvh.at (List.getElem?_eq_getElem hkl)) fun th hth => ?_
      with_reducible refine' W_nextRangeN ?z1 hx hleft hj fun t2 x2' l2' hx2' hl2' => ?_
      case z1 => intro o'; walk_at "up"
      walk_at "go"
      with_reducible refine' W_itemListO ?z1 hoD ?z2 ?z3 (x := .ref (p4 r0 r1 r2 r3 k)) (p4_sel _ _ _ _ hk) ?z4 ?z5 ?_
      case z1 => walk_at "atc"
      case z2 => exact om0
      case z3 => exact om1 hk
      case z4 => rfl
      case z5 => (intros; rfl)
      walk_at "go"
      with_reducible refine' W_itemListT (hr4 k hk).cons.cons.cons (hrk k hk) ?z1 ?z2 ?z3 ?z4 ?_
      case z1 => exact om0
      case z2 => exact om1 hj
      case z3 => simpa using hq1
      case z4 => rfl
      walk_at "go"
      with_reducible refine' W_itemListO ?z1 hoDH ?z2 ?z3 ?z4 ?z5 ?z6 ?_
      case z1 => walk_at "atc"
      case z2 => exact om0
      case z3 => exact om1 hk
      case z4 => simpa using hth
      case z5 => rfl
      case z6 => (intros; rfl)
      walk_at "go"
      with_reducible refine' if_b (fun hc => ?_) fun hc => ?_
      · walk_at "go"
        with_reducible refine' W_itemListO ?z1 hoDR ?z2 ?z3 (x := .ref (p4 s0 s1 s2 s3 j)) (p4_sel _ _ _ _ hj) ?z4 ?z5 ?_
        case z1 => walk_at "atc"
        case z2 => exact om0
        case z3 => exact om1 hj
        case z4 => rfl
        case z5 => (intros; rfl)
        walk_at "go"
        refine W_itemListT (hs6 j hj).cons.cons.cons (hro j hj) (by exact om0) (by exact om1 hk) (rowA_get M j k hk) rfl ?_
        rw [hno k j hk hj (by
          rw [List.getD_eq_getElem?_getD, List.getElem?_eq_getElem hjl, List.getD_eq_getElem?_getD, List.getElem?_eq_getElem hkl]
          have := of_decide_eq_true hc
          simp only [Option.getD_some]
          exact om130 this)]
        walk_at "go"
        refine' hJ _ _ (exI2 x2' l2' ⟨hx2', hl2', ?w⟩)
        case w => walk_at "wk"
      · walk_at "go"
        refine' hJ _ _ (exI2 x2' l2' ⟨hx2', hl2', ?w⟩)
        case w => walk_at "wk"
    · intro f l hI
      with_reducible refine' exE2_3 hI fun x left hx hleft hwk => ?_
      clear hI
      with_reducible refine' W_wk hwk ?_
      with_reducible refine' W_endRangeN hh ?z1 ?z2 hleft ⟨rfl, ?_⟩
      case z1 => walk_at "rm"
      case z2 => walk_at "mem"
      refine' hJ _ _ (exI2 x1' l1' ⟨hx1', hl1', ?w⟩)
      case w => walk_at "wk"
  · intro f l hI
    with_reducible refine' exE2_3 hI fun x left hx hleft hwk => ?_
    clear hI
    with_reducible refine' W_wk hwk ?_
    with_reducible refine' W_endRangeN hh ?z1 ?z2 hleft ⟨rfl, ?_⟩
    case z1 => walk_at "rm"
    case z2 => walk_at "mem"
    walk_at "go"
    refine W_neLists hu (vs := []) (us := []) (.led (.tail _ (.head _))) (ListO.of _ _) (.led (.head _)) (ListO.of _ _) rfl (fun s j x y e1 e2 => by simp at e1) ?_
    exact hq _ _
end
end
section
section
variable {c : Cx} {A : Around} {frs : Frs} {led : Led}
theorem c_ring {n : Nat} {ao al ag : Addr} {oo ol og : Obj} {vo : List Value} {os : List Nat} {wa : Nat → Addr} {wv : Nat → List Value} {wn : Nat → Nat} {Ls : Nat → List Nat} {gk : Nat → Nat} {ep : Nat} {kvs : List (Int × Value)} {rnd : Nat → Nat} {Q : Value → Frs → Led → Prop}
    (hA : AOk (n + 1) A) (T : Tops c.base)
    (ho : At c led ao oo) (hoo : ListO vo.toArray oo) (hvo : NA vo os) (hol : os.length = 4)
    (hl : At c led al ol) (hol2 : ListO #[.ref (wa 0), .ref (wa 1), .ref (wa 2), .ref (wa 3)] ol)
    (hw : ∀ k, k < 4 → At c led (wa k) (seqObj "list" (wv k).toArray (wn k))) (hwv : ∀ k, k < 4 → NA (wv k) (Ls k)) (hwl : ∀ k, k < 4 → (Ls k).length = 4) (hwr : ∀ k, k < 4 → ∀ x ∈ Ls k, x < 256) (hmem : ∀ k, k < 4 → ∀ x ∈ os, x ∈ Ls k)
    (hg : At c led ag og) (hd : DOb (intKind pw c.w) kvs ep og) (hgk : ∀ k, k < 4 → ∃ t, valueAt kvs ((os.getD k 0 : Nat) : Int) = some (.int (gk k : Nat) t)) (hgm : ∀ k, k < 4 → gk k ∈ Ls k)
    (hle : ∀ k j, k < 4 → j < 4 → (Ls k).idxOf (os.getD j 0) ≤ (Ls k).idxOf (gk k) → rnd j ≤ rnd k) (hlt : ∀ k j, k < 4 → j < 4 → (Ls k).idxOf (os.getD j 0) < (Ls k).idxOf (gk k) → rnd j < rnd k)
    (h : Q (.bool false) frs led) : W c A (call (.ref 158) [.ref ao, .ref al, .ref ag]) frs led Q := by
  refine W_def [] (binds := [("octets", .ref ao), ("lists", .ref al), ("got", .ref ag)]) hA T.n T.ring (by decide) (by decide) (by intros; rfl) ?_ rfl rfl rfl ?_ (fun _ _ _ h => nomatch h) (by decide)
  · intro n x hx
    simp only [List.mem_cons, List.not_mem_nil, or_false] at hx
    rcases hx with rfl | rfl | rfl <;> exact .inr ⟨rfl, rfl⟩
  intro c' L cs cl mf cm hw' T'' hk hat hcs Y hmf hcm
  with_reducible refine' W_hide fun R hR => ?_
  have T' := T.kp hk
  rw [← hw'] at hd
  replace hcs : cs.map (·.1) = [("reach" : Str), "has", "rank", "got", "lists", "octets"] := hcs
  refine cells6 (G := fun cs cl => W c' (A.deeper (envX (Str.ofString "_law_ring") (fnS (stAt 34)) L 158 (.ref 157) cs)) (execs (fnB (stAt 34)) (envX (Str.ofString "_law_ring") (fnS (stAt 34)) L 158 (.ref 157) cs)) [(L, [])] cl R) hcs Y fun a6 a5 a4 a3 a2 a1 o6 o5 o4 o3 o2 o1 h6 h5 h4 h3 h2 h1 => ?_
  clear hcs Y
  have g6 : o6.data = .cell none := h6.trans (by rw [hcm]; rfl)
  have g5 : o5.data = .cell none := h5.trans (by rw [hcm]; rfl)
  have g4 : o4.data = .cell none := h4.trans (by rw [hcm]; rfl)
  have g3 : o3.data = .cell (some (.ref ag)) := h3.trans (by rw [hcm]; rfl)
  have g2 : o2.data = .cell (some (.ref al)) := h2.trans (by rw [hcm]; rfl)
  have g1 : o1.data = .cell (some (.ref ao)) := h1.trans (by rw [hcm]; rfl)
  have hA' : AOk n (A.deeper (envX (Str.ofString "_law_ring") (fnS (stAt 34)) L 158 (.ref 157) [("reach", a6), ("has", a5), ("rank", a4), ("got", a3), ("lists", a2), ("octets", a1)])) := hA.deeper
  have hh := hA'.handled
  with_reducible refine' exE0_2 (hat _ _ ho) fun bo bo' => ?_
  with_reducible refine' exE0_2 (hat _ _ hl) fun bl bl' => ?_
  with_reducible refine' exE0_2 (hat _ _ hg) fun bg bg' => ?_
  have bw : ∀ k, k < 4 → c'.base.get? (wa k) = some (seqObj "list" (wv k).toArray (wn k)) ∧ wa k ≠ tabP := fun k hk => hat _ _ (hw k hk)
  have hvl := hvo.len
  refine W_cons ?_
  with_reducible refine' W_Assign_Name ?_ ?z1
  case z1 => rfl
  refine W_ListComp1 (x := "wishes") rfl (by intro _; rfl) rfl rfl (by decide) (by intro _; rfl) (by intro _; rfl) hh ?_
  walk_at "go"
  intro D C K co hco
  rename_i I
  with_reducible refine' Wc_compStart ?_ ?z1
  case z1 => exact (W_selfList (by walk_at "mem") ⟨rfl, rfl⟩)
  with_reducible refine' Wc_comp ?z1 ?_
  case z1 => decide
  with_reducible refine' W_nextListO ?z1 (o := seqItObj "list_iterator" al 0) ?z2 ?z3 hol2 ?z4 fun I1 hI1 => ?_
  case z1 => intro o'; walk_at "up"
  case z2 => exact ⟨rfl, rfl⟩
  case z3 => exact (.base bl bl')
  case z4 => rfl
  iterate 6 (walk_at "m")
  rename_i co1 hco1
  refine c_rankrow (K := K) hh T' (.led (by walk_at "mem")) hco1 (.base (bw 0 (by decide)).1 (bw 0 (by decide)).2) (hwv 0 (by decide)) (hwl 0 (by decide)) (hwr 0 (by decide)) (.led (by walk_at "mem")) g1 (.base bo bo') hoo hvo hol (hmem 0 (by decide)) (fun r0 rv0 rn0 hr0 => ?_) (by simp)
  walk_at "go"
  with_reducible refine' Wc_comp ?z1 ?_
  case z1 => decide
  with_reducible refine' W_nextListO ?z1 hI1 ?z2 hol2 ?z3 fun I2 hI2 => ?_
  case z1 => intro o'; walk_at "up"
  case z2 => exact (.base bl bl')
  case z3 => rfl
  iterate 6 (walk_at "m")
  rename_i co2 hco2
  refine c_rankrow (K := K) hh T' (.led (by walk_at "mem")) hco2 (.base (bw 1 (by decide)).1 (bw 1 (by decide)).2) (hwv 1 (by decide)) (hwl 1 (by decide)) (hwr 1 (by decide)) (.led (by walk_at "mem")) g1 (.base bo bo') hoo hvo hol (hmem 1 (by decide)) (fun r1 rv1 rn1 hr1 => ?_) (by simp)
  walk_at "go"
  with_reducible refine' Wc_comp ?z1 ?_
  case z1 => decide
  with_reducible refine' W_nextListO ?z1 hI2 ?z2 hol2 ?z3 fun I3 hI3 => ?_
  case z1 => intro o'; walk_at "up"
  case z2 => exact (.base bl bl')
  case z3 => rfl
  iterate 6 (walk_at "m")
  rename_i co3 hco3
  refine c_rankrow (K := K) hh T' (.led (by walk_at "mem")) hco3 (.base (bw 2 (by decide)).1 (bw 2 (by decide)).2) (hwv 2 (by decide)) (hwl 2 (by decide)) (hwr 2 (by decide)) (.led (by walk_at "mem")) g1 (.base bo bo') hoo hvo hol (hmem 2 (by decide)) (fun r2 rv2 rn2 hr2 => ?_) (by simp)
  walk_at "go"
  with_reducible refine' Wc_comp ?z1 ?_
  case z1 => decide
  with_reducible refine' W_nextListO ?z1 hI3 ?z2 hol2 ?z3 fun I4 hI4 => ?_
  case z1 => intro o'; walk_at "up"
  case z2 => exact (.base bl bl')
  case z3 => rfl
  iterate 6 (walk_at "m")
  rename_i co4 hco4
  refine c_rankrow (K := K) hh T' (.led (by walk_at "mem")) hco4 (.base (bw 3 (by decide)).1 (bw 3 (by decide)).2) (hwv 3 (by decide)) (hwl 3 (by decide)) (hwr 3 (by decide)) (.led (by walk_at "mem")) g1 (.base bo bo') hoo hvo hol (hmem 3 (by decide)) (fun r3 rv3 rn3 hr3 => ?_) (by simp)
  walk_at "go"
  with_reducible refine' Wc_comp ?z1 ?_
  case z1 => decide
  with_reducible refine' W_endListO hh ?z1 ?z2 hI4 ?z3 hol2 ?z4 ?_
  case z1 => walk_at "rm"
  case z2 => walk_at "mem"
  case z3 => exact (.base bl bl')
  case z4 => rfl
  with_reducible refine' CompTurn_none ?_
  walk_at "go"
  rename_i o4' g4' ti R ta tb tc
  with_reducible refine' W_iterRangeN (n := 4) ?z1 ?z2 fun I x0 l0 hx0 hl0 => ?_
  case z1 => exact (.led (.head _))
  case z2 => decide
  intro DH CH
  with_reducible refine' Wc_compStart ?_ ?z1
  case z1 => exact (W_selfRange (by walk_at "mem"))
  with_reducible refine' Wc_compInd ?z1 4 (fun i f l => ∃ (x left : Int) (us : List Value) (n2 : Nat), x = i ∧ left = (4 : Nat) - (i : Int) ∧ Wk [(CH, []), (L, [])]
      [(DH, seqObj "list" us.toArray n2), (I, rangeIt x left 1), (r3, seqObj "list" rv3.toArray rn3), (r2, seqObj "list" rv2.toArray rn2), (r1, seqObj "list" rv1.toArray rn1), (r0, seqObj "list" rv0.toArray rn0),
        (D, seqObj "list" ([] ++ [Value.ref r0] ++ [Value.ref r1] ++ [Value.ref r2] ++ [Value.ref r3]).toArray (0 + 1 + 1 + 1 + 1)), (a6, o6), (a5, o5), (a4, o4'), (a3, o3), (a2, o2), (a1, o1)] f l ∧
      NA us (((List.range 4).map fun k => (Ls k).idxOf (gk k)).take i)) ?h0 ?_ ?_
  case z1 => decide
  case h0 =>
    refine' exI4 x0 l0 [] 0 ⟨hx0, hl0, ?w, NA.nil⟩
    case w => walk_at "wk"
  · intro k hk4 f l hI
    first | refine W_hideT fun J K hJ hK => ?_ | refine W_hideC fun J K hJ hK => ?_ | refine W_hideO fun J K hJ hK => ?_
    with_reducible refine' exE4_4 hI fun x left us n2 hx hleft hwk hus => ?_
    clear hI
    with_reducible refine' W_wk hwk ?_
    with_reducible refine' exE0_2 (bw k hk4) fun b1 b2 => ?_
    with_reducible refine' exX1 (hgk k hk4) fun tv hv => ?_
    have hkl : k < os.length := by exact om2 hol hk4
    with_reducible refine' exX1 (hvo.at (List.getElem?_eq_getElem hkl)) fun tq hq => ?_
    rw [List.getD_eq_getElem?_getD, List.getElem?_eq_getElem hkl, Option.getD_some] at hv
    have hul := hus.len
    rw [List.length_take] at hul
    with_reducible refine' W_nextRangeN ?z1 hx hleft hk4 fun tj x' left' hx' hl' => ?_
    case z1 => intro o'; walk_at "up"
    walk_at "go"
    refine W_itemListO (.base bl bl') hol2 (by exact om0) (by exact om1 hk4) (x := .ref (wa k)) ?_ rfl (by intros; rfl) ?_
    · rcases lt4 hk4 with rfl | rfl | rfl | rfl <;> rfl
    walk_at "go"
    refine W_itemListO (.base bo bo') hoo (by exact om0) (by exact om1 hk4) (by simpa using hq) rfl (by intros; rfl) ?_
    refine W_getDict (.base bg bg') hd (intKind_is _ _ _ _) hv rfl (by intros; rfl) ?_
    walk_at "go"
    refine W_index (.base b1 b2) (ListO.of _ _) (hwv k hk4) (hgm k hk4) (hwl k hk4) (hwr k hk4) fun _ => ?_
    walk_at "go"
    refine' hJ _ _ (exI4 x' left' _ _ ⟨hx', hl', ?w, ?d⟩)
    case w => walk_at "wk"
    case d =>
      rw [List.take_succ_eq_append_getElem (by simpa using hk4), List.getElem_map, List.getElem_range]
      exact hus.push _ _
  · intro f l hI
    with_reducible refine' exE4_4 hI fun x left us n2 hx hleft hwk hus => ?_
    clear hI
    with_reducible refine' W_wk hwk ?_
    with_reducible refine' W_endRangeN hh ?z1 ?z2 hleft ⟨rfl, ?_⟩
    case z1 => walk_at "rm"
    case z2 => walk_at "mem"
    rw [List.take_of_length_le (by simp)] at hus
    walk_at "go"
    rename_i o5' g5'
    refine W_ListComp1 (x := "k") rfl (by intro _; rfl) rfl rfl (by decide) (by intro _; rfl) (by intro _; rfl) hh ?_
    walk_at "go"
    rename_i tj R2 tk2 tl2 tm2
    with_reducible refine' W_iterRangeN (n := 4) ?z1 ?z2 fun I3 x3 l3 hx3 hl3 => ?_
    case z1 => exact (.led (.head _))
    case z2 => decide
    intro DR CR KR cr hcr
    with_reducible refine' Wc_compStart ?_ ?z1
    case z1 => exact (W_selfRange (by walk_at "mem"))
    have hasl : ((List.range 4).map fun k => (Ls k).idxOf (gk k)).length = 4 := by simp
    have osl : ∀ k, (os.map fun o => (Ls k).idxOf o).length = 4 := fun k => by rw [List.length_map]; exact hol
    with_reducible refine' Wc_comp ?z1 ?_
    case z1 => decide
    with_reducible refine' W_nextRangeN (i := 0) ?z1 hx3 hl3 ?z2 fun tkr0 xr1 lr1 hxr1 hlr1 => ?_
    case z1 => intro o'; walk_at "up"
    case z2 => decide
    iterate 6 (walk_at "m")
    rename_i cr1 hcr1
    refine c_reachrow (K := KR) (k := 0) hh T' (.led (by walk_at "mem")) hcr1 (by decide) (.led (by walk_at "mem")) g4' (.led (by walk_at "mem")) (ListO.of _ _) (ra := r0) rfl (.led (by walk_at "mem")) (ListO.of _ _) hr0 (osl 0)
      (.led (by walk_at "mem")) g5' (.led (by walk_at "mem")) (ListO.of _ _) hus hasl (fun s0 sn0 => ?_) (by simp)
    walk_at "go"
    with_reducible refine' Wc_comp ?z1 ?_
    case z1 => decide
    with_reducible refine' W_nextRangeN (i := 1) ?z1 hxr1 hlr1 ?z2 fun tkr1 xr2 lr2 hxr2 hlr2 => ?_
    case z1 => intro o'; walk_at "up"
    case z2 => decide
    iterate 6 (walk_at "m")
    rename_i cr2 hcr2
    refine c_reachrow (K := KR) (k := 1) hh T' (.led (by walk_at "mem")) hcr2 (by decide) (.led (by walk_at "mem")) g4' (.led (by walk_at "mem")) (ListO.of _ _) (ra := r1) rfl (.led (by walk_at "mem")) (ListO.of _ _) hr1 (osl 1)
      (.led (by walk_at "mem")) g5' (.led (by walk_at "mem")) (ListO.of _ _) hus hasl (fun s1 sn1 => ?_) (by simp)
    walk_at "go"
    with_reducible refine' Wc_comp ?z1 ?_
    case z1 => decide
    with_reducible refine' W_nextRangeN (i := 2) ?z1 hxr2 hlr2 ?z2 fun tkr2 xr3 lr3 hxr3 hlr3 => ?_
    case z1 => intro o'; walk_at "up"
    case z2 => decide
    iterate 6 (walk_at "m")
    rename_i cr3 hcr3
    refine c_reachrow (K := KR) (k := 2) hh T' (.led (by walk_at "mem")) hcr3 (by decide) (.led (by walk_at "mem")) g4' (.led (by walk_at "mem")) (ListO.of _ _) (ra := r2) rfl (.led (by walk_at "mem")) (ListO.of _ _) hr2 (osl 2)
      (.led (by walk_at "mem")) g5' (.led (by walk_at "mem")) (ListO.of _ _) hus hasl (fun s2 sn2 => ?_) (by simp)
    walk_at "go"
    with_reducible refine' Wc_comp ?z1 ?_
    case z1 => decide
    with_reducible refine' W_nextRangeN (i := 3) ?z1 hxr3 hlr3 ?z2 fun tkr3 xr4 lr4 hxr4 hlr4 => ?_
    case z1 => intro o'; walk_at "up"
    case z2 => decide
    iterate 6 (walk_at "m")
    rename_i cr4 hcr4
    refine c_reachrow (K := KR) (k := 3) hh T' (.led (by walk_at "mem")) hcr4 (by decide) (.led (by walk_at "mem")) g4' (.led (by walk_at "mem")) (ListO.of _ _) (ra := r3) rfl (.led (by walk_at "mem")) (ListO.of _ _) hr3 (osl 3)
      (.led (by walk_at "mem")) g5' (.led (by walk_at "mem")) (ListO.of _ _) hus hasl (fun s3 sn3 => ?_) (by simp)
    walk_at "go"
    with_reducible refine' Wc_comp ?z1 ?_
    case z1 => decide
    with_reducible refine' W_endRangeN (n := 4) hh ?z1 ?z2 hlr4 ?_
    case z1 => walk_at "rm"
    case z2 => walk_at "mem"
    with_reducible refine' CompTurn_none ?_
    iterate 3 (walk_at "m")
    rename_i o6' g6'
    have eo : ∀ k j, j < 4 → (os.map fun o => (Ls k).idxOf o).getD j 0 = (Ls k).idxOf (os.getD j 0) := fun k j hj => by
      rw [List.getD_eq_getElem?_getD, List.getElem?_map, List.getD_eq_getElem?_getD, List.getElem?_eq_getElem (by exact om2 hol hj)]
      rfl
    have eh : ∀ k, k < 4 → ((List.range 4).map fun k => (Ls k).idxOf (gk k)).getD k 0 = (Ls k).idxOf (gk k) := fun k hk => by
      rw [List.getD_eq_getElem?_getD, List.getElem?_map, List.getElem?_range hk]
      rfl
    refine W_cons (c_fw (ro := p4 (seqObj "list" (((List.range 4).map fun j => decide ((os.map fun o => (Ls 0).idxOf o).getD j 0 ≤ ((List.range 4).map fun k => (Ls k).idxOf (gk k)).getD 0 0)).map Value.bool).toArray sn0) (seqObj "list" (((List.range 4).map fun j => decide ((os.map fun o => (Ls 1).idxOf o).getD j 0 ≤ ((List.range 4).map fun k => (Ls k).idxOf (gk k)).getD 1 0)).map Value.bool).toArray sn1) (seqObj "list" (((List.range 4).map fun j => decide ((os.map fun o => (Ls 2).idxOf o).getD j 0 ≤ ((List.range 4).map fun k => (Ls k).idxOf (gk k)).getD 2 0)).map Value.bool).toArray sn2) (seqObj "list" (((List.range 4).map fun j => decide ((os.map fun o => (Ls 3).idxOf o).getD j 0 ≤ ((List.range 4).map fun k => (Ls k).idxOf (gk k)).getD 3 0)).map Value.bool).toArray sn3))
      (M := fun k j => decide ((os.map fun o => (Ls k).idxOf o).getD j 0 ≤ ((List.range 4).map fun k => (Ls k).idxOf (gk k)).getD k 0)) (P := fun k j => rnd j ≤ rnd k) hh T' (.led (by walk_at "mem")) g6' (.led (by walk_at "mem")) (by exact ListO.of _ _) ?_ ?_ ?_ ?_)
    · intro k hk
      rcases lt4 hk with rfl | rfl | rfl | rfl <;> exact ⟨rfl, _, rfl⟩
    · intro k j hk hj hM
      have := of_decide_eq_true hM
      rw [eo k j hj, eh k hk] at this
      exact hle k j hk hj this
    · intro a b d h1 h2
      exact Nat.le_trans h2 h1
    · intro f l ro' M' hwk hro' hM'
      with_reducible refine' Then_next (W_wk hwk ?_)
      refine W_cons (c_ringend (ro := ro') (M := M') (rk := fun k => os.map fun o => (Ls k).idxOf o) (rkv := p4 rv0 rv1 rv2 rv3) (rko := p4 (seqObj "list" rv0.toArray rn0) (seqObj "list" rv1.toArray rn1) (seqObj "list" rv2.toArray rn2) (seqObj "list" rv3.toArray rn3)) hh hA'.cline T' (.led (by walk_at "mem")) g6' (.led (by walk_at "mem")) (by exact ListO.of _ _) (fun k hk => seg_at hk) hro'
        (.led (by walk_at "mem")) g5' (.led (by walk_at "mem")) (by exact ListO.of _ _) hus hasl (.led (by walk_at "mem")) g4' (.led (by walk_at "mem")) (by exact ListO.of _ _) ?_ ?_ ?_ (fun k _ => osl k) ?_ ?_)
      · intro k hk
        rcases lt4 hk with rfl | rfl | rfl | rfl
        · show At _ _ r0 (seqObj "list" rv0.toArray rn0)
          exact At.led (by walk_at "mem")
        · show At _ _ r1 (seqObj "list" rv1.toArray rn1)
          exact At.led (by walk_at "mem")
        · show At _ _ r2 (seqObj "list" rv2.toArray rn2)
          exact At.led (by walk_at "mem")
        · show At _ _ r3 (seqObj "list" rv3.toArray rn3)
          exact At.led (by walk_at "mem")
      · intro k hk
        rcases lt4 hk with rfl | rfl | rfl | rfl <;> exact ListO.of _ _
      · intro k hk
        rcases lt4 hk with rfl | rfl | rfl | rfl
        · exact hr0
        · exact hr1
        · exact hr2
        · exact hr3
      · intro k j hk hj hlt'
        skip
        rw [eo k j hj, eh k hk] at hlt'
        have h1 := hlt k j hk hj hlt'
        cases hm : M' j k with
        | false => rfl
        | true =>
          have := hM' j k hj hk hm
          omega
      · intro f l
        exact Then_ret (hR _ _ _ ⟨_, [], .inl rfl, List.nil_sublist _, h⟩)
end
end
section
/-! _law_book -/
def httpS (cs : List Nat) : List Str := (hparts (hrun hinit cs)).map Txt.strip
def bookOf (es : TD) : List Str := (keqv es).flatMap fun e => (httpS e.2).map fun h => tx e.1 ++ h
theorem strs_append {vs us : List Value} {ys zs : List Str} (h : StrsAre vs ys) (g : StrsAre us zs) : StrsAre (vs ++ us) (ys ++ zs) := by
  induction h with
  | nil => exact g
  | cons y t _ ih => exact .cons _ _ ih
theorem hparts_len (cs : List Nat) : (hparts (hrun hinit cs)).length ≤ cs.length + 1 ∧ ∀ p ∈ hparts (hrun hinit cs), p.length ≤ cs.length := by
  with_reducible refine' exE0_3 (hinit_len cs) fun h1 h2 h3 => ?_
  unfold hparts
  split
  · exact ⟨by exact om3 h2, h3⟩
  · refine ⟨by simp; exact om17 h2, fun p hp => ?_⟩
    rcases List.mem_append.mp hp with hp | hp
    · exact h3 p hp
    · rw [List.mem_singleton.mp hp]; exact h1
theorem httpS_len (cs : List Nat) : (httpS cs).length ≤ cs.length + 1 ∧ ∀ p ∈ httpS cs, p.length ≤ cs.length := by
  with_reducible refine' exE0_2 (hparts_len cs) fun h1 h2 => ?_
  unfold httpS
  refine ⟨by simpa using h1, fun p hp => ?_⟩
  obtain ⟨q, hq, rfl⟩ := List.mem_map.mp hp
  exact Nat.le_trans (len_strip q) (h2 q hq)
section
variable {c : Cx} {A : Around} {frs : Frs} {led : Led}
theorem c_book {n : Nat} {a : Addr} {vs : List Value} {n0 : Nat} {es : TD} {Q : Value → Frs → Led → Prop} (hA : AOk (n + 2) A) (T : Tops c.base)
    (hl : At c led a (seqObj "list" vs.toArray n0)) (hs : StrsAre vs (es.map line)) (hes : ∀ e ∈ es, 61 ∉ e.1 ∧ 2 ≤ e.2.length ∧ e.1.length ≤ 1000 ∧ e.2.length ≤ 1000) (hn : es.length ≤ 100)
    (hd : ∀ e ∈ keqv es, e.1.length ≤ 1000 ∧ e.2.length ≤ 1000 ∧ e.2.all (· < 128) = true)
    (h : ∀ a vs n, StrsAre vs (bookOf es) → Q (.ref a) frs ((a, seqObj "list" vs.toArray n) :: led)) : W c A (call (.ref 139) [.ref a]) frs led Q := by
  with_reducible refine' W_fn1 (binds := [("items", .ref a)]) [("items", .ref a)] "asker" none hA T T.book ?z1 ?z2 ?z3 ?z4 ?z5 ?z6 ?z7 ?z8 ?z9 (fun _ _ => rfl) ?_
  case z1 => decide
  case z2 => decide
  case z3 => (intros; rfl)
  case z4 => (intro n x hx; rw [List.mem_singleton.mp hx]; exact .inl rfl)
  case z5 => rfl
  case z6 => rfl
  case z7 => rfl
  case z8 => rfl
  case z9 => walk_at "env1"
  intro c' L ca co hw T' hk hat hco
  with_reducible refine' W_hide fun R hR => ?_
  have hA' : AOk (n + 1) (A.deeper (envX (Str.ofString "_law_book") (fnS (stAt 31)) L 139 (.ref 138) [("asker", ca)])) := hA.deeper
  with_reducible refine' exE0_2 (hat _ _ hl) fun hb hne => ?_
  have hlk : (keqv es).length ≤ es.length := by
    have := keqv_len es []
    rw [List.length_nil, Nat.zero_add] at this
    exact this
  walk_at "start"
  walk_at "go"
  rename_i B
  with_reducible refine' c_keqv hA' T' ?z1 hs hes ?z2 fun D o ep kvs hdo hkv => ?_
  case z1 => exact (.base hb hne)
  case z2 => exact om168 hn
  have hkl := hkv.len
  with_reducible refine' W_sys (List.mem_cons_self) fun hsys => ?_
  with_reducible refine' W_gmDict PySem.F.slot_dict_items PySem.F.type_dict_items ?z1 hdo ?_
  case z1 => exact (.led (by walk_at "mem"))
  walk_at "go"
  with_reducible refine' W_dictItems hsys ?z1 hdo fun V => ?_
  case z1 => exact (.led (by walk_at "mem"))
  with_reducible refine' W_iterItems ?z1 ?z2 hdo fun I => ?_
  case z1 => exact (.led (by walk_at "mem"))
  case z2 => exact (.led (by walk_at "mem"))
  with_reducible refine' Wc_forInd (keqv es).length (fun i f l => ∃ (ok ov : Value) (co : Obj) (vv : Option Value) (us : List Value) (n2 : Nat), Wk [(L, [("items", .ref a), ("book", .ref B)])] [(I, itemIt D i kvs.length ep ok ov), (D, o), (B, seqObj "list" us.toArray n2), (ca, co)] f l ∧ co.data = .cell vv ∧
    StrsAre us (((keqv es).take i).flatMap fun e => (httpS e.2).map fun h => tx e.1 ++ h) ∧ us.length ≤ i * 1002) ?h0 ?_ ?_
  case h0 =>
    refine' exI6 _ _ _ _ _ _ ⟨?w, hco, .nil, by simp⟩
    case w => walk_at "wk"
  · intro i hi f l hI
    first | with_reducible refine' W_hideT fun J K hJ hK => ?_ | with_reducible refine' W_hideC fun J K hJ hK => ?_ | with_reducible refine' W_hideO fun J K hJ hK => ?_
    with_reducible refine' exE6_4 hI fun ok ov co vv us n2 hwk hco hus hul => ?_
    clear hI
    with_reducible refine' W_wk hwk ?_
    with_reducible refine' exX1 (hkv.get (List.getElem?_eq_getElem hi)) fun tv hx => ?_
    with_reducible refine' exE0_3 (hd _ (List.getElem_mem hi)) fun hd1 hd2 hd3 => ?_
    have hnext : ((keqv es).take (i + 1)).flatMap (fun e => (httpS e.2).map fun h => tx e.1 ++ h) = ((keqv es).take i).flatMap (fun e => (httpS e.2).map fun h => tx e.1 ++ h) ++ (httpS (keqv es)[i].2).map fun h => tx (keqv es)[i].1 ++ h := by
      rw [List.take_succ_eq_append_getElem hi, List.flatMap_append]
      simp
    generalize (keqv es)[i] = e at *
    obtain ⟨k, v⟩ := e
    dsimp only at *
    with_reducible refine' W_nextItems ?z1 ?z2 hdo hx fun T1 key hkey => ?_
    case z1 => intro o'; walk_at "up"
    case z2 => exact (.led (by walk_at "mem"))
    refine exX1 (Value.isStrOf_shape hkey) fun tk hrf1 => ?_; subst hrf1
    with_reducible refine' TurnIn_some ?_
    with_reducible refine' W_letGoItems ?z1 ?_
    case z1 => intro o'; walk_at "up"
    walk_at "go"
    rename_i co2 hco2
    have hasc : (tx v).cps.all (· < 128) = true := by
      show (v.toArray.all _) = true
      simpa using hd3
    with_reducible refine' c_http hA' T' hasc ?z1 fun H hvs nh hh => ?_
    case z1 => (rw [tx_len]; exact om169 hd2)
    rw [tx_toList] at hh
    change StrsAre hvs (httpS v) at hh
    with_reducible refine' exE0_2 (httpS_len v) fun hl1 hl2 => ?_
    have hhl := hh.length
    walk_at "go"
    intro D2 C
    rename_i I2
    with_reducible refine' Wc_compStart ?_ ?z1
    case z1 => exact (W_selfList (by walk_at "mem") ⟨rfl, rfl⟩)
    with_reducible refine' Wc_compInd ?z1 (httpS v).length (fun j f l => ∃ (oj : Obj) (us2 : List Value) (n3 : Nat), Wk [(C, []), (L, [("items", .ref a), ("book", .ref B)])] [(D2, seqObj "list" us2.toArray n3), (I2, oj), (H, seqObj "list" hvs.toArray nh), (I, itemIt D (i + 1) kvs.length ep (.str (tx k) tk) (.str (tx v) tv)), (D, o), (B, seqObj "list" us.toArray n2), (ca, co2)] f l ∧ SeqIt "list_iterator" H j oj ∧
      StrsAre us2 (((httpS v).map fun h => tx k ++ h).take j)) ?h0 ?_ ?_
    case z1 => decide
    case h0 =>
      refine' exI3 (seqItObj "list_iterator" H 0) [] 0 ⟨?w, ⟨rfl, rfl⟩, .nil⟩
      case w => walk_at "wk"
    · intro j hj f l hI
      first | with_reducible refine' W_hideT fun J K hJ hK => ?_ | with_reducible refine' W_hideC fun J K hJ hK => ?_ | with_reducible refine' W_hideO fun J K hJ hK => ?_
      with_reducible refine' exE3_3 hI fun oj us2 n3 hwk hoj hus2 => ?_
      clear hI
      with_reducible refine' W_wk hwk ?_
      with_reducible refine' exX1 (hh.at (List.getElem?_eq_getElem hj)) fun tq hxq => ?_
      have hle := hl2 _ (List.getElem_mem hj)
      have hwl : us2.length ≤ sizeLine := by have := hus2.length; rw [List.length_take] at this; rw [sizeLine_eq]; simp at this; exact om170 hd2 hl1 this
      with_reducible refine' W_nextList (v := .str (httpS v)[j] tq) ?z1 hoj ?z2 ?z3 fun o' ho' => ?_
      case z1 => intro o'; walk_at "up"
      case z2 => walk_at "at"
      case z3 => simpa using hxq
      walk_at "go"
      with_reducible refine' W_cat ?z1 fun _ => ?_
      case z1 => (rw [tx_len, sizeLine_eq]; exact om171 hd1 hd2 hle)
      walk_at "go"
      refine' hJ _ _ (exI3 o' _ _ ⟨?w, ho', ?d⟩)
      case w => walk_at "wk"
      case d =>
        rw [List.take_succ_eq_append_getElem (by simpa using hj), List.getElem_map]
        exact strs_push hus2 _ _
    · intro f l hI
      with_reducible refine' exE3_3 hI fun oj us2 n3 hwk hoj hus2 => ?_
      clear hI
      with_reducible refine' W_wk hwk ?_
      with_reducible refine' W_endList hA'.handled ?z1 ?z2 hoj ?z3 ?z4 ⟨rfl, ?_⟩
      case z1 => walk_at "rm"
      case z2 => walk_at "mem"
      case z3 => walk_at "at"
      case z4 => (simp; exact om6 hhl)
      rw [List.take_of_length_le (by simp)] at hus2
      have hul2 := hus2.length
      rw [List.length_map] at hul2
      walk_at "go"
      with_reducible refine' W_extend ?z1 ?z2 ?z3 fun m => ?_
      case z1 => (intro o'; walk_at "up")
      case z2 => walk_at "at"
      case z3 => (rw [sizeLine_eq]; exact om172 hn hlk hi hul hd2 hl1 hul2)
      walk_at "go"
      refine' hJ _ _ (exI6 _ _ _ _ _ _ ⟨?w, hco2, ?d, ?e⟩)
      case w => walk_at "wk"
      case d =>
        rw [hnext]
        exact strs_append hus hus2
      case e => rw [List.length_append]; exact om173 hul hd2 hl1 hul2
  · intro f l hI
    with_reducible refine' exE6_4 hI fun ok ov co vv us n2 hwk hco hus hul => ?_
    clear hI
    with_reducible refine' W_wk hwk ?_
    with_reducible refine' W_endItems hA'.handled ?z1 ?z2 ?z3 hdo ?z4 ⟨rfl, ?_⟩
    case z1 => walk_at "rm"
    case z2 => walk_at "mem"
    case z3 => walk_at "at"
    case z4 => (rw [List.getElem?_eq_none_iff]; exact om6 hkl)
    walk_at "go"
    rw [List.take_length] at hus
    exact hR _ _ _ ⟨_, [(B, _)], .inl rfl, by walk_at "sl", h _ _ _ hus⟩
end
end
section
/-! _law_letter -/
def commaL (b : Bool) : List Nat := if b = true then [92, 44, 32] else [44, 32]
def toldQ (q : List Nat) : List (List Nat) := (q.map fun o => 61 :: figL o).set 3 ([61] ++ [92, 34] ++ figL (q.getD 3 0) ++ [92, 34])
def itemL (os tl : List Nat) (m : Nat → Bool) (k : Nat) : List Nat := figL (os.getD k 0) ++ [61, 34] ++ List.intercalate (commaL (m k)) (toldQ ((tl.drop (4 * k)).take 4)) ++ [34]
def letterL (os tl : List Nat) (m : Nat → Bool) : List Nat := List.intercalate [44, 32] ([0, 1, 2, 3, 0].map (itemL os tl m)) ++ [44]
theorem pick4 (l : List Nat) (h : l.length = 16) (k : Nat) (hk : k < 4) : KBy.whole (bys l) (some (4 * (k : Int))) (some (4 * (k : Int) + 4)) = false ∧ KBy.picked (bys l) (some (4 * (k : Int))) (some (4 * (k : Int) + 4)) = bys ((l.drop (4 * k)).take 4) := by
  refine list16 (G := fun l => KBy.whole (bys l) (some (4 * (k : Int))) (some (4 * (k : Int) + 4)) = false ∧ KBy.picked (bys l) (some (4 * (k : Int))) (some (4 * (k : Int) + 4)) = bys ((l.drop (4 * k)).take 4)) h fun a0 a1 a2 a3 a4 a5 a6 a7 a8 a9 a10 a11 a12 a13 a14 a15 => ?_
  match k, hk with
  | 0, _ => exact ⟨by kernel_rfl, by kernel_rfl⟩
  | 1, _ => exact ⟨by kernel_rfl, by kernel_rfl⟩
  | 2, _ => exact ⟨by kernel_rfl, by kernel_rfl⟩
  | 3, _ => exact ⟨by kernel_rfl, by kernel_rfl⟩
theorem toldQ_len (cm : List Nat) (hc : cm.length ≤ 3) : ∀ ql : List Nat, ql.length = 4 → (List.intercalate cm (toldQ ql)).length ≤ 100
  | [a, b, c, d], _ => by
    simp [toldQ, List.intercalate, figL]
    exact om174 hc
theorem toldQ_mem : ∀ ql : List Nat, ql.length = 4 → ∀ y ∈ toldQ ql, y.length ≤ 100
  | [a, b, c, d], _ => by
    intro y hy
    simp [toldQ] at hy
    rcases hy with rfl | rfl | rfl | rfl <;> simp [figL]
theorem figL_len (o : Nat) : (figL o).length = 2 := rfl
section
variable {c : Cx} {A : Around} {frs : Frs} {led : Led}
theorem c_letter {n : Nat} {a : Addr} {o : Obj} {vs : List Value} {os tl : List Nat} {num : Nat} {t tb : Tok} {Q : Value → Frs → Led → Prop} (hA : AOk (n + 2) A) (T : Tops c.base)
    (hl : At c led a o) (ho : ListO vs.toArray o) (hi : NA vs os) (hn : os.length = 4) (hr : ∀ x ∈ os, x < 256) (htl : tl.length = 16) (htr : ∀ x ∈ tl, x < 256)
    (h : ∀ t, Q (.str (tx (letterL os tl fun k => Builtin.bitAnd ((num : Int).fdiv (2 ^ k)) 1 == 1)) t) frs led) : W c A (call (.ref 129) [.ref a, .bytes (bys tl) tb, .int num t]) frs led Q := by
  with_reducible refine' W_fn (m := [("octets", .ref a), ("turned", .bytes (bys tl) tb), ("number", .int num t)]) hA T T.letter ?z1 ?z2 ?z3 ?z4 ?z5 ?z6 ?z7 ?z8 ?z9 ?_
  case z1 => decide
  case z2 => decide
  case z3 => (intros; rfl)
  case z4 => walk_at "loc"
  case z5 => rfl
  case z6 => rfl
  case z7 => rfl
  case z8 => rfl
  case z9 => walk_at "env1"
  intro c' L hw T' hk hat
  with_reducible refine' W_hide fun R hR => ?_
  have hA' : AOk (n + 1) (A.deeper (envX (Str.ofString "_law_letter") (fnS (stAt 29)) L 129 (.ref 128) [])) := hA.deeper
  with_reducible refine' exE0_2 (hat _ _ hl) fun hb hne => ?_
  generalize hm : (fun k => Builtin.bitAnd ((num : Int).fdiv (2 ^ k)) 1 == 1) = m at h
  walk_at "start"
  walk_at "go"
  rename_i IT t0 t1 t2 t3 t4 R I
  with_reducible refine' Wc_forInd 5 (fun i f l => ∃ (oi : Obj) (us : List Value) (n2 : Nat), Wk [(L, [("octets", .ref a), ("turned", .bytes (bys tl) tb), ("number", .int num t), ("items", .ref IT)])] [(I, oi), (R, seqObj "tuple" [.int 0 t0, .int 1 t1, .int 2 t2, .int 3 t3, .int 0 t4].toArray 0), (IT, seqObj "list" us.toArray n2)] f l ∧ SeqIt "tuple_iterator" R i oi ∧
    StrsAre us ((([0, 1, 2, 3, 0].map (itemL os tl m)).take i).map tx)) ?h0 ?_ ?_
  case h0 =>
    refine' exI3 (seqItObj "tuple_iterator" R 0) [] 0 ⟨?w, ⟨rfl, rfl⟩, .nil⟩
    case w => walk_at "wk"
  · intro i hi' f l hI
    first | with_reducible refine' W_hideT fun J K hJ hK => ?_ | with_reducible refine' W_hideC fun J K hJ hK => ?_ | with_reducible refine' W_hideO fun J K hJ hK => ?_
    with_reducible refine' exE3_3 hI fun oi us n2 hwk hoi hus => ?_
    clear hI
    with_reducible refine' W_wk hwk ?_
    have hsz : ∃ (k : Nat) (tk : Tok), k < 4 ∧ ([.int 0 t0, .int 1 t1, .int 2 t2, .int 3 t3, .int 0 t4] : List Value)[i]? = some (.int (k : Int) tk) ∧ (([0, 1, 2, 3, 0].map (itemL os tl m)).take (i + 1)).map tx = (([0, 1, 2, 3, 0].map (itemL os tl m)).take i).map tx ++ [tx (itemL os tl m k)] := by
      have : i = 0 ∨ i = 1 ∨ i = 2 ∨ i = 3 ∨ i = 4 := by exact om26 hi'
      rcases this with rfl | rfl | rfl | rfl | rfl
      · exact ⟨0, t0, by decide, rfl, rfl⟩
      · exact ⟨1, t1, by decide, rfl, rfl⟩
      · exact ⟨2, t2, by decide, rfl, rfl⟩
      · exact ⟨3, t3, by decide, rfl, rfl⟩
      · exact ⟨0, t4, by decide, rfl, rfl⟩
    with_reducible refine' exE2_3 hsz fun k tk hk4 hat5 hnext => ?_
    have hul : us.length ≤ sizeLine := by have := hus.length; rw [List.length_map, List.length_take] at this; rw [sizeLine_eq]; exact om175 hi' this
    with_reducible refine' W_nextTuple ?z1 hoi ?z2 ?z3 fun o' ho' => ?_
    case z1 => intro o'; walk_at "up"
    case z2 => walk_at "at"
    case z3 => simpa using hat5
    with_reducible refine' TurnIn_some ?_
    iterate 8 (walk_at "m")
    with_reducible refine' W_consMid (fun f l => ∃ (tc : Tok), Wk [(L, [("octets", .ref a), ("turned", .bytes (bys tl) tb), ("number", .int num t), ("items", .ref IT), ("k", .int k tk), ("comma", .str (tx (commaL (m k))) tc)])] [(I, o'), (R, seqObj "tuple" [.int 0 t0, .int 1 t1, .int 2 t2, .int 3 t3, .int 0 t4].toArray 0), (IT, seqObj "list" us.toArray n2)] f l) ?_ ?_
    · walk_at "go"
      with_reducible refine' W_rshift ?z1 fun _ => ?_
      case z1 => exact om0
      walk_at "go"
      with_reducible refine' W_bitand fun _ => ?_
      walk_at "go"
      have hmk : m k = (Builtin.bitAnd ((num : Int).fdiv (2 ^ ((k : Int)).toNat)) 1 == 1) := by rw [← hm]; rfl
      rw [← hmk]
      with_reducible refine' if_b (fun hc => ?_) fun hc => ?_
      · walk_at "go"
        refine' exI1 _ ?w
        case w =>
          rw [hc, show tx (commaL true) = Str.ofString "\\, " from rfl]
          walk_at "wk"
      · walk_at "go"
        refine' exI1 _ ?w
        case w =>
          rw [hc, show tx (commaL false) = Str.ofString ", " from rfl]
          walk_at "wk"
    · intro f l hI
      with_reducible refine' exE1_1 hI fun tc hwk => ?_
      clear hI
      with_reducible refine' W_wk hwk ?_
      walk_at "go"
      with_reducible refine' W_mul ?z1 fun _ => ?_
      case z1 => exact (IntMulOk.of_left (by decide))
      walk_at "go"
      with_reducible refine' W_mul ?z1 fun _ => ?_
      case z1 => exact (IntMulOk.of_left (by decide))
      walk_at "go"
      intro a3
      with_reducible refine' exE0_2 (pick4 tl htl k hk4) fun hpk1 hpk2 => ?_
      generalize hql : (tl.drop (4 * k)).take 4 = ql at hpk2
      have hqlen : ql.length = 4 := by rw [← hql, List.length_take, List.length_drop]; exact om46 htl hk4
      have hqr : ∀ x ∈ ql, x < 256 := fun x hx => htr x (by rw [← hql] at hx; exact List.mem_of_mem_drop (List.mem_of_mem_take hx))
      with_reducible refine' W_sliceBytes ?z1 hpk1 hpk2 ?z2 ?z3 ?z4 fun tsl => ?_
      case z1 => walk_at "at"
      case z2 => exact om176 hqlen
      case z3 => rfl
      case z4 => (intros; rfl)
      walk_at "go"
      with_reducible refine' W_iterBytes fun IB ob hob => ?_
      intro D C
      with_reducible refine' Wc_compStart ?_ ?z1
      case z1 => exact (W_selfBytes (by walk_at "mem") hob)
      with_reducible refine' Wc_compInd ?z1 4 (fun j f l => ∃ (oj : Obj) (us3 : List Value) (n3 : Nat), Wk [(C, []), (L, [("octets", .ref a), ("turned", .bytes (bys tl) tb), ("number", .int num t), ("items", .ref IT), ("k", .int k tk), ("comma", .str (tx (commaL (m k))) tc)])]
        [(D, seqObj "list" us3.toArray n3), (IB, oj), (I, o'), (R, seqObj "tuple" [.int 0 t0, .int 1 t1, .int 2 t2, .int 3 t3, .int 0 t4].toArray 0), (IT, seqObj "list" us.toArray n2)] f l ∧ ByIt (bys ql) tsl j oj ∧
        StrsAre us3 ((ql.map fun o => tx (61 :: figL o)).take j)) ?h0 ?_ ?_
      case z1 => decide
      case h0 =>
        refine' exI3 ob [] 0 ⟨?w, hob, .nil⟩
        case w => walk_at "wk"
      · intro j hj f l hI
        first | with_reducible refine' W_hideT fun J K hJ hK => ?_ | with_reducible refine' W_hideC fun J K hJ hK => ?_ | with_reducible refine' W_hideO fun J K hJ hK => ?_
        with_reducible refine' exE3_3 hI fun oj us3 n3 hwk hoj hus3 => ?_
        clear hI
        with_reducible refine' W_wk hwk ?_
        have hjl : j < ql.length := by exact om2 hqlen hj
        have hq256 := hqr _ (List.getElem_mem hjl)
        have hwl : us3.length ≤ sizeLine := by have := hus3.length; rw [List.length_take] at this; rw [sizeLine_eq]; exact om177 hj this
        with_reducible refine' W_nextBytes ?z1 hoj (List.getElem?_eq_getElem hjl) hq256 fun o2 tq ho2 => ?_
        case z1 => intro o'; walk_at "up"
        walk_at "go"
        with_reducible refine' W_chr hq256 fun _ => ?_
        walk_at "go"
        with_reducible refine' c_quote hA' T' hq256 fun _ => ?_
        walk_at "go"
        refine' hJ _ _ (exI3 o2 _ _ ⟨?w, ho2, ?d⟩)
        case w => walk_at "wk"
        case d =>
          rw [List.take_succ_eq_append_getElem (by simpa using hjl), List.getElem_map]
          exact strs_push hus3 _ _
      · intro f l hI
        with_reducible refine' exE3_3 hI fun oj us3 n3 hwk hoj hus3 => ?_
        clear hI
        with_reducible refine' W_wk hwk ?_
        with_reducible refine' W_endBytes hA'.handled ?z1 ?z2 hoj ?z3 ⟨rfl, ?_⟩
        case z1 => walk_at "rm"
        case z2 => walk_at "mem"
        case z3 => exact om16 hqlen
        rw [List.take_of_length_le (by simp; exact om16 hqlen)] at hus3
        walk_at "go"
        refine exX1 (hus3.at (j := 3) (y := tx (61 :: figL (ql.getD 3 0))) (by rw [List.getElem?_map, List.getElem?_eq_getElem (by exact om47 hqlen), List.getD_eq_getElem?_getD, List.getElem?_eq_getElem (by exact om47 hqlen)]; rfl)) fun tq3 hq3 => ?_
        with_reducible refine' W_itemList ?z1 ?z2 ?z3 ?z4 ?z5 ?z6 ?_
        case z1 => walk_at "at"
        case z2 => decide
        case z3 => decide
        case z4 => (rw [List.getElem?_toArray]; exact hq3)
        case z5 => rfl
        case z6 => (intros; rfl)
        walk_at "go"
        with_reducible refine' W_itemStr ?z1 ?z2 ?z3 ?z4 ?z5 fun _ => ?_
        case z1 => (rw [tx_len]; simp <;> exact om178)
        case z2 => (rw [tx_len]; simp <;> omega)
        case z3 => (rw [tx_len, sizeLine_eq]; simp [figL])
        case z4 => rfl
        case z5 => (intros; rfl)
        walk_at "go"
        with_reducible refine' W_catT [61] [92, 34] ?z1 ?z2 ?z3 fun _ => ?_
        case z1 => exact (item_tx (61 :: figL (ql.getD 3 0)) 0 (by simp))
        case z2 => rfl
        case z3 => simp
        walk_at "go"
        with_reducible refine' W_itemList ?z1 ?z2 ?z3 ?z4 ?z5 ?z6 ?_
        case z1 => walk_at "at"
        case z2 => decide
        case z3 => decide
        case z4 => (rw [List.getElem?_toArray]; exact hq3)
        case z5 => rfl
        case z6 => (intros; rfl)
        walk_at "go"
        intro a4
        with_reducible refine' W_slice_sn (i := 1) ?z1 ?z2 ?z3 ?z4 ?z5 fun _ => ?_
        case z1 => walk_at "at"
        case z2 => (rw [tx_len, sizeLine_eq]; simp [figL])
        case z3 => exact (slice_from (61 :: figL (ql.getD 3 0)) 1 (by simp))
        case z4 => rfl
        case z5 => (intros; rfl)
        with_reducible refine' W_catT ([61] ++ [92, 34]) (figL (ql.getD 3 0)) ?z1 ?z2 ?z3 fun _ => ?_
        case z1 => rfl
        case z2 => rfl
        case z3 => simp [figL]
        walk_at "go"
        with_reducible refine' W_catT _ [92, 34] ?z1 ?z2 ?z3 fun _ => ?_
        case z1 => rfl
        case z2 => rfl
        case z3 => simp [figL]
        walk_at "go"
        with_reducible refine' W_setListO ?z1 (ListO.of _ _) ?z2 ?z3 ?z4 fun oT hoT => ?_
        case z1 => (intro o'; walk_at "up")
        case z2 => decide
        case z3 => decide
        case z4 => (have := hus3.length; simp at this; simp; exact om179 hqlen this)
        rw [show ((3 : Int)).toNat = 3 from rfl, List.setIfInBounds_toArray] at hoT
        have hset := strs_set hus3 3 (tx ([61] ++ [92, 34] ++ figL (ql.getD 3 0) ++ [92, 34]))
        rw [show (ql.map fun o => tx (61 :: figL o)) = (ql.map fun o => 61 :: figL o).map tx by rw [List.map_map]; rfl, ← List.map_set] at hset
        walk_at "go"
        have hkl : k < os.length := by exact om2 hn hk4
        with_reducible refine' exX1 (hi.at (List.getElem?_eq_getElem hkl)) fun tok hok => ?_
        have ho256 : os[k] < 256 := hr _ (List.getElem_mem hkl)
        with_reducible refine' W_itemListO ?z1 ho ?z2 ?z3 ?z4 ?z5 ?z6 ?_
        case z1 => exact (.base hb hne)
        case z2 => exact om0
        case z3 => exact om1 hk4
        case z4 => simpa using hok
        case z5 => rfl
        case z6 => (intros; rfl)
        walk_at "go"
        with_reducible refine' W_chr ho256 fun _ => ?_
        walk_at "go"
        with_reducible refine' c_quote hA' T' ho256 fun _ => ?_
        walk_at "go"
        intro a5
        with_reducible refine' W_slice_sn (i := 1) ?z1 ?z2 ?z3 ?z4 ?z5 fun _ => ?_
        case z1 => walk_at "at"
        case z2 => (rw [qtext_figL, tx_len, sizeLine_eq]; simp [figL])
        case z3 => exact (slice_from (61 :: figL os[k]) 1 (by simp))
        case z4 => rfl
        case z5 => (intros; rfl)
        walk_at "go"
        with_reducible refine' W_catT (figL os[k]) [61, 34] ?z1 ?z2 ?z3 fun _ => ?_
        case z1 => rfl
        case z2 => rfl
        case z3 => simp [figL]
        walk_at "go"
        with_reducible refine' W_joinO ?z1 hoT (hset _) (joinOk_small ?_ ?_ ?_) fun _ => ?_
        case z1 => walk_at "at"
        · rw [tx_len]; unfold commaL; split <;> simp
        · simp; exact om180 hqlen
        · intro y hy
          obtain ⟨z, hz, rfl⟩ := List.mem_map.mp hy
          rw [tx_len]
          exact Nat.le_trans (toldQ_mem ql hqlen z hz) (by decide)
        rw [join_tx]
        have hcl : (commaL (m k)).length ≤ 3 := by unfold commaL; split <;> simp
        have hil := toldQ_len _ hcl ql hqlen
        unfold toldQ at hil
        with_reducible refine' W_catT (figL os[k] ++ [61, 34]) _ ?z1 ?z2 ?z3 fun _ => ?_
        case z1 => rfl
        case z2 => rfl
        case z3 => (rw [List.length_append, figL_len]; simp only [List.length_cons, List.length_nil]; exact om181 hil)
        walk_at "go"
        with_reducible refine' W_catT _ [34] ?z1 ?z2 ?z3 fun _ => ?_
        case z1 => rfl
        case z2 => rfl
        case z3 => (rw [List.length_append, List.length_append, figL_len]; simp only [List.length_cons, List.length_nil]; exact om182 hil)
        walk_at "go"
        refine' hJ _ _ (exI3 o' _ _ ⟨?w, ho', ?d⟩)
        case w => walk_at "wk"
        case d =>
          rw [hnext]
          have e : itemL os tl m k = figL os[k] ++ [61, 34] ++ List.intercalate (commaL (m k)) ((ql.map fun o => 61 :: figL o).set 3 ([61] ++ [92, 34] ++ figL (ql.getD 3 0) ++ [92, 34])) ++ [34] := by
            unfold itemL toldQ
            rw [hql, List.getD_eq_getElem?_getD, List.getElem?_eq_getElem hkl, Option.getD_some]
          rw [e]
          exact strs_push hus _ _
  · intro f l hI
    with_reducible refine' exE3_3 hI fun oi us n2 hwk hoi hus => ?_
    clear hI
    with_reducible refine' W_wk hwk ?_
    with_reducible refine' W_endTuple hA'.handled ?z1 ?z2 hoi ?z3 ?z4 ⟨rfl, ?_⟩
    case z1 => walk_at "rm"
    case z2 => walk_at "mem"
    case z3 => walk_at "at"
    case z4 => rfl
    rw [List.take_of_length_le (by simp)] at hus
    have hit : ∀ k < 4, (itemL os tl m k).length ≤ 1000 := fun k hk => by
      have hcl : (commaL (m k)).length ≤ 3 := by unfold commaL; split <;> simp
      have hil := toldQ_len _ hcl ((tl.drop (4 * k)).take 4) (by rw [List.length_take, List.length_drop]; exact om46 htl hk)
      unfold itemL
      simp only [List.length_append, List.length_cons, List.length_nil, figL_len]
      exact om183 hil
    have hall : ∀ y ∈ ([0, 1, 2, 3, 0].map (itemL os tl m)).map tx, y.length ≤ 1000 := by
      intro y hy
      obtain ⟨z, hz, rfl⟩ := List.mem_map.mp hy
      obtain ⟨k, hk, rfl⟩ := List.mem_map.mp hz
      rw [tx_len]
      refine hit k ?_
      simp at hk
      exact om48 hk
    walk_at "go"
    with_reducible refine' W_join ?z1 hus ?z2 fun _ => ?_
    case z1 => walk_at "at"
    case z2 => exact (joinOk_small (by decide) (by simp) hall)
    rw [show (Str.ofString ", ") = tx [44, 32] from rfl, join_tx]
    walk_at "go"
    have hfin : (List.intercalate [44, 32] ([0, 1, 2, 3, 0].map (itemL os tl m))).length ≤ 10000 := by
      have h0 := hit 0 (by decide)
      have h1 := hit 1 (by decide)
      have h2 := hit 2 (by decide)
      have h3 := hit 3 (by decide)
      simp [List.intercalate]
      exact om184 h0 h1 h2 h3
    with_reducible refine' W_catT _ [44] ?z1 ?z2 ?z3 fun _ => ?_
    case z1 => rfl
    case z2 => rfl
    case z3 => (simp only [List.length_cons, List.length_nil]; exact om185 hfin)
    walk_at "go"
    exact hR _ _ _ ⟨_, [], .inl rfl, List.nil_sublist _, h _⟩
end
end
section
/-! an object of _SelectorContext; list + list; is None; a def within a def -/
section
variable {α β : Type} {c : Cx} {w : World} {A : Around} {frs : Frs} {led : Led} {env : Env}
theorem Sx.popFr {s : Shared} {L : Addr} {m : Loc} (S : Sx c ((L, m) :: frs) led s) (hne : frs ≠ []) : Sx c frs led s where
  keep := S.keep
  fr := fun f hf => S.fr f (.tail _ hf)
  ld := S.ld
  nd := (List.nodup_cons.mp S.nd).2
  new := fun a ha => S.new a (.tail _ ha)
  tab := S.tab
  tb := let ⟨k, T⟩ := S.tb; ⟨k, T.tab, fun x e h => T.own x e (.tail _ h), T.code, T.src, T.pin⟩
  gens := S.gens
  dr := S.dr
  os := S.os
  ne := hne
/-- a def of the text without cells, its frame laid on ours -/
theorem code_fnIn {n : Nat} {f k : Addr} {qual params body scope} {vals : List Value} {m : Loc} {R : Result → Shared → Prop} {s : Shared} (hA : AOk (n + 1) A) (T : TopN c.base) (F : FnAt c.base f k qual params body scope) (hf : f ≠ tabP) (hk : k ≠ tabP)
    (hb : ∀ name doc pm an ct, bindArgs (fnX name qual params body scope [] .none .none doc pm an (.ref k) ct) ⟨vals, []⟩ = pure m)
    (hkind : ∀ x ∈ m, scope.names.lookup x.1 = some .local)
    (hco : scope.isCoroutine = false) (hgen : scope.isGenerator = false) (hsk : scope.kind = .function) (hcl : ∀ n, cellsFrom n scope.names [] = [])
    (hm : ∀ L cs, ∀ p ∈ m, bindL (envX qual scope L f (.ref k) cs).kindOf m (fun _ => none) p.1 = some p.2)
    (S : Sx c frs led s)
    (h : ∀ L s₁, Sx c ((L, m) :: frs) led s₁ → wpAny (model pw c.w) (A.deeper (envX qual scope L f (.ref k) [])) (execs body (envX qual scope L f (.ref k) [])) (fun fl s' => R (.ok (.ret (match fl with | .ret v => v | _ => .none))) s') (fun _ _ => False) s₁) :
    codeAny (model pw c.w) A (.call (.ref f) ⟨vals, []⟩) R s := by
  obtain ⟨o, name, doc, pm, an, ct, oc, vs, t, e1, d, e2, d2, e3⟩ := F
  have T' := T.kp S.keep
  refine codeAny_call_cells hA.room (S.keep _ _ hf e1) d T'.nolimit ⟨k, oc, vs, t, rfl, S.keep _ _ hk e2, d2, e3⟩ rfl (hb name doc pm an ct) rfl (fun x hx => .inl (hkind x hx)) (fun s₁ x => ?_) hco hgen hsk
  have hcs : callEnvC (fnX name qual params body scope [] .none .none doc pm an (.ref k) ct) s.heap.objs.size f = envX qual scope s.heap.objs.size f (.ref k) [] := by
    unfold callEnvC
    rw [show cellsFrom (s.heap.objs.size + 1) (fnX name qual params body scope [] .none .none doc pm an (.ref k) ct).scope.names [] = [] from hcl _]
    rfl
  rw [hcs] at x ⊢
  with_reducible refine' exE2_2 x.done fun h₁ tk e hk1 => ?_
  have hns := x.toInCall.ns
  subst e
  refine wpAny_mono (h s.heap.objs.size _ ((S.grow (Ka.of hk1)).addFr ⟨_, hns, hm _ _⟩ (S.fresh (Nat.le_refl _)) S.sz fun k e q => ?_)) (fun _ _ z => z) fun _ _ z => z.elim
  have := S.tabOld (S.tabGet (Ka.of hk1) e)
  rw [← q] at this
  exact Nat.lt_irrefl _ this
theorem W_isNone {a : Addr} {Q : Value → Frs → Led → Prop} (h : Q (.bool false) frs led) : W c A (compareOp .Is (.ref a) .none) frs led Q := fun s S => is_ref_none ⟨_, _, S, h⟩
theorem W_addLists {a b : Addr} {oa ob : Obj} {vs ws : List Value} {Q : Value → Frs → Led → Prop} (ha : At c led a oa) (hoa : ListO vs.toArray oa) (hb : At c led b ob) (hob : ListO ws.toArray ob) (hz : vs.length + ws.length ≤ sizeLine)
    (h : ∀ D, Q (.ref D) frs ((D, seqObj "list" (vs ++ ws).toArray 0) :: led)) : W c A (binaryOp .Add (.ref a) (.ref b)) frs led Q := fun s S => by
  obtain ⟨⟨cls, dd, data, sl⟩, ho, hc, n, hd⟩ := hoa.is S ha
  obtain ⟨⟨cls2, dd2, data2, sl2⟩, ho2, hc2, n2, hd2⟩ := hob.is S hb
  simp only at hc hd hc2 hd2
  subst hc hd hc2 hd2
  have e : vs.toArray ++ ws.toArray = (vs ++ ws).toArray := by simp
  refine concat_meets ⟨_, ho, rfl⟩ ⟨_, ho2, rfl⟩ noFill_list_add seq_list_add PySem.F.slot_list_add PySem.F.entry_list_add (PySem.F.args_list_add_2 _ _) (list_addW a b vs.toArray ws.toArray n n2 dd dd2 sl sl2 (by simpa using hz)) ⟨ho, ho2, ?_⟩
  rw [e]
  exact ⟨_, _, S.push (tk := s.toks) (Ka.of fun b o e => Heap.get?_push_of_some _ e) (Heap.get?_push_size _ rfl) (Nat.le_refl _), h _⟩
/-! the object -/
def putN (P : Params) (name : Str) (t : Tok) (v : Value) (o : Obj) : Obj := Obj.putName name (PyData.keyHash P name) (.str name t) v o
theorem instAt {s : Shared} {x dx : Addr} {od : Obj} (S : Sx c frs led s) (hx : At c led x (instObj 99 dx)) (hd : At c led dx od) : InstAt s.heap x (instObj 99 dx) 99 (some od) :=
  ⟨S.at hx, rfl, rfl, S.at hd⟩
theorem code_setAttr {x dx : Addr} {od : Obj} {name : Str} {v : Value} {tk : Tok} {R : Result → Shared → Prop} {s : Shared} (T : Tops s.heap) (I : InstAt s.heap x (instObj 99 dx) 99 (some od)) (hn : name = "root" ∨ name = "parent_map")
    (hl : (lookIn name od).isSome = true) (he : ∀ t, ∃ es n, (putN w.params name t v od).data = .dict es n ∧ es.size ≤ 1000)
    (h : ∀ h', h'.get? dx = some (putN w.params name s.toks v od) → Heap.SameBut dx s.heap h' → R (.ok (.ret .none)) { s with heap := h', toks := s.toks + 1 }) :
    codeAny (model pw w) A (.call (.builtin "object.__setattr__") ⟨[.ref x, .str name tk, v], []⟩) R s := by
  with_reducible refine' exE1_2 T.cls fun K X C => ?_
  refine osa_open (r := none) X I C.over (by rcases hn with rfl | rfl; exact C.t1; exact C.t2) fun b => ?_
  with_reducible refine' exE1_2 (any_some C.hasd) fun cd hc hd' => ?_
  have D := I.dict
  dsimp only at D
  with_reducible refine' exE2_2 (he s.toks) fun es n e' hz => ?_
  have hD' : (s.heap.update dx (Obj.putName name (PyData.keyHash w.params name) (.str name s.toks) v)).get? dx = some (putN w.params name s.toks v od) := Heap.get?_update_self _ D (by show (putN w.params name s.toks v od).isFreed = false; generalize putN w.params name s.toks v od = o at e'; obtain ⟨_, _, dd, _⟩ := o; cases e'; rfl)
  refine wpAny_bind (wpAny_pure (wpAny_bind (wpAny_bind (wpAny_loadPart I.at_ (wpAny_bind ((looks_clsIn X hc).here ?_))))))
  rw [hd']
  refine wpAny_pure (a := some dx) (wpAny_bind (wpAny_pure (wpAny_bind ?_)))
  unfold nsSet
  refine wpAny_bind (wpAny_bind (wpAny_askSetting (wpAny_pure (wpAny_bind (wpAny_mkText (wpAny_bind (wpAny_loadPart D ?_)))))))
  unfold lookIn at hl
  split at hl
  · rename_i es₀ n₀ q
    rw [q]
    dsimp only
    have c0 : (!es₀.any (·.key.isStr name) && es₀.any (·.refKey)) = false := by
      rw [← Array.any_toList, ← Array.any_toList]
      split at hl
      · rename_i en he
        rw [List.any_eq_true.mpr ⟨en, List.mem_of_find?_eq_some he, List.find?_some he⟩]; rfl
      · split at hl
        · cases hl
        · rename_i z; rw [Bool.not_eq_true] at z; rw [z, Bool.and_false]
    rw [aRefKeyMayBeTheName_at, c0]
    refine wpAny_updatePart D ?_
    refine wpAny_bind (wpAny_lookBehind hD' (by rw [e']; exact pastItsLine_dict (by rw [sizeLine_eq]; exact om200 hz)) ?_)
    exact wpAny_pure (h _ hD' (Heap.SameBut.update ..))
  · cases hl
theorem W_setAttr {x dx : Addr} {od : Obj} {name : Str} {v : Value} {led' : Obj → Led} {Q : Unit → Frs → Led → Prop} (T : Tops c.base) (hx : At c led x (instObj 99 dx)) (U : ∀ o', Up dx od o' led (led' o')) (hn : name = "root" ∨ name = "parent_map")
    (hl : (lookIn name od).isSome = true) (he : ∀ t, ∃ es n, (putN c.w.params name t v od).data = .dict es n ∧ es.size ≤ 1000)
    (h : ∀ t, Q () frs (led' (putN c.w.params name t v od))) : W c A (setAttr (.ref x) name v) frs led Q := fun s S => by
  obtain ⟨K, X, C⟩ := (T.kp S.keep).cls
  have I := instAt S hx (.led (U od).mem)
  refine set_plain X I C.sa (code_setAttr (s := { s with toks := s.toks + 1 }) (T.kp S.keep) I hn hl he fun h' hD' hs => ?_)
  exact ⟨_, _, S.upd (U _) (fun b ob hb e => (hs.2 b hb).trans e) hD', h _⟩
theorem W_getAttr {x dx : Addr} {od : Obj} {v : Value} {expr : Bool} {Q : Value → Frs → Led → Prop} (T : Tops c.base) (hx : At c led x (instObj 99 dx)) (hd : At c led dx od)
    (hl : lookIn "parent_map" od = some (some v)) (hh : handedIn v = true) (h : Q v frs led) : W c A (getAttr (.ref x) "parent_map" expr) frs led Q := fun s S => by
  obtain ⟨K, X, C⟩ := (T.kp S.keep).cls
  exact get_value X (instAt S hx hd) C.ga (C.get od v hl) hh ⟨_, _, S.tok, h⟩
theorem W_AttrName {n attr : Str} {np pos : Pos} {Q : Value → Frs → Led → Prop} (h : W c A (eval (.Name n np) env) frs led (fun o f l => W c A (getAttr o attr true) f l Q)) : W c A (eval (.Attribute (.Name n np) attr pos) env) frs led Q := fun s S =>
  Attribute_name (h.out S fun o s f l S q => q s S)
theorem W_AssignAttr {o value : Expr} {attr : Str} {pos' pos : Pos} {Q : Flow → Frs → Led → Prop} (h : W c A (eval value env) frs led fun v f l => W c A (eval o env) f l fun ov f l => W c A (setAttr ov attr v) f l fun _ => Q .next)
    (hs : swapsWith value (some (.Attribute o attr pos')) pos.line env = pure false) : W c A (exec (.Assign [.Attribute o attr pos'] value pos) env) frs led Q := fun s S =>
  plainObj_wpAny_Assign_Attribute (h.out S fun v s f l S q => q.out S fun ov s f l S q => q s S) hs
def ctxD (P : Params) (t : Tok) : Obj := putN P "root" t .none emptyDict
/-- the class called -/
theorem W_makeCtx {n : Nat} {Q : Value → Frs → Led → Prop} (hA : AOk (n + 4) A) (T : Tops c.base) (h : ∀ x dx t, Q (.ref x) frs ((x, instObj 99 dx) :: (dx, ctxD c.w.params t) :: led)) : W c A (call (.ref 99) [.none]) frs led Q := fun s S => by
  with_reducible refine' exE1_2 ((T.kp S.keep).cls) fun K X C => ?_
  obtain ⟨hp, g, d, tk, os⟩ := s
  refine wpAny_call (make_core (R := _) (makes_of X C.makes) (looks_findIn X C.init) (fun self => bind_fn X self C.fn) (.inl rfl) ?_)
  have S1 := (S.push (tk := tk) (o := emptyDict) (Ka.of fun b o e => Heap.get?_push_of_some _ e) (Heap.get?_push_size _ rfl) (Nat.le_refl _)).push (tk := tk) (o := instObj 99 hp.objs.size) (Ka.of fun b o e => Heap.get?_push_of_some _ e) (Heap.get?_push_size _ rfl) (Nat.le_refl _)
  dsimp only at S1
  rw [Heap.size_push] at S1
  have hA' : AOk (n + 3) (A.under (.builtin "type.__call__" ⟨[.ref 99, .none], []⟩)) := by
    obtain ⟨h1, h2, h3, h4, l, h5⟩ := hA
    refine ⟨h1, ?_, ?_, ?_, ⟨l, ?_⟩⟩
    · unfold Around.under
      dsimp only
      rw [h2]; rfl
    · show A.depth + 1 + (n + 3) ≤ 600
      exact om201 h3
    · show A.units + 1 + 4 * (n + 3) ≤ 9000
      exact om202 h4
    · unfold Around.under
      dsimp only
      rw [h5]; rfl
  refine code_fnIn (m := [("self", .ref (hp.objs.size + 1)), ("root", .none)]) hA' T.n T.init (by decide) (by decide) (by intros; rfl) ?_ rfl rfl rfl (by intro _; rfl) ?_ S1 fun L s₁ S2 => ?_
  · walk_at "loc"
  · walk_at "env1"
  · refine W.out (Q := fun fl f l => fl = .next ∧ f = ((L, ([("self", .ref (hp.objs.size + 1)), ("root", .none)] : Loc)) :: frs) ∧ ∃ t, l = (hp.objs.size + 1, instObj 99 hp.objs.size) :: (hp.objs.size, ctxD c.w.params t) :: led) ?w S2 fun fl s' f l S' ⟨e1, e2, t, e3⟩ => ?_
    case w =>
      refine W_cons_next (W_AssignAttr (W_local rfl rfl rfl (.tail _ (.head _)) (by decide) (W_local rfl rfl rfl (.head _) (by decide) (W_setAttr T (.led (.head _)) (fun o' => .tail .head) (.inl rfl) rfl (fun t => ⟨_, _, rfl, Nat.le_of_ble_eq_true rfl⟩) fun t => ⟨rfl, W_nil ⟨rfl, rfl, t, rfl⟩⟩))) rfl)
    subst e1 e2 e3
    exact ⟨rfl, _, _, S'.popFr S.ne, h _ _ _⟩
end
end
section
def Cx.pin (c : Cx) (k : Addr) : Cx := ⟨c.w, c.base, c.gens, c.d, c.os, some k⟩
def sPos : Pos := ⟨76, 4, 84, 32⟩
def selLoc0 : Loc := [("next", .none), ("token", .none)]
def selLoc (F : Addr) : Loc := [("next", .none), ("token", .none), ("select", .ref F)]
def selSt : Stmt := (fnB (stAt 23)).headD (.Pass ⟨0, 0, 0, 0⟩)
section
variable {α β : Type} {c : Cx} {w : World} {A : Around} {E : Value → Shared → Prop} {frs : Frs} {led : Led} {env : Env} {s : Shared}
theorem Sx.unpin {k : Addr} (S : Sx (c.pin k) frs led s) (hkc : c.kc = none) : Sx c frs led s where
  keep := S.keep
  fr := S.fr
  ld := S.ld
  nd := S.nd
  new := S.new
  tab := S.tab
  tb := let ⟨k, T⟩ := S.tb; ⟨k, T.tab, T.own, T.code, T.src, fun a e => by rw [hkc] at e; cases e⟩
  gens := S.gens
  dr := S.dr
  os := S.os
  ne := S.ne
theorem code_found {p : Addr} {P : Addr} {ps : Array Value} {cv : Value} {pos : Pos} {fl : Nat} {name qual : Str} {params : Arguments} {scope : Scope} {body : FuncBody} {Q : Value → Shared → Prop} (hc : env.code = .ref p) (hd : CodeHd s.heap p P)
    (ht : s.heap.get? P = some (tabObj ps)) (hf : codeAmong pos ps.toList = some cv) (h : Q cv s) : wpAny (model pw w) A (functionCode env pos fl name qual params scope body) Q E s := by
  obtain ⟨o, vs, file, tf, flags, tg, inF, text, tt, ho, _, hd, _, h11, h2, h7, h9, h10, hne⟩ := hd
  unfold functionCode codeAt
  rw [hc, if_neg (show ¬ ((Value.ref p == Value.none) = true) from Bool.false_ne_true)]
  refine wpAny_bind (wpAny_fieldsOf ho hd ?_)
  rw [h11]
  refine wpAny_bind (wpAny_fieldsOf ht rfl ?_)
  rw [hf]
  exact wpAny_pure h
theorem code_sel {fl : Nat} {name : Str} {params : Arguments} {scope : Scope} {body : FuncBody} {Q : Value → Shared → Prop} (hkc : c.kc = none) (T : Tops c.base) (hc : env.code = .ref 81) (S : Sx c frs led s)
    (h : ∀ k h' tk, Sx (c.pin k) frs led { s with heap := h', toks := tk } → Q (.ref k) { s with heap := h', toks := tk }) : wpAny (model pw w) A (functionCode env sPos fl name selQ params scope body) Q E s := by
  obtain ⟨k, TB⟩ := S.tb
  have hd := (T.kp S.keep).hd81
  cases k with
  | none =>
    have ht : s.heap.get? tabP = some (tabObj #[]) := TB.tab
    refine wpAny_functionCodeX hc (hd.code ht trivial) (hd.tab ht) rfl fun c' h' tk hx hge hlt hok hrec htab _ => h c' h' tk ?_
    have hne : ∀ a ∈ addrs frs led, a ≠ tabP := fun a ha => by
      have h1 := S.new a ha
      have h2 := S.tab
      unfold Addr at *
      exact om14 h1 h2
    refine ⟨fun b o hb e => hx b o hb (S.keep b o hb e), fun f hf => ?_, fun p hp => hx _ _ (hne _ (List.mem_append_right _ (List.mem_map_of_mem hp))) (S.ld p hp), S.nd, S.new, S.tab, ⟨some c', ?_, ?_, ?_, .inr ⟨c', rfl, Nat.le_trans S.sz hge⟩, fun a e => e⟩, S.gens, S.dr, S.os, S.ne⟩
    · obtain ⟨mf, ⟨o, es, ep, e, r⟩, b⟩ := S.fr f hf
      exact ⟨mf, ⟨o, es, ep, hx _ _ (hne _ (List.mem_append_left _ (List.mem_map_of_mem hf))) e, r⟩, b⟩
    · exact htab.2
    · intro a e ha
      cases e
      exact Nat.lt_irrefl _ (Nat.lt_of_lt_of_le (S.size_le _ ha) hge)
    · intro a e
      cases e
      obtain ⟨c₂, oc, vs, t, e1, e2, e3, e4⟩ := hrec
      cases e1
      exact ⟨oc, vs, t, e2, e3, e4⟩
  | some k =>
    refine code_found hc hd (ps := #[rawInt 76, rawInt 4, .ref k]) TB.tab (cv := .ref k) rfl ?_
    have := h k s.heap s.toks ⟨S.keep, S.fr, S.ld, S.nd, S.new, S.tab, ⟨some k, TB.tab, TB.own, TB.code, TB.src, fun a e => e⟩, S.gens, S.dr, S.os, S.ne⟩
    exact this
/-- the def of `select` -/
theorem raw_defSel {L : Addr} (hkc : c.kc = none) (T : Tops c.base) (hc : env.code = .ref 81) (hg : env.globals = mainGlobals) (hL : env.locals = L) (hk : env.scope.kind = .function) (hx : env.kindOf "select" = some .local)
    (hq : qualnameIn env "select" "select" = selQ) (S : Sx c ((L, selLoc0) :: frs) led s) :
    wpAny (model pw c.w) A (exec selSt env) (fun fl s' => fl = .next ∧ ∃ k F oF, Sx (c.pin k) ((L, selLoc F) :: frs) ((F, oF) :: led) s' ∧
      ∃ pm, oF.data = .func (fnX "select" selQ (fnA selSt) (fnB selSt) (fnS selSt) [] .none .none .none pm none (.ref k) .none)) (fun _ _ => False) s := by
  have e0 : selSt = .FunctionDef "select" (fnA selSt) (fnB selSt) [] none [] (fnS selSt) none "select" sPos := rfl
  rw [e0, exec_def, hq]
  refine wpAny_bind (wpAny_standAt (wpAny_bind (wpAny_holding ?_)))
  refine wpAny_bind (wpAny_of_eq (a := []) rfl ?_)
  refine wpAny_bind (wpAny_holding (wpAny_of_eq (a := []) rfl ?_))
  refine wpAny_holding ?_
  refine wpAny_bind (wpAny_of_eq (a := []) rfl ?_)
  rw [makeFunction_eq]
  refine wpAny_bind (wpAny_of_eq (a := .none) rfl ?_)
  refine wpAny_bind (wpAny_of_eq (a := .none) rfl ?_)
  refine wpAny_bind (wpAny_of_eq (a := none) rfl ?_)
  unfold makeTail
  refine wpAny_bind (wpAny_of_eq (a := []) rfl ?_)
  refine wpAny_bind (wpAny_of_eq (a := .none) rfl ?_)
  refine wpAny_bind (code_sel hkc T hc S fun k h' tk S1 => ?_)
  obtain ⟨mg, hmg, bm, o, hbm, hne0, _, hneP, hbo, hcls, hdict, hdata⟩ := (T.kp S1.keep).bm
  refine wpAny_bind (wpAny_builtinsFor (by rw [hg]; exact hmg) hbm hne0 hbo hcls hdict hdata ?_)
  refine wpAny_bind (wpAny_nsGet (by rw [hg]; exact hmg) ?_)
  refine wpAny_bind (wpAny_of_eq (a := .none) rfl ?_)
  rw [hg]
  refine wpAny_newObj_type ?_ (by size_fits)
  have S2 := S1.push (tk := tk) (o := { cls := .type "function", data := .func (fnX "select" selQ (fnA selSt) (fnB selSt) (fnS selSt) [] .none .none .none ((mg "__name__").getD .none) none (.ref k) .none) }) (Ka.of fun b o e => Heap.get?_push_of_some _ e) (Heap.get?_push_size _ rfl) (Nat.le_refl _)
  refine wpAny_bind (wpAny_standAt (wpAny_bind (wpAny_bindName ?_)))
  refine (W_set (c := c.pin k) (env := env) (x := "select") (m' := selLoc h'.objs.size) (Q := fun _ f l => f = (L, selLoc h'.objs.size) :: frs ∧ l = _) hL hk hx ?_ ⟨rfl, rfl⟩).out S2 fun _ s' f l S3 e => ?_
  · exact .tail (by decide) (.tail (by decide) .new)
  · refine exE0_2 e fun hrf0 hrf1 => ?_; subst hrf0; subst hrf1
    exact wpAny_pure ⟨rfl, k, _, _, S3, _, rfl⟩
end
end
local macro_rules | `(tactic| walk_at "m") => `(tactic| first | (with_reducible refine' W_AttrName ?_) | (with_reducible refine' W_isNone ?_) | ((with_reducible refine' W_AssignAttr ?_ ?h2); (case h2 => rfl)))
section
section
variable {c : Cx} {A : Around} {frs : Frs} {led : Led}
theorem c_pmap {n : Nat} {x dx D : Addr} {od : Obj} {Q : Value → Frs → Led → Prop} (hA : AOk (n + 1) A) (T : Tops c.base) (hx : At c led x (instObj 99 dx)) (hd : At c led dx od) (hl : lookIn "parent_map" od = some (some (.ref D)))
    (h : Q (.ref D) frs led) : W c A (call (.ref 75) [.ref x]) frs led Q := by
  with_reducible refine' W_fn (m := [("context", .ref x)]) hA T T.pmap ?z1 ?z2 ?z3 ?z4 ?z5 ?z6 ?z7 ?z8 ?z9 ?_
  case z1 => decide
  case z2 => decide
  case z3 => (intros; rfl)
  case z4 => walk_at "loc"
  case z5 => rfl
  case z6 => rfl
  case z7 => rfl
  case z8 => rfl
  case z9 => walk_at "env1"
  intro c' L hw T' hk hat
  with_reducible refine' W_hide fun R hR => ?_
  have hA' : AOk n (A.deeper (envX (Str.ofString "get_parent_map") (fnS (stAt 22)) L 75 (.ref 74) [])) := hA.deeper
  with_reducible refine' exE0_2 (hat _ _ hx) fun hb1 hne1 => ?_
  with_reducible refine' exE0_2 (hat _ _ hd) fun hb2 hne2 => ?_
  walk_at "start"
  walk_at "go"
  with_reducible refine' W_getAttr T' ?z1 ?z2 hl ?z3 ?_
  case z1 => exact (.base hb1 hne1)
  case z2 => exact (.base hb2 hne2)
  case z3 => rfl
  walk_at "go"
  exact hR _ _ _ ⟨_, [], .inl rfl, by walk_at "sl", h⟩
theorem raw_prep {n : Nat} {s : Shared} (hA : AOk (n + 1) A) (T : Tops c.base) (hkc : c.kc = none) (S : Sx c frs led s) :
    wpAny (model pw c.w) A (call (.ref 82) [.none, .none]) (fun v s' => ∃ k F oF, v = .ref F ∧ Sx (c.pin k) frs ((F, oF) :: led) s' ∧
      ∃ pm, oF.data = .func (fnX "select" selQ (fnA selSt) (fnB selSt) (fnS selSt) [] .none .none .none pm none (.ref k) .none)) (fun _ _ => False) s := by
  refine wpAny_call (code_fnIn (m := selLoc0) hA T.n T.prep (by decide) (by decide) (by intros; rfl) (by unfold selLoc0; walk_at "loc") rfl rfl rfl (by intro _; rfl) (by unfold selLoc0; walk_at "env1") S fun L s₁ S1 => ?_)
  refine wpAny_execs_cons (wpAny_mono (raw_defSel hkc T rfl rfl rfl rfl rfl rfl S1) (fun fl s' z => ?_) fun _ _ x => x)
  obtain ⟨rfl, k, F, oF, S2, pm, hd⟩ := z
  refine W.out (c := c.pin k) (Q := fun fl f l => fl = .ret (.ref F) ∧ f = (L, selLoc F) :: frs ∧ l = (F, oF) :: led) ?w S2 fun fl s'' f l S3 e => ?_
  case w =>
    with_reducible refine' W_cons (W_Return ?_)
    unfold selLoc
    walk_at "go"
    exact ⟨rfl, rfl, rfl⟩
  refine exE0_3 e fun hrf0 hrf1 hrf2 => ?_; subst hrf0; subst hrf1; subst hrf2
  exact ⟨k, F, oF, rfl, S3.popFr S.ne, pm, hd⟩
end
end
section
/-! the body of `select`, told by what it yields -/
def selStep (d : TD) (acc : List (List Nat)) (k : List Nat) : List (List Nat) := match lk d k with
  | some v => if v ∈ acc then acc else acc ++ [v]
  | none => acc
def selL (d : TD) (ks : List (List Nat)) : List (List Nat) := ks.foldl (selStep d) []
theorem selStep_pre (d : TD) (acc : List (List Nat)) (k : List Nat) : acc <+: selStep d acc k := by
  unfold selStep
  split
  · split
    · exact List.prefix_refl _
    · exact List.prefix_append _ _
  · exact List.prefix_refl _
theorem selFold_pre (d : TD) : ∀ (ks : List (List Nat)) (acc : List (List Nat)), acc <+: ks.foldl (selStep d) acc
  | [], acc => List.prefix_refl _
  | k :: r, acc => (selStep_pre d acc k).trans (selFold_pre d r _)
theorem selL_take (d : TD) (ks : List (List Nat)) (j : Nat) : selL d (ks.take j) <+: selL d ks := by
  have := selFold_pre d (ks.drop j) (selL d (ks.take j))
  unfold selL at this ⊢
  rw [← List.foldl_append, List.take_append_drop] at this
  exact this
theorem selStep_len (d : TD) (acc : List (List Nat)) (k : List Nat) : (selStep d acc k).length ≤ acc.length + 1 := by
  unfold selStep
  split
  · split <;> simp
  · exact om220
theorem selFold_len (d : TD) : ∀ (ks : List (List Nat)) (acc : List (List Nat)), (ks.foldl (selStep d) acc).length ≤ acc.length + ks.length
  | [], acc => Nat.le_refl _
  | k :: r, acc => by
    have h1 := selStep_len d acc k
    have h2 := selFold_len d r (selStep d acc k)
    rw [List.foldl_cons, List.length_cons]
    exact om221 h1 h2
theorem selL_len (d : TD) (ks : List (List Nat)) : (selL d ks).length ≤ ks.length := by
  have := selFold_len d ks []
  unfold selL
  simpa using this
theorem KV.isSome {kvs : List (Str × Value)} {d : TD} (h : KV kvs d) (k : List Nat) : (valueAt kvs (tx k)).isSome = (lk d k).isSome := by
  induction h with
  | nil => rfl
  | cons k' v' t h ih =>
    unfold valueAt lk at ih ⊢
    rw [List.find?_cons, List.find?_cons]
    by_cases q : k' = k
    · subst q; simp
    · have q' : ¬ tx k' = tx k := fun x => q (tx_inj x)
      simpa [q, q'] using ih
def KN (kvs : List (Str × Value)) (acc : List (List Nat)) : Prop := kvs.map (·.1) = acc.map tx
theorem KN.nil : KN [] [] := rfl
theorem KN.isSome {kvs : List (Str × Value)} {acc : List (List Nat)} (h : KN kvs acc) (k : List Nat) : (valueAt kvs (tx k)).isSome = decide (k ∈ acc) := by
  have e : (valueAt kvs (tx k)).isSome = decide (tx k ∈ kvs.map (·.1)) := by
    unfold valueAt
    rw [Option.isSome_map]
    rw [Bool.eq_iff_iff, List.find?_isSome, decide_eq_true_iff, List.mem_map]
    constructor
    · rintro ⟨x, hx, hq⟩
      exact ⟨x, hx, by simpa using hq⟩
    · rintro ⟨x, hx, hq⟩
      exact ⟨x, hx, by simpa using hq⟩
  rw [e, h]
  refine decide_eq_decide.mpr ⟨fun q => ?_, fun q => List.mem_map_of_mem q⟩
  obtain ⟨y, hy, hq⟩ := List.mem_map.mp q
  exact tx_inj hq ▸ hy
theorem KN.put {kvs : List (Str × Value)} {acc : List (List Nat)} (h : KN kvs acc) (k : List Nat) (v : Value) (hk : ¬ k ∈ acc) : KN (stored kvs (tx k) v) (acc ++ [k]) := by
  have e : kvs.any (fun e => decide (e.1 = tx k)) = false := by
    rw [List.any_eq_false]
    intro x hx hq
    have : tx k ∈ kvs.map (·.1) := by
      have := List.mem_map_of_mem (f := (·.1)) hx
      rw [of_decide_eq_true hq] at this
      exact this
    rw [h] at this
    obtain ⟨y, hy, hq⟩ := List.mem_map.mp this
    exact hk (tx_inj hq ▸ hy)
  unfold stored
  rw [if_neg (by rw [e]; decide)]
  unfold KN at h ⊢
  rw [List.map_append, List.map_append, h]
  rfl
section
variable {c : Cx} {A : Around} {frs : Frs} {led : Led} {S : Addr} {B : Addr × Obj} {PV : Nat → Value → Prop} {N n : Nat} {code : Code} {fs : List Frame} {t : Sem Fin}
theorem Gz_wk {f0 : Frs} {l0 : Led} (w : Wk f0 l0 frs led) (h : Gz c A S B PV N n code t fs f0 l0) : Gz c A S B PV N n code t fs frs led := fun s₀ s oS e X =>
  h s₀ s oS e (Wk.sx ⟨w.fw, w.sl.append (List.Sublist.refl _)⟩ X)
end
def selFor : Stmt := ((fnB selSt).drop 2).headD (.Pass ⟨0, 0, 0, 0⟩)
def forBody : Stmt → List Stmt
  | .For _ _ b _ _ => b
  | _ => []
def forTgt : Stmt → Expr
  | .For t _ _ _ _ => t
  | _ => .Name "" ⟨0, 0, 0, 0⟩
abbrev selEnv (L F k : Addr) : Env := envX selQ (fnS selSt) L F (.ref k) []
def selPV (d : TD) (ks : List (List Nat)) (i : Nat) (v : Value) : Prop := ∃ y t, (selL d ks)[i]? = some y ∧ v = .str (tx y) t
section
variable {c : Cx} {A : Around} {frs : Frs} {led : Led}
theorem sel_loop {n : Nat} {L F k I It RM D R Sl : Addr} {x : Value} {oI oD : Obj} {ep : Nat} {kvs : List (Str × Value)} {d : TD} {vs : List Value} {n0 : Nat} {ks : List (List Nat)} {K : Flow → Sem Fin} {H : Value → Sem Fin} {p : Pos}
    (hA : AOk (n + 2) A) (hD : c.base.get? D = some oD) (hDne : D ≠ tabP) (hsys : (D == sysModules) = false) (hd : DOb (PySem.strKind pw c.w) kvs ep oD) (hkv : KV kvs d)
    (hR : c.base.get? R = some (seqObj "list" vs.toArray n0)) (hRne : R ≠ tabP) (hvs : StrsAre vs (ks.map tx)) (hlen : ks.length ≤ 1000)
    (hK : ∀ frs led, (I, oI) ∈ led → Gz c A Sl (I, oI) (selPV d ks) (selL d ks).length 0 (.func (fnB selSt) (selEnv L F k)) (K .next) [] frs led) :
    ∀ (m j : Nat) (oit orm : Obj) (kr : List (Str × Value)) (er : Nat), j + m = ks.length → SeqIt "list_iterator" R j oit → DOb (PySem.strKind pw c.w) kr er orm → KN kr (selL d (ks.take j)) →
      Gz c A Sl (I, oI) (selPV d ks) (selL d ks).length ((selL d ks).length - (selL d (ks.take j)).length) (.forLoop (forTgt selFor) (.ref It) (forBody selFor) [] (selEnv L F k)) ((model pw c.w).den (.forLoop (forTgt selFor) (.ref It) (forBody selFor) [] (selEnv L F k)))
        [.ret (forK (selEnv L F k) K H id id) none false [] (.func (fnB selSt) (selEnv L F k)) p []] [(L, [("context", x), ("result", .ref R), ("parent_map", .ref D), ("result_map", .ref RM)])] [(It, oit), (RM, orm), (I, oI)] := by
  intro m
  induction m with
  | zero =>
    intro j oit orm kr er hj hoit horm hkr
    have hA' : AOk (n + 1) (A.over (.forLoop (forTgt selFor) (.ref It) (forBody selFor) [] (selEnv L F k)) [.ret (forK (selEnv L F k) K H id id) none false [] (.func (fnB selSt) (selEnv L F k)) p []]) := hA.overL
    with_reducible refine' Gz_forLoop fun oS => ?_
    with_reducible refine' W_endList hA'.handled (led' := [(RM, orm), (I, oI), (Sl, oS)]) .head ?z1 hoit ?z2 ?z3 ?_
    case z1 => exact (.head _)
    case z2 => exact (.base hR hRne)
    case z3 => (have := hvs.length; simp at this; simp; exact om222 hj this)
    refine ⟨[(RM, orm), (I, oI)], rfl, fun code => ?_⟩
    rw [List.take_of_length_le (by exact om37 hj), Nat.sub_self]
    with_reducible refine' Gz_leaf _ ?_
    exact hK _ _ (by simp)
  | succ m ih =>
    intro j oit orm kr er hj hoit horm hkr
    have hjl : j < ks.length := by exact om8 hj
    with_reducible refine' exX1 (hvs.at (j := j) (y := tx ks[j]) (by simp [hjl])) fun tk hx => ?_
    have hnext : selL d (ks.take (j + 1)) = selStep d (selL d (ks.take j)) ks[j] := by
      unfold selL
      rw [List.take_succ_eq_append_getElem hjl, List.foldl_append]
      rfl
    have hpre := selL_take d ks (j + 1)
    have hacc : (selL d (ks.take j)).length ≤ 1000 := by have := selL_len d (ks.take j); rw [List.length_take] at this; exact om223 hlen this
    have hkrl : kr.length ≤ sizeLine := by
      have := congrArg List.length hkr
      rw [List.length_map, List.length_map] at this
      rw [sizeLine_eq]; exact om224 hacc this
    have ih' := ih (j + 1)
    generalize hacc' : selL d (ks.take j) = acc at *
    generalize hk0 : ks[j] = k0 at *
    have hA' : AOk (n + 1) (A.over (.forLoop (forTgt selFor) (.ref It) (forBody selFor) [] (selEnv L F k)) [.ret (forK (selEnv L F k) K H id id) none false [] (.func (fnB selSt) (selEnv L F k)) p []]) := hA.overL
    have again : ∀ (ml : Loc) (oit' orm' : Obj) (kr' : List (Str × Value)) (er' : Nat) (n' : Nat) (code : Code), SeqIt "list_iterator" R (j + 1) oit' → DOb (PySem.strKind pw c.w) kr' er' orm' → KN kr' (selL d (ks.take (j + 1))) → n' = (selL d ks).length - (selL d (ks.take (j + 1))).length →
        (∀ q ∈ ([("context", x), ("result", .ref R), ("parent_map", .ref D), ("result_map", .ref RM)] : Loc), q ∈ ml) →
        Gz c A Sl (I, oI) (selPV d ks) (selL d ks).length n' code (.pure (.again (.forLoop (forTgt selFor) (.ref It) (forBody selFor) [] (selEnv L F k))))
          [.ret (forK (selEnv L F k) K H id id) none false [] (.func (fnB selSt) (selEnv L F k)) p []] [(L, ml)] [(It, oit'), (RM, orm'), (I, oI)] := by
      intro ml oit' orm' kr' er' n' code h1 h2 h3 h4 h5
      subst h4
      exact Gz_again rfl (Gz_wk ⟨.cons h5 .nil, .refl _⟩ (ih' oit' orm' kr' er' (by exact om4 hj) h1 h2 h3))
    with_reducible refine' Gz_forLoop fun oS => ?_
    with_reducible refine' W_nextList (led' := fun o' => [(It, o'), (RM, orm), (I, oI), (Sl, oS)]) (v := .str (tx k0) tk) (fun o' => .head) hoit ?z1 ?z2 fun o' ho' => ?_
    case z1 => exact (.base hR hRne)
    case z2 => simpa using hx
    refine ⟨[(It, o'), (RM, orm), (I, oI)], rfl, fun oS => ?_⟩
    with_reducible refine' W_bind (W_letGo (x := "elem") (W_assignName (x := "elem") ?_))
    show W c _ _ _ [(It, o'), (RM, orm), (I, oI), (Sl, oS)] _
    walk_at "go"
    refine ⟨[(It, o'), (RM, orm), (I, oI)], rfl, fun H' => ?_⟩
    refine Gz_cons (Gz_If fun oS => ?_)
    show W c _ _ _ [(It, o'), (RM, orm), (I, oI), (Sl, oS)] _
    walk_at "go"
    with_reducible refine' W_inDictS hsys ?z1 hd (strKind_is _ _ _ _) ?_
    case z1 => exact (.base hD hDne)
    walk_at "go"
    rw [hkv.isSome]
    refine ⟨[(It, o'), (RM, orm), (I, oI)], rfl, fun hb => ?_, fun hb => ?_⟩
    · with_reducible refine' exX1 (Option.isSome_iff_exists.mp hb) fun v hv => ?_
      with_reducible refine' exX1 (hkv.look _ _ hv) fun tv hval => ?_
      with_reducible refine' Gz_Assign fun oS => ?_
      show W c _ _ _ [(It, o'), (RM, orm), (I, oI), (Sl, oS)] _
      walk_at "go"
      with_reducible refine' W_getDict ?z1 hd (strKind_is _ _ _ _) hval ?z2 ?z3 ?_
      case z1 => exact (.base hD hDne)
      case z2 => rfl
      case z3 => (intros; rfl)
      walk_at "go"
      refine ⟨[(It, o'), (RM, orm), (I, oI)], rfl, ?_⟩
      with_reducible refine' Gz_cons (Gz_If fun oS => ?_)
      show W c _ _ _ [(It, o'), (RM, orm), (I, oI), (Sl, oS)] _
      walk_at "go"
      with_reducible refine' W_notInDict (a := RM) (o := orm) ?z1 horm (strKind_is _ _ _ _) ?_
      case z1 => (show (RM, orm) ∈ [_, _, _, _]; walk_at "mem")
      walk_at "go"
      rw [hkr.isSome]
      refine ⟨[(It, o'), (RM, orm), (I, oI)], rfl, fun hb2 => ?_, fun hb2 => ?_⟩
      · have hni : ¬ v ∈ acc := by simpa using hb2
        have hst : selStep d acc k0 = acc ++ [v] := by unfold selStep; rw [hv]; exact if_neg hni
        rw [hst] at hnext
        have hlt : acc.length < (selL d ks).length := by
          have := hpre.length_le
          rw [hnext, List.length_append, List.length_singleton] at this
          exact om225 this
        have hget : (selL d ks)[acc.length]? = some v := by
          obtain ⟨r, hr⟩ := hpre
          rw [← hr, hnext]
          simp
        with_reducible refine' Gz_Assign fun oS => ?_
        show W c _ _ _ [(It, o'), (RM, orm), (I, oI), (Sl, oS)] _
        walk_at "go"
        with_reducible refine' W_setDict (led' := fun o2 => [(It, o'), (RM, o2), (I, oI), (Sl, oS)]) ?z1 horm (strKind_is _ _ _ _) hkrl fun o2 ep2 hd2 => ?_
        case z1 => intro o2; walk_at "up"
        walk_at "go"
        refine ⟨[(It, o'), (RM, o2), (I, oI)], rfl, ?_⟩
        rw [show (selL d ks).length - acc.length = ((selL d ks).length - (acc.length + 1)) + 1 by exact om226 hlt]
        refine Gz_cons (Gz_yield rfl rfl rfl fun oS => ?_)
        show W c _ _ _ [(It, o'), (RM, o2), (I, oI), (Sl, oS)] _
        walk_at "go"
        refine ⟨[(It, o'), (RM, o2), (I, oI)], rfl, by simp, ⟨v, tv, ?_, rfl⟩, ?_⟩
        · rw [show (selL d ks).length - 1 - ((selL d ks).length - (acc.length + 1)) = acc.length by exact om227 hlt]
          exact hget
        · with_reducible refine' Gz_nil (Gz_nil (Gz_nil ?_))
          refine again _ _ _ _ ep2 _ _ ho' hd2 ?_ ?_ ?_
          · rw [hnext]; exact hkr.put v _ hni
          · rw [hnext, List.length_append, List.length_singleton]
          · walk_at "sub"
      · have hin : v ∈ acc := by simpa using hb2
        have hst : selStep d acc k0 = acc := by unfold selStep; rw [hv]; exact if_pos hin
        rw [hst] at hnext
        with_reducible refine' Gz_nil (Gz_nil (Gz_nil ?_))
        refine again _ _ _ _ er _ _ ho' horm ?_ ?_ ?_
        · rw [hnext]; exact hkr
        · rw [hnext]
        · walk_at "sub"
    · have hv : lk d k0 = none := by simpa using hb
      have hst : selStep d acc k0 = acc := by unfold selStep; rw [hv]
      rw [hst] at hnext
      with_reducible refine' Gz_nil (Gz_nil ?_)
      refine again _ _ _ _ er _ _ ho' horm ?_ ?_ ?_
      · rw [hnext]; exact hkr
      · rw [hnext]
      · walk_at "sub"
end
end
section
theorem keep_of_makes {K : Frag} (h : makesIn K 99 = true) : keepIn K (.ref 99) = true := by
  unfold makesIn at h
  unfold keepIn
  split at h
  · rename_i oc od cd sl ho
    simp only [Bool.and_eq_true, Bool.not_eq_true', beq_iff_eq] at h
    obtain ⟨⟨_, e7⟩, e8⟩ := h
    dsimp only
    rw [ho]
    simp [e7]
  · cases h
theorem Wk.pinAt {c : Cx} {k : Addr} {led : Led} {a : Addr} {o : Obj} (h : At c led a o) : At (c.pin k) led a o := by
  cases h with
  | led h => exact .led h
  | base h ht => exact .base h ht
section
variable {c : Cx} {A : Around} {frs : Frs} {led : Led} {env : Env}
theorem W_callCls {pos : Pos} {e : Expr} {rest : List Expr} {Q : Value → Frs → Led → Prop} (T : Tops c.base) (h : W c A (spliced (backTo pos (starEach (e :: rest) env))) frs led (fun vs fr l => W c A (call (.ref 99) vs) fr l Q))
    (he : starEach (e :: rest) env = (false, eval e env) :: starEach rest env) (hp : (backTo pos (starEach rest env)).any (·.1) = false) : W c A (callWith pos (.ref 99) [] (backTo pos (starEach (e :: rest) env)) []) frs led Q := fun s S => by
  with_reducible refine' exE1_2 T.cls fun K X C => ?_
  exact callWith_K (first := []) X (keep_of_makes C.makes) (h.out S fun vs s f l S q => ⟨kIn_kp X C.tab S.keep, q s S⟩) he hp
/-- a call of a def of the text without cells; what is pinned shows -/
theorem W_fnK {n : Nat} {f k : Addr} {qual params body scope} {vals : List Value} {m : Loc} {Q : Value → Frs → Led → Prop} (hA : AOk (n + 1) A) (T : Tops c.base) (F : FnAt c.base f k qual params body scope) (hf : f ≠ tabP) (hk : k ≠ tabP)
    (hb : ∀ name doc pm an ct, bindArgs (fnX name qual params body scope [] .none .none doc pm an (.ref k) ct) ⟨vals, []⟩ = pure m)
    (hkind : ∀ x ∈ m, scope.names.lookup x.1 = some .local)
    (hco : scope.isCoroutine = false) (hgen : scope.isGenerator = false) (hsk : scope.kind = .function) (hcl : cellsFrom 0 scope.names [] = [])
    (hm : ∀ L cs, ∀ p ∈ m, bindL (envX qual scope L f (.ref k) cs).kindOf m (fun _ => none) p.1 = some p.2)
    (h : ∀ (c' : Cx) (L : Addr), c'.kc = c.kc → c'.w = c.w → Tops c'.base → Kp c.base c'.base → (∀ a o, At c led a o → c'.base.get? a = some o ∧ a ≠ tabP) →
      W c' (A.deeper (envX qual scope L f (.ref k) [])) (execs body (envX qual scope L f (.ref k) [])) [(L, m)] [] (fun fl f' l' => ∃ v res, (fl = .ret v ∨ (fl = .next ∧ v = .none)) ∧ res.Sublist l' ∧ Q v frs (res ++ led))) :
    W c A (call (.ref f) vals) frs led Q :=
  W_defK m (binds := m) hA T.n F hf hk hb (fun _ x hx => .inl (hkind x hx)) hco hgen hsk (fun c' L cs cl mf cm hkc hw _ hk hat hcs Y hmf hcm => by
    rw [hcl] at hcs
    cases cs with
    | cons => cases hcs
    | nil =>
      cases Y
      exact h c' L hkc hw (T.kp hk) hk hat) hm (by rw [hcl]; exact .nil)
/-- list(f(..)), f a closure that is a generator function -/
theorem W_listCall {x lx : Str} {p pos pos2 lp : Pos} {e : Expr} {rest : List Expr} {F : Addr} {oF : Obj} {fd : FuncData} {Q : Value → Frs → Led → Prop} (hx : ∀ Q', Q' (.ref F) frs led → W c A (eval (.Name x p) env) frs led Q') (hl : ∀ Q', Q' (.type "list") frs led → W c A (eval (.Name lx lp) env) frs led Q')
    (hd : oF.data = .func fd) (he : starEach (e :: rest) env = (false, eval e env) :: starEach rest env) (he1 : starEach [.Call (.Name x p) (e :: rest) [] pos2] env = (false, eval (.Call (.Name x p) (e :: rest) [] pos2) env) :: starEach [] env)
    (hp : (backTo pos (starEach [.Call (.Name x p) (e :: rest) [] pos2] env)).any (·.1) = false)
    (h : W c A (spliced (backTo pos2 (starEach (e :: rest) env))) frs led (fun vals f l => At c l F oF ∧ ∀ s, Sx c f l s → wpAny (model pw c.w) A (call (.ref F) vals) (fun v s' => wpAny (model pw c.w) A (call (.type "list") [v]) (fun v => Post c (Q v)) (fun _ _ => False) s') (fun _ _ => False) s)) :
    W c A (eval (.Call (.Name lx lp) [.Call (.Name x p) (e :: rest) [] pos2] [] pos) env) frs led Q := by
  with_reducible refine' W_CallName (hl _ ?_)
  intro s S
  refine PySem.callWith_type hp ?_
  suffices key : wpAny (model pw c.w) A (spliced (backTo pos (starEach [.Call (.Name x p) (e :: rest) [] pos2] env))) (fun vs s' => wpAny (model pw c.w) A (call (.type "list") ([] ++ vs)) (fun v => Post c (Q v)) (fun _ _ => False) s') (fun _ _ => False) s by
    rw [he1] at key ⊢
    exact evalArgs_plain key
  refine wpAny_items_cons (wpAny_Call_NameR ((hx (fun v f l => v = .ref F ∧ f = frs ∧ l = led) ⟨rfl, rfl, rfl⟩).out S fun v s₁ f l S₁ e => ?_)) he1
  refine exE0_3 e fun hrf0 hrf1 hrf2 => ?_; subst hrf0; subst hrf1; subst hrf2
  refine callWith_function (o := oF) (fd := fd) ?_
  rw [he] at h ⊢
  refine evalArgs_plain (h.out S₁ fun vals s₂ f l S₂ ⟨hF, q⟩ => ⟨⟨S₂.at hF, hd⟩, ?_⟩)
  refine wpAny_mono (q s₂ S₂) (fun v s₃ z => ?_) fun _ _ x => x
  exact wpAny_items_nil z
end
section
variable {c : Cx} {A : Around} {frs : Frs} {led : Led}
/-- the body of select, whole -/
theorem sel_gz {n : Nat} {L F k I D R Sl x dx : Addr} {oI oD od : Obj} {ep : Nat} {kvs : List (Str × Value)} {d : TD} {vs : List Value} {n0 : Nat} {ks : List (List Nat)}
    (hA : AOk (n + 2) A) (T : Tops c.base) (hx : c.base.get? x = some (instObj 99 dx)) (hxne : x ≠ tabP) (hdx : c.base.get? dx = some od) (hdxne : dx ≠ tabP) (hlk : lookIn "parent_map" od = some (some (.ref D)))
    (hD : c.base.get? D = some oD) (hDne : D ≠ tabP) (hsys : (D == sysModules) = false) (hd : DOb (PySem.strKind pw c.w) kvs ep oD) (hkv : KV kvs d)
    (hR : c.base.get? R = some (seqObj "list" vs.toArray n0)) (hRne : R ≠ tabP) (hvs : StrsAre vs (ks.map tx)) (hlen : ks.length ≤ 1000) :
    Gz c A Sl (I, oI) (selPV d ks) (selL d ks).length (selL d ks).length (.func (fnB selSt) (selEnv L F k)) ((model pw c.w).den (.func (fnB selSt) (selEnv L F k))) [] [(L, [("context", .ref x), ("result", .ref R)])] [(I, oI)] := by
  have hA' : AOk (n + 1) (A.over (.func (fnB selSt) (selEnv L F k)) []) := hA.overF
  with_reducible refine' Gz_func fun H' => ?_
  refine Gz_Assign fun oS => ?_
  show W c _ _ _ [(I, oI), (Sl, oS)] _
  walk_at "go"
  with_reducible refine' c_pmap hA' T ?z1 ?z2 hlk ?_
  case z1 => exact (.base hx hxne)
  case z2 => exact (.base hdx hdxne)
  walk_at "go"
  refine ⟨[(I, oI)], rfl, ?_⟩
  with_reducible refine' Gz_Assign fun oS => ?_
  show W c _ _ _ [(I, oI), (Sl, oS)] _
  walk_at "go"
  with_reducible refine' W_DictEmpty (PySem.strKind pw c.w) fun RM orm er hrm => ?_
  walk_at "go"
  refine ⟨[(RM, orm), (I, oI)], rfl, ?_⟩
  with_reducible refine' Gz_cons (Gz_For (fun _ => rfl) fun oS => ?_)
  show W c _ _ _ [(RM, orm), (I, oI), (Sl, oS)] _
  walk_at "go"
  refine ⟨[(RM, orm), (I, oI)], rfl, fun oS => ?_⟩
  show W c _ _ _ [(RM, orm), (I, oI), (Sl, oS)] _
  with_reducible refine' W_iterList ?z1 fun It => ?_
  case z1 => exact (.base hR hRne)
  refine ⟨[(It, seqItObj "list_iterator" R 0), (RM, orm), (I, oI)], rfl, fun p => ?_⟩
  have := sel_loop (c := c) (A := A) (n := n) (L := L) (F := F) (k := k) (I := I) (It := It) (RM := RM) (D := D) (R := R) (Sl := Sl) (x := .ref x) (oI := oI) (p := p) hA hD hDne hsys hd hkv hR hRne hvs hlen
    (K := fun f => match f with | .next => (execs [] (selEnv L F k)).wrap (fun f => .pure (.done (.ret (match f with | .ret v => v | _ => .none)))) H' id id | f => .pure (.done (.ret (match f with | .ret v => v | _ => .none)))) (H := H')
    (fun frs led hm => Gz_nil (Gz_end frs led hm)) ks.length 0 (seqItObj "list_iterator" R 0) orm [] er (by exact om38) ⟨rfl, rfl⟩ hrm .nil
  exact this
end
end
section
/-! _law_led -/
def ledR (d : TD) : Nat → List (List Nat)
  | 0 => d.map (·.1)
  | n + 1 => selL d ([120] :: ledR d n)
theorem ledR_len (d : TD) : ∀ n, (ledR d n).length ≤ d.length + n
  | 0 => by simp [ledR]
  | n + 1 => by
    have h1 := selL_len d ([120] :: ledR d n)
    have h2 := ledR_len d n
    rw [List.length_cons] at h1
    show (selL d ([120] :: ledR d n)).length ≤ _
    exact om228 h1 h2
theorem strsAre_of : ∀ {vs : List Value} {ys : List Str}, vs.length = ys.length → (∀ (j : Nat) (v : Value), vs[j]? = some v → ∃ y t, ys[j]? = some y ∧ v = .str y t) → StrsAre vs ys
  | [], [], _, _ => .nil
  | v :: vs, y :: ys, hl, h => by
    obtain ⟨y', t, e, rfl⟩ := h 0 v rfl
    simp at e
    subst e
    exact .cons _ _ (strsAre_of (by simpa using hl) fun j v e => h (j + 1) v (by simpa using e))
theorem strs_of_items {items : Array Value} {d : TD} {ks : List (List Nat)} (h : ItemsOf (selPV d ks) items (selL d ks).length) : StrsAre items.toList ((selL d ks).map tx) := by
  refine strsAre_of (by rw [Array.length_toList, List.length_map]; exact h.1) fun j v e => ?_
  obtain ⟨y, t, e1, rfl⟩ := h.2 j v (by rw [← Array.getElem?_toList]; exact e)
  exact ⟨tx y, t, by rw [List.getElem?_map, e1]; rfl, rfl⟩
theorem strs_of_keys {w : World} {kvs : List (Str × Value)} {d : TD} {vs : List Value} (hkv : KV kvs d) (hl : vs.length = kvs.length)
    (h : ∀ (j : Nat) (v : Value), vs[j]? = some v → ∃ k x, kvs[j]? = some (k, x) ∧ (PySem.strKind pw w).is k v = true) : StrsAre vs ((d.map (·.1)).map tx) := by
  refine strsAre_of (by rw [List.length_map, List.length_map, hl, hkv.len]) fun j v e => ?_
  with_reducible refine' exE2_2 (h j v e) fun k x e1 e2 => ?_
  refine exX1 (Value.isStrOf_shape e2) fun t hrf1 => ?_; subst hrf1
  have hj : j < d.length := by
    have := (List.getElem?_eq_some_iff.mp e1).1
    rw [hkv.len] at this
    exact this
  with_reducible refine' exX1 (hkv.get (List.getElem?_eq_getElem hj)) fun t2 e3 => ?_
  rw [e1] at e3
  cases e3
  exact ⟨_, t, by rw [List.getElem?_map, List.getElem?_map, List.getElem?_eq_getElem hj]; rfl, rfl⟩
section
variable {c : Cx} {A : Around} {frs : Frs} {led : Led} {env : Env}
theorem Sx.permL {led' : Led} {s : Shared} (S : Sx c frs led s) (hp : led.Perm led') : Sx c frs led' s where
  keep := S.keep
  fr := S.fr
  ld := fun p h => S.ld p (hp.mem_iff.mpr h)
  nd := ((List.Perm.append_left _ (hp.map _)).nodup_iff).mp S.nd
  new := fun a h => S.new a (((List.Perm.append_left _ (hp.map _)).mem_iff).mpr h)
  tab := S.tab
  tb := let ⟨k, T⟩ := S.tb; ⟨k, T.tab, fun x e h => T.own x e (((List.Perm.append_left _ (hp.map _)).mem_iff).mpr h), T.code, T.src, T.pin⟩
  gens := S.gens
  dr := S.dr
  os := S.os
  ne := S.ne
theorem Wc_perm {led' : Led} {t : Code} {Q : Flow → Frs → Led → Prop} (hp : led.Perm led') (h : Wc c A t frs led' Q) : Wc c A t frs led Q := fun s S => h s (S.permL hp)
theorem perm3 {a b d : Addr × Obj} {r : Led} : (a :: b :: d :: r).Perm (d :: a :: b :: r) := ((List.Perm.swap d b r).cons a).trans (List.Perm.swap d a _)
theorem W_prep {n : Nat} {x : Str} {p p1 p2 pos : Pos} {a1 a2 : Expr} {rest : List Stmt} {Q : Flow → Frs → Led → Prop} (hA : AOk (n + 1) A) (T : Tops c.base) (hkc : c.kc = none)
    (hx : ∀ Q', Q' (.ref 82) frs led → W c A (eval (.Name "prepare_parent" p1) env) frs led Q')
    (ha : ∀ Q' : List Value → Frs → Led → Prop, Q' [.none, .none] frs led → W c A (spliced (backTo p2 (starEach [a1, a2] env))) frs led Q')
    (he : starEach [a1, a2] env = (false, eval a1 env) :: starEach [a2] env)
    (hs : swapsWith (.Call (.Name "prepare_parent" p1) [a1, a2] [] p2) (some (.Name x p)) pos.line env = pure false)
    (h : ∀ k F oF pm, oF.data = .func (fnX "select" selQ (fnA selSt) (fnB selSt) (fnS selSt) [] .none .none .none pm none (.ref k) .none) →
      W (c.pin k) A (storeName env x (.ref F)) frs ((F, oF) :: led) (fun _ f l => W (c.pin k) A (execs rest env) f l Q)) :
    W c A (execs (.Assign [.Name x p] (.Call (.Name "prepare_parent" p1) [a1, a2] [] p2) pos :: rest) env) frs led Q := fun s S => by
  refine wpAny_execs_cons (wpAny_Assign_Name (wpAny_Call_NameR ((hx (fun v f l => v = .ref 82 ∧ f = frs ∧ l = led) ⟨rfl, rfl, rfl⟩).out S fun v s₁ f l S₁ e => ?_)) hs)
  refine exE0_3 e fun hrf0 hrf1 hrf2 => ?_; subst hrf0; subst hrf1; subst hrf2
  obtain ⟨o, name, doc, pm, an, ct, oc, vs, t, e1, d, _⟩ := T.prep
  refine callWith_function (o := o) (fd := fnX name "prepare_parent" (fnA (stAt 23)) (fnB (stAt 23)) (fnS (stAt 23)) [] .none .none doc pm an (.ref 81) ct) ?_
  have ha' := ha (fun vs f' l' => vs = [.none, .none] ∧ f' = f ∧ l' = l) ⟨rfl, rfl, rfl⟩
  rw [he] at ha' ⊢
  refine evalArgs_plain (ha'.out S₁ fun vs' s₂ f' l' S₂ e => ?_)
  refine exE0_3 e fun hrf0 hrf1 hrf2 => ?_; subst hrf0; subst hrf1; subst hrf2
  refine ⟨⟨S₂.keep _ _ (by decide) e1, d⟩, ?_⟩
  refine wpAny_mono (raw_prep hA T hkc S₂) (fun v s₃ z => ?_) fun _ _ x => x.elim
  obtain ⟨k, F, oF, rfl, S₃, pm', hd⟩ := z
  refine (h k F oF pm' hd).out S₃ fun _ s₄ f l S₄ q => ?_
  exact wpAny_mono (q s₄ S₄) (fun fl s₅ ⟨f, l, S₅, q⟩ => ⟨f, l, S₅.unpin hkc, q⟩) fun _ _ x => x
theorem W_listOfDictS {K : Type} [DecidableEq K] {knd : KeyKind pw c.w K} {kvs : List (K × Value)} {ep : Nat} {o : Obj} {a : Addr} {Q : Value → Frs → Led → Prop} (hh : A.handled = none) (hs : (a == sysModules) = false) (hl : At c led a o) (d : DOb knd kvs ep o) (hz : kvs.length ≤ sizeLine)
    (h : ∀ D n (vs : List Value), vs.length = kvs.length → (∀ (j : Nat) (v : Value), vs[j]? = some v → ∃ k x, kvs[j]? = some (k, x) ∧ knd.is k v = true) → Q (.ref D) frs ((D, seqObj "list" vs.toArray n) :: led)) : W c A (call (.type "list") [.ref a]) frs led Q := fun s S =>
  kdl_call (kdl_dict hs) hh (d.at S hl) hz fun h' tk acc' c' hk hD hacc => ⟨_, _, S.push (tk := tk) (o := seqObj "list" acc'.toList.toArray c') (Ka.of hk) (by simpa using hD) (Nat.le_refl _),
    h _ c' acc'.toList (by rw [Array.length_toList]; exact hacc.1) fun j v e => hacc.2 j v (by rw [← Array.getElem?_toList]; exact e)⟩
end
section
variable {c : Cx} {A : Around} {frs : Frs} {led : Led}
theorem c_led {n : Nat} {a : Addr} {o : Obj} {ep : Nat} {kvs : List (Str × Value)} {d : TD} {Q : Value → Frs → Led → Prop} (hA : AOk (n + 12) A) (T : Tops c.base) (hkc : c.kc = none)
    (hl : At c led a o) (hsys : (a == sysModules) = false) (hd : DOb (PySem.strKind pw c.w) kvs ep o) (hkv : KV kvs d) (hn : d.length ≤ 100)
    (h : ∀ a vs n, StrsAre vs ((ledR d 4).map tx) → Q (.ref a) frs ((a, seqObj "list" vs.toArray n) :: led)) : W c A (call (.ref 146) [.ref a]) frs led Q := by
  with_reducible refine' W_fnK (m := [("pointed", .ref a)]) hA T T.led ?z1 ?z2 ?z3 ?z4 ?z5 ?z6 ?z7 ?z8 ?z9 ?_
  case z1 => decide
  case z2 => decide
  case z3 => (intros; rfl)
  case z4 => walk_at "loc"
  case z5 => rfl
  case z6 => rfl
  case z7 => rfl
  case z8 => rfl
  case z9 => walk_at "env1"
  intro c' L hkc' hw T' hk hat
  with_reducible refine' W_hide fun R hR => ?_
  have hA' : AOk (n + 11) (A.deeper (envX (Str.ofString "_law_led") (fnS (stAt 32)) L 146 (.ref 145) [])) := hA.deeper
  with_reducible refine' exE0_2 (hat _ _ hl) fun hb hne => ?_
  have hkl := hkv.len
  rw [← hw] at hd
  have hkc0 : c'.kc = none := hkc'.trans hkc
  walk_at "start"
  walk_at "go"
  with_reducible refine' W_callCls T' ?_ ?z1 ?z2
  case z1 => rfl
  case z2 => rfl
  walk_at "go"
  with_reducible refine' W_makeCtx hA' T' fun x dx t => ?_
  walk_at "go"
  refine W_setAttr (led' := fun o' => [(x, instObj 99 dx), (dx, o')]) T' (by walk_at "at") (fun o' => by walk_at "up") (.inr rfl) rfl (fun t => ⟨_, _, rfl, Nat.le_of_ble_eq_true rfl⟩) fun t2 => ?_
  have hod : lookIn "parent_map" (putN c'.w.params "parent_map" t2 (.ref a) (ctxD c'.w.params t)) = some (some (.ref a)) := rfl
  generalize putN c'.w.params "parent_map" t2 (.ref a) (ctxD c'.w.params t) = od at hod ⊢
  with_reducible refine' Then_next (W_prep hA' T' hkc0 ?_ ?_ rfl rfl fun k F oF pm hoF => ?_)
  · intro Q' hq
    walk_at "go"
    exact hq
  · intro Q' hq
    walk_at "go"
    exact hq
  have T2 : Tops (c'.pin k).base := T'
  have hb2 : (c'.pin k).base.get? a = some o := hb
  have hd2 : DOb (PySem.strKind pw (c'.pin k).w) kvs ep o := hd
  walk_at "go"
  with_reducible refine' W_listOfDictS hA'.handled hsys ?z1 hd2 ?z2 fun R0 n0 vs0 hvl hvk => ?_
  case z1 => exact (.base hb2 hne)
  case z2 => (rw [sizeLine_eq]; exact om229 hn hkl)
  have hvs0 := strs_of_keys hkv hvl hvk
  walk_at "go"
  with_reducible refine' W_iterRangeN (n := 4) ?z1 ?z2 fun I x0 l0 hx0 hl0 => ?_
  case z1 => exact (.led (.head _))
  case z2 => decide
  with_reducible refine' Wc_perm perm3 ?_
  with_reducible refine' Wc_forInd 4 (fun i f l => ∃ (x1 left : Int) (R : Addr) (vs : List Value) (n2 : Nat), x1 = i ∧ left = (4 : Nat) - (i : Int) ∧ Wk [(L, [("pointed", .ref a), ("context", .ref x), ("select", .ref F), ("row", .ref R)])] [(R, seqObj "list" vs.toArray n2), (I, rangeIt x1 left 1), (F, oF), (x, instObj 99 dx), (dx, od)] f l ∧ StrsAre vs ((ledR d i).map tx)) ?h0 ?_ ?_
  case h0 =>
    refine' exI5 x0 l0 R0 vs0 _ ⟨hx0, hl0, ?w, hvs0⟩
    case w => walk_at "wk"
  · intro i hi f l hI
    first | with_reducible refine' W_hideT fun J K hJ hK => ?_ | with_reducible refine' W_hideC fun J K hJ hK => ?_ | with_reducible refine' W_hideO fun J K hJ hK => ?_
    with_reducible refine' exE5_4 hI fun x1 left R vs n2 hx1 hleft hwk hvs => ?_
    clear hI
    with_reducible refine' W_wk hwk ?_
    have hvl := hvs.length
    rw [List.length_map] at hvl
    have hrl := ledR_len d i
    with_reducible refine' W_nextRangeN ?z1 hx1 hleft hi fun ti x' left' hx' hl' => ?_
    case z1 => intro o'; walk_at "up"
    with_reducible refine' TurnIn_some (W_letGo (W_assignName ?_))
    walk_at "m"
    with_reducible refine' W_cons (W_Assign_Name (W_listCall (F := F) (oF := oF) ?_ ?_ hoF rfl rfl rfl ?_) rfl)
    · intro Q' hq
      walk_at "go"
      exact hq
    · intro Q' hq
      walk_at "go"
      exact hq
    walk_at "go"
    with_reducible refine' W_addLists (vs := [_]) (ws := vs) ?z1 (ListO.of _ _) ?z2 (ListO.of _ _) ?z3 fun D1 => ?_
    case z1 => exact (.led (by walk_at "mem"))
    case z2 => exact (.led (by walk_at "mem"))
    case z3 => (rw [List.length_singleton, sizeLine_eq]; exact om230 hn hi hvl hrl)
    walk_at "go"
    rename_i tkx2 X1
    have hks : StrsAre ([Value.str (Str.ofString "x") tkx2] ++ vs) (([120] :: ledR d i).map tx) := .cons _ _ hvs
    refine ⟨.led (by walk_at "mem"), fun s S => ?_⟩
    refine raw_listGen (c := c'.pin k) (m := [("context", .ref x), ("result", .ref D1)]) (N := (selL d ([120] :: ledR d i)).length) (PV := selPV d ([120] :: ledR d i)) (n := n) (k := k) (oF := oF) (hA'.le (by exact om231)) T2.n rfl (.led (by walk_at "mem")) hoF rfl ?_ rfl rfl rfl (fun _ => rfl) ?_ ?_ ?_ ?_ s S
    · walk_at "loc"
    · walk_at "env1"
    · have := selL_len d ([120] :: ledR d i)
      rw [List.length_cons] at this
      rw [sizeLine_eq]; exact om232 hn hi hrl this
    · intro c3 L3 I3 S3 oI hw3 _ hk3 hat3 A3 hA3
      have T3 : Tops c3.base := T2.kp hk3
      with_reducible refine' exE0_2 ?z1 fun q1 q2 => ?_
      case z1 => exact (hat3 _ _ (.led (show (x, instObj 99 dx) ∈ _ by walk_at "mem")))
      with_reducible refine' exE0_2 ?z1 fun q3 q4 => ?_
      case z1 => exact (hat3 _ _ (.led (show (dx, od) ∈ _ by walk_at "mem")))
      with_reducible refine' exE0_2 (hat3 _ _ (.base hb2 hne)) fun q5 q6 => ?_
      with_reducible refine' exE0_2 ?z1 fun q7 q8 => ?_
      case z1 => exact (hat3 _ _ (.led (show (D1, seqObj "list" ([Value.str (Str.ofString "x") tkx2] ++ vs).toArray 0) ∈ _ by walk_at "mem")))
      exact sel_gz (n := n) hA3 T3 q1 q2 q3 q4 hod q5 q6 hsys (by rw [hw3]; exact hd2) hkv q7 q8 hks (by rw [List.length_cons]; exact om233 hn hi hrl)
    · intro S4 items n4 hit
      have hst := strs_of_items hit
      walk_at "go"
      refine' hJ _ _ (exI5 x' left' S4 (items.toList) _ ⟨hx', hl', ?w, hst⟩)
      case w => walk_at "wk"
  · intro f l hI
    with_reducible refine' exE5_4 hI fun x1 left R vs n2 hx1 hleft hwk hvs => ?_
    clear hI
    with_reducible refine' W_wk hwk ?_
    with_reducible refine' W_endRangeN hA'.handled ?z1 ?z2 hleft ⟨rfl, ?_⟩
    case z1 => walk_at "rm"
    case z2 => walk_at "mem"
    walk_at "go"
    exact hR _ _ _ ⟨_, [(R, seqObj "list" vs.toArray n2)], .inl rfl, by walk_at "sl", h _ _ _ hvs⟩
end
end
section
/-! the plain law: what the letter is read as -/
theorem hexd_rg (n : Nat) (h : n < 16) : 48 ≤ hexd (n : Int) ∧ hexd (n : Int) ≤ 70 := by
  unfold hexd
  split <;> omega
theorem figL_rg (o : Nat) (h : o < 256) : ∀ c ∈ figL o, 48 ≤ c ∧ c ≤ 70 := by
  intro c hc
  unfold figL at hc
  simp only [List.mem_cons, List.not_mem_nil, or_false] at hc
  rcases hc with rfl | rfl
  · exact hexd_rg _ (by exact om10 h)
  · exact hexd_rg _ (by exact om11)
theorem hexd_inj {a b : Nat} (ha : a < 16) (hb : b < 16) (h : hexd (a : Int) = hexd (b : Int)) : a = b := by
  unfold hexd at h
  split at h <;> split at h <;> omega
theorem figL_inj {a b : Nat} (ha : a < 256) (hb : b < 256) (h : figL a = figL b) : a = b := by
  unfold figL at h
  injection h with h1 h2
  injection h2 with h2 _
  have e1 := hexd_inj (by exact om10 ha) (by exact om10 hb) h1
  have e2 := hexd_inj (by exact om11) (by exact om11) h2
  exact om265 e1 e2
theorem hrun_append (st : HS) (a b : List Nat) : hrun st (a ++ b) = hrun (hrun st a) b := by unfold hrun; rw [List.foldl_append]
theorem hp_plain (res : List Str) : ∀ (a p : List Nat), (∀ c ∈ a, c ≠ 44 ∧ c ≠ 34) → hrun ⟨res, tx p, false, false⟩ a = ⟨res, tx (p ++ a), false, false⟩
  | [], p, _ => by rw [List.append_nil]; rfl
  | x :: r, p, h => by
    obtain ⟨h1, h2⟩ := h x List.mem_cons_self
    have e : hstep ⟨res, tx p, false, false⟩ x = ⟨res, tx (p ++ [x]), false, false⟩ := by
      unfold hstep
      rw [if_neg Bool.false_ne_true, if_neg Bool.false_ne_true, if_neg (by simpa using h1)]
      rw [show one x = tx [x] from rfl, tx_cat]
      have : (x == 34) = false := by simpa using h2
      rw [this]
    show hrun (hstep _ x) r = _
    rw [e, hp_plain res r _ fun c hc => h c (List.mem_cons_of_mem _ hc), List.append_assoc]
    rfl
theorem hp_q (res : List Str) : ∀ (a p : List Nat), (∀ c ∈ a, c ≠ 92 ∧ c ≠ 34) → hrun ⟨res, tx p, false, true⟩ a = ⟨res, tx (p ++ a), false, true⟩
  | [], p, _ => by rw [List.append_nil]; rfl
  | x :: r, p, h => by
    obtain ⟨h1, h2⟩ := h x List.mem_cons_self
    have e : hstep ⟨res, tx p, false, true⟩ x = ⟨res, tx (p ++ [x]), false, true⟩ := by
      unfold hstep
      rw [if_neg Bool.false_ne_true, if_pos rfl, if_neg (by simpa using h1)]
      rw [show one x = tx [x] from rfl, tx_cat]
      have : (x == 34) = false := by simpa using h2
      rw [this]
      rfl
    show hrun (hstep _ x) r = _
    rw [e, hp_q res r _ fun c hc => h c (List.mem_cons_of_mem _ hc), List.append_assoc]
    rfl
theorem hp_open (res : List Str) (p : List Nat) : hrun ⟨res, tx p, false, false⟩ [34] = ⟨res, tx (p ++ [34]), false, true⟩ := by
  show (⟨res, tx p ++ one 34, false, true⟩ : HS) = _
  rw [show one 34 = tx [34] from rfl, tx_cat]
theorem hp_close (res : List Str) (p : List Nat) : hrun ⟨res, tx p, false, true⟩ [34] = ⟨res, tx (p ++ [34]), false, false⟩ := by
  show (⟨res, tx p ++ one 34, false, false⟩ : HS) = _
  rw [show one 34 = tx [34] from rfl, tx_cat]
theorem hp_esc (res : List Str) (p : List Nat) (x : Nat) : hrun ⟨res, tx p, false, true⟩ [92, x] = ⟨res, tx (p ++ [x]), false, true⟩ := by
  show (⟨res, tx p ++ one x, false, true⟩ : HS) = _
  rw [show one x = tx [x] from rfl, tx_cat]
theorem hp_comma (res : List Str) (p : List Nat) : hrun ⟨res, tx p, false, false⟩ [44] = ⟨res ++ [tx p], tx [], false, false⟩ := rfl
theorem hp_commaQ (res : List Str) (p : List Nat) (b : Bool) : hrun ⟨res, tx p, false, true⟩ (commaL b) = ⟨res, tx (p ++ [44, 32]), false, true⟩ := by
  cases b with
  | true =>
    rw [show commaL true = [92, 44] ++ [32] from rfl, hrun_append, hp_esc, hp_q _ _ _ (by simp), List.append_assoc]
    rfl
  | false => exact hp_q _ _ _ (by simp [commaL])
/-- what stands between the marks -/
def innerP (w : List Nat) : List Nat := (61 :: figL (w.getD 3 0)) ++ ([44, 32] ++ ((61 :: figL (w.getD 2 0)) ++ ([44, 32] ++ ((61 :: figL (w.getD 1 0)) ++ ([44, 32] ++ (61 :: 34 :: (figL (w.getD 0 0) ++ [34])))))))
def itemP (o : Nat) (w : List Nat) : List Nat := figL o ++ ([61, 34] ++ (innerP w ++ [34]))
theorem inner_eq (w : List Nat) : List.intercalate [44, 32] (toldL w) = innerP w := by
  unfold toldL innerP
  simp [List.intercalate]
theorem toldQ_eq (w : List Nat) (hw : w.length = 4) (b : Bool) : List.intercalate (commaL b) (toldQ w.reverse) =
    (61 :: figL (w.getD 3 0)) ++ (commaL b ++ ((61 :: figL (w.getD 2 0)) ++ (commaL b ++ ((61 :: figL (w.getD 1 0)) ++ (commaL b ++ ([61] ++ ([92, 34] ++ (figL (w.getD 0 0) ++ [92, 34])))))))) := by
  match w, hw with
  | [a, b', c, d], _ =>
    simp [toldQ, List.intercalate]
theorem fig_q {o : Nat} (h : o < 256) : ∀ c ∈ (61 :: figL o), c ≠ 92 ∧ c ≠ 34 := by
  intro c hc
  rcases List.mem_cons.mp hc with rfl | hc
  · exact ⟨by decide, by decide⟩
  · have := figL_rg o h c hc
    exact om266 this
theorem fig_p {o : Nat} (h : o < 256) : ∀ c ∈ figL o, c ≠ 44 ∧ c ≠ 34 := by
  intro c hc
  have := figL_rg o h c hc
  exact om267 this
theorem run_inner (res : List Str) (p w : List Nat) (b : Bool) (hw : w.length = 4) (hr : ∀ x ∈ w, x < 256) :
    hrun ⟨res, tx p, false, true⟩ (List.intercalate (commaL b) (toldQ w.reverse)) = ⟨res, tx (p ++ innerP w), false, true⟩ := by
  have g : ∀ j, j < 4 → w.getD j 0 < 256 := fun j hj => by
    rw [List.getD_eq_getElem?_getD, List.getElem?_eq_getElem (by exact om2 hw hj)]
    exact hr _ (List.getElem_mem _)
  rw [toldQ_eq w hw b]
  simp only [hrun_append]
  rw [hp_q _ _ _ (fig_q (g 3 (by decide))), hp_commaQ, hp_q _ _ _ (fig_q (g 2 (by decide))), hp_commaQ, hp_q _ _ _ (fig_q (g 1 (by decide))), hp_commaQ, hp_q _ [61] _ (by simp), hp_esc,
    hp_q _ _ _ (fun c hc => fig_q (g 0 (by decide)) c (List.mem_cons_of_mem _ hc)), hp_esc]
  congr 2
  unfold innerP
  simp
theorem run_item (res : List Str) (p w : List Nat) (o : Nat) (b : Bool) (ho : o < 256) (hw : w.length = 4) (hr : ∀ x ∈ w, x < 256) :
    hrun ⟨res, tx p, false, false⟩ (figL o ++ [61, 34] ++ List.intercalate (commaL b) (toldQ w.reverse) ++ [34]) = ⟨res, tx (p ++ itemP o w), false, false⟩ := by
  rw [show figL o ++ [61, 34] ++ List.intercalate (commaL b) (toldQ w.reverse) ++ [34] = figL o ++ ([61] ++ ([34] ++ (List.intercalate (commaL b) (toldQ w.reverse) ++ [34]))) by simp]
  simp only [hrun_append]
  rw [hp_plain _ _ _ (fig_p ho), hp_plain _ [61] _ (by simp), hp_open, run_inner _ _ _ _ hw hr, hp_close]
  congr 2
  unfold itemP
  simp
theorem notSpace (n : Nat) (h1 : 48 ≤ n) (h2 : n ≤ 70) : Unicode.isSpace n = false := by
  have h : ∀ k : Fin 71, 48 ≤ k.val → Unicode.isSpace k.val = false := by decide +kernel
  exact h ⟨n, by exact om268 h2⟩ h1
theorem strip_mid (a l : List Nat) (x y : Nat) (ha : a = [] ∨ a = [32]) (hx : l.head? = some x) (hy : l.getLast? = some y) (h1 : Unicode.isSpace x = false) (h2 : Unicode.isSpace y = false) : Txt.strip (tx (a ++ l)) = tx l := by
  have e := stripBy_tx Unicode.isSpace a l [] (by rcases ha with rfl | rfl <;> decide +kernel) rfl (by intro q; subst q; cases hx) (by intro z hz; rw [hx] at hz; cases hz; exact h1) (by intro z hz; rw [hy] at hz; cases hz; exact h2)
  rw [List.append_nil] at e
  exact e
theorem head_fig (o : Nat) (h : o < 256) (r : List Nat) : ∃ x, (figL o ++ r).head? = some x ∧ Unicode.isSpace x = false := by
  refine ⟨_, rfl, ?_⟩
  have := figL_rg o h (hexd ((o / 16 : Nat) : Int)) (by unfold figL; simp)
  exact notSpace _ this.1 this.2
theorem last_fig (o : Nat) (h : o < 256) (r : List Nat) : ∃ x, (r ++ figL o).getLast? = some x ∧ Unicode.isSpace x = false := by
  refine ⟨hexd ((o % 16 : Nat) : Int), by unfold figL; simp, ?_⟩
  have := figL_rg o h (hexd ((o % 16 : Nat) : Int)) (by unfold figL; simp)
  exact notSpace _ this.1 this.2
theorem strip_item (a : List Nat) (o : Nat) (w : List Nat) (ha : a = [] ∨ a = [32]) (ho : o < 256) : Txt.strip (tx (a ++ itemP o w)) = tx (itemP o w) := by
  obtain ⟨x, hx, h1⟩ := head_fig o ho ([61, 34] ++ (innerP w ++ [34]))
  exact strip_mid a (itemP o w) x 34 ha hx (by unfold itemP; rw [← List.append_assoc, ← List.append_assoc, List.getLast?_append]; rfl) h1 (by decide +kernel)
theorem itemL_run (res : List Str) (p : List Nat) (os tl : List Nat) (m : Nat → Bool) (k : Nat) (w : List Nat) (ht : (tl.drop (4 * k)).take 4 = w.reverse) (ho : os.getD k 0 < 256) (hw : w.length = 4) (hr : ∀ x ∈ w, x < 256) :
    hrun ⟨res, tx p, false, false⟩ (itemL os tl m k) = ⟨res, tx (p ++ itemP (os.getD k 0) w), false, false⟩ := by
  unfold itemL
  rw [ht]
  exact run_item res p w _ _ ho hw hr
/-- the letter is read as its items -/
theorem http_letter (os tl : List Nat) (m : Nat → Bool) (Ls : Nat → List Nat) (hos : ∀ k, k < 4 → os.getD k 0 < 256) (ht : ∀ k, k < 4 → (tl.drop (4 * k)).take 4 = (Ls k).reverse) (hw : ∀ k, k < 4 → (Ls k).length = 4) (hr : ∀ k, k < 4 → ∀ x ∈ Ls k, x < 256) :
    httpS (letterL os tl m) = ([0, 1, 2, 3, 0].map fun k => tx (itemP (os.getD k 0) (Ls k))) := by
  have e : letterL os tl m = itemL os tl m 0 ++ ([44] ++ ([32] ++ (itemL os tl m 1 ++ ([44] ++ ([32] ++ (itemL os tl m 2 ++ ([44] ++ ([32] ++ (itemL os tl m 3 ++ ([44] ++ ([32] ++ (itemL os tl m 0 ++ [44])))))))))))) := by
    unfold letterL
    simp [List.intercalate]
  have h0 := hos 0 (by decide)
  have h1 := hos 1 (by decide)
  have h2 := hos 2 (by decide)
  have h3 := hos 3 (by decide)
  unfold httpS
  rw [e]
  simp only [hrun_append]
  rw [show hinit = ⟨[], tx [], false, false⟩ from rfl,
    itemL_run _ _ os tl m 0 (Ls 0) (ht 0 (by decide)) h0 (hw 0 (by decide)) (hr 0 (by decide)), hp_comma, hp_plain _ [32] _ (by simp),
    itemL_run _ _ os tl m 1 (Ls 1) (ht 1 (by decide)) h1 (hw 1 (by decide)) (hr 1 (by decide)), hp_comma, hp_plain _ [32] _ (by simp),
    itemL_run _ _ os tl m 2 (Ls 2) (ht 2 (by decide)) h2 (hw 2 (by decide)) (hr 2 (by decide)), hp_comma, hp_plain _ [32] _ (by simp),
    itemL_run _ _ os tl m 3 (Ls 3) (ht 3 (by decide)) h3 (hw 3 (by decide)) (hr 3 (by decide)), hp_comma, hp_plain _ [32] _ (by simp),
    itemL_run _ _ os tl m 0 (Ls 0) (ht 0 (by decide)) h0 (hw 0 (by decide)) (hr 0 (by decide)), hp_comma]
  unfold hparts
  rw [if_pos (by rfl)]
  simp only [List.nil_append, List.cons_append, List.map_cons, List.map_nil]
  have s0 := strip_item [] _ (Ls 0) (.inl rfl) h0
  rw [List.nil_append] at s0
  rw [s0]
  have g : ∀ k, k < 4 → Txt.strip (tx (32 :: itemP (os.getD k 0) (Ls k))) = tx (itemP (os.getD k 0) (Ls k)) := fun k hk => strip_item [32] _ _ (.inr rfl) (hos k hk)
  rw [g 1 (by decide), g 2 (by decide), g 3 (by decide), g 0 (by decide)]
/-- a list is read as what was told -/
theorem http_inner (w : List Nat) (hw : w.length = 4) (hr : ∀ x ∈ w, x < 256) : httpS (innerP w) = (toldL w).map tx := by
  have g : ∀ j, j < 4 → w.getD j 0 < 256 := fun j hj => by
    rw [List.getD_eq_getElem?_getD, List.getElem?_eq_getElem (by exact om2 hw hj)]
    exact hr _ (List.getElem_mem _)
  have q : ∀ j, j < 4 → ∀ c ∈ (61 :: figL (w.getD j 0)), c ≠ 44 ∧ c ≠ 34 := fun j hj c hc => by
    rcases List.mem_cons.mp hc with rfl | hc
    · exact ⟨by decide, by decide⟩
    · exact fig_p (g j hj) c hc
  have e : innerP w = (61 :: figL (w.getD 3 0)) ++ ([44] ++ ([32] ++ ((61 :: figL (w.getD 2 0)) ++ ([44] ++ ([32] ++ ((61 :: figL (w.getD 1 0)) ++ ([44] ++ ([32] ++ ([61] ++ ([34] ++ (figL (w.getD 0 0) ++ [34]))))))))))) := by
    unfold innerP
    simp
  unfold httpS
  rw [e]
  simp only [hrun_append]
  rw [show hinit = ⟨[], tx [], false, false⟩ from rfl, hp_plain _ _ _ (q 3 (by decide)), hp_comma, hp_plain _ [32] _ (by simp), hp_plain _ _ _ (q 2 (by decide)), hp_comma, hp_plain _ [32] _ (by simp), hp_plain _ _ _ (q 1 (by decide)), hp_comma, hp_plain _ [32] _ (by simp),
    hp_plain _ [61] _ (by simp), hp_open, hp_q _ _ _ (fun c hc => fig_q (g 0 (by decide)) c (List.mem_cons_of_mem _ hc)), hp_close]
  unfold hparts
  rw [if_neg (by show ¬ (tx _).length = 0; rw [tx_len]; simp)]
  simp only [List.nil_append, List.cons_append, List.map_cons, List.map_nil]
  have s1 : ∀ (a : List Nat) (j : Nat), (a = [] ∨ a = [32]) → j < 4 → Txt.strip (tx (a ++ 61 :: figL (w.getD j 0))) = tx (61 :: figL (w.getD j 0)) := fun a j ha hj => by
    refine exE1_2 (last_fig _ (g j hj) [61]) fun y hy h2 => ?_
    exact strip_mid a _ 61 y ha rfl hy (by decide +kernel) h2
  have s2 : Txt.strip (tx (32 :: 61 :: 34 :: (figL (w.getD 0 0) ++ [34]))) = tx (61 :: 34 :: (figL (w.getD 0 0) ++ [34])) :=
    strip_mid [32] _ 61 34 (.inr rfl) rfl (by rw [show (61 :: 34 :: (figL (w.getD 0 0) ++ [34]) : List Nat) = (61 :: 34 :: figL (w.getD 0 0)) ++ [34] from rfl, List.getLast?_append]; rfl) (by decide +kernel) (by decide +kernel)
  unfold toldL
  simp only [List.map_cons, List.map_nil]
  rw [show tx (61 :: figL (w.getD 3 0)) = tx ([] ++ 61 :: figL (w.getD 3 0)) from rfl, s1 [] 3 (.inl rfl) (by decide)]
  have t2 := s1 [32] 2 (.inr rfl) (by decide)
  have t1 := s1 [32] 1 (.inr rfl) (by decide)
  simp only [List.cons_append, List.nil_append] at t1 t2
  rw [t2, t1]
  simp only [List.append_assoc, List.cons_append, List.nil_append]
  rw [s2]
end
section
/-! the plain law: wishes, rounds -/
theorem getD_cons_erase : ∀ (l : List Nat) (i : Nat), i < l.length → (l.getD i 0 :: l.eraseIdx i).Perm l
  | x :: r, 0, _ => List.Perm.refl _
  | x :: r, i + 1, h => by
    have ih := getD_cons_erase r i (by simpa using h)
    exact (List.Perm.swap x (r.getD i 0) (r.eraseIdx i)).trans (ih.cons x)
theorem wstep_perm (s : WS) (size : Nat) (h : s.left.length = size) (h0 : 0 < size) : ((wstep s size).acc ++ (wstep s size).left).Perm (s.acc ++ s.left) ∧ (wstep s size).left.length = size - 1 := by
  have hi : s.num % size < s.left.length := by rw [h]; exact Nat.mod_lt _ h0
  refine ⟨?_, ?_⟩
  · show (s.acc ++ [s.left.getD (s.num % size) 0] ++ s.left.eraseIdx (s.num % size)).Perm _
    rw [List.append_assoc]
    exact List.Perm.append_left _ (getD_cons_erase _ _ hi)
  · show (s.left.eraseIdx (s.num % size)).length = _
    rw [List.length_eraseIdx_of_lt hi, h]
theorem wishes_perm (os : List Nat) (num : Nat) (h : os.length = 4) : (wishesOf os num).Perm os := by
  have p1 := wstep_perm ⟨os, num, []⟩ 4 h (by decide)
  have p2 := wstep_perm _ 3 p1.2 (by decide)
  have p3 := wstep_perm _ 2 p2.2 (by decide)
  have p4 := wstep_perm _ 1 p3.2 (by decide)
  have e := p4.1.trans (p3.1.trans (p2.1.trans p1.1))
  rw [List.eq_nil_of_length_eq_zero p4.2, List.append_nil] at e
  exact e
theorem swap_rev (l : List Nat) (h : l.length = 16) (k : Nat) (hk : k < 4) : ((swapL l).drop (4 * k)).take 4 = ((l.drop (4 * k)).take 4).reverse := by
  refine list16 (G := fun l => ((swapL l).drop (4 * k)).take 4 = ((l.drop (4 * k)).take 4).reverse) h fun a0 a1 a2 a3 a4 a5 a6 a7 a8 a9 a10 a11 a12 a13 a14 a15 => ?_
  match k, hk with
  | 0, _ => kernel_rfl
  | 1, _ => kernel_rfl
  | 2, _ => kernel_rfl
  | 3, _ => kernel_rfl
/-! the first of each -/
def ddA (acc l : List Nat) : List Nat := l.foldl (fun a x => if x ∈ a then a else a ++ [x]) acc
def dd (l : List Nat) : List Nat := ddA [] l
theorem ddA_cons (acc : List Nat) (x : Nat) (r : List Nat) : ddA acc (x :: r) = ddA (if x ∈ acc then acc else acc ++ [x]) r := rfl
theorem ddA_app (acc a b : List Nat) : ddA acc (a ++ b) = ddA (ddA acc a) b := by unfold ddA; rw [List.foldl_append]
theorem mem_ddA (y : Nat) : ∀ (l acc : List Nat), y ∈ ddA acc l ↔ y ∈ acc ∨ y ∈ l
  | [], acc => by simp [ddA]
  | x :: r, acc => by
    rw [ddA_cons, mem_ddA y r]
    split
    · rename_i hx
      constructor
      · rintro (h | h)
        · exact .inl h
        · exact .inr (List.mem_cons_of_mem _ h)
      · rintro (h | h)
        · exact .inl h
        · rcases List.mem_cons.mp h with rfl | h
          · exact .inl hx
          · exact .inr h
    · rw [List.mem_append, List.mem_singleton, List.mem_cons, or_assoc]
theorem mem_dd {y : Nat} {l : List Nat} : y ∈ dd l ↔ y ∈ l := by
  unfold dd
  rw [mem_ddA]
  simp
theorem nodup_ddA : ∀ (l acc : List Nat), acc.Nodup → (ddA acc l).Nodup
  | [], acc, h => h
  | x :: r, acc, h => by
    rw [ddA_cons]
    refine nodup_ddA r _ ?_
    split
    · exact h
    · rename_i hx
      rw [List.nodup_append]
      refine ⟨h, by simp, ?_⟩
      intro a ha b hb e
      rw [List.mem_singleton] at hb
      subst e hb
      exact hx ha
theorem nodup_dd (l : List Nat) : (dd l).Nodup := nodup_ddA l [] List.nodup_nil
theorem ddA_nodup : ∀ (l acc : List Nat), (acc ++ l).Nodup → ddA acc l = acc ++ l
  | [], acc, _ => by simp [ddA]
  | x :: r, acc, h => by
    rw [ddA_cons, if_neg, ddA_nodup r (acc ++ [x]) (by rw [List.append_assoc]; exact h), List.append_assoc]
    · rfl
    · intro hx
      rw [List.nodup_append] at h
      exact h.2.2 x hx x (by simp) rfl
theorem dd_nodup {l : List Nat} (h : l.Nodup) : dd l = l := ddA_nodup l [] h
theorem dd_map_ddA (f : Nat → Nat) : ∀ (l acc : List Nat), dd ((ddA acc l).map f) = ddA (dd (acc.map f)) (l.map f)
  | [], acc => rfl
  | x :: r, acc => by
    rw [ddA_cons, dd_map_ddA f r, List.map_cons, ddA_cons]
    congr 1
    split
    · rename_i hx
      rw [if_pos (mem_dd.mpr (List.mem_map_of_mem hx))]
    · rename_i hx
      rw [List.map_append]
      show ddA [] (acc.map f ++ [f x]) = _
      rw [ddA_app]
      rfl
theorem dd_map_dd (f : Nat → Nat) (l : List Nat) : dd ((dd l).map f) = dd (l.map f) := dd_map_ddA f l []
/-! the dearest that is left -/
def best (w left : List Nat) : Nat := (w.find? fun x => decide (x ∈ left)).getD 0
theorem best_spec (left : List Nat) : ∀ (w : List Nat), (∃ x ∈ w, x ∈ left) → best w left ∈ left ∧ best w left ∈ w ∧ ∀ x ∈ w, x ∈ left → w.idxOf (best w left) ≤ w.idxOf x
  | [], h => by refine exE1_2 h fun x hx _ => ?_; cases hx
  | y :: r, h => by
    by_cases hy : y ∈ left
    · have e : best (y :: r) left = y := by unfold best; rw [List.find?_cons]; simp [hy]
      rw [e]
      refine ⟨hy, List.mem_cons_self, fun x _ _ => ?_⟩
      rw [List.idxOf_cons_self]
      exact Nat.zero_le _
    · have e : best (y :: r) left = best r left := by unfold best; rw [List.find?_cons]; simp [hy]
      refine exE1_2 h fun x hx hxl => ?_
      have hxr : x ∈ r := by
        rcases List.mem_cons.mp hx with rfl | hx
        · exact absurd hxl hy
        · exact hx
      refine exE0_3 (best_spec left r ⟨x, hxr, hxl⟩) fun b1 b2 b3 => ?_
      rw [e]
      refine ⟨b1, List.mem_cons_of_mem _ b2, fun z hz hzl => ?_⟩
      have hzy : z ≠ y := fun q => hy (q ▸ hzl)
      have hby : best r left ≠ y := fun q => hy (q ▸ b1)
      have hzr : z ∈ r := by
        rcases List.mem_cons.mp hz with rfl | hz
        · exact absurd rfl hzy
        · exact hz
      rw [List.idxOf_cons, List.idxOf_cons, beq_eq_false_iff_ne.mpr (Ne.symm hby), beq_eq_false_iff_ne.mpr (Ne.symm hzy)]
      exact Nat.succ_le_succ (b3 z hzr hzl)
/-! rounds -/
def it (f : Nat → Nat) : Nat → Nat → Nat
  | 0, o => o
  | n + 1, o => f (it f n o)
def nx (W : Nat → List Nat) (left : List Nat) (o : Nat) : Nat := best (W o) left
def row (W : Nat → List Nat) (left : List Nat) : List Nat := dd (left.map (it (nx W left) 4))
def leftR (W : Nat → List Nat) (os : List Nat) : Nat → List Nat
  | 0 => os
  | n + 1 => (leftR W os n).filter fun o => decide (o ∉ row W (leftR W os n))
def deedR (W : Nat → List Nat) (os : List Nat) : Nat → List (Nat × Nat)
  | 0 => []
  | n + 1 => deedR W os n ++ (row W (leftR W os n)).map fun o => (o, nx W (leftR W os n) o)
structure Wok (W : Nat → List Nat) (os : List Nat) : Prop where
  nd : os.Nodup
  rg : ∀ o ∈ os, o < 256
  perm : ∀ o ∈ os, (W o).Perm os
  len : os.length = 4
section
variable {W : Nat → List Nat} {os : List Nat}
theorem leftR_sub (n : Nat) : (leftR W os n).Sublist os := by
  induction n with
  | zero => exact List.Sublist.refl _
  | succ n ih => exact List.filter_sublist.trans ih
theorem leftR_mono : ∀ (m n : Nat), (leftR W os (n + m)).Sublist (leftR W os n)
  | 0, n => List.Sublist.refl _
  | m + 1, n => List.filter_sublist.trans (leftR_mono m n)
theorem nx_spec (H : Wok W os) {left : List Nat} (hl : left.Sublist os) {o : Nat} (ho : o ∈ left) :
    nx W left o ∈ left ∧ nx W left o ∈ W o ∧ ∀ x ∈ os, x ∈ left → (W o).idxOf (nx W left o) ≤ (W o).idxOf x := by
  have hp := H.perm o (hl.subset ho)
  refine exE0_3 (best_spec left (W o) ⟨o, hp.mem_iff.mpr (hl.subset ho), ho⟩) fun a b d => ?_
  exact ⟨a, b, fun x hx hxl => d x (hp.mem_iff.mpr hx) hxl⟩
theorem it_mem (H : Wok W os) {left : List Nat} (hl : left.Sublist os) {o : Nat} (ho : o ∈ left) : ∀ n, it (nx W left) n o ∈ left
  | 0 => ho
  | n + 1 => (nx_spec H hl (it_mem H hl ho n)).1
theorem it_comm (f : Nat → Nat) : ∀ n o, it f n (f o) = f (it f n o)
  | 0, o => rfl
  | n + 1, o => by show f (it f n (f o)) = f (f (it f n o)); rw [it_comm f n o]
theorem row_sub (H : Wok W os) {left : List Nat} (hl : left.Sublist os) {o : Nat} (ho : o ∈ row W left) : o ∈ left := by
  obtain ⟨p, hp, rfl⟩ := List.mem_map.mp (mem_dd.mp ho)
  exact it_mem H hl hp 4
theorem row_nx (H : Wok W os) {left : List Nat} (hl : left.Sublist os) {o : Nat} (ho : o ∈ row W left) : nx W left o ∈ row W left := by
  obtain ⟨p, hp, rfl⟩ := List.mem_map.mp (mem_dd.mp ho)
  refine mem_dd.mpr (List.mem_map.mpr ⟨nx W left p, (nx_spec H hl hp).1, ?_⟩)
  exact it_comm _ 4 p
theorem row_ne {left : List Nat} (h : left ≠ []) : row W left ≠ [] := by
  cases left with
  | nil => exact absurd rfl h
  | cons o r =>
    intro e
    have : it (nx W (o :: r)) 4 o ∈ row W (o :: r) := mem_dd.mpr (List.mem_map_of_mem List.mem_cons_self)
    rw [e] at this
    cases this
theorem leftR_lt (H : Wok W os) (n : Nat) (h : leftR W os n ≠ []) : (leftR W os (n + 1)).length < (leftR W os n).length := by
  cases hr : row W (leftR W os n) with
  | nil => exact absurd hr (row_ne h)
  | cons x r =>
    have hx : x ∈ row W (leftR W os n) := by rw [hr]; exact List.mem_cons_self
    have hxl := row_sub H (leftR_sub n) hx
    show ((leftR W os n).filter _).length < _
    refine Nat.lt_of_le_of_ne (List.length_filter_le _ _) fun e => ?_
    have := List.length_filter_eq_length_iff.mp e x hxl
    simp [hx] at this
theorem leftR_four (H : Wok W os) : leftR W os 4 = [] := by
  have step : ∀ n, (leftR W os (n + 1)).length ≤ (leftR W os n).length - 1 := fun n => by
    by_cases h : leftR W os n = []
    · have : (leftR W os (n + 1)).length ≤ (leftR W os n).length := (leftR_mono 1 n).length_le
      rw [h] at this ⊢
      exact this
    · have := leftR_lt H n h
      exact om269 this
  have h0 : (leftR W os 0).length = 4 := H.len
  have h1 : (leftR W os 1).length ≤ (leftR W os 0).length - 1 := step 0
  have h2 : (leftR W os 2).length ≤ (leftR W os 1).length - 1 := step 1
  have h3 : (leftR W os 3).length ≤ (leftR W os 2).length - 1 := step 2
  have h4 : (leftR W os 4).length ≤ (leftR W os 3).length - 1 := step 3
  exact List.eq_nil_of_length_eq_zero (by exact om270 h0 h1 h2 h3 h4)
theorem deeds_perm (H : Wok W os) : ∀ n, ((deedR W os n).map (·.1) ++ leftR W os n).Perm os
  | 0 => List.Perm.refl _
  | n + 1 => by
    have ih := deeds_perm H n
    refine List.Perm.trans ?_ ih
    show ((deedR W os n ++ (row W (leftR W os n)).map fun o => (o, nx W (leftR W os n) o)).map (·.1) ++ leftR W os (n + 1)).Perm _
    rw [List.map_append, List.map_map, List.append_assoc]
    refine List.Perm.append_left _ ?_
    have e : (row W (leftR W os n)).map ((·.1) ∘ fun o => (o, nx W (leftR W os n) o)) = row W (leftR W os n) := by
      rw [show ((·.1) ∘ fun o => (o, nx W (leftR W os n) o)) = (id : Nat → Nat) from rfl, List.map_id]
    rw [e]
    have hnd : (leftR W os n).Nodup := H.nd.sublist (leftR_sub n)
    have p1 : (row W (leftR W os n)).Perm ((leftR W os n).filter fun o => decide (o ∈ row W (leftR W os n))) := by
      refine (List.perm_ext_iff_of_nodup (nodup_dd _) (hnd.sublist List.filter_sublist)).mpr fun x => ?_
      rw [List.mem_filter, decide_eq_true_iff]
      exact ⟨fun h => ⟨row_sub H (leftR_sub n) h, h⟩, fun h => h.2⟩
    refine (List.Perm.append_right _ p1).trans ?_
    have := List.filter_append_perm (fun o => decide (o ∈ row W (leftR W os n))) (leftR W os n)
    refine List.Perm.trans (List.Perm.append_left _ ?_) this
    refine List.Perm.of_eq ?_
    show (leftR W os n).filter _ = _
    refine List.filter_congr fun x _ => ?_
    simp
end
end
section
/-! the plain law: the book, the table, who is led where -/
def toldE (w : List Nat) : List (Nat × Bool) := [(w.getD 3 0, false), (w.getD 2 0, false), (w.getD 1 0, false), (w.getD 0 0, true)]
def valE (e : Nat × Bool) : List Nat := if e.2 = true then 34 :: (figL e.1 ++ [34]) else figL e.1
theorem toldL_eq (w : List Nat) : toldL w = (toldE w).map fun e => 61 :: valE e := rfl
def bookE (W : Nat → List Nat) (left : List Nat) : List (Nat × (Nat × Bool)) := left.flatMap fun o => ((toldE (W o)).filter fun e => decide (e.1 ∈ left)).map fun e => (o, e)
def lineE (x : Nat × (Nat × Bool)) : List Nat × List Nat := (figL x.1, valE x.2)
def dOf (W : Nat → List Nat) (left : List Nat) : TD := left.map fun o => (figL o, figL (nx W left o))
def itemE (W : Nat → List Nat) (o : Nat) : List Nat × List Nat := (figL o, 34 :: (innerP (W o) ++ [34]))
theorem unq_marks (l : List Nat) : unq (34 :: (l ++ [34])) = l := by
  unfold unq
  have e1 : (34 :: (l ++ [34])).head? = some 34 := rfl
  have e2 : (34 :: (l ++ [34])).getLast? = some 34 := by
    rw [show (34 :: (l ++ [34]) : List Nat) = (34 :: l) ++ [34] from rfl, List.getLast?_append]; rfl
  rw [e1, e2, if_pos (by decide)]
  simp
theorem unq_fig (o : Nat) (h : o < 256) : unq (figL o) = figL o := by
  have h1 := figL_rg o h (hexd ((o / 16 : Nat) : Int)) (by unfold figL; simp)
  unfold unq
  rw [if_neg]
  intro q
  have q1 := (Bool.and_eq_true_iff.mp q).1
  have e : (figL o).head? = some (hexd ((o / 16 : Nat) : Int)) := rfl
  rw [e] at q1
  have q2 := Option.some.inj (eq_of_beq q1)
  exact om271 h1 q2
theorem kput_new {d : TD} {k v : List Nat} (h : k ∉ d.map (·.1)) : kput d k v = d ++ [(k, v)] := by
  unfold kput
  rw [if_neg]
  intro q
  rw [List.any_eq_true] at q
  obtain ⟨e, he, hq⟩ := q
  exact h (List.mem_map.mpr ⟨e, he, of_decide_eq_true hq⟩)
theorem kput_same {d : TD} {k u v : List Nat} (h : k ∉ d.map (·.1)) : kput (d ++ [(k, u)]) k v = d ++ [(k, v)] := by
  unfold kput
  rw [if_pos (by simp), List.map_append]
  congr 1
  · have : ∀ e ∈ d, (if e.1 = k then (e.1, v) else e) = e := fun e he => if_neg fun q => h (List.mem_map.mpr ⟨e, he, q⟩)
    rw [List.map_congr_left this, List.map_id']
  · simp
theorem kblock (k v : List Nat) : ∀ (pre : List (List Nat × List Nat)) (d : TD), (∀ e ∈ pre, e.1 = k) → k ∉ d.map (·.1) → (pre ++ [(k, v)]).foldl (fun d e => kput d e.1 (unq e.2)) d = d ++ [(k, unq v)] := by
  suffices ∀ (pre : List (List Nat × List Nat)) (d : TD) (u : List Nat), (∀ e ∈ pre, e.1 = k) → k ∉ d.map (·.1) → (pre ++ [(k, v)]).foldl (fun d e => kput d e.1 (unq e.2)) (d ++ [(k, u)]) = d ++ [(k, unq v)] by
    intro pre d hp hk
    cases pre with
    | nil => exact kput_new hk
    | cons e r =>
      rw [List.cons_append, List.foldl_cons, hp e List.mem_cons_self, kput_new hk]
      exact this r d _ (fun e' he => hp e' (List.mem_cons_of_mem _ he)) hk
  intro pre
  induction pre with
  | nil => intro d u _ hk; exact kput_same hk
  | cons e r ih =>
    intro d u hp hk
    rw [List.cons_append, List.foldl_cons, hp e List.mem_cons_self, kput_same hk]
    exact ih d _ (fun e' he => hp e' (List.mem_cons_of_mem _ he)) hk
theorem lastTold (left : List Nat) (w : List Nat) (hw : w.length = 4) (hr : ∀ x ∈ w, x < 256) (hx : ∃ x ∈ w, x ∈ left) :
    ∃ pre e, (toldE w).filter (fun e => decide (e.1 ∈ left)) = pre ++ [e] ∧ unq (valE e) = figL (best w left) := by
  match w, hw with
  | [a, b, c, d], _ =>
    have ha := hr a (by simp)
    have hb := hr b (by simp)
    have hc := hr c (by simp)
    have hd := hr d (by simp)
    have e0 : toldE [a, b, c, d] = [(d, false), (c, false), (b, false)] ++ [(a, true)] := rfl
    by_cases h1 : a ∈ left
    · refine ⟨[(d, false), (c, false), (b, false)].filter (fun e => decide (e.1 ∈ left)), (a, true), ?_, ?_⟩
      · rw [e0, List.filter_append]; simp [h1]
      · rw [show best [a, b, c, d] left = a by unfold best; rw [List.find?_cons]; simp [h1]]
        exact unq_marks _
    · have e1 : (toldE [a, b, c, d]).filter (fun e => decide (e.1 ∈ left)) = ([(d, false), (c, false)] ++ [(b, false)]).filter (fun e => decide (e.1 ∈ left)) := by
        rw [e0, List.filter_append]; simp [h1]
      rw [e1]
      by_cases h2 : b ∈ left
      · refine ⟨[(d, false), (c, false)].filter (fun e => decide (e.1 ∈ left)), (b, false), ?_, ?_⟩
        · rw [List.filter_append]; simp [h2]
        · rw [show best [a, b, c, d] left = b by unfold best; rw [List.find?_cons, List.find?_cons]; simp [h1, h2]]
          exact unq_fig b hb
      · by_cases h3 : c ∈ left
        · refine ⟨[(d, false)].filter (fun e => decide (e.1 ∈ left)), (c, false), ?_, ?_⟩
          · rw [show ([(d, false), (c, false)] : List (Nat × Bool)) = [(d, false)] ++ [(c, false)] from rfl, List.filter_append, List.filter_append]; simp [h2, h3]
          · rw [show best [a, b, c, d] left = c by unfold best; rw [List.find?_cons, List.find?_cons, List.find?_cons]; simp [h1, h2, h3]]
            exact unq_fig c hc
        · have h4 : d ∈ left := by
            obtain ⟨x, hx, hl⟩ := hx
            simp only [List.mem_cons, List.not_mem_nil, or_false] at hx
            rcases hx with rfl | rfl | rfl | rfl
            · exact absurd hl h1
            · exact absurd hl h2
            · exact absurd hl h3
            · exact hl
          refine ⟨[], (d, false), ?_, ?_⟩
          · simp [h2, h3, h4]
          · rw [show best [a, b, c, d] left = d by unfold best; rw [List.find?_cons, List.find?_cons, List.find?_cons, List.find?_cons]; simp [h1, h2, h3, h4]]
            exact unq_fig d hd
section
variable {W : Nat → List Nat} {os : List Nat}
theorem w_len (H : Wok W os) {o : Nat} (ho : o ∈ os) : (W o).length = 4 := (H.perm o ho).length_eq.trans H.len
theorem w_rg (H : Wok W os) {o : Nat} (ho : o ∈ os) : ∀ x ∈ W o, x < 256 := fun x hx => H.rg x ((H.perm o ho).mem_iff.mp hx)
/-- the table of a round -/
theorem keqv_book (H : Wok W os) {left : List Nat} (hl : left.Sublist os) : keqv ((bookE W left).map lineE) = dOf W left := by
  suffices ∀ (l : List Nat) (d : TD), l.Sublist left → (∀ o ∈ l, figL o ∉ d.map (·.1)) →
      ((l.flatMap fun o => ((toldE (W o)).filter fun e => decide (e.1 ∈ left)).map fun e => (o, e)).map lineE).foldl (fun d e => kput d e.1 (unq e.2)) d = d ++ l.map fun o => (figL o, figL (nx W left o)) by
    have := this left [] (List.Sublist.refl _) (fun _ _ h => nomatch h)
    simpa [keqv, bookE, dOf] using this
  intro l
  induction l with
  | nil => intro d _ _; simp
  | cons o r ih =>
    intro d hs hk
    have ho : o ∈ left := hs.subset List.mem_cons_self
    have hoo : o ∈ os := hl.subset ho
    have hnd : (o :: r).Nodup := (H.nd.sublist hl).sublist hs
    refine exE2_2 (lastTold left (W o) (w_len H hoo) (w_rg H hoo) ⟨o, (H.perm o hoo).mem_iff.mpr hoo, ho⟩) fun pre e he hu => ?_
    rw [List.flatMap_cons, List.map_append, List.foldl_append, List.map_map, he, List.map_append, List.map_cons, List.map_nil]
    have hb := kblock (figL o) (valE e) (pre.map (lineE ∘ fun e => (o, e))) d (by
      intro x hx
      obtain ⟨y, _, rfl⟩ := List.mem_map.mp hx
      rfl) (hk o List.mem_cons_self)
    have hb' : (pre.map (lineE ∘ fun e => (o, e)) ++ [(lineE ∘ fun e => (o, e)) e]).foldl (fun d e => kput d e.1 (unq e.2)) d = d ++ [(figL o, unq (valE e))] := hb
    rw [hb', ih _ ((List.sublist_cons_self _ _).trans hs), hu]
    · simp [nx]
    · intro o' ho'
      rw [List.map_append, List.mem_append]
      rintro (q | q)
      · exact hk o' (List.mem_cons_of_mem _ ho') q
      · have q' : figL o' = figL o := by simpa using q
        have := figL_inj (H.rg o' (hl.subset (hs.subset (List.mem_cons_of_mem _ ho')))) (H.rg o hoo) q'
        subst this
        exact (List.nodup_cons.mp hnd).1 ho'
theorem lk_dOf (H : Wok W os) {left : List Nat} (hl : left.Sublist os) {o : Nat} (ho : o ∈ left) : lk (dOf W left) (figL o) = some (figL (nx W left o)) := by
  suffices ∀ l : List Nat, l.Sublist left → o ∈ l → ((l.map fun o => (figL o, figL (nx W left o))).find? fun e => decide (e.1 = figL o)).map (·.2) = some (figL (nx W left o)) from this left (List.Sublist.refl _) ho
  intro l
  induction l with
  | nil => intro _ h; cases h
  | cons x r ih =>
    intro hs hm
    rw [List.map_cons, List.find?_cons]
    by_cases e : x = o
    · subst e; simp
    · have : ¬ figL x = figL o := fun q => e (figL_inj (H.rg x (hl.subset (hs.subset List.mem_cons_self))) (H.rg o (hl.subset ho)) q)
      simp only [this, decide_false]
      refine ih ((List.sublist_cons_self _ _).trans hs) ?_
      rcases List.mem_cons.mp hm with h | h
      · exact absurd h.symm e
      · exact h
theorem lk_x (left : List Nat) : lk (dOf W left) [120] = none := by
  unfold lk
  rw [Option.map_eq_none_iff, List.find?_eq_none]
  intro e he
  obtain ⟨o, _, rfl⟩ := List.mem_map.mp he
  simp [figL]
theorem closed_dOf (H : Wok W os) {left : List Nat} (hl : left.Sublist os) : Closed (dOf W left) := by
  intro e he
  obtain ⟨o, ho, rfl⟩ := List.mem_map.mp he
  rw [lk_dOf H hl (nx_spec H hl ho).1]
  rfl
theorem mem_figs (H : Wok W os) {acc : List Nat} (ha : ∀ x ∈ acc, x < 256) {o : Nat} (ho : o < 256) : figL o ∈ acc.map figL ↔ o ∈ acc := by
  refine ⟨fun h => ?_, fun h => List.mem_map_of_mem h⟩
  obtain ⟨x, hx, e⟩ := List.mem_map.mp h
  exact figL_inj (ha x hx) ho e ▸ hx
theorem goN_dOf (H : Wok W os) {left : List Nat} (hl : left.Sublist os) {o : Nat} (ho : o ∈ left) : ∀ n, goN (dOf W left) n (figL o) = figL (it (nx W left) n o)
  | 0 => rfl
  | n + 1 => by
    show go (dOf W left) (goN (dOf W left) n (figL o)) = _
    rw [goN_dOf H hl ho n]
    unfold Mine.go
    rw [lk_dOf H hl (it_mem H hl ho n)]
    rfl
theorem keys_dOf (left : List Nat) : (dOf W left).map (·.1) = left.map figL := by
  unfold dOf
  rw [List.map_map]
  rfl
theorem singly_dOf (H : Wok W os) {left : List Nat} (hl : left.Sublist os) : singly (dOf W left) = (row W left).map figL := by
  unfold singly row dd
  rw [keys_dOf]
  suffices ∀ (l acc : List Nat), (∀ o ∈ l, o ∈ left) → (∀ o ∈ acc, o < 256) → (l.map figL).foldl (sgStep (dOf W left)) (acc.map figL) = (ddA acc (l.map (it (nx W left) 4))).map figL from this left [] (fun _ h => h) (fun _ h => nomatch h)
  intro l
  induction l with
  | nil => intro acc _ _; rfl
  | cons o r ih =>
    intro acc hs ha
    have ho := hs o List.mem_cons_self
    have h4 : it (nx W left) 4 o < 256 := H.rg _ (hl.subset (it_mem H hl ho 4))
    rw [List.map_cons, List.foldl_cons, List.map_cons, ddA_cons]
    have e : sgStep (dOf W left) (acc.map figL) (figL o) = (if it (nx W left) 4 o ∈ acc then acc else acc ++ [it (nx W left) 4 o]).map figL := by
      unfold sgStep
      rw [goN_dOf H hl ho 4]
      by_cases h : it (nx W left) 4 o ∈ acc
      · rw [if_pos ((mem_figs H ha h4).mpr h), if_pos h]
      · rw [if_neg (fun q => h ((mem_figs H ha h4).mp q)), if_neg h, List.map_append]
        rfl
    rw [e]
    refine ih _ (fun o' h => hs o' (List.mem_cons_of_mem _ h)) ?_
    intro x hx
    split at hx
    · exact ha x hx
    · rcases List.mem_append.mp hx with hx | hx
      · exact ha x hx
      · rw [List.mem_singleton.mp hx]; exact h4
theorem selL_dOf (H : Wok W os) {left : List Nat} (hl : left.Sublist os) : ∀ (l acc : List Nat), (∀ o ∈ l, o ∈ left) → (∀ o ∈ acc, o < 256) → (l.map figL).foldl (selStep (dOf W left)) (acc.map figL) = (ddA acc (l.map (nx W left))).map figL := by
  intro l
  induction l with
  | nil => intro acc _ _; rfl
  | cons o r ih =>
    intro acc hs ha
    have ho := hs o List.mem_cons_self
    have h4 : nx W left o < 256 := H.rg _ (hl.subset (nx_spec H hl ho).1)
    rw [List.map_cons, List.foldl_cons, List.map_cons, ddA_cons]
    have e : selStep (dOf W left) (acc.map figL) (figL o) = (if nx W left o ∈ acc then acc else acc ++ [nx W left o]).map figL := by
      unfold selStep
      rw [lk_dOf H hl ho]
      dsimp only
      by_cases h : nx W left o ∈ acc
      · rw [if_pos ((mem_figs H ha h4).mpr h), if_pos h]
      · rw [if_neg (fun q => h ((mem_figs H ha h4).mp q)), if_neg h, List.map_append]
        rfl
    rw [e]
    refine ih _ (fun o' h => hs o' (List.mem_cons_of_mem _ h)) ?_
    intro x hx
    split at hx
    · exact ha x hx
    · rcases List.mem_append.mp hx with hx | hx
      · exact ha x hx
      · rw [List.mem_singleton.mp hx]; exact h4
theorem ledR_dOf (H : Wok W os) {left : List Nat} (hl : left.Sublist os) : ∀ n, ledR (dOf W left) n = (dd (left.map (it (nx W left) n))).map figL
  | 0 => by
    show (dOf W left).map (·.1) = _
    rw [keys_dOf, show left.map (it (nx W left) 0) = left by simp [it], dd_nodup (H.nd.sublist hl)]
  | n + 1 => by
    show selL (dOf W left) ([120] :: ledR (dOf W left) n) = _
    rw [ledR_dOf H hl n]
    unfold selL
    rw [List.foldl_cons]
    have e : selStep (dOf W left) [] [120] = [] := by unfold selStep; rw [lk_x]
    rw [e]
    have := selL_dOf H hl (dd (left.map (it (nx W left) n))) [] (fun o ho => by
      obtain ⟨p, hp, rfl⟩ := List.mem_map.mp (mem_dd.mp ho)
      exact it_mem H hl hp n) (fun _ h => nomatch h)
    rw [List.map_nil] at this
    rw [this]
    congr 1
    show dd _ = _
    rw [dd_map_dd, List.map_map]
    rfl
theorem led_row (H : Wok W os) {left : List Nat} (hl : left.Sublist os) : ledR (dOf W left) 4 = (row W left).map figL := ledR_dOf H hl 4
end
end
section
/-! the plain law: the first book, lines cut, the rings -/
def lineS (x : Nat × (Nat × Bool)) : Str := line (lineE x)
theorem lineS_eq (x : Nat × (Nat × Bool)) : lineS x = tx (figL x.1 ++ 61 :: valE x.2) := rfl
theorem slice2 (o : Nat) (r : List Nat) : Txt.slice (tx (figL o ++ r)) none (some 2) = tx (figL o) := by
  have := slice_to (figL o ++ r) 2 (by simp [figL])
  rw [show ((2 : Nat) : Int) = 2 from rfl] at this
  rw [this]
  rfl
theorem slice3 (o : Nat) (r : List Nat) : Txt.slice (tx (figL o ++ 61 :: r)) (some 3) none = tx r := by
  have := slice_from (figL o ++ 61 :: r) 3 (by simp [figL])
  rw [show ((3 : Nat) : Int) = 3 from rfl] at this
  rw [this]
  rfl
theorem slice2f (o : Nat) (r : List Nat) : Txt.slice (tx (figL o ++ r)) (some 2) none = tx r := by
  have := slice_from (figL o ++ r) 2 (by simp [figL])
  rw [show ((2 : Nat) : Int) = 2 from rfl] at this
  rw [this]
  rfl
theorem slice13 (o : Nat) (r : List Nat) : Txt.slice (tx (61 :: (figL o ++ r))) (some 1) (some 3) = fig o := by
  have := slice_tx (61 :: (figL o ++ r)) 1 3 (by decide) (by simp [figL])
  rw [show ((1 : Nat) : Int) = 1 from rfl, show ((3 : Nat) : Int) = 3 from rfl] at this
  rw [this, fig_figL]
  rfl
theorem noMark (o : Nat) (h : o < 256) : ∀ c ∈ figL o, (Str.ofString "\"").cps.contains c = false := by
  intro c hc
  have := figL_rg o h c hc
  show (#[34] : Array Nat).contains c = false
  simp
  exact om272 this
theorem strip_val (e : Nat × Bool) (h : e.1 < 256) : Txt.stripChars (tx (valE e)) (Str.ofString "\"") = tx (figL e.1) := by
  have h1 : ∀ x ∈ (figL e.1).head?, (Str.ofString "\"").cps.contains x = false := fun x hx => noMark _ h x (List.mem_of_mem_head? hx)
  have h2 : ∀ x ∈ (figL e.1).getLast?, (Str.ofString "\"").cps.contains x = false := fun x hx => noMark _ h x (List.mem_of_mem_getLast? hx)
  have hne : figL e.1 ≠ [] := by unfold figL; simp
  unfold valE
  split
  · have := stripBy_tx (Str.ofString "\"").cps.contains [34] (figL e.1) [34] (by decide +kernel) (by decide +kernel) hne h1 h2
    exact this
  · have := stripBy_tx (Str.ofString "\"").cps.contains [] (figL e.1) [] rfl rfl hne h1 h2
    rw [List.append_nil] at this
    exact this
section
variable {W : Nat → List Nat} {os : List Nat}
theorem toldE_mem {w : List Nat} (hw : w.length = 4) {e : Nat × Bool} (he : e ∈ toldE w) : e.1 ∈ w := by
  match w, hw with
  | [a, b, c, d], _ =>
    have : toldE [a, b, c, d] = [(d, false), (c, false), (b, false), (a, true)] := rfl
    rw [this] at he
    simp only [List.mem_cons, List.not_mem_nil, or_false] at he
    rcases he with rfl | rfl | rfl | rfl <;> simp
theorem bookE_rg (H : Wok W os) {left : List Nat} (hl : left.Sublist os) {x : Nat × (Nat × Bool)} (hx : x ∈ bookE W left) : x.1 ∈ left ∧ x.2.1 ∈ left := by
  unfold bookE at hx
  obtain ⟨o, ho, hx⟩ := List.mem_flatMap.mp hx
  obtain ⟨e, he, rfl⟩ := List.mem_map.mp hx
  exact ⟨ho, of_decide_eq_true (List.mem_filter.mp he).2⟩
theorem bookE_len (H : Wok W os) {left : List Nat} (hl : left.Sublist os) : (bookE W left).length ≤ 16 := by
  suffices ∀ l : List Nat, (l.flatMap fun o => ((toldE (W o)).filter fun e => decide (e.1 ∈ left)).map fun e => (o, e)).length ≤ 4 * l.length by
    have h1 := this left
    have h2 := hl.length_le
    rw [H.len] at h2
    unfold bookE
    exact om273 h1 h2
  intro l
  induction l with
  | nil => simp
  | cons o r ih =>
    rw [List.flatMap_cons, List.length_append, List.length_map, List.length_cons]
    have : ((toldE (W o)).filter fun e => decide (e.1 ∈ left)).length ≤ 4 := List.length_filter_le _ _
    exact om274 ih this
theorem filter_book (p : Nat → Bool) (left : List Nat) : (bookE W left).filter (fun x => decide (x.1 ∈ left.filter p) && decide (x.2.1 ∈ left.filter p)) = bookE W (left.filter p) := by
  unfold bookE
  rw [List.filter_flatMap]
  suffices ∀ l : List Nat, (∀ o ∈ l, o ∈ left) → (l.flatMap fun o => (((toldE (W o)).filter fun e => decide (e.1 ∈ left)).map fun e => (o, e)).filter fun x => decide (x.1 ∈ left.filter p) && decide (x.2.1 ∈ left.filter p)) =
      (l.filter p).flatMap fun o => ((toldE (W o)).filter fun e => decide (e.1 ∈ left.filter p)).map fun e => (o, e) from this left fun _ h => h
  intro l
  induction l with
  | nil => intro _; rfl
  | cons o r ih =>
    intro h
    have ho := h o List.mem_cons_self
    rw [List.flatMap_cons, ih fun x hx => h x (List.mem_cons_of_mem _ hx), List.filter_map, List.filter_filter]
    by_cases hp : p o = true
    · rw [List.filter_cons_of_pos hp, List.flatMap_cons]
      congr 2
      refine List.filter_congr fun e _ => ?_
      simp only [Function.comp_apply, List.mem_filter, ho, hp, and_self, decide_true, Bool.true_and]
      by_cases he : e.1 ∈ left <;> simp [he]
    · rw [List.filter_cons_of_neg hp]
      have : ((toldE (W o)).filter fun a => ((fun x : Nat × (Nat × Bool) => decide (x.1 ∈ left.filter p) && decide (x.2.1 ∈ left.filter p)) ∘ fun e => (o, e)) a && decide (a.1 ∈ left)) = [] := by
        rw [List.filter_eq_nil_iff]
        intro a _
        simp [List.mem_filter, hp]
      rw [this]
      rfl
theorem toldE_all (H : Wok W os) {o : Nat} (ho : o ∈ os) : (toldE (W o)).filter (fun e => decide (e.1 ∈ os)) = toldE (W o) := by
  rw [List.filter_eq_self]
  intro e he
  exact decide_eq_true ((H.perm o ho).mem_iff.mp (toldE_mem (w_len H ho) he))
theorem items_line (o : Nat) : line (itemE W o) = tx (itemP o (W o)) := by
  unfold line itemE itemP
  simp
/-- what keqv makes of the items; the first one's once more at the end -/
theorem keqv_items (H : Wok W os) : keqv ([0, 1, 2, 3, 0].map fun k => itemE W (os.getD k 0)) = os.map fun o => (figL o, innerP (W o)) := by
  match os, H.len, H.nd, H.rg with
  | [a, b, c, d], _, hnd, hrg =>
    have ha := hrg a (by simp)
    have hb := hrg b (by simp)
    have hc := hrg c (by simp)
    have hd := hrg d (by simp)
    simp only [List.nodup_cons, List.mem_cons, List.not_mem_nil, or_false, not_or, List.nodup_nil, and_true, not_false_eq_true] at hnd
    obtain ⟨⟨n1, n2, n3⟩, ⟨n4, n5⟩, n6⟩ := hnd
    have m1 : figL a ≠ figL b := fun q => n1 (figL_inj ha hb q)
    have m2 : figL a ≠ figL c := fun q => n2 (figL_inj ha hc q)
    have m3 : figL a ≠ figL d := fun q => n3 (figL_inj ha hd q)
    have m4 : figL b ≠ figL c := fun q => n4 (figL_inj hb hc q)
    have m5 : figL b ≠ figL d := fun q => n5 (figL_inj hb hd q)
    have m6 : figL c ≠ figL d := fun q => n6 (figL_inj hc hd q)
    show keqv [itemE W a, itemE W b, itemE W c, itemE W d, itemE W a] = [(figL a, innerP (W a)), (figL b, innerP (W b)), (figL c, innerP (W c)), (figL d, innerP (W d))]
    unfold keqv
    simp only [List.foldl_cons, List.foldl_nil]
    have u : ∀ o, unq (itemE W o).2 = innerP (W o) := fun o => unq_marks _
    rw [u, u, u, u]
    rw [show (itemE W a).1 = figL a from rfl, show (itemE W b).1 = figL b from rfl, show (itemE W c).1 = figL c from rfl, show (itemE W d).1 = figL d from rfl]
    rw [kput_new (d := []) (by simp), kput_new (k := figL b) (by simp [Ne.symm m1]), kput_new (k := figL c) (by simp [Ne.symm m2, Ne.symm m4]), kput_new (k := figL d) (by simp [Ne.symm m3, Ne.symm m5, Ne.symm m6])]
    unfold kput
    simp [Ne.symm m1, Ne.symm m2, Ne.symm m3]
theorem book_items (H : Wok W os) : bookOf ([0, 1, 2, 3, 0].map fun k => itemE W (os.getD k 0)) = (bookE W os).map lineS := by
  unfold bookOf bookE
  rw [keqv_items H, List.map_flatMap, List.flatMap_map]
  suffices ∀ l : List Nat, (∀ o ∈ l, o ∈ os) → (l.flatMap fun o => (httpS (innerP (W o))).map fun h => tx (figL o) ++ h) = l.flatMap fun o => (((toldE (W o)).filter fun e => decide (e.1 ∈ os)).map fun e => (o, e)).map lineS from this os fun _ h => h
  intro l
  induction l with
  | nil => intro _; rfl
  | cons o r ih =>
    intro h
    have ho := h o List.mem_cons_self
    rw [List.flatMap_cons, List.flatMap_cons, ih fun x hx => h x (List.mem_cons_of_mem _ hx), http_inner _ (w_len H ho) (w_rg H ho), toldE_all H ho, toldL_eq, List.map_map, List.map_map, List.map_map]
    congr 1
/-! who left when -/
def rnd (W : Nat → List Nat) (os : List Nat) (o : Nat) : Nat := ((List.range 4).find? fun r => decide (o ∈ row W (leftR W os r))).getD 0
theorem leftR_split (H : Wok W os) (n : Nat) {o : Nat} (h : o ∈ leftR W os n) : o ∈ row W (leftR W os n) ∨ o ∈ leftR W os (n + 1) := by
  by_cases hr : o ∈ row W (leftR W os n)
  · exact .inl hr
  · exact .inr (List.mem_filter.mpr ⟨h, decide_eq_true hr⟩)
theorem row_out {n : Nat} {o : Nat} (h : o ∈ row W (leftR W os n)) : o ∉ leftR W os (n + 1) := fun q => by
  have := of_decide_eq_true (List.mem_filter.mp q).2
  exact this h
theorem row_in (H : Wok W os) {n : Nat} {o : Nat} (h : o ∈ row W (leftR W os n)) : o ∈ leftR W os n := row_sub H (leftR_sub n) h
theorem rnd_ex (H : Wok W os) {o : Nat} (ho : o ∈ os) : ∃ r, r < 4 ∧ o ∈ row W (leftR W os r) := by
  have h4 := leftR_four H
  rcases leftR_split H 0 (show o ∈ leftR W os 0 from ho) with h | h
  · exact ⟨0, by decide, h⟩
  rcases leftR_split H 1 h with h | h
  · exact ⟨1, by decide, h⟩
  rcases leftR_split H 2 h with h | h
  · exact ⟨2, by decide, h⟩
  rcases leftR_split H 3 h with h | h
  · exact ⟨3, by decide, h⟩
  · rw [show 3 + 1 = 4 from rfl, h4] at h; cases h
theorem rnd_spec (H : Wok W os) {o : Nat} (ho : o ∈ os) : rnd W os o < 4 ∧ o ∈ row W (leftR W os (rnd W os o)) := by
  unfold rnd
  cases hf : (List.range 4).find? (fun r => decide (o ∈ row W (leftR W os r))) with
  | none =>
    refine exE1_2 (rnd_ex H ho) fun r hr hm => ?_
    have := List.find?_eq_none.mp hf r (List.mem_range.mpr hr)
    simp [hm] at this
  | some r =>
    have h1 := List.find?_some hf
    have h2 := List.mem_of_find?_eq_some hf
    exact ⟨List.mem_range.mp h2, of_decide_eq_true h1⟩
/-- who is there still leaves no earlier; who is not, left before -/
theorem rnd_lt (H : Wok W os) {o : Nat} (ho : o ∈ os) {r : Nat} (h : o ∉ leftR W os r) : rnd W os o < r := by
  have h1 := row_in H (rnd_spec H ho).2
  rcases Nat.lt_or_ge (rnd W os o) r with h2 | h2
  · exact h2
  · have := leftR_mono (W := W) (os := os) (rnd W os o - r) r
    rw [show r + (rnd W os o - r) = rnd W os o by exact om275 h2] at this
    exact absurd (this.subset h1) h
theorem rnd_eq (H : Wok W os) {o : Nat} (ho : o ∈ os) {r : Nat} (h : o ∈ row W (leftR W os r)) : rnd W os o = r := by
  have h1 := row_in H (rnd_spec H ho).2
  have h2 := row_out (rnd_spec H ho).2
  have h3 := row_in H h
  have h4 := row_out h
  rcases Nat.lt_trichotomy (rnd W os o) r with q | q | q
  · have := leftR_mono (W := W) (os := os) (r - (rnd W os o + 1)) (rnd W os o + 1)
    rw [show rnd W os o + 1 + (r - (rnd W os o + 1)) = r by exact om54 q] at this
    exact absurd (this.subset h3) h2
  · exact q
  · have := leftR_mono (W := W) (os := os) (rnd W os o - (r + 1)) (r + 1)
    rw [show r + 1 + (rnd W os o - (r + 1)) = rnd W os o by exact om54 q] at this
    exact absurd (this.subset h1) h4
def gotOf (W : Nat → List Nat) (os : List Nat) (o : Nat) : Nat := nx W (leftR W os (rnd W os o)) o
theorem got_mem (H : Wok W os) {o : Nat} (ho : o ∈ os) : gotOf W os o ∈ W o := (nx_spec H (leftR_sub _) (row_in H (rnd_spec H ho).2)).2.1
theorem ring_lt (H : Wok W os) {o p : Nat} (ho : o ∈ os) (hp : p ∈ os) (h : (W o).idxOf p < (W o).idxOf (gotOf W os o)) : rnd W os p < rnd W os o := by
  refine rnd_lt H hp fun hm => ?_
  have := (nx_spec H (leftR_sub _) (row_in H (rnd_spec H ho).2)).2.2 p hp hm
  unfold gotOf at h
  exact om276 h this
theorem ring_le (H : Wok W os) {o p : Nat} (ho : o ∈ os) (hp : p ∈ os) (h : (W o).idxOf p ≤ (W o).idxOf (gotOf W os o)) : rnd W os p ≤ rnd W os o := by
  by_cases hm : p ∈ leftR W os (rnd W os o)
  · have h1 := (nx_spec H (leftR_sub _) (row_in H (rnd_spec H ho).2)).2.2 p hp hm
    have h2 : (W o).idxOf p = (W o).idxOf (gotOf W os o) := Nat.le_antisymm h h1
    have h3 : p = gotOf W os o := by
      have q1 := List.getElem_idxOf (List.idxOf_lt_length_of_mem ((H.perm o ho).mem_iff.mpr hp))
      have q2 := List.getElem_idxOf (List.idxOf_lt_length_of_mem (got_mem H ho))
      rw [← q1, ← q2]
      congr 1
    have h4 : p ∈ row W (leftR W os (rnd W os o)) := h3 ▸ row_nx H (leftR_sub _) (rnd_spec H ho).2
    exact Nat.le_of_eq (rnd_eq H hp h4)
  · exact Nat.le_of_lt (rnd_lt H hp hm)
theorem deeds_mem (H : Wok W os) {o : Nat} (ho : o ∈ os) : (o, gotOf W os o) ∈ deedR W os 4 := by
  obtain ⟨h1, h2⟩ := rnd_spec H ho
  have key : ∀ n r, r < n → o ∈ row W (leftR W os r) → (o, nx W (leftR W os r) o) ∈ deedR W os n := by
    intro n
    induction n with
    | zero => intro r h; omega
    | succ n ih =>
      intro r hr hm
      show _ ∈ deedR W os n ++ _
      rcases Nat.lt_or_ge r n with h | h
      · exact List.mem_append_left _ (ih r h hm)
      · have : r = n := by exact om277 hr h
        subst this
        exact List.mem_append_right _ (List.mem_map.mpr ⟨o, hm, rfl⟩)
  exact key 4 _ h1 h2
theorem deeds_nodup (H : Wok W os) : ((deedR W os 4).map (·.1)).Nodup := by
  have := deeds_perm H 4
  rw [leftR_four H, List.append_nil] at this
  exact this.nodup_iff.mpr H.nd
theorem deeds_askers (H : Wok W os) : ((deedR W os 4).map (·.1)).Perm os := by
  have := deeds_perm H 4
  rw [leftR_four H, List.append_nil] at this
  exact this
theorem deeds_rg (H : Wok W os) : ∀ n, ∀ e ∈ deedR W os n, e.1 < 256 ∧ e.2 < 256 := by
  intro n
  induction n with
  | zero => intro e h; cases h
  | succ n ih =>
    intro e he
    rcases List.mem_append.mp he with he | he
    · exact ih e he
    · obtain ⟨o, ho, rfl⟩ := List.mem_map.mp he
      have h1 := row_in H ho
      exact ⟨H.rg o ((leftR_sub n).subset h1), H.rg _ ((leftR_sub n).subset (nx_spec H (leftR_sub n) h1).1)⟩
end
end
section
/-! law, statement by statement -/
abbrev lawEnv (L a6 a5 a4 a3 a2 a1 : Addr) : Env := envX (Str.ofString "law") (fnS (stAt 35)) L 163 (.ref 162) [("row", a6), ("pointed", a5), ("left", a4), ("lists", a3), ("octets", a2), ("cells", a1)]
def lawB (i : Nat) : Stmt := (fnB (stAt 35)).getD i (.Pass ⟨0, 0, 0, 0⟩)
def octO (m k : Nat) : Nat := (m + (m / 256 * 2 + 1) * k) % 256
def octs (m : Nat) : List Nat := [octO m 0, octO m 1, octO m 2, octO m 3]
theorem octs_nd (m : Nat) : (octs m).Nodup := by
  unfold octs octO
  simp only [List.nodup_cons, List.mem_cons, List.not_mem_nil, or_false, not_or, List.nodup_nil, and_true, not_false_eq_true]
  refine ⟨⟨?_, ?_, ?_⟩, ⟨?_, ?_⟩, ?_⟩ <;> omega
theorem octs_rg (m : Nat) : ∀ o ∈ octs m, o < 256 := by
  intro o ho
  unfold octs octO at ho
  simp only [List.mem_cons, List.not_mem_nil, or_false] at ho
  exact om240 ho
theorem octs_get (m k : Nat) (hk : k < 4) : (octs m)[k]? = some (octO m k) := by
  have : k = 0 ∨ k = 1 ∨ k = 2 ∨ k = 3 := by exact om5 hk
  rcases this with rfl | rfl | rfl | rfl <;> rfl
theorem octs_take (m k : Nat) (hk : k < 4) : (octs m).take (k + 1) = (octs m).take k ++ [octO m k] := by
  have : k = 0 ∨ k = 1 ∨ k = 2 ∨ k = 3 := by exact om5 hk
  rcases this with rfl | rfl | rfl | rfl <;> rfl
section
variable {c : Cx} {A : Around}
theorem law0 {n : Nat} {L a6 a5 a4 a3 a2 a1 sl : Addr} {o6 o5 o4 o3 o2 o1 osl : Obj} {vs : List Value} {Q : Flow → Frs → Led → Prop} (hA : AOk (n + 14) A) (T : Tops c.base)
    (hs : c.base.get? sl = some osl) (hsne : sl ≠ tabP) (hos : ListO vs.toArray osl) (hi : ∀ j, j < vs.length → ∃ n t, vs[j]? = some (.int n t)) (hn : vs.length ≤ 63) (g1 : o1.data = .cell none)
    (h : ∀ cl its ocl co, ListO its ocl → CellsAt 100000000 its → co.data = .cell (some (.ref cl)) → Q .next [(L, [("script", .ref sl)])] [(cl, ocl), (a6, o6), (a5, o5), (a4, o4), (a3, o3), (a2, o2), (a1, co)]) :
    W c A (exec (lawB 0) (lawEnv L a6 a5 a4 a3 a2 a1)) [(L, [("script", .ref sl)])] [(a6, o6), (a5, o5), (a4, o4), (a3, o3), (a2, o2), (a1, o1)] Q := by
  refine W_Assign_Name ?_ rfl
  walk_at "go"
  with_reducible refine' c_cells (n := n + 12) ?z1 T ?z2 hos hi hn fun cl its ocl ho hc => ?_
  case z1 => exact (hA.le (by exact om241))
  case z2 => exact (.base hs hsne)
  walk_at "go"
  exact h _ _ _ _ ho hc (by assumption)
theorem law1 {n : Nat} {L a6 a5 a4 a3 a2 a1 cl : Addr} {o6 o5 o4 o3 o2 co ocl : Obj} {m : Loc} {led : Led} {its : Array Value} {N : Nat} {tN : Tok} {Q : Flow → Frs → Led → Prop} (hA : AOk (n + 14) A) (T : Tops c.base)
    (hcl : ListO its ocl) (hN : its[4]? = some (.int (N : Int) tN)) (hNr : N ≤ 100000000) (hco : co.data = .cell (some (.ref cl))) (g2 : o2.data = .cell none)
    (h : ∀ ao vo no co2, NA vo (octs N) → co2.data = .cell (some (.ref ao)) → Q .next [(L, m)] [(ao, seqObj "list" vo.toArray no), (cl, ocl), (a6, o6), (a5, o5), (a4, o4), (a3, o3), (a2, co2), (a1, co)]) :
    W c A (exec (lawB 1) (lawEnv L a6 a5 a4 a3 a2 a1)) [(L, m)] [(cl, ocl), (a6, o6), (a5, o5), (a4, o4), (a3, o3), (a2, o2), (a1, co)] Q := by
  have hh := hA.handled
  refine W_Assign_Name ?_ rfl
  walk_at "go"
  with_reducible refine' W_iterRangeN (n := 4) ?z1 ?z2 fun I x0 l0 hx0 hl0 => ?_
  case z1 => exact (.led (.head _))
  case z2 => decide
  intro D C
  with_reducible refine' Wc_compStart ?_ ?z1
  case z1 => exact (W_selfRange (by walk_at "mem"))
  with_reducible refine' Wc_compInd ?z1 4 (fun i f l => ∃ (x left : Int) (us : List Value) (n2 : Nat), x = i ∧ left = (4 : Nat) - (i : Int) ∧ Wk [(C, []), (L, m)]
      [(D, seqObj "list" us.toArray n2), (I, rangeIt x left 1), (cl, ocl), (a6, o6), (a5, o5), (a4, o4), (a3, o3), (a2, o2), (a1, co)] f l ∧ NA us ((octs N).take i)) ?h0 ?_ ?_
  case z1 => decide
  case h0 =>
    refine' exI4 x0 l0 [] 0 ⟨hx0, hl0, ?w, NA.nil⟩
    case w => walk_at "wk"
  · intro k hk4 f l hI
    first | with_reducible refine' W_hideT fun J K hJ hK => ?_ | with_reducible refine' W_hideC fun J K hJ hK => ?_ | with_reducible refine' W_hideO fun J K hJ hK => ?_
    with_reducible refine' exE4_4 hI fun x left us n2 hx hleft hwk hus => ?_
    clear hI
    with_reducible refine' W_wk hwk ?_
    have hul := hus.len
    rw [List.length_take] at hul
    with_reducible refine' W_nextRangeN ?z1 hx hleft hk4 fun tj x' left' hx' hl' => ?_
    case z1 => intro o'; walk_at "up"
    walk_at "go"
    with_reducible refine' W_itemListO ?z1 hcl ?z2 ?z3 ?z4 ?z5 ?z6 ?_
    case z1 => exact (.led (by walk_at "mem"))
    case z2 => exact om51
    case z3 => exact om52
    case z4 => simpa using hN
    case z5 => rfl
    case z6 => (intros; rfl)
    walk_at "go"
    with_reducible refine' W_itemListO ?z1 hcl ?z2 ?z3 ?z4 ?z5 ?z6 ?_
    case z1 => exact (.led (by walk_at "mem"))
    case z2 => exact om51
    case z3 => exact om52
    case z4 => simpa using hN
    case z5 => rfl
    case z6 => (intros; rfl)
    walk_at "go"
    with_reducible refine' W_div ?z1 ?z2 fun _ => ?_
    case z1 => decide
    case z2 => decide
    walk_at "go"
    with_reducible refine' W_mul ?z1 fun _ => ?_
    case z1 => exact (IntMulOk.of_right (by decide))
    walk_at "go"
    with_reducible refine' W_mul (IntMulOk.of_right ?_) fun _ => ?_
    · have : k = 0 ∨ k = 1 ∨ k = 2 ∨ k = 3 := by exact om5 hk4
      rcases this with rfl | rfl | rfl | rfl <;> decide
    walk_at "go"
    with_reducible refine' W_mod ?z1 fun _ => ?_
    case z1 => decide
    walk_at "go"
    refine' hJ _ _ (exI4 x' left' _ _ ⟨hx', hl', ?w, ?d⟩)
    case w => walk_at "wk"
    case d =>
      rw [octs_take N k hk4]
      have e : ((N : Int) + ((N : Int) / 256 * 2 + 1) * (k : Int)) % 256 = ((octO N k : Nat) : Int) := by unfold octO; simp
      rw [e]
      exact hus.push _ _
  · intro f l hI
    with_reducible refine' exE4_4 hI fun x left us n2 hx hleft hwk hus => ?_
    clear hI
    with_reducible refine' W_wk hwk ?_
    with_reducible refine' W_endRangeN hh ?z1 ?z2 hleft ⟨rfl, ?_⟩
    case z1 => walk_at "rm"
    case z2 => walk_at "mem"
    walk_at "go"
    exact h _ _ _ _ hus (by assumption)
theorem law2 {n : Nat} {L a6 a5 a4 a3 a2 a1 cl ao : Addr} {o6 o5 o4 o3 co2 co ocl : Obj} {m : Loc} {its : Array Value} {vo : List Value} {no : Nat} {os : List Nat} {N : Nat → Nat} {Q : Flow → Frs → Led → Prop} (hA : AOk (n + 14) A) (T : Tops c.base)
    (hcl : ListO its ocl) (hN : ∀ k, k < 4 → ∃ t, its[k]? = some (.int (N k : Nat) t)) (hco : co.data = .cell (some (.ref cl))) (hvo : NA vo os) (hol : os.length = 4) (hco2 : co2.data = .cell (some (.ref ao))) (g3 : o3.data = .cell none)
    (h : ∀ LL nl (wa : Nat → Addr) (wv : Nat → List Value) (wn : Nat → Nat) co3, (∀ k, k < 4 → NA (wv k) (wishesOf os (N k))) → co3.data = .cell (some (.ref LL)) →
      Q .next [(L, m)] [(wa 3, seqObj "list" (wv 3).toArray (wn 3)), (wa 2, seqObj "list" (wv 2).toArray (wn 2)), (wa 1, seqObj "list" (wv 1).toArray (wn 1)), (wa 0, seqObj "list" (wv 0).toArray (wn 0)), (LL, seqObj "list" [Value.ref (wa 0), .ref (wa 1), .ref (wa 2), .ref (wa 3)].toArray nl),
        (ao, seqObj "list" vo.toArray no), (cl, ocl), (a6, o6), (a5, o5), (a4, o4), (a3, co3), (a2, co2), (a1, co)]) :
    W c A (exec (lawB 2) (lawEnv L a6 a5 a4 a3 a2 a1)) [(L, m)] [(ao, seqObj "list" vo.toArray no), (cl, ocl), (a6, o6), (a5, o5), (a4, o4), (a3, o3), (a2, co2), (a1, co)] Q := by
  have hh := hA.handled
  have hA' : AOk (n + 1) A := hA.le (by exact om242)
  with_reducible refine' exX1 ?z1 fun t0 h0 => ?_
  case z1 => exact (hN 0 (by decide))
  with_reducible refine' exX1 ?z1 fun t1 h1 => ?_
  case z1 => exact (hN 1 (by decide))
  with_reducible refine' exX1 ?z1 fun t2 h2 => ?_
  case z1 => exact (hN 2 (by decide))
  with_reducible refine' exX1 ?z1 fun t3 h3 => ?_
  case z1 => exact (hN 3 (by decide))
  refine W_Assign_Name ?_ rfl
  walk_at "go"
  with_reducible refine' W_iterRangeN (n := 4) ?z1 ?z2 fun I x0 l0 hx0 hl0 => ?_
  case z1 => exact (.led (.head _))
  case z2 => decide
  intro D C
  with_reducible refine' Wc_compStart ?_ ?z1
  case z1 => exact (W_selfRange (by walk_at "mem"))
  with_reducible refine' Wc_comp ?z1 ?_
  case z1 => decide
  with_reducible refine' W_nextRangeN (i := 0) ?z1 hx0 hl0 ?z2 fun tk0 x1 l1 hx1 hl1 => ?_
  case z1 => intro o'; walk_at "up"
  case z2 => decide
  walk_at "go"
  with_reducible refine' W_itemListO ?z1 hcl ?z2 ?z3 ?z4 ?z5 ?z6 ?_
  case z1 => exact (.led (by walk_at "mem"))
  case z2 => decide
  case z3 => decide
  case z4 => simpa using h0
  case z5 => rfl
  case z6 => (intros; rfl)
  walk_at "go"
  with_reducible refine' c_wish hA' T ?z1 (ListO.of _ _) hvo hol fun w0 v0 n0 hw0 => ?_
  case z1 => exact (.led (by walk_at "mem"))
  walk_at "go"
  with_reducible refine' Wc_comp ?z1 ?_
  case z1 => decide
  with_reducible refine' W_nextRangeN (i := 1) ?z1 hx1 hl1 ?z2 fun tk1 x2 l2 hx2 hl2 => ?_
  case z1 => intro o'; walk_at "up"
  case z2 => decide
  walk_at "go"
  with_reducible refine' W_itemListO ?z1 hcl ?z2 ?z3 ?z4 ?z5 ?z6 ?_
  case z1 => exact (.led (by walk_at "mem"))
  case z2 => decide
  case z3 => decide
  case z4 => simpa using h1
  case z5 => rfl
  case z6 => (intros; rfl)
  walk_at "go"
  with_reducible refine' c_wish hA' T ?z1 (ListO.of _ _) hvo hol fun w1 v1 n1 hw1 => ?_
  case z1 => exact (.led (by walk_at "mem"))
  walk_at "go"
  with_reducible refine' Wc_comp ?z1 ?_
  case z1 => decide
  with_reducible refine' W_nextRangeN (i := 2) ?z1 hx2 hl2 ?z2 fun tk2 x3 l3 hx3 hl3 => ?_
  case z1 => intro o'; walk_at "up"
  case z2 => decide
  walk_at "go"
  with_reducible refine' W_itemListO ?z1 hcl ?z2 ?z3 ?z4 ?z5 ?z6 ?_
  case z1 => exact (.led (by walk_at "mem"))
  case z2 => decide
  case z3 => decide
  case z4 => simpa using h2
  case z5 => rfl
  case z6 => (intros; rfl)
  walk_at "go"
  with_reducible refine' c_wish hA' T ?z1 (ListO.of _ _) hvo hol fun w2 v2 n2 hw2 => ?_
  case z1 => exact (.led (by walk_at "mem"))
  walk_at "go"
  with_reducible refine' Wc_comp ?z1 ?_
  case z1 => decide
  with_reducible refine' W_nextRangeN (i := 3) ?z1 hx3 hl3 ?z2 fun tk3 x4 l4 hx4 hl4 => ?_
  case z1 => intro o'; walk_at "up"
  case z2 => decide
  walk_at "go"
  with_reducible refine' W_itemListO ?z1 hcl ?z2 ?z3 ?z4 ?z5 ?z6 ?_
  case z1 => exact (.led (by walk_at "mem"))
  case z2 => decide
  case z3 => decide
  case z4 => simpa using h3
  case z5 => rfl
  case z6 => (intros; rfl)
  walk_at "go"
  with_reducible refine' c_wish hA' T ?z1 (ListO.of _ _) hvo hol fun w3 v3 n3 hw3 => ?_
  case z1 => exact (.led (by walk_at "mem"))
  walk_at "go"
  with_reducible refine' Wc_wk (f0 := [(C, []), (L, m)]) (l0 := [(w3, seqObj "list" v3.toArray n3), (w2, seqObj "list" v2.toArray n2), (w1, seqObj "list" v1.toArray n1), (w0, seqObj "list" v0.toArray n0), (D, seqObj "list" ([] ++ [Value.ref w0] ++ [Value.ref w1] ++ [Value.ref w2] ++ [Value.ref w3]).toArray (0 + 1 + 1 + 1 + 1)), (I, rangeIt x4 l4 1),
    (ao, seqObj "list" vo.toArray no), (cl, ocl), (a6, o6), (a5, o5), (a4, o4), (a3, o3), (a2, co2), (a1, co)]) ?z1 ?_
  case z1 => walk_at "wk"
  with_reducible refine' Wc_comp ?z1 ?_
  case z1 => decide
  with_reducible refine' W_endRangeN (n := 4) hh ?z1 ?z2 hl4 ?_
  case z1 => walk_at "rm"
  case z2 => walk_at "mem"
  with_reducible refine' CompTurn_none ?_
  walk_at "go"
  refine h D 4 (p4 w0 w1 w2 w3) (p4 v0 v1 v2 v3) (p4 n0 n1 n2 n3) _ ?_ (by assumption)
  intro k hk
  rcases lt4 hk with rfl | rfl | rfl | rfl
  · exact hw0
  · exact hw1
  · exact hw2
  · exact hw3
end
end
section
def flat {α : Type} (Ls : Nat → List α) : List α := Ls 0 ++ Ls 1 ++ Ls 2 ++ Ls 3
theorem flat_len {α : Type} {Ls : Nat → List α} (h : ∀ k, k < 4 → (Ls k).length = 4) : (flat Ls).length = 16 := by
  unfold flat
  rw [List.length_append, List.length_append, List.length_append, h 0 (by decide), h 1 (by decide), h 2 (by decide), h 3 (by decide)]
theorem four_of {α : Type} {l : List α} (h : l.length = 4) : ∃ x y z w, l = [x, y, z, w] := by
  match l, h with
  | [x, y, z, w], _ => exact ⟨x, y, z, w, rfl⟩
theorem flat_cut {α : Type} {Ls : Nat → List α} (h : ∀ k, k < 4 → (Ls k).length = 4) (k : Nat) (hk : k < 4) : ((flat Ls).drop (4 * k)).take 4 = Ls k := by
  have h0 := h 0 (by decide)
  have h1 := h 1 (by decide)
  have h2 := h 2 (by decide)
  have h3 := h 3 (by decide)
  obtain ⟨x0, x1, x2, x3, e0⟩ := four_of h0
  obtain ⟨y0, y1, y2, y3, e1⟩ := four_of h1
  obtain ⟨z0, z1, z2, z3, e2⟩ := four_of h2
  obtain ⟨v0, v1, v2, v3, e3⟩ := four_of h3
  unfold flat
  rcases lt4 hk with rfl | rfl | rfl | rfl <;> rw [e0, e1, e2, e3] <;> rfl
theorem flat_at {α : Type} {Ls : Nat → List α} (h : ∀ k, k < 4 → (Ls k).length = 4) {i j : Nat} (hi : i < 4) (hj : j < 4) : (flat Ls)[4 * i + j]? = (Ls i)[j]? := by
  have := flat_cut h i hi
  rw [← this, List.getElem?_take_of_lt hj, List.getElem?_drop]
section
variable {c : Cx} {A : Around}
theorem law3 {n : Nat} {L a6 a5 a4 a3 a2 a1 sl LL : Addr} {co3 : Obj} {led : Led} {nl : Nat} {wa : Nat → Addr} {wv : Nat → List Value} {wn : Nat → Nat} {Ls : Nat → List Nat} {Q : Frs → Led → Prop} (hA : AOk (n + 14) A) (T : Tops c.base)
    (h3 : At c led a3 co3) (g3 : co3.data = .cell (some (.ref LL))) (hLL : At c led LL (seqObj "list" [Value.ref (wa 0), .ref (wa 1), .ref (wa 2), .ref (wa 3)].toArray nl)) (hw : ∀ k, k < 4 → At c led (wa k) (seqObj "list" (wv k).toArray (wn k)))
    (hwv : ∀ k, k < 4 → NA (wv k) (Ls k)) (hl4 : ∀ k, k < 4 → (Ls k).length = 4) (hr : ∀ x ∈ flat Ls, x < 256)
    (h : ∀ t, Q [(L, [("script", .ref sl), ("turned", .bytes (bys (swapL (flat Ls))) t)])] led) :
    WN c A (exec (lawB 3) (lawEnv L a6 a5 a4 a3 a2 a1)) [(L, [("script", .ref sl)])] led (fun fl f l => fl = .next ∧ Q f l) := by
  have hh := hA.handled
  have hfl := flat_len hl4
  refine WN_AssignName ?_ rfl
  with_reducible refine' WN_CallName ?_
  walk_at "name"
  with_reducible refine' WN_callFn T.swap ?z1 ?_ ?z2 ?z3
  case z1 => decide
  case z2 => rfl
  case z3 => rfl
  walk_at "go"
  intro D C
  rename_i I
  with_reducible refine' Wc_compStart ?_ ?z1
  case z1 => exact (W_selfList (by walk_at "mem") ⟨rfl, rfl⟩)
  with_reducible refine' Wc_two0Ind ?z1 hh 4 (fun i f l => ∃ (oi : Obj) (us : List Value) (n2 : Nat), Wk [(C, []), (L, [("script", .ref sl)])] ((D, seqObj "list" us.toArray n2) :: (I, oi) :: led) f l ∧ SeqIt "list_iterator" LL i oi ∧ NA us ((flat Ls).take (4 * i))) ?h0 ?_ ?_
  case z1 => (intro _; rfl)
  case h0 =>
    refine' exI3 (seqItObj "list_iterator" LL 0) [] 0 ⟨?w, ⟨rfl, rfl⟩, NA.nil⟩
    case w => walk_at "wk"
  · intro i hi f l hI
    first | with_reducible refine' W_hideT fun J K hJ hK => ?_ | with_reducible refine' W_hideC fun J K hJ hK => ?_ | with_reducible refine' W_hideO fun J K hJ hK => ?_
    with_reducible refine' exE3_3 hI fun oi us n2 hwk hoi hus => ?_
    clear hI
    with_reducible refine' W_wk hwk ?_
    with_reducible refine' W_nextList (v := .ref (wa i)) ?z1 hoi hLL.cons.cons ?_ fun o' ho' => ?_
    case z1 => intro o'; walk_at "up"
    · rcases lt4 hi with rfl | rfl | rfl | rfl <;> rfl
    refine OutIn_some ?_
    walk_at "go"
    with_reducible refine' W_iterList (hw i hi).cons.cons fun I2 => ?_
    with_reducible refine' Wc_start1 ?_ ?z1
    case z1 => exact (W_selfList (by walk_at "mem") ⟨rfl, rfl⟩)
    with_reducible refine' Wc_two1Ind ?z1 4 (fun j f l => ∃ (oj : Obj) (us : List Value) (n2 : Nat), Wk [(C, [("wishes", .ref (wa i))]), (L, [("script", .ref sl)])] ((I2, oj) :: (D, seqObj "list" us.toArray n2) :: (I, o') :: led) f l ∧ SeqIt "list_iterator" (wa i) j oj ∧ NA us ((flat Ls).take (4 * i + j))) ?h0 ?_ ?_
    case z1 => decide
    case h0 =>
      refine' exI3 (seqItObj "list_iterator" (wa i) 0) us n2 ⟨?w, ⟨rfl, rfl⟩, hus⟩
      case w => walk_at "wk"
    · intro j hj f l hI
      first | with_reducible refine' W_hideT fun J K hJ hK => ?_ | with_reducible refine' W_hideC fun J K hJ hK => ?_ | with_reducible refine' W_hideO fun J K hJ hK => ?_
      with_reducible refine' exE3_3 hI fun oj us n2 hwk hoj hus => ?_
      clear hI
      with_reducible refine' W_wk hwk ?_
      have hjl : j < (Ls i).length := by rw [hl4 i hi]; exact hj
      with_reducible refine' exX1 ((hwv i hi).at (List.getElem?_eq_getElem hjl)) fun tq hq => ?_
      have hul := hus.len
      rw [List.length_take] at hul
      with_reducible refine' W_nextList ?z1 hoj (hw i hi).cons.cons.cons ?z2 fun o2 ho2 => ?_
      case z1 => intro o'; walk_at "up"
      case z2 => simpa using hq
      walk_at "go"
      refine' hJ _ _ (exI3 _ _ _ ⟨?w, ho2, ?d⟩)
      case w => walk_at "wk"
      case d =>
        have e : (flat Ls).take (4 * i + (j + 1)) = (flat Ls).take (4 * i + j) ++ [(Ls i)[j]] := by
          have hlt : 4 * i + j < (flat Ls).length := by rw [hfl]; exact om50 hi hj
          rw [show 4 * i + (j + 1) = 4 * i + j + 1 from rfl, List.take_succ_eq_append_getElem hlt]
          have := flat_at hl4 hi hj
          rw [List.getElem?_eq_getElem hlt, List.getElem?_eq_getElem hjl] at this
          rw [Option.some.inj this]
        rw [e]
        exact hus.push _ _
    · intro f l hI
      with_reducible refine' exE3_3 hI fun oj us n2 hwk hoj hus => ?_
      clear hI
      with_reducible refine' W_wk hwk ?_
      have hvl := (hwv i hi).len
      with_reducible refine' W_endList hh ?z1 ?z2 hoj (hw i hi).cons.cons.cons ?z3 ⟨rfl, ?_⟩
      case z1 => walk_at "rm"
      case z2 => walk_at "mem"
      case z3 => (simp; rw [hvl, hl4 i hi]; exact Nat.le_refl _)
      refine' hJ _ _ (exI3 _ us n2 ⟨?w, ho', hus⟩)
      case w => walk_at "wk"
  · intro f l hI
    with_reducible refine' exE3_3 hI fun oi us n2 hwk hoi hus => ?_
    clear hI
    with_reducible refine' W_wk hwk ?_
    with_reducible refine' W_endList hh ?z1 ?z2 hoi hLL.cons.cons ?z3 ⟨rfl, ?_⟩
    case z1 => walk_at "rm"
    case z2 => walk_at "mem"
    case z3 => rfl
    rw [List.take_of_length_le (by exact om243 hfl)] at hus
    walk_at "go"
    refine W_bytesInts hh (.led (.head _)) (ListO.of _ _) hus hr (by exact om244 hfl) fun t => ?_
    walk_at "go"
    refine WN_wk (f0 := [(L, [("script", .ref sl)])]) (l0 := led) (by walk_at "wk") ?_
    with_reducible refine' c_swap (n := n + 13) hA T hfl hr fun t2 => ?_
    walk_at "go"
    with_reducible exact h _
end
end
section
structure Dat where
  a3 : Addr
  a2 : Addr
  a1 : Addr
  LL : Addr
  ao : Addr
  cl : Addr
  co3 : Obj
  co2 : Obj
  co1 : Obj
  ocl : Obj
  nl : Nat
  no : Nat
  wa : Nat → Addr
  wv : Nat → List Value
  wn : Nat → Nat
  vo : List Value
  its : Array Value
  m : Nat
  t4 : Tok
  W : Nat → List Nat
structure DatOk (c : Cx) (led : Led) (d : Dat) : Prop where
  h3 : At c led d.a3 d.co3
  g3 : d.co3.data = .cell (some (.ref d.LL))
  h2 : At c led d.a2 d.co2
  g2 : d.co2.data = .cell (some (.ref d.ao))
  h1 : At c led d.a1 d.co1
  g1 : d.co1.data = .cell (some (.ref d.cl))
  hLL : At c led d.LL (seqObj "list" [Value.ref (d.wa 0), .ref (d.wa 1), .ref (d.wa 2), .ref (d.wa 3)].toArray d.nl)
  hw : ∀ k, k < 4 → At c led (d.wa k) (seqObj "list" (d.wv k).toArray (d.wn k))
  hwv : ∀ k, k < 4 → NA (d.wv k) (d.W (octO d.m k))
  hao : At c led d.ao (seqObj "list" d.vo.toArray d.no)
  hvo : NA d.vo (octs d.m)
  hcl : At c led d.cl d.ocl
  hcl2 : ListO d.its d.ocl
  h4 : d.its[4]? = some (.int (d.m : Nat) d.t4)
  H : Wok d.W (octs d.m)
abbrev dEnv (d : Dat) (L a6 a5 a4 : Addr) : Env := lawEnv L a6 a5 a4 d.a3 d.a2 d.a1
def dLs (d : Dat) (k : Nat) : List Nat := d.W (octO d.m k)
theorem octs_getD (m k : Nat) (hk : k < 4) : (octs m).getD k 0 = octO m k := by
  rw [List.getD_eq_getElem?_getD, octs_get m k hk]; rfl
theorem octO_mem (m k : Nat) (hk : k < 4) : octO m k ∈ octs m := List.mem_of_getElem? (octs_get m k hk)
theorem swRun_rg {l : List Nat} (h : ∀ x ∈ l, x < 256) : ∀ n, ∀ x ∈ swRun l n, x < 256 := by
  intro n
  induction n with
  | zero =>
    intro x hx
    have : x ∈ List.replicate 16 0 := hx
    rw [List.eq_of_mem_replicate this]
    decide
  | succ n ih =>
    intro x hx
    rw [swRun_succ] at hx
    unfold swSet at hx
    rcases List.mem_or_eq_of_mem_set hx with hx | rfl
    · exact ih x hx
    · rw [List.getD_eq_getElem?_getD]
      cases e : l[n]? with
      | none => decide
      | some y => exact h y (List.mem_of_getElem? e)
theorem commaL_asc (b : Bool) : ∀ x ∈ commaL b, x < 128 := by cases b <;> decide
theorem commaL_len (b : Bool) : (commaL b).length ≤ 3 := by cases b <;> decide
theorem figL_asc (o : Nat) (h : o < 256) : ∀ x ∈ figL o, x < 128 := fun x hx => by have := figL_rg o h x hx; exact om245 this
theorem itemL_asc (os tl : List Nat) (m : Nat → Bool) (k : Nat) (w : List Nat) (ht : (tl.drop (4 * k)).take 4 = w.reverse) (ho : os.getD k 0 < 256) (hw : w.length = 4) (hr : ∀ x ∈ w, x < 256) : (∀ x ∈ itemL os tl m k, x < 128) ∧ (itemL os tl m k).length ≤ 40 := by
  have g : ∀ j, j < 4 → w.getD j 0 < 256 := fun j hj => by
    rw [List.getD_eq_getElem?_getD, List.getElem?_eq_getElem (by exact om2 hw hj)]
    exact hr _ (List.getElem_mem _)
  have a0 := figL_asc _ (g 0 (by decide))
  have a1 := figL_asc _ (g 1 (by decide))
  have a2 := figL_asc _ (g 2 (by decide))
  have a3 := figL_asc _ (g 3 (by decide))
  have b0 := figL_asc _ ho
  have c0 := commaL_asc (m k)
  have c1 := commaL_len (m k)
  unfold itemL
  rw [ht, toldQ_eq w hw]
  have l : ∀ o, (figL o).length = 2 := fun _ => rfl
  constructor
  · intro x hx
    simp only [List.mem_append, List.mem_cons, List.not_mem_nil, or_false] at hx
    rcases hx with (((hx | hx) | hx) | hx)
    · exact b0 x hx
    · exact om246 hx
    · rcases hx with (hx | hx) | hx | (hx | hx) | hx | (hx | hx) | hx | hx | hx | hx | hx
      · exact om7 hx
      · exact a3 x hx
      · exact c0 x hx
      · exact om7 hx
      · exact a2 x hx
      · exact c0 x hx
      · exact om7 hx
      · exact a1 x hx
      · exact c0 x hx
      · exact om7 hx
      · exact om53 hx
      · exact a0 x hx
      · exact om53 hx
    · exact om29 hx
  · simp only [List.length_append, List.length_cons, List.length_nil, l]
    exact om247 c1
theorem letter_asc (os tl : List Nat) (m : Nat → Bool) (Ls : Nat → List Nat) (hos : ∀ k, k < 4 → os.getD k 0 < 256) (ht : ∀ k, k < 4 → (tl.drop (4 * k)).take 4 = (Ls k).reverse) (hw : ∀ k, k < 4 → (Ls k).length = 4) (hr : ∀ k, k < 4 → ∀ x ∈ Ls k, x < 256) :
    (∀ x ∈ letterL os tl m, x < 128) ∧ (letterL os tl m).length ≤ 300 := by
  have e : letterL os tl m = itemL os tl m 0 ++ ([44, 32] ++ (itemL os tl m 1 ++ ([44, 32] ++ (itemL os tl m 2 ++ ([44, 32] ++ (itemL os tl m 3 ++ ([44, 32] ++ (itemL os tl m 0 ++ [44])))))))) := by
    unfold letterL
    simp [List.intercalate]
  with_reducible refine' exE0_2 ?z1 fun p0 q0 => ?_
  case z1 => exact (itemL_asc os tl m 0 (Ls 0) (ht 0 (by decide)) (hos 0 (by decide)) (hw 0 (by decide)) (hr 0 (by decide)))
  with_reducible refine' exE0_2 ?z1 fun p1 q1 => ?_
  case z1 => exact (itemL_asc os tl m 1 (Ls 1) (ht 1 (by decide)) (hos 1 (by decide)) (hw 1 (by decide)) (hr 1 (by decide)))
  with_reducible refine' exE0_2 ?z1 fun p2 q2 => ?_
  case z1 => exact (itemL_asc os tl m 2 (Ls 2) (ht 2 (by decide)) (hos 2 (by decide)) (hw 2 (by decide)) (hr 2 (by decide)))
  with_reducible refine' exE0_2 ?z1 fun p3 q3 => ?_
  case z1 => exact (itemL_asc os tl m 3 (Ls 3) (ht 3 (by decide)) (hos 3 (by decide)) (hw 3 (by decide)) (hr 3 (by decide)))
  rw [e]
  constructor
  · intro x hx
    simp only [List.mem_append, List.mem_cons, List.not_mem_nil, or_false] at hx
    rcases hx with hx | hx | hx | hx | hx | hx | hx | hx | hx | hx
    · exact p0 x hx
    · exact om20 hx
    · exact p1 x hx
    · exact om20 hx
    · exact p2 x hx
    · exact om20 hx
    · exact p3 x hx
    · exact om20 hx
    · exact p0 x hx
    · exact om19 hx
  · simp only [List.length_append, List.length_cons, List.length_nil]
    exact om248 q0 q1 q2 q3
section
variable {c : Cx} {A : Around} {led : Led} {d : Dat}
theorem law4 {n : Nat} {L a6 a5 a4 sl : Addr} {l : List Nat} {t : Tok} {Q : Flow → Frs → Led → Prop} (hA : AOk (n + 14) A) (T : Tops c.base)
    (h : Q .next [(L, [("script", .ref sl), ("turned", .bytes (bys l) t)])] led) :
    W c A (exec (lawB 4) (dEnv d L a6 a5 a4)) [(L, [("script", .ref sl), ("turned", .bytes (bys l) t)])] led Q := by
  refine W_If ?_
  walk_at "go"
  with_reducible refine' W_isBytes ?_
  walk_at "go"
  with_reducible exact h
theorem law5 {n : Nat} {L a6 a5 a4 : Addr} {o6 o5 o4 : Obj} {m : Loc} {Q : Flow → Frs → Led → Prop} (hA : AOk (n + 14) A) (T : Tops c.base) (hd : DatOk c led d) (g4 : o4.data = .cell none)
    (h : ∀ LF vf nf co4, StrsAre vf ((octs d.m).map fun o => tx (figL o)) → co4.data = .cell (some (.ref LF)) → Q .next [(L, m)] ((LF, seqObj "list" vf.toArray nf) :: (a6, o6) :: (a5, o5) :: (a4, co4) :: led)) :
    W c A (exec (lawB 5) (dEnv d L a6 a5 a4)) [(L, m)] ((a6, o6) :: (a5, o5) :: (a4, o4) :: led) Q := by
  have hh := hA.handled
  have h2 := hd.h2
  have g2 := hd.g2
  have hvo := hd.hvo
  have hvl := hvo.len
  have hol : (octs d.m).length = 4 := rfl
  refine W_Assign_Name ?_ rfl
  walk_at "go"
  with_reducible refine' W_iterList hd.hao.cons.cons.cons fun I => ?_
  intro D C
  with_reducible refine' Wc_compStart ?_ ?z1
  case z1 => exact (W_selfList (by walk_at "mem") ⟨rfl, rfl⟩)
  with_reducible refine' Wc_compInd ?z1 4 (fun i f l => ∃ (oi : Obj) (us : List Value) (n2 : Nat), Wk [(C, []), (L, m)]
      ((D, seqObj "list" us.toArray n2) :: (I, oi) :: (a6, o6) :: (a5, o5) :: (a4, o4) :: led) f l ∧ SeqIt "list_iterator" d.ao i oi ∧ StrsAre us (((octs d.m).map fun o => tx (figL o)).take i)) ?h0 ?_ ?_
  case z1 => decide
  case h0 =>
    refine' exI3 (seqItObj "list_iterator" d.ao 0) [] 0 ⟨?w, ⟨rfl, rfl⟩, .nil⟩
    case w => walk_at "wk"
  · intro k hk4 f l hI
    first | with_reducible refine' W_hideT fun J K hJ hK => ?_ | with_reducible refine' W_hideC fun J K hJ hK => ?_ | with_reducible refine' W_hideO fun J K hJ hK => ?_
    with_reducible refine' exE3_3 hI fun oi us n2 hwk hoi hus => ?_
    clear hI
    with_reducible refine' W_wk hwk ?_
    have hul := hus.length
    rw [List.length_take] at hul
    with_reducible refine' exX1 (hvo.at (octs_get d.m k hk4)) fun tq hq => ?_
    with_reducible refine' W_nextList ?z1 hoi hd.hao.cons.cons.cons.cons.cons ?z2 fun o' ho' => ?_
    case z1 => intro o'; walk_at "up"
    case z2 => simpa using hq
    walk_at "go"
    have hlt : octO d.m k < 256 := octs_rg d.m _ (octO_mem d.m k hk4)
    with_reducible refine' c_figures (n := n + 13) hA T ?z1 ?z2 fun tf => ?_
    case z1 => exact om0
    case z2 => exact om27 hlt
    walk_at "go"
    refine' hJ _ _ (exI3 _ _ _ ⟨?w, ho', ?d⟩)
    case w => walk_at "wk"
    case d =>
      have hkl : k < ((octs d.m).map fun o => tx (figL o)).length := by rw [List.length_map, hol]; exact hk4
      rw [List.take_succ_eq_append_getElem hkl, List.getElem_map]
      have e : (octs d.m)[k]'(by rw [hol]; exact hk4) = octO d.m k := by
        have := octs_get d.m k hk4
        rw [List.getElem?_eq_getElem (by rw [hol]; exact hk4)] at this
        exact Option.some.inj this
      rw [e, fig_figL]
      exact strs_push hus _ _
  · intro f l hI
    with_reducible refine' exE3_3 hI fun oi us n2 hwk hoi hus => ?_
    clear hI
    with_reducible refine' W_wk hwk ?_
    with_reducible refine' W_endList hh ?z1 ?z2 hoi hd.hao.cons.cons.cons.cons.cons ?z3 ⟨rfl, ?_⟩
    case z1 => walk_at "rm"
    case z2 => walk_at "mem"
    case z3 => (simp; exact om249 hvl hol)
    rw [List.take_of_length_le (by simp [hol])] at hus
    walk_at "go"
    exact h _ _ _ _ hus (by assumption)
theorem law6 {n : Nat} {L a6 a5 a4 sl : Addr} {l : List Nat} {t : Tok} {Q : Flow → Frs → Led → Prop} (hA : AOk (n + 14) A) (T : Tops c.base) (hd : DatOk c led d) (hl : l = swapL (flat (dLs d)))
    (h : ∀ IT vi ni, StrsAre vi ([0, 1, 2, 3, 0].map fun k => tx (itemP (octO d.m k) (d.W (octO d.m k)))) → Q .next [(L, [("script", .ref sl), ("turned", .bytes (bys l) t), ("items", .ref IT)])] ((IT, seqObj "list" vi.toArray ni) :: led)) :
    W c A (exec (lawB 6) (dEnv d L a6 a5 a4)) [(L, [("script", .ref sl), ("turned", .bytes (bys l) t)])] led Q := by
  have hh := hA.handled
  have h2 := hd.h2
  have g2 := hd.g2
  have h1 := hd.h1
  have g1 := hd.g1
  have hol : (octs d.m).length = 4 := rfl
  have hwl : ∀ k, k < 4 → (dLs d k).length = 4 := fun k hk => w_len hd.H (octO_mem d.m k hk)
  have hwr : ∀ k, k < 4 → ∀ x ∈ dLs d k, x < 256 := fun k hk => w_rg hd.H (octO_mem d.m k hk)
  have hfl := flat_len hwl
  have hfr : ∀ x ∈ flat (dLs d), x < 256 := by
    intro x hx
    unfold flat at hx
    rcases List.mem_append.mp hx with hx | hx
    · rcases List.mem_append.mp hx with hx | hx
      · rcases List.mem_append.mp hx with hx | hx
        · exact hwr 0 (by decide) x hx
        · exact hwr 1 (by decide) x hx
      · exact hwr 2 (by decide) x hx
    · exact hwr 3 (by decide) x hx
  have hsl : (swapL (flat (dLs d))).length = 16 := swRun_len _ _
  subst hl
  refine W_Assign_Name ?_ rfl
  walk_at "go"
  with_reducible refine' W_itemListO hd.hcl hd.hcl2 ?z1 ?z2 ?z3 ?z4 ?z5 ?_
  case z1 => decide
  case z2 => decide
  case z3 => simpa using hd.h4
  case z4 => rfl
  case z5 => (intros; rfl)
  walk_at "go"
  with_reducible refine' W_div ?z1 ?z2 fun td => ?_
  case z1 => decide
  case z2 => decide
  walk_at "go"
  rw [show ((d.m : Nat) : Int) / 32768 = ((d.m / 32768 : Nat) : Int) by exact om250]
  have hso : ∀ k, k < 4 → (octs d.m).getD k 0 < 256 := fun k hk => by rw [octs_getD d.m k hk]; exact octs_rg d.m _ (octO_mem d.m k hk)
  have hcut : ∀ k, k < 4 → ((swapL (flat (dLs d))).drop (4 * k)).take 4 = (dLs d k).reverse := fun k hk => by rw [swap_rev _ hfl k hk, flat_cut hwl k hk]
  have hsr : ∀ x ∈ swapL (flat (dLs d)), x < 256 := swRun_rg hfr 16
  with_reducible refine' c_letter (n := n + 12) ?z1 T hd.hao (ListO.of _ _) hd.hvo hol (octs_rg d.m) hsl hsr fun tl => ?_
  case z1 => exact (hA.le (by exact om18))
  walk_at "go"
  with_reducible refine' exE0_2 (letter_asc (octs d.m) (swapL (flat (dLs d))) (fun k => Builtin.bitAnd (((d.m / 32768 : Nat) : Int).fdiv (2 ^ k)) 1 == 1) (dLs d) hso hcut hwl hwr) fun ha1 ha2 => ?_
  with_reducible refine' c_http (n := n + 13) hA T ?_ ?z1 fun IT vi ni hvi => ?_
  case z1 => (rw [tx_len]; exact om251 ha2)
  · show (List.toArray _).all _ = true
    simpa using ha1
  rw [tx_toList] at hvi
  have e := http_letter (octs d.m) (swapL (flat (dLs d))) (fun k => Builtin.bitAnd (((d.m / 32768 : Nat) : Int).fdiv (2 ^ k)) 1 == 1) (dLs d) hso hcut hwl hwr
  change StrsAre vi (httpS _) at hvi
  rw [e] at hvi
  walk_at "go"
  exact h _ _ _ hvi
end
end
section
section
variable {c : Cx} {A : Around} {led : Led} {d : Dat}
theorem law7 {n : Nat} {L a6 a5 a4 LF IT : Addr} {o6 o5 co4 : Obj} {vf vi : List Value} {nf ni : Nat} {m : Loc} {Q : Flow → Frs → Led → Prop} (hA : AOk (n + 14) A) (T : Tops c.base) (hd : DatOk c led d)
    (hm : (("items" : Str), Value.ref IT) ∈ m) (hvi : StrsAre vi ([0, 1, 2, 3, 0].map fun k => tx (itemP (octO d.m k) (d.W (octO d.m k))))) (hvf : StrsAre vf ((octs d.m).map fun o => tx (figL o))) (g4 : co4.data = .cell (some (.ref LF)))
    (h : Q .next [(L, m)] ((IT, seqObj "list" vi.toArray ni) :: (LF, seqObj "list" vf.toArray nf) :: (a6, o6) :: (a5, o5) :: (a4, co4) :: led)) :
    W c A (exec (lawB 7) (dEnv d L a6 a5 a4)) [(L, m)] ((IT, seqObj "list" vi.toArray ni) :: (LF, seqObj "list" vf.toArray nf) :: (a6, o6) :: (a5, o5) :: (a4, co4) :: led) Q := by
  have hh := hA.handled
  have h3 := hd.h3
  have g3 := hd.g3
  have hol : (octs d.m).length = 4 := rfl
  refine W_If ?_
  with_reducible refine' W_isTrue_Compare ?_ ?z1
  case z1 => with_unfolding_all rfl
  with_reducible refine' W_local ?z1 ?z2 ?z3 hm ?z4 ?_
  case z1 => rfl
  case z2 => rfl
  case z3 => rfl
  case z4 => decide
  walk_at "go"
  rename_i q0 q1 q2 q3 q4 TP I
  intro D C
  have hkk : ∀ j, j < 5 → ∃ k, k < 4 ∧ [0, 1, 2, 3, 0][j]? = some k ∧ ∃ t, ([Value.int 0 q0, .int 1 q1, .int 2 q2, .int 3 q3, .int 0 q4].toArray)[j]? = some (.int (k : Nat) t) := by
    intro j hj
    have : j = 0 ∨ j = 1 ∨ j = 2 ∨ j = 3 ∨ j = 4 := by exact om26 hj
    rcases this with rfl | rfl | rfl | rfl | rfl
    · exact ⟨0, by decide, rfl, _, rfl⟩
    · exact ⟨1, by decide, rfl, _, rfl⟩
    · exact ⟨2, by decide, rfl, _, rfl⟩
    · exact ⟨3, by decide, rfl, _, rfl⟩
    · exact ⟨0, by decide, rfl, _, rfl⟩
  with_reducible refine' Wc_compStart ?_ ?z1
  case z1 => exact (W_selfTuple (by walk_at "mem") ⟨rfl, rfl⟩)
  with_reducible refine' Wc_compInd ?z1 5 (fun i f l => ∃ (oi : Obj) (us : List Value) (n2 : Nat), Wk [(C, []), (L, m)]
      ((D, seqObj "list" us.toArray n2) :: (I, oi) :: (TP, seqObj "tuple" [Value.int 0 q0, .int 1 q1, .int 2 q2, .int 3 q3, .int 0 q4].toArray 0) :: (IT, seqObj "list" vi.toArray ni) :: (LF, seqObj "list" vf.toArray nf) :: (a6, o6) :: (a5, o5) :: (a4, co4) :: led) f l ∧ SeqIt "tuple_iterator" TP i oi ∧
      StrsAre us (([0, 1, 2, 3, 0].map fun k => tx (itemP (octO d.m k) (d.W (octO d.m k)))).take i)) ?h0 ?_ ?_
  case z1 => decide
  case h0 =>
    refine' exI3 (seqItObj "tuple_iterator" TP 0) [] 0 ⟨?w, ⟨rfl, rfl⟩, .nil⟩
    case w => walk_at "wk"
  · intro j hj f l hI
    first | with_reducible refine' W_hideT fun J K hJ hK => ?_ | with_reducible refine' W_hideC fun J K hJ hK => ?_ | with_reducible refine' W_hideO fun J K hJ hK => ?_
    with_reducible refine' exE3_3 hI fun oi us n2 hwk hoi hus => ?_
    clear hI
    with_reducible refine' W_wk hwk ?_
    obtain ⟨k, hk4, hkj, tk, hkv⟩ := hkk j hj
    have hul := hus.length
    rw [List.length_take] at hul
    have hlt : octO d.m k < 256 := octs_rg d.m _ (octO_mem d.m k hk4)
    refine exX1 (hvf.at (j := k) (y := tx (figL (octO d.m k))) (by rw [List.getElem?_map, octs_get d.m k hk4]; rfl)) fun tq hq => ?_
    have hwl := w_len hd.H (octO_mem d.m k hk4)
    have hwr := w_rg hd.H (octO_mem d.m k hk4)
    with_reducible refine' W_nextTuple ?z1 hoi ?z2 hkv fun o' ho' => ?_
    case z1 => intro o'; walk_at "up"
    case z2 => exact (.led (by walk_at "mem"))
    walk_at "go"
    with_reducible refine' W_itemListO ?z1 (ListO.of _ _) ?z2 ?z3 ?z4 ?z5 ?z6 ?_
    case z1 => exact (.led (by walk_at "mem"))
    case z2 => exact om0
    case z3 => exact om1 hk4
    case z4 => simpa using hq
    case z5 => rfl
    case z6 => (intros; rfl)
    walk_at "go"
    with_reducible refine' W_catT (figL (octO d.m k)) [61, 34] ?z1 ?z2 ?z3 fun _ => ?_
    case z1 => rfl
    case z2 => rfl
    case z3 => (rw [figL_len]; decide)
    walk_at "go"
    with_reducible refine' W_itemListO hd.hLL.cons.cons.cons.cons.cons.cons.cons.cons (ListO.of _ _) ?z1 ?z2 (x := .ref (d.wa k)) ?_ ?z3 ?z4 ?_
    case z1 => exact om0
    case z2 => exact om1 hk4
    case z3 => rfl
    case z4 => (intros; rfl)
    · rcases lt4 hk4 with rfl | rfl | rfl | rfl <;> rfl
    walk_at "go"
    with_reducible refine' c_told (n := n + 12) ?z1 T (hd.hw k hk4).cons.cons.cons.cons.cons.cons.cons.cons (ListO.of _ _) (hd.hwv k hk4) hwl hwr fun TL vt nt hvt => ?_
    case z1 => exact (hA.le (by exact om18))
    walk_at "go"
    have htl : (toldL (d.W (octO d.m k))).length = 4 := rfl
    have hil : (innerP (d.W (octO d.m k))).length = 20 := rfl
    with_reducible refine' W_joinO ?z1 (ListO.of _ _) hvt (joinOk_small (by decide) (by rw [List.length_map, htl]; decide) ?_) fun _ => ?_
    case z1 => exact (.led (by walk_at "mem"))
    · intro y hy
      obtain ⟨z, hz, rfl⟩ := List.mem_map.mp hy
      rw [tx_len]
      unfold toldL at hz
      simp only [List.mem_cons, List.not_mem_nil, or_false] at hz
      rcases hz with rfl | rfl | rfl | rfl <;> simp [figL]
    rw [show (Str.ofString ", ") = tx [44, 32] from rfl, join_tx, inner_eq]
    with_reducible refine' W_catT (figL (octO d.m k) ++ [61, 34]) _ ?z1 ?z2 ?z3 fun _ => ?_
    case z1 => rfl
    case z2 => rfl
    case z3 => (rw [hil]; simp [figL])
    walk_at "go"
    with_reducible refine' W_catT _ [34] ?z1 ?z2 ?z3 fun _ => ?_
    case z1 => rfl
    case z2 => rfl
    case z3 => (rw [List.length_append, hil]; simp [figL])
    walk_at "go"
    refine' hJ _ _ (exI3 o' _ _ ⟨?w, ho', ?d⟩)
    case w => walk_at "wk"
    case d =>
      have hkl : j < ([0, 1, 2, 3, 0].map fun k => tx (itemP (octO d.m k) (d.W (octO d.m k)))).length := hj
      rw [List.take_succ_eq_append_getElem hkl, List.getElem_map]
      have e : [0, 1, 2, 3, 0][j]'hj = k := by
        rw [List.getElem?_eq_getElem hj] at hkj
        exact Option.some.inj hkj
      rw [e]
      have e2 : itemP (octO d.m k) (d.W (octO d.m k)) = figL (octO d.m k) ++ [61, 34] ++ innerP (d.W (octO d.m k)) ++ [34] := by unfold itemP; simp
      rw [e2]
      exact strs_push hus _ _
  · intro f l hI
    with_reducible refine' exE3_3 hI fun oi us n2 hwk hoi hus => ?_
    clear hI
    with_reducible refine' W_wk hwk ?_
    with_reducible refine' W_endTuple hh ?z1 ?z2 hoi ?z3 ?z4 ⟨rfl, ?_⟩
    case z1 => walk_at "rm"
    case z2 => walk_at "mem"
    case z3 => exact (.led (by walk_at "mem"))
    case z4 => rfl
    rw [List.take_of_length_le (by simp)] at hus
    walk_at "go"
    with_reducible refine' W_neStrs hA.cline ?z1 (ListO.of _ _) ?z2 (ListO.of _ _) hvi hus ?_
    case z1 => exact (.led (by walk_at "mem"))
    case z2 => exact (.led (by walk_at "mem"))
    with_reducible refine' ex_bool (if_f (W_wk (f0 := [(L, m)]) (l0 := (IT, seqObj "list" vi.toArray ni) :: (LF, seqObj "list" vf.toArray nf) :: (a6, o6) :: (a5, o5) :: (a4, co4) :: led) (by walk_at "wk") (W_nil h)))
end
end
section
theorem hexd_61 (n : Nat) (h : n < 16) : hexd (n : Int) ≠ 61 := by
  unfold hexd
  split <;> omega
theorem figL_61 (o : Nat) (h : o < 256) : 61 ∉ figL o := by
  intro hc
  unfold figL at hc
  simp only [List.mem_cons, List.not_mem_nil, or_false] at hc
  rcases hc with hc | hc
  · exact hexd_61 _ (by exact om10 h) hc.symm
  · exact hexd_61 _ (by exact om11) hc.symm
theorem innerP_asc {w : List Nat} (hw : w.length = 4) (hr : ∀ x ∈ w, x < 256) : ∀ x ∈ innerP w, x < 128 := by
  have g : ∀ j, j < 4 → w.getD j 0 < 256 := fun j hj => by
    rw [List.getD_eq_getElem?_getD, List.getElem?_eq_getElem (by exact om2 hw hj)]
    exact hr _ (List.getElem_mem _)
  have a0 := figL_asc _ (g 0 (by decide))
  have a1 := figL_asc _ (g 1 (by decide))
  have a2 := figL_asc _ (g 2 (by decide))
  have a3 := figL_asc _ (g 3 (by decide))
  intro x hx
  unfold innerP at hx
  simp only [List.mem_append, List.mem_cons, List.not_mem_nil, or_false] at hx
  rcases hx with (hx | hx) | (hx | hx) | (hx | hx) | (hx | hx) | (hx | hx) | (hx | hx) | hx | hx | hx | hx
  · exact om7 hx
  · exact a3 x hx
  · exact om19 hx
  · exact om28 hx
  · exact om7 hx
  · exact a2 x hx
  · exact om19 hx
  · exact om28 hx
  · exact om7 hx
  · exact a1 x hx
  · exact om19 hx
  · exact om28 hx
  · exact om7 hx
  · exact om29 hx
  · exact a0 x hx
  · exact om29 hx
theorem items_map (W : Nat → List Nat) (m : Nat) : ([0, 1, 2, 3, 0].map fun k => itemE W ((octs m).getD k 0)).map line = [0, 1, 2, 3, 0].map fun k => tx (itemP (octO m k) (W (octO m k))) := by
  show [line (itemE W (octO m 0)), line (itemE W (octO m 1)), line (itemE W (octO m 2)), line (itemE W (octO m 3)), line (itemE W (octO m 0))] = _
  rw [items_line, items_line, items_line, items_line]
  rfl
section
variable {c : Cx} {A : Around} {led : Led} {d : Dat}
theorem law8 {n : Nat} {L a6 a5 a4 IT sl : Addr} {vi : List Value} {ni : Nat} {l : List Nat} {t : Tok} {Q : Flow → Frs → Led → Prop} (hA : AOk (n + 14) A) (T : Tops c.base) (H : Wok d.W (octs d.m))
    (hvi : StrsAre vi ([0, 1, 2, 3, 0].map fun k => tx (itemP (octO d.m k) (d.W (octO d.m k)))))
    (h : ∀ BK vb nb, StrsAre vb ((bookE d.W (octs d.m)).map lineS) → Q .next [(L, [("script", .ref sl), ("turned", .bytes (bys l) t), ("items", .ref IT), ("book", .ref BK)])] ((BK, seqObj "list" vb.toArray nb) :: (IT, seqObj "list" vi.toArray ni) :: led)) :
    W c A (exec (lawB 8) (dEnv d L a6 a5 a4)) [(L, [("script", .ref sl), ("turned", .bytes (bys l) t), ("items", .ref IT)])] ((IT, seqObj "list" vi.toArray ni) :: led) Q := by
  have hh := hA.handled
  rw [← items_map] at hvi
  refine W_Assign_Name ?_ rfl
  walk_at "go"
  with_reducible refine' c_book (n := n + 12) ?z1 T ?z2 hvi ?_ ?z3 ?_ fun BK vb nb hvb => ?_
  case z1 => exact (hA.le (by exact om18))
  case z2 => exact (.led (by walk_at "mem"))
  case z3 => simp
  · intro e he
    refine exE1_2 (List.mem_map.mp he) fun k hk hrf2 => ?_; subst hrf2
    have hk4 : k < 4 := by
      simp only [List.mem_cons, List.not_mem_nil, or_false] at hk
      exact om48 hk
    rw [octs_getD d.m k hk4]
    refine ⟨figL_61 _ (octs_rg d.m _ (octO_mem d.m k hk4)), ?_, ?_, ?_⟩
    · show 2 ≤ (34 :: (innerP _ ++ [34])).length
      simp
    · show (figL _).length ≤ 1000
      rw [figL_len]; decide
    · show (34 :: (innerP _ ++ [34])).length ≤ 1000
      have : (innerP (d.W (octO d.m k))).length = 20 := rfl
      rw [List.length_cons, List.length_append, this]
      decide
  · intro e he
    rw [keqv_items H] at he
    refine exE1_2 (List.mem_map.mp he) fun o ho hrf2 => ?_; subst hrf2
    refine ⟨by show (figL _).length ≤ 1000; rw [figL_len]; decide, by show (innerP _).length ≤ 1000; exact (show (20 : Nat) ≤ 1000 by decide), ?_⟩
    have := innerP_asc (w_len H ho) (w_rg H ho)
    simpa using this
  rw [book_items H] at hvb
  walk_at "go"
  with_reducible exact h _ _ _ hvb
def toldS (W : Nat → List Nat) (m k : Nat) : List Str := (toldE (W (octO m k))).map fun e => lineS (octO m k, e)
theorem book_flat {W : Nat → List Nat} {m : Nat} (H : Wok W (octs m)) : (bookE W (octs m)).map lineS = flat (toldS W m) := by
  unfold bookE flat toldS
  have e : ∀ k, k < 4 → (toldE (W (octO m k))).filter (fun e => decide (e.1 ∈ octs m)) = toldE (W (octO m k)) := fun k hk => toldE_all H (octO_mem m k hk)
  show (([octO m 0, octO m 1, octO m 2, octO m 3] : List Nat).flatMap _).map lineS = _
  simp only [List.flatMap_cons, List.flatMap_nil, List.append_nil]
  rw [e 0 (by decide), e 1 (by decide), e 2 (by decide), e 3 (by decide)]
  simp only [List.map_append, List.map_map]
  simp [Function.comp_def]
end
end
section
section
variable {c : Cx} {A : Around} {led : Led} {d : Dat}
theorem law9 {n : Nat} {L a6 a5 a4 LF BK : Addr} {o6 o5 co4 : Obj} {vf vb : List Value} {nf nb : Nat} {m : Loc} {Q : Flow → Frs → Led → Prop} (hA : AOk (n + 14) A) (T : Tops c.base) (hd : DatOk c led d)
    (hm : (("book" : Str), Value.ref BK) ∈ m) (hvb : StrsAre vb ((bookE d.W (octs d.m)).map lineS)) (hvf : StrsAre vf ((octs d.m).map fun o => tx (figL o))) (g4 : co4.data = .cell (some (.ref LF)))
    (h : Q .next [(L, m)] ((BK, seqObj "list" vb.toArray nb) :: (LF, seqObj "list" vf.toArray nf) :: (a6, o6) :: (a5, o5) :: (a4, co4) :: led)) :
    W c A (exec (lawB 9) (dEnv d L a6 a5 a4)) [(L, m)] ((BK, seqObj "list" vb.toArray nb) :: (LF, seqObj "list" vf.toArray nf) :: (a6, o6) :: (a5, o5) :: (a4, co4) :: led) Q := by
  have hh := hA.handled
  have h3 := hd.h3
  have g3 := hd.g3
  have hol : (octs d.m).length = 4 := rfl
  have htl4 : ∀ k, k < 4 → (toldS d.W d.m k).length = 4 := fun k hk => rfl
  have hfl := flat_len htl4
  rw [book_flat hd.H] at hvb
  refine W_If ?_
  with_reducible refine' W_isTrue_Compare ?_ ?z1
  case z1 => with_unfolding_all rfl
  with_reducible refine' W_local ?z1 ?z2 ?z3 hm ?z4 ?_
  case z1 => rfl
  case z2 => rfl
  case z3 => rfl
  case z4 => decide
  with_reducible refine' W_ListComp ?z1 ?z2 ?z3 ?z4 ?z5 ?z6 hh ?_
  case z1 => rfl
  case z2 => (intro _; rfl)
  case z3 => rfl
  case z4 => rfl
  case z5 => decide
  case z6 => decide
  walk_at "go"
  with_reducible refine' W_iterRangeN (n := 4) ?z1 ?z2 fun I x0 l0 hx0 hl0 => ?_
  case z1 => exact (.led (.head _))
  case z2 => decide
  intro D C
  with_reducible refine' Wc_compStart ?_ ?z1
  case z1 => exact (W_selfRange (by walk_at "mem"))
  with_reducible refine' Wc_two0Ind ?z1 hh 4 (fun i f l => ∃ (x left : Int) (us : List Value) (n2 : Nat), x = i ∧ left = (4 : Nat) - (i : Int) ∧ Wk [(C, []), (L, m)]
      ((D, seqObj "list" us.toArray n2) :: (I, rangeIt x left 1) :: (BK, seqObj "list" vb.toArray nb) :: (LF, seqObj "list" vf.toArray nf) :: (a6, o6) :: (a5, o5) :: (a4, co4) :: led) f l ∧ StrsAre us ((flat (toldS d.W d.m)).take (4 * i))) ?h0 ?_ ?_
  case z1 => (intro _; rfl)
  case h0 =>
    refine' exI4 x0 l0 [] 0 ⟨hx0, hl0, ?w, .nil⟩
    case w => walk_at "wk"
  · intro k hk4 f l hI
    first | with_reducible refine' W_hideT fun J K hJ hK => ?_ | with_reducible refine' W_hideC fun J K hJ hK => ?_ | with_reducible refine' W_hideO fun J K hJ hK => ?_
    with_reducible refine' exE4_4 hI fun x left us n2 hx hleft hwk hus => ?_
    clear hI
    with_reducible refine' W_wk hwk ?_
    have hwl := w_len hd.H (octO_mem d.m k hk4)
    have hwr := w_rg hd.H (octO_mem d.m k hk4)
    with_reducible refine' W_nextRangeN ?z1 hx hleft hk4 fun tk x' left' hx' hl' => ?_
    case z1 => intro o'; walk_at "up"
    refine OutIn_some ?_
    walk_at "go"
    with_reducible refine' W_itemListO hd.hLL.cons.cons.cons.cons.cons.cons.cons (ListO.of _ _) ?z1 ?z2 (x := .ref (d.wa k)) ?_ ?z3 ?z4 ?_
    case z1 => exact om0
    case z2 => exact om1 hk4
    case z3 => rfl
    case z4 => (intros; rfl)
    · rcases lt4 hk4 with rfl | rfl | rfl | rfl <;> rfl
    walk_at "go"
    with_reducible refine' c_told (n := n + 12) ?z1 T (hd.hw k hk4).cons.cons.cons.cons.cons.cons.cons (ListO.of _ _) (hd.hwv k hk4) hwl hwr fun TL vt nt hvt => ?_
    case z1 => exact (hA.le (by exact om18))
    walk_at "go"
    rename_i I2
    with_reducible refine' Wc_start1 ?_ ?z1
    case z1 => exact (W_selfList (by walk_at "mem") ⟨rfl, rfl⟩)
    with_reducible refine' Wc_two1Ind ?z1 4 (fun j f l => ∃ (oj : Obj) (us : List Value) (n2 : Nat), Wk [(C, [("k", .int k tk)]), (L, m)]
      ((I2, oj) :: (TL, seqObj "list" vt.toArray nt) :: (D, seqObj "list" us.toArray n2) :: (I, rangeIt x' left' 1) :: (BK, seqObj "list" vb.toArray nb) :: (LF, seqObj "list" vf.toArray nf) :: (a6, o6) :: (a5, o5) :: (a4, co4) :: led) f l ∧ SeqIt "list_iterator" TL j oj ∧ StrsAre us ((flat (toldS d.W d.m)).take (4 * k + j))) ?h0 ?_ ?_
    case z1 => decide
    case h0 =>
      refine' exI3 (seqItObj "list_iterator" TL 0) us n2 ⟨?w, ⟨rfl, rfl⟩, hus⟩
      case w => walk_at "wk"
    · intro j hj f l hI
      first | with_reducible refine' W_hideT fun J K hJ hK => ?_ | with_reducible refine' W_hideC fun J K hJ hK => ?_ | with_reducible refine' W_hideO fun J K hJ hK => ?_
      with_reducible refine' exE3_3 hI fun oj us n2 hwk hoj hus => ?_
      clear hI
      with_reducible refine' W_wk hwk ?_
      have hul := hus.length
      rw [List.length_take] at hul
      have hlt : octO d.m k < 256 := octs_rg d.m _ (octO_mem d.m k hk4)
      refine exX1 (hvf.at (j := k) (y := tx (figL (octO d.m k))) (by rw [List.getElem?_map, octs_get d.m k hk4]; rfl)) fun tq hq => ?_
      have hte : j < (toldE (d.W (octO d.m k))).length := hj
      refine exX1 (hvt.at (j := j) (y := tx (61 :: valE (toldE (d.W (octO d.m k)))[j])) (by rw [toldL_eq, List.getElem?_map, List.getElem?_map, List.getElem?_eq_getElem hte]; rfl)) fun te hte2 => ?_
      with_reducible refine' W_nextList ?z1 hoj ?z2 ?z3 fun o2 ho2 => ?_
      case z1 => intro o'; walk_at "up"
      case z2 => exact (.led (by walk_at "mem"))
      case z3 => simpa using hte2
      walk_at "go"
      with_reducible refine' W_itemListO ?z1 (ListO.of _ _) ?z2 ?z3 ?z4 ?z5 ?z6 ?_
      case z1 => exact (.led (by walk_at "mem"))
      case z2 => exact om0
      case z3 => exact om1 hk4
      case z4 => simpa using hq
      case z5 => rfl
      case z6 => (intros; rfl)
      walk_at "go"
      have hvl : ∀ e, (valE e).length ≤ 4 := fun e => by unfold valE; split <;> simp [figL]
      with_reducible refine' W_catT (figL (octO d.m k)) (61 :: valE (toldE (d.W (octO d.m k)))[j]) ?z1 ?z2 ?z3 fun _ => ?_
      case z1 => rfl
      case z2 => rfl
      case z3 => (have := hvl (toldE (d.W (octO d.m k)))[j]; rw [figL_len, List.length_cons]; exact om205 this)
      walk_at "go"
      refine' hJ _ _ (exI3 _ _ _ ⟨?w, ho2, ?d⟩)
      case w => walk_at "wk"
      case d =>
        have hlt2 : 4 * k + j < (flat (toldS d.W d.m)).length := by rw [hfl]; exact om50 hk4 hj
        rw [show 4 * k + (j + 1) = 4 * k + j + 1 from rfl, List.take_succ_eq_append_getElem hlt2]
        have := flat_at htl4 hk4 hj
        have e2 : (toldS d.W d.m k)[j]? = some (lineS (octO d.m k, (toldE (d.W (octO d.m k)))[j])) := by
          unfold toldS
          rw [List.getElem?_map, List.getElem?_eq_getElem hte]
          rfl
        rw [List.getElem?_eq_getElem hlt2, e2] at this
        rw [Option.some.inj this]
        exact strs_push hus _ _
    · intro f l hI
      with_reducible refine' exE3_3 hI fun oj us n2 hwk hoj hus => ?_
      clear hI
      with_reducible refine' W_wk hwk ?_
      have hvtl := hvt.length
      with_reducible refine' W_endList hh ?z1 ?z2 hoj ?z3 ?z4 ⟨rfl, ?_⟩
      case z1 => walk_at "rm"
      case z2 => walk_at "mem"
      case z3 => exact (.led (by walk_at "mem"))
      case z4 => (rw [List.getElem?_toArray, List.getElem?_eq_none_iff, hvtl]; exact Nat.le_refl _)
      refine' hJ _ _ (exI4 x' left' us n2 ⟨hx', hl', ?w, hus⟩)
      case w => walk_at "wk"
  · intro f l hI
    with_reducible refine' exE4_4 hI fun x left us n2 hx hleft hwk hus => ?_
    clear hI
    with_reducible refine' W_wk hwk ?_
    with_reducible refine' W_endRangeN hh ?z1 ?z2 hleft ⟨rfl, ?_⟩
    case z1 => walk_at "rm"
    case z2 => walk_at "mem"
    rw [List.take_of_length_le (by rw [hfl]; exact Nat.le_refl _)] at hus
    walk_at "go"
    with_reducible refine' W_neStrs hA.cline ?z1 (ListO.of _ _) ?z2 (ListO.of _ _) hvb hus ?_
    case z1 => exact (.led (by walk_at "mem"))
    case z2 => exact (.led (by walk_at "mem"))
    with_reducible refine' ex_bool (if_f (W_wk (f0 := [(L, m)]) (l0 := (BK, seqObj "list" vb.toArray nb) :: (LF, seqObj "list" vf.toArray nf) :: (a6, o6) :: (a5, o5) :: (a4, co4) :: led) (by walk_at "wk") (W_nil h)))
end
end
section
section
variable {c : Cx} {A : Around} {frs : Frs} {led : Led} {env : Env}
theorem W_or_nil {Q : Bool → Frs → Led → Prop} (h : Q false frs led) : W c A (allTrue .Or [] env) frs led Q := fun _ S => wpAny_allTrue_Or_nil ⟨_, _, S, h⟩
theorem W_or_cons {x : Expr} {rest : List Expr} {Q : Bool → Frs → Led → Prop} (h : W c A (isTrue x env (eval x env)) frs led (fun b f l => if b = true then Q true f l else W c A (allTrue .Or rest env) f l Q)) :
    W c A (allTrue .Or (x :: rest) env) frs led Q := fun s S => by
  show wpAny _ _ (isTrue x env (eval x env) >>= fun b => _) _ _ s
  refine wpAny_bind (h.out S fun b s f l S q => ?_)
  cases b with
  | true => exact wpAny_pure ⟨f, l, S, by simpa using q⟩
  | false => exact (by simpa using q : W c A (allTrue .Or rest env) f l Q) s S
end
def ifB : Stmt → List Stmt
  | .If _ b _ _ => b
  | _ => []
def rdB (i : Nat) : Stmt := (ifB ((forBody (lawB 11)).headD (.Pass ⟨0, 0, 0, 0⟩))).getD i (.Pass ⟨0, 0, 0, 0⟩)
def deedS (e : Nat × Nat) : Str := tx (figL e.1 ++ 61 :: figL e.2)
def figS (o : Nat) : Str := tx (figL o)
section
variable {c : Cx} {A : Around} {led : Led} {d : Dat} {left : List Nat}
theorem rd0 {n : Nat} {L a6 a5 a4 BK DE LF : Addr} {o6 o5 co4 : Obj} {vb vd vf : List Value} {nb nd nf : Nat} {v5 : Option Value} {tt : Tok} {ti : Int} {Q : Flow → Frs → Led → Prop} (hA : AOk (n + 14) A) (T : Tops c.base) (H : Wok d.W (octs d.m)) (hl : left.Sublist (octs d.m))
    (hvb : StrsAre vb ((bookE d.W left).map lineS)) (g5 : o5.data = .cell v5)
    (h : ∀ PD oD ep kvs co5, DOb (PySem.strKind pw c.w) kvs ep oD → KV kvs (dOf d.W left) → co5.data = .cell (some (.ref PD)) → Q .next [(L, [("book", .ref BK), ("deeds", .ref DE), ("turn", .int ti tt)])] ((PD, oD) :: (DE, seqObj "list" vd.toArray nd) :: (BK, seqObj "list" vb.toArray nb) :: (LF, seqObj "list" vf.toArray nf) :: (a6, o6) :: (a5, co5) :: (a4, co4) :: led)) :
    W c A (exec (rdB 0) (dEnv d L a6 a5 a4)) [(L, [("book", .ref BK), ("deeds", .ref DE), ("turn", .int ti tt)])] ((DE, seqObj "list" vd.toArray nd) :: (BK, seqObj "list" vb.toArray nb) :: (LF, seqObj "list" vf.toArray nf) :: (a6, o6) :: (a5, o5) :: (a4, co4) :: led) Q := by
  have hh := hA.handled
  have hvb' : StrsAre vb (((bookE d.W left).map lineE).map line) := by rw [List.map_map]; exact hvb
  have hbl := bookE_len H hl
  refine W_Assign_Name ?_ rfl
  walk_at "go"
  with_reducible refine' c_keqv (n := n + 13) hA T ?z1 hvb' ?_ ?z2 fun PD oD ep kvs hdo hkv => ?_
  case z1 => exact (.led (by walk_at "mem"))
  case z2 => (rw [List.length_map]; exact om206 hbl)
  · intro e he
    refine exE1_2 (List.mem_map.mp he) fun x hx hrf2 => ?_; subst hrf2
    with_reducible refine' exE0_2 (bookE_rg H hl hx) fun h1 h2 => ?_
    refine ⟨figL_61 _ (H.rg _ (hl.subset h1)), ?_, by show (figL _).length ≤ 1000; rw [figL_len]; decide, ?_⟩
    · show 2 ≤ (valE x.2).length
      unfold valE
      split <;> simp [figL]
    · show (valE x.2).length ≤ 1000
      unfold valE
      split <;> simp [figL]
  rw [keqv_book H hl] at hkv
  walk_at "go"
  exact h _ _ _ _ _ hdo hkv (by assumption)
theorem rd1 {n : Nat} {L a6 a5 a4 PD DE LF : Addr} {BK : Addr} {o6 co5 co4 oD : Obj} {vb vd vf : List Value} {nb nd nf ep : Nat} {kvs : List (Str × Value)} {v6 : Option Value} {m : Loc} {Q : Flow → Frs → Led → Prop} (hA : AOk (n + 14) A) (T : Tops c.base) (hkc : c.kc = none) (H : Wok d.W (octs d.m)) (hl : left.Sublist (octs d.m))
    (hd : DOb (PySem.strKind pw c.w) kvs ep oD) (hkv : KV kvs (dOf d.W left)) (g5 : co5.data = .cell (some (.ref PD))) (g6 : o6.data = .cell v6)
    (h : ∀ RW vr nr co6, StrsAre vr ((row d.W left).map figS) → co6.data = .cell (some (.ref RW)) → Q .next [(L, m)] ((RW, seqObj "list" vr.toArray nr) :: (PD, oD) :: (DE, seqObj "list" vd.toArray nd) :: (BK, seqObj "list" vb.toArray nb) :: (LF, seqObj "list" vf.toArray nf) :: (a6, co6) :: (a5, co5) :: (a4, co4) :: led)) :
    W c A (exec (rdB 1) (dEnv d L a6 a5 a4)) [(L, m)] ((PD, oD) :: (DE, seqObj "list" vd.toArray nd) :: (BK, seqObj "list" vb.toArray nb) :: (LF, seqObj "list" vf.toArray nf) :: (a6, o6) :: (a5, co5) :: (a4, co4) :: led) Q := by
  have hh := hA.handled
  have hll := hl.length_le
  rw [H.len] at hll
  refine W_Assign_Name ?_ rfl
  walk_at "go"
  with_reducible refine' W_sys (a := PD) (o := oD) ?z1 fun hsys => ?_
  case z1 => walk_at "mem"
  with_reducible refine' c_led (n := n + 2) hA T hkc ?z1 hsys hd hkv ?z2 fun RW vr nr hvr => ?_
  case z1 => exact (.led (by walk_at "mem"))
  case z2 => (unfold dOf; rw [List.length_map]; exact om207 hll)
  rw [led_row H hl, List.map_map] at hvr
  walk_at "go"
  exact h _ _ _ _ hvr (by assumption)
theorem rd2 {n : Nat} {L a6 a5 a4 PD DE LF RW : Addr} {BK : Addr} {co6 co5 co4 oD : Obj} {vb vd vf vr : List Value} {nb nd nf nr ep : Nat} {kvs : List (Str × Value)} {m : Loc} {Q : Flow → Frs → Led → Prop} (hA : AOk (n + 14) A) (T : Tops c.base) (H : Wok d.W (octs d.m)) (hl : left.Sublist (octs d.m))
    (hd : DOb (PySem.strKind pw c.w) kvs ep oD) (hkv : KV kvs (dOf d.W left)) (g4 : co4.data = .cell (some (.ref LF))) (g5 : co5.data = .cell (some (.ref PD))) (g6 : co6.data = .cell (some (.ref RW))) (hvr : StrsAre vr ((row d.W left).map figS)) (hvf : StrsAre vf (left.map figS))
    (h : Q .next [(L, m)] ((RW, seqObj "list" vr.toArray nr) :: (PD, oD) :: (DE, seqObj "list" vd.toArray nd) :: (BK, seqObj "list" vb.toArray nb) :: (LF, seqObj "list" vf.toArray nf) :: (a6, co6) :: (a5, co5) :: (a4, co4) :: led)) :
    W c A (exec (rdB 2) (dEnv d L a6 a5 a4)) [(L, m)] ((RW, seqObj "list" vr.toArray nr) :: (PD, oD) :: (DE, seqObj "list" vd.toArray nd) :: (BK, seqObj "list" vb.toArray nb) :: (LF, seqObj "list" vf.toArray nf) :: (a6, co6) :: (a5, co5) :: (a4, co4) :: led) Q := by
  have hh := hA.handled
  have hkl := hkv.len
  have hll := hl.length_le
  rw [H.len] at hll
  have hdl : (dOf d.W left).length = left.length := by unfold dOf; rw [List.length_map]
  with_reducible refine' W_sys (a := PD) (o := oD) ?z1 fun hsys => ?_
  case z1 => walk_at "mem"
  refine W_If ?_
  with_reducible refine' W_isTrue_BoolOp ?_
  with_reducible refine' W_or_cons ?_
  walk_at "go"
  with_reducible refine' W_listOfDictS hh hsys ?z1 hd ?z2 fun KL nk vk hvl hvk => ?_
  case z1 => exact (.led (by walk_at "mem"))
  case z2 => (rw [sizeLine_eq]; exact om208 hkl hll hdl)
  have hvks := strs_of_keys hkv hvl hvk
  rw [keys_dOf, List.map_map] at hvks
  walk_at "go"
  with_reducible refine' W_neStrs hA.cline ?z1 (ListO.of _ _) ?z2 (ListO.of _ _) hvks hvf ?_
  case z1 => exact (.led (by walk_at "mem"))
  case z2 => exact (.led (by walk_at "mem"))
  with_reducible refine' ex_bool (if_f ?_)
  with_reducible refine' W_or_cons ?_
  walk_at "go"
  with_reducible refine' c_singly (n := n + 13) hA T ?z1 hsys hd hkv (closed_dOf H hl) ?z2 fun SG vs ns hvs => ?_
  case z1 => exact (.led (by walk_at "mem"))
  case z2 => exact om209 hll hdl
  rw [singly_dOf H hl, List.map_map] at hvs
  walk_at "go"
  with_reducible refine' W_neStrs hA.cline ?z1 (ListO.of _ _) ?z2 (ListO.of _ _) hvr hvs ?_
  case z1 => exact (.led (by walk_at "mem"))
  case z2 => exact (.led (by walk_at "mem"))
  with_reducible refine' ex_bool (if_f (W_or_nil (if_f ?_)))
  with_reducible refine' W_wk (f0 := [(L, m)]) (l0 := (RW, seqObj "list" vr.toArray nr) :: (PD, oD) :: (DE, seqObj "list" vd.toArray nd) :: (BK, seqObj "list" vb.toArray nb) :: (LF, seqObj "list" vf.toArray nf) :: (a6, co6) :: (a5, co5) :: (a4, co4) :: led) ?z1 (W_nil h)
  case z1 => walk_at "wk"
end
end
section
section
variable {c : Cx} {A : Around} {led : Led} {d : Dat} {left : List Nat}
theorem KV.look' {kvs : List (Str × Value)} {W : Nat → List Nat} {os left : List Nat} (H : Wok W os) (hl : left.Sublist os) (hkv : KV kvs (dOf W left)) {o : Nat} (ho : o ∈ left) : ∃ t, valueAt kvs (figS o) = some (.str (figS (nx W left o)) t) :=
  hkv.look _ _ (lk_dOf H hl ho)
theorem row_len {W : Nat → List Nat} {os left : List Nat} (H : Wok W os) (hl : left.Sublist os) : (row W left).length ≤ 4 := by
  have hnd : left.Nodup := H.nd.sublist hl
  have p1 : (row W left).Perm (left.filter fun o => decide (o ∈ row W left)) := by
    refine (List.perm_ext_iff_of_nodup (nodup_dd _) (hnd.sublist List.filter_sublist)).mpr fun x => ?_
    rw [List.mem_filter, decide_eq_true_iff]
    exact ⟨fun h => ⟨row_sub H hl h, h⟩, fun h => h.2⟩
  have h1 := p1.length_eq
  have h2 := List.length_filter_le (fun o => decide (o ∈ row W left)) left
  have h3 := hl.length_le
  rw [H.len] at h3
  exact om210 h1 h2 h3
theorem rd3 {n : Nat} {L a6 a5 a4 PD DE LF RW : Addr} {BK : Addr} {co6 co5 co4 oD : Obj} {vb vd vf vr : List Value} {nb nd nf nr ep : Nat} {kvs : List (Str × Value)} {m : Loc} {dd0 : List (Nat × Nat)} {Q : Flow → Frs → Led → Prop} (hA : AOk (n + 14) A) (T : Tops c.base) (H : Wok d.W (octs d.m)) (hl : left.Sublist (octs d.m))
    (hd : DOb (PySem.strKind pw c.w) kvs ep oD) (hkv : KV kvs (dOf d.W left)) (g5 : co5.data = .cell (some (.ref PD))) (g6 : co6.data = .cell (some (.ref RW))) (hvr : StrsAre vr ((row d.W left).map figS)) (hvd : StrsAre vd (dd0.map deedS)) (hdl : dd0.length ≤ 100)
    (hm : (("deeds" : Str), Value.ref DE) ∈ m)
    (h : ∀ vd' nd' x, StrsAre vd' ((dd0 ++ (row d.W left).map fun o => (o, nx d.W left o)).map deedS) → Q .next [(L, m)] (x :: (RW, seqObj "list" vr.toArray nr) :: (PD, oD) :: (DE, seqObj "list" vd'.toArray nd') :: (BK, seqObj "list" vb.toArray nb) :: (LF, seqObj "list" vf.toArray nf) :: (a6, co6) :: (a5, co5) :: (a4, co4) :: led)) :
    W c A (exec (rdB 3) (dEnv d L a6 a5 a4)) [(L, m)] ((RW, seqObj "list" vr.toArray nr) :: (PD, oD) :: (DE, seqObj "list" vd.toArray nd) :: (BK, seqObj "list" vb.toArray nb) :: (LF, seqObj "list" vf.toArray nf) :: (a6, co6) :: (a5, co5) :: (a4, co4) :: led) Q := by
  have hh := hA.handled
  have hrl := row_len H hl
  have hvrl := hvr.length
  rw [List.length_map] at hvrl
  refine W_ExprNone ?_ rfl rfl
  with_reducible refine' W_Method ?_ ?z1
  case z1 => with_unfolding_all rfl
  with_reducible refine' W_local ?z1 ?z2 ?z3 hm ?z4 ?_
  case z1 => rfl
  case z2 => rfl
  case z3 => rfl
  case z4 => decide
  walk_at "go"
  rename_i I
  intro D C
  with_reducible refine' Wc_compStart ?_ ?z1
  case z1 => exact (W_selfList (by walk_at "mem") ⟨rfl, rfl⟩)
  with_reducible refine' Wc_compInd ?z1 (row d.W left).length (fun i f l => ∃ (oi : Obj) (us : List Value) (n2 : Nat), Wk [(C, []), (L, m)]
      ((D, seqObj "list" us.toArray n2) :: (I, oi) :: (RW, seqObj "list" vr.toArray nr) :: (PD, oD) :: (DE, seqObj "list" vd.toArray nd) :: (BK, seqObj "list" vb.toArray nb) :: (LF, seqObj "list" vf.toArray nf) :: (a6, co6) :: (a5, co5) :: (a4, co4) :: led) f l ∧ SeqIt "list_iterator" RW i oi ∧
      StrsAre us ((((row d.W left).map fun o => (o, nx d.W left o)).map deedS).take i)) ?h0 ?_ ?_
  case z1 => decide
  case h0 =>
    refine' exI3 (seqItObj "list_iterator" RW 0) [] 0 ⟨?w, ⟨rfl, rfl⟩, .nil⟩
    case w => walk_at "wk"
  · intro j hj f l hI
    first | refine W_hideT fun J K hJ hK => ?_ | refine W_hideC fun J K hJ hK => ?_ | refine W_hideO fun J K hJ hK => ?_
    with_reducible refine' exE3_3 hI fun oi us n2 hwk hoi hus => ?_
    clear hI
    with_reducible refine' W_wk hwk ?_
    have hul := hus.length
    rw [List.length_take] at hul
    have hor := List.getElem_mem hj
    have hol := row_sub H hl hor
    refine exX1 (hvr.at (j := j) (y := figS (row d.W left)[j]) (by rw [List.getElem?_map, List.getElem?_eq_getElem hj]; rfl)) fun tq hq => ?_
    with_reducible refine' exX1 (KV.look' H hl hkv hol) fun tv hval => ?_
    have hnext : (((row d.W left).map fun o => (o, nx d.W left o)).map deedS).take (j + 1) = (((row d.W left).map fun o => (o, nx d.W left o)).map deedS).take j ++ [deedS ((row d.W left)[j], nx d.W left (row d.W left)[j])] := by
      rw [List.take_succ_eq_append_getElem (by simpa using hj), List.getElem_map, List.getElem_map]
    generalize (row d.W left)[j] = o at *
    with_reducible refine' W_nextList ?z1 hoi ?z2 ?z3 fun o' ho' => ?_
    case z1 => intro o'; walk_at "up"
    case z2 => exact (.led (by walk_at "mem"))
    case z3 => simpa using hq
    walk_at "go"
    refine W_catT (figL o) [61] rfl rfl (by rw [figL_len]; decide) fun _ => ?_
    walk_at "go"
    refine W_getDict (.led (by walk_at "mem")) hd (strKind_is _ _ _ _) hval rfl (by intros; rfl) ?_
    walk_at "go"
    refine W_catT (figL o ++ [61]) (figL (nx d.W left o)) rfl rfl (by rw [List.length_append, figL_len, figL_len]; decide) fun _ => ?_
    walk_at "go"
    refine' hJ _ _ (exI3 o' _ _ ⟨?w, ho', ?d⟩)
    case w => walk_at "wk"
    case d =>
      rw [hnext]
      have e : deedS (o, nx d.W left o) = tx (figL o ++ [61] ++ figL (nx d.W left o)) := by unfold deedS; simp
      rw [e]
      exact strs_push hus _ _
  · intro f l hI
    with_reducible refine' exE3_3 hI fun oi us n2 hwk hoi hus => ?_
    clear hI
    with_reducible refine' W_wk hwk ?_
    refine W_endList hh (by walk_at "rm") (by walk_at "mem") hoi (.led (by walk_at "mem")) (by simp; exact om6 hvrl) ⟨rfl, ?_⟩
    rw [List.take_of_length_le (by simp)] at hus
    have hul := hus.length
    rw [List.length_map, List.length_map] at hul
    have hvl := hvd.length
    rw [List.length_map] at hvl
    walk_at "go"
    refine W_extend (led' := fun o' => _) (fun o' => by walk_at "up") (.led (by walk_at "mem")) (by rw [sizeLine_eq]; exact om211 hdl hrl hul hvl) fun m2 => ?_
    walk_at "go"
    exact h _ _ _ (by rw [List.map_append]; exact strs_append hvd hus)
/-- those who stay -/
theorem rd4 {n : Nat} {L a6 a5 a4 PD DE LF RW : Addr} {BK : Addr} {co6 co5 co4 oD : Obj} {vb vd vf vr : List Value} {nb nd nf nr : Nat} {m : Loc} {Q : Flow → Frs → Led → Prop} (hA : AOk (n + 14) A) (T : Tops c.base) (H : Wok d.W (octs d.m)) (hl : left.Sublist (octs d.m))
    (g4 : co4.data = .cell (some (.ref LF))) (g6 : co6.data = .cell (some (.ref RW))) (hvr : StrsAre vr ((row d.W left).map figS)) (hvf : StrsAre vf (left.map figS))
    (h : ∀ LF' vf' nf' co4', StrsAre vf' ((left.filter fun o => decide (o ∉ row d.W left)).map figS) → co4'.data = .cell (some (.ref LF')) → Q .next [(L, m)] ((LF', seqObj "list" vf'.toArray nf') :: (RW, seqObj "list" vr.toArray nr) :: (PD, oD) :: (DE, seqObj "list" vd.toArray nd) :: (BK, seqObj "list" vb.toArray nb) :: (LF, seqObj "list" vf.toArray nf) :: (a6, co6) :: (a5, co5) :: (a4, co4') :: led)) :
    W c A (exec (rdB 4) (dEnv d L a6 a5 a4)) [(L, m)] ((RW, seqObj "list" vr.toArray nr) :: (PD, oD) :: (DE, seqObj "list" vd.toArray nd) :: (BK, seqObj "list" vb.toArray nb) :: (LF, seqObj "list" vf.toArray nf) :: (a6, co6) :: (a5, co5) :: (a4, co4) :: led) Q := by
  have hh := hA.handled
  have hvfl := hvf.length
  rw [List.length_map] at hvfl
  have hll := hl.length_le
  rw [H.len] at hll
  have hvr' : StrsAre vr (((row d.W left).map figL).map tx) := by rw [List.map_map]; exact hvr
  refine W_Assign_Name ?_ rfl
  walk_at "go"
  rename_i I
  intro D C
  with_reducible refine' Wc_compStart ?_ ?z1
  case z1 => exact (W_selfList (by walk_at "mem") ⟨rfl, rfl⟩)
  with_reducible refine' Wc_compInd ?z1 left.length (fun i f l => ∃ (oi : Obj) (us : List Value) (n2 : Nat), Wk [(C, []), (L, m)]
      ((D, seqObj "list" us.toArray n2) :: (I, oi) :: (RW, seqObj "list" vr.toArray nr) :: (PD, oD) :: (DE, seqObj "list" vd.toArray nd) :: (BK, seqObj "list" vb.toArray nb) :: (LF, seqObj "list" vf.toArray nf) :: (a6, co6) :: (a5, co5) :: (a4, co4) :: led) f l ∧ SeqIt "list_iterator" LF i oi ∧
      StrsAre us (((left.take i).filter fun o => decide (o ∉ row d.W left)).map figS)) ?h0 ?_ ?_
  case z1 => decide
  case h0 =>
    refine' exI3 (seqItObj "list_iterator" LF 0) [] 0 ⟨?w, ⟨rfl, rfl⟩, .nil⟩
    case w => walk_at "wk"
  · intro j hj f l hI
    first | refine W_hideT fun J K hJ hK => ?_ | refine W_hideC fun J K hJ hK => ?_ | refine W_hideO fun J K hJ hK => ?_
    with_reducible refine' exE3_3 hI fun oi us n2 hwk hoi hus => ?_
    clear hI
    with_reducible refine' W_wk hwk ?_
    have hul := hus.length
    rw [List.length_map] at hul
    have hful := List.length_filter_le (fun o => decide (o ∉ row d.W left)) (left.take j)
    rw [List.length_take] at hful
    have hol : left[j] ∈ left := List.getElem_mem hj
    have ho : left[j] < 256 := H.rg _ (hl.subset hol)
    refine exX1 (hvf.at (j := j) (y := figS left[j]) (by rw [List.getElem?_map, List.getElem?_eq_getElem hj]; rfl)) fun tq hq => ?_
    have hnext : (left.take (j + 1)).filter (fun o => decide (o ∉ row d.W left)) = (left.take j).filter (fun o => decide (o ∉ row d.W left)) ++ [left[j]].filter (fun o => decide (o ∉ row d.W left)) := by
      rw [List.take_succ_eq_append_getElem hj, List.filter_append]
    have hrow : ∀ x ∈ row d.W left, x < 256 := fun x hx => H.rg x (hl.subset (row_sub H hl hx))
    generalize left[j] = o at *
    with_reducible refine' W_nextList ?z1 hoi ?z2 ?z3 fun o' ho' => ?_
    case z1 => intro o'; walk_at "up"
    case z2 => exact (.led (by walk_at "mem"))
    case z3 => simpa using hq
    walk_at "go"
    refine W_notInStrs (.led (by walk_at "mem")) (ListO.of _ _) hvr' ?_
    walk_at "go"
    with_reducible refine' if_b (fun hc => ?_) fun hc => ?_
    · have hni : o ∉ row d.W left := fun q => by
        have := (mem_figs H hrow ho).mpr q
        simp [this] at hc
      walk_at "go"
      refine' hJ _ _ (exI3 o' _ _ ⟨?w, ho', ?d⟩)
      case w => walk_at "wk"
      case d =>
        rw [hnext, List.filter_cons_of_pos (by simpa using hni), List.map_append]
        exact strs_push hus _ _
    · have hin : o ∈ row d.W left := by
        have : figL o ∈ (row d.W left).map figL := by simpa using hc
        exact (mem_figs H hrow ho).mp this
      walk_at "go"
      refine' hJ _ _ (exI3 o' _ _ ⟨?w, ho', ?d⟩)
      case w => walk_at "wk"
      case d =>
        rw [hnext, List.filter_cons_of_neg (by simpa using hin), List.filter_nil, List.append_nil]
        exact hus
  · intro f l hI
    with_reducible refine' exE3_3 hI fun oi us n2 hwk hoi hus => ?_
    clear hI
    with_reducible refine' W_wk hwk ?_
    refine W_endList hh (by walk_at "rm") (by walk_at "mem") hoi (.led (by walk_at "mem")) (by simp; exact om6 hvfl) ⟨rfl, ?_⟩
    rw [List.take_length] at hus
    walk_at "go"
    exact h _ _ _ _ hus (by assumption)
end
end
section
section
variable {c : Cx} {A : Around} {led : Led} {d : Dat} {left lf : List Nat}
/-- the lines that stay -/
theorem rd5 {n : Nat} {L a6 a5 a4 DE RW LF : Addr} {BK : Addr} {co6 co5 co4 : Obj} {vb vd vf : List Value} {nb nd nf : Nat} {tt : Tok} {ti : Int} {Q : Flow → Frs → Led → Prop} (hA : AOk (n + 14) A) (T : Tops c.base) (H : Wok d.W (octs d.m)) (hl : left.Sublist (octs d.m)) (hlf : lf.Sublist left)
    (g4 : co4.data = .cell (some (.ref LF))) (hvb : StrsAre vb ((bookE d.W left).map lineS)) (hvf : StrsAre vf (lf.map figS))
    (h : ∀ BK' vb' nb', StrsAre vb' (((bookE d.W left).filter fun x => decide (x.1 ∈ lf) && decide (x.2.1 ∈ lf)).map lineS) → Q .next [(L, [("book", .ref BK'), ("deeds", .ref DE), ("turn", .int ti tt)])] ((BK', seqObj "list" vb'.toArray nb') :: (LF, seqObj "list" vf.toArray nf) :: (DE, seqObj "list" vd.toArray nd) :: (BK, seqObj "list" vb.toArray nb) :: (a6, co6) :: (a5, co5) :: (a4, co4) :: led)) :
    W c A (exec (rdB 5) (dEnv d L a6 a5 a4)) [(L, [("book", .ref BK), ("deeds", .ref DE), ("turn", .int ti tt)])] ((LF, seqObj "list" vf.toArray nf) :: (DE, seqObj "list" vd.toArray nd) :: (BK, seqObj "list" vb.toArray nb) :: (a6, co6) :: (a5, co5) :: (a4, co4) :: led) Q := by
  have hh := hA.handled
  have hbl := bookE_len H hl
  have hvf' : StrsAre vf ((lf.map figL).map tx) := by rw [List.map_map]; exact hvf
  refine W_AssignComp rfl rfl (by intro _; rfl) rfl rfl (by decide) (by decide) hh ?_
  walk_at "go"
  rename_i I
  intro D C
  with_reducible refine' Wc_compStart ?_ ?z1
  case z1 => exact (W_selfList (by walk_at "mem") ⟨rfl, rfl⟩)
  with_reducible refine' Wc_compInd ?z1 (bookE d.W left).length (fun i f l => ∃ (oi : Obj) (us : List Value) (n2 : Nat), Wk [(C, []), (L, [("book", .ref BK), ("deeds", .ref DE), ("turn", .int ti tt)])]
      ((D, seqObj "list" us.toArray n2) :: (I, oi) :: (LF, seqObj "list" vf.toArray nf) :: (DE, seqObj "list" vd.toArray nd) :: (BK, seqObj "list" vb.toArray nb) :: (a6, co6) :: (a5, co5) :: (a4, co4) :: led) f l ∧ SeqIt "list_iterator" BK i oi ∧
      StrsAre us ((((bookE d.W left).take i).filter fun x => decide (x.1 ∈ lf) && decide (x.2.1 ∈ lf)).map lineS)) ?h0 ?_ ?_
  case z1 => decide
  case h0 =>
    refine' exI3 (seqItObj "list_iterator" BK 0) [] 0 ⟨?w, ⟨rfl, rfl⟩, .nil⟩
    case w => walk_at "wk"
  · intro j hj f l hI
    first | with_reducible refine' W_hideT fun J K hJ hK => ?_ | with_reducible refine' W_hideC fun J K hJ hK => ?_ | with_reducible refine' W_hideO fun J K hJ hK => ?_
    with_reducible refine' exE3_3 hI fun oi us n2 hwk hoi hus => ?_
    clear hI
    with_reducible refine' W_wk hwk ?_
    have hul := hus.length
    rw [List.length_map] at hul
    have hful := List.length_filter_le (fun x : Nat × (Nat × Bool) => decide (x.1 ∈ lf) && decide (x.2.1 ∈ lf)) ((bookE d.W left).take j)
    rw [List.length_take] at hful
    have hxm := bookE_rg H hl (List.getElem_mem hj)
    refine exX1 (hvb.at (j := j) (y := lineS (bookE d.W left)[j]) (by rw [List.getElem?_map, List.getElem?_eq_getElem hj]; rfl)) fun tq hq => ?_
    have hnext : ((bookE d.W left).take (j + 1)).filter (fun x => decide (x.1 ∈ lf) && decide (x.2.1 ∈ lf)) = ((bookE d.W left).take j).filter (fun x => decide (x.1 ∈ lf) && decide (x.2.1 ∈ lf)) ++ [(bookE d.W left)[j]].filter (fun x => decide (x.1 ∈ lf) && decide (x.2.1 ∈ lf)) := by
      rw [List.take_succ_eq_append_getElem hj, List.filter_append]
    generalize (bookE d.W left)[j] = x at *
    obtain ⟨o, e⟩ := x
    have ho : o < 256 := H.rg _ (hl.subset hxm.1)
    have he : e.1 < 256 := H.rg _ (hl.subset hxm.2)
    have hlfr : ∀ x ∈ lf, x < 256 := fun x hx => H.rg x (hl.subset (hlf.subset hx))
    have hvl : (valE e).length ≤ 4 := by unfold valE; split <;> simp [figL]
    with_reducible refine' W_nextList ?z1 hoi ?z2 ?z3 fun o' ho' => ?_
    case z1 => intro o'; walk_at "up"
    case z2 => exact (.led (by walk_at "mem"))
    case z3 => simpa using hq
    rw [lineS_eq]
    walk_at "go"
    have hxl : (figL o ++ 61 :: valE e).length ≤ 10 := by rw [List.length_append, figL_len, List.length_cons]; exact om212 hvl
    intro sa
    with_reducible refine' W_slice_ns ?z1 ?z2 (slice2 o (61 :: valE e)) ?z3 ?z4 fun _ => ?_
    case z1 => exact (.led (by walk_at "mem"))
    case z2 => (rw [tx_len, sizeLine_eq]; exact Nat.le_trans hxl (by decide))
    case z3 => rfl
    case z4 => (intros; rfl)
    walk_at "go"
    with_reducible refine' W_inStrs ?z1 (ListO.of _ _) hvf' ?_
    case z1 => exact (.led (by walk_at "mem"))
    walk_at "go"
    with_reducible refine' if_b (fun hc1 => ?_) fun hc1 => ?_
    · have ho1 : o ∈ lf := (mem_figs H hlfr ho).mp (by simpa using hc1)
      walk_at "go"
      intro sb
      with_reducible refine' W_slice_sn ?z1 ?z2 (slice3 o (valE e)) ?z3 ?z4 fun _ => ?_
      case z1 => exact (.led (by walk_at "mem"))
      case z2 => (rw [tx_len, sizeLine_eq]; exact Nat.le_trans hxl (by decide))
      case z3 => rfl
      case z4 => (intros; rfl)
      walk_at "go"
      with_reducible refine' W_stripChars ?z1 (strip_val e he) fun _ => ?_
      case z1 => (rw [tx_len, sizeLine_eq]; exact om213 hvl)
      walk_at "go"
      with_reducible refine' W_inStrs ?z1 (ListO.of _ _) hvf' ?_
      case z1 => exact (.led (by walk_at "mem"))
      walk_at "go"
      with_reducible refine' if_b (fun hc2 => ?_) fun hc2 => ?_
      · have he1 : e.1 ∈ lf := (mem_figs H hlfr he).mp (by simpa using hc2)
        walk_at "go"
        refine' hJ _ _ (exI3 o' _ _ ⟨?w, ho', ?d⟩)
        case w => walk_at "wk"
        case d =>
          rw [hnext, List.filter_cons_of_pos (by simp [ho1, he1]), List.map_append]
          exact strs_push hus _ _
      · have he1 : e.1 ∉ lf := fun q => by
          have := (mem_figs H hlfr he).mpr q
          simp [this] at hc2
        walk_at "go"
        refine' hJ _ _ (exI3 o' _ _ ⟨?w, ho', ?d⟩)
        case w => walk_at "wk"
        case d =>
          rw [hnext, List.filter_cons_of_neg (by simp [he1]), List.filter_nil, List.append_nil]
          exact hus
    · have ho1 : o ∉ lf := fun q => by
        have := (mem_figs H hlfr ho).mpr q
        simp [this] at hc1
      walk_at "go"
      refine' hJ _ _ (exI3 o' _ _ ⟨?w, ho', ?d⟩)
      case w => walk_at "wk"
      case d =>
        rw [hnext, List.filter_cons_of_neg (by simp [ho1]), List.filter_nil, List.append_nil]
        exact hus
  · intro f l hI
    with_reducible refine' exE3_3 hI fun oi us n2 hwk hoi hus => ?_
    clear hI
    with_reducible refine' W_wk hwk ?_
    have hvbl := hvb.length
    rw [List.length_map] at hvbl
    with_reducible refine' W_endList hh ?z1 ?z2 hoi ?z3 ?z4 ⟨rfl, ?_⟩
    case z1 => walk_at "rm"
    case z2 => walk_at "mem"
    case z3 => exact (.led (by walk_at "mem"))
    case z4 => (simp; exact om6 hvbl)
    rw [List.take_length] at hus
    walk_at "go"
    with_reducible exact h _ _ _ hus
end
end
section
section
variable {α : Type} {c : Cx} {A : Around} {frs : Frs} {led : Led}
theorem W_perm {led' : Led} {t : Sem α} {Q : α → Frs → Led → Prop} (hp : led.Perm led') (h : W c A t frs led' Q) : W c A t frs led Q := fun s S => h s (S.permL hp)
theorem DatOk.cons {d : Dat} {p : Addr × Obj} (h : DatOk c led d) : DatOk c (p :: led) d :=
  ⟨h.h3.cons, h.g3, h.h2.cons, h.g2, h.h1.cons, h.g1, h.hLL.cons, fun k hk => (h.hw k hk).cons, h.hwv, h.hao.cons, h.hvo, h.hcl.cons, h.hcl2, h.h4, h.H⟩
theorem W_keep {f0 : Frs} {l0 : Led} {t : Sem α} {Q : α → Frs → Led → Prop} (hf : FW f0 frs) (hl : l0.Sublist led) (h : W c A t f0 l0 Q) : W c A t frs led Q := W_wk ⟨hf, hl⟩ h
end
theorem rounds_nil {W : Nat → List Nat} {os : List Nat} {n : Nat} (h : leftR W os n = []) : leftR W os (n + 1) = [] ∧ deedR W os (n + 1) = deedR W os n ∧ bookE W (leftR W os (n + 1)) = [] := by
  have e1 : leftR W os (n + 1) = [] := by
    show (leftR W os n).filter _ = []
    rw [h]; rfl
  refine ⟨e1, ?_, by rw [e1]; rfl⟩
  show deedR W os n ++ (row W (leftR W os n)).map _ = _
  rw [h]
  show deedR W os n ++ [] = _
  rw [List.append_nil]
theorem deedR_len {W : Nat → List Nat} {os : List Nat} (H : Wok W os) : ∀ n, (deedR W os n).length ≤ 4 * n
  | 0 => Nat.le_refl _
  | n + 1 => by
    have h1 := deedR_len H n
    have h2 := row_len H (leftR_sub (W := W) n)
    show (deedR W os n ++ (row W (leftR W os n)).map _).length ≤ _
    rw [List.length_append, List.length_map]
    exact om214 h1 h2
section
variable {c : Cx} {A : Around} {led : Led} {d : Dat}
theorem law11 {n : Nat} {L a6 a5 a4 LF BK DE : Addr} {o6 o5 co4 : Obj} {vf vb : List Value} {nf nb : Nat} {m : Loc} {Q : Flow → Frs → Led → Prop} (hA : AOk (n + 14) A) (T : Tops c.base) (hkc : c.kc = none) (hd : DatOk c led d)
    (hm : ∀ p ∈ ([("book", .ref BK), ("deeds", .ref DE)] : Loc), p ∈ m)
    (hvb : StrsAre vb ((bookE d.W (octs d.m)).map lineS)) (hvf : StrsAre vf ((octs d.m).map figS)) (g4 : co4.data = .cell (some (.ref LF))) (g5 : o5.data = .cell none) (g6 : o6.data = .cell none)
    (h : ∀ vd nd f l, StrsAre vd ((deedR d.W (octs d.m) 4).map deedS) → Wk [(L, [("deeds", .ref DE)])] ((DE, seqObj "list" vd.toArray nd) :: led) f l → Q .next f l) :
    W c A (exec (lawB 11) (dEnv d L a6 a5 a4)) [(L, m)] ((DE, seqObj "list" #[] 0) :: (BK, seqObj "list" vb.toArray nb) :: (LF, seqObj "list" vf.toArray nf) :: (a6, o6) :: (a5, o5) :: (a4, co4) :: led) Q := by
  have hh := hA.handled
  with_reducible refine' W_keep (f0 := [(L, [("book", .ref BK), ("deeds", .ref DE)])]) ?z1 (List.Sublist.refl _) ?_
  case z1 => exact (.cons hm .nil)
  refine W_For hh ?_ (fun _ => rfl)
  walk_at "go"
  rename_i RG q1 q2 q3
  with_reducible refine' W_iterRangeN (n := 4) ?z1 ?z2 fun I x0 l0 hx0 hl0 => ?_
  case z1 => exact (.led (.head _))
  case z2 => decide
  refine Wc_perm (List.perm_append_comm_assoc [(I, rangeIt x0 l0 1), _] [(DE, seqObj "list" #[] 0), (BK, seqObj "list" vb.toArray nb), (LF, seqObj "list" vf.toArray nf), (a6, o6), (a5, o5), (a4, co4)] led) ?_
  refine Wc_forInd 4 (fun i f l => ∃ (x left : Int) (BK : Addr) (vb : List Value) (nb : Nat) (vd : List Value) (nd : Nat) (LF : Addr) (vf : List Value) (nf : Nat) (o6 o5 co4 : Obj) (v6 v5 : Option Value), x = i ∧ left = (4 : Nat) - (i : Int) ∧
      Wk [(L, [("book", .ref BK), ("deeds", .ref DE)])] ((DE, seqObj "list" vd.toArray nd) :: (BK, seqObj "list" vb.toArray nb) :: (LF, seqObj "list" vf.toArray nf) :: (a6, o6) :: (a5, o5) :: (a4, co4) :: (I, rangeIt x left 1) :: led) f l ∧
      StrsAre vb ((bookE d.W (leftR d.W (octs d.m) i)).map lineS) ∧ StrsAre vd ((deedR d.W (octs d.m) i).map deedS) ∧ StrsAre vf ((leftR d.W (octs d.m) i).map figS) ∧ co4.data = .cell (some (.ref LF)) ∧ o6.data = .cell v6 ∧ o5.data = .cell v5) ?h0 ?_ ?_
  case h0 =>
    refine' exI15 x0 l0 BK vb nb [] 0 LF vf nf o6 o5 co4 none none ⟨hx0, hl0, ?w, hvb, .nil, hvf, g4, g6, g5⟩
    case w => exact ⟨FW.refl _, by simp⟩
  · intro i hi f l hI
    first | refine W_hideT fun J K hJ hK => ?_ | refine W_hideC fun J K hJ hK => ?_ | refine W_hideO fun J K hJ hK => ?_
    with_reducible refine' exE15_9 hI fun x left BK vb nb vd nd LF vf nf o6 o5 co4 v6 v5 hx hleft hwk hvb hvd hvf g4 g6 g5 => ?_
    clear hI
    with_reducible refine' W_wk hwk ?_
    have hsub := leftR_sub (W := d.W) (os := octs d.m) i
    have H := hd.H
    with_reducible refine' W_nextRangeN ?z1 hx hleft hi fun tt x' left' hx' hl' => ?_
    case z1 => intro o'; walk_at "up"
    walk_at "go"
    rename_i NL
    have hdI : DatOk c ((I, rangeIt x' left' 1) :: led) d := hd.cons
    have hdl := deedR_len H i
    by_cases hnil : leftR d.W (octs d.m) i = []
    · with_reducible refine' exE0_3 (rounds_nil hnil) fun e1 e2 e3 => ?_
      rw [hnil] at hvf hvb
      refine W_neStrs hA.cline (.led (by walk_at "mem")) (ListO.of _ _) (vs := vf) (us := []) (ys := []) (.led (by walk_at "mem")) (ListO.of _ _) hvf .nil ?_
      with_reducible refine' ex_bool (if_f (W_nil (Then_next (W_nil (Turn_next ?_)))))
      refine' hJ _ _ (exI15 x' left' BK vb nb vd nd LF vf nf o6 o5 co4 v6 v5 ⟨hx', hl', ?w, ?a, ?b, ?e, g4, g6, g5⟩)
      case w => walk_at "wk"
      case a => rw [e3]; exact hvb
      case b => rw [e2]; exact hvd
      case e => rw [e1]; exact hvf
    · have hne : vf.length ≠ ([] : List Value).length := by
        rw [hvf.length, List.length_map]
        intro q
        exact hnil (List.eq_nil_of_length_eq_zero q)
      with_reducible refine' W_neLen hA.cline ?z1 (ListO.of _ _) (vs := vf) (us := []) ?z2 (ListO.of _ _) hne ?_
      case z1 => exact (.led (by walk_at "mem"))
      case z2 => exact (.led (by walk_at "mem"))
      with_reducible refine' ex_bool (if_t ?_)
      with_reducible refine' W_keep (f0 := [(L, [("book", .ref BK), ("deeds", .ref DE), ("turn", .int i tt)])]) (l0 := (DE, seqObj "list" vd.toArray nd) :: (BK, seqObj "list" vb.toArray nb) :: (LF, seqObj "list" vf.toArray nf) :: (a6, o6) :: (a5, o5) :: (a4, co4) :: (I, rangeIt x' left' 1) :: led) (FW.refl _) (List.sublist_cons_self _ _) ?_
      refine W_cons (rd0 (n := n) hA T H hsub hvb g5 fun PD oD ep kvs co5 hdo hkv g5 => Then_next ?_)
      refine W_cons (rd1 (n := n) hA T hkc H hsub hdo hkv g5 g6 fun RW vr nr co6 hvr g6 => Then_next ?_)
      refine W_cons (rd2 (n := n) hA T H hsub hdo hkv g4 g5 g6 hvr hvf (Then_next ?_))
      refine W_cons (rd3 (n := n) hA T H hsub hdo hkv g5 g6 hvr hvd (by exact om215 hi hdl) (by walk_at "mem") fun vd' nd' xx hvd' => Then_next ?_)
      with_reducible refine' W_keep (f0 := [(L, [("book", .ref BK), ("deeds", .ref DE), ("turn", .int i tt)])]) (FW.refl _) (List.sublist_cons_self _ _) ?_
      refine W_cons (rd4 (n := n) hA T H hsub g4 g6 hvr hvf fun LF' vf' nf' co4' hvf' g4' => Then_next ?_)
      refine W_keep (f0 := [(L, [("book", .ref BK), ("deeds", .ref DE), ("turn", .int i tt)])]) (l0 := (LF', seqObj "list" vf'.toArray nf') :: (DE, seqObj "list" vd'.toArray nd') :: (BK, seqObj "list" vb.toArray nb) :: (a6, co6) :: (a5, co5) :: (a4, co4') :: (I, rangeIt x' left' 1) :: led) (FW.refl _) (by walk_at "sl") ?_
      refine W_cons (rd5 (n := n) (RW := RW) hA T H hsub (List.filter_sublist (p := fun o => decide (o ∉ row d.W (leftR d.W (octs d.m) i)))) g4' hvb hvf' fun BK' vb' nb' hvb' => Then_next ?_)
      refine W_keep (f0 := [(L, [("book", .ref BK'), ("deeds", .ref DE), ("turn", .int i tt)])]) (l0 := (BK', seqObj "list" vb'.toArray nb') :: (LF', seqObj "list" vf'.toArray nf') :: (DE, seqObj "list" vd'.toArray nd') :: (a6, co6) :: (a5, co5) :: (a4, co4') :: (I, rangeIt x' left' 1) :: led) (FW.refl _) (by walk_at "sl") ?_
      with_reducible refine' W_perm perm3 (W_nil (Then_next (W_nil (Turn_next ?_))))
      refine' hJ _ _ (exI15 x' left' BK' vb' nb' vd' nd' LF' vf' nf' co6 co5 co4' _ _ ⟨hx', hl', ?w, ?a, hvd', hvf', g4', g6, g5⟩)
      case w => walk_at "wk"
      case a =>
        rw [filter_book (W := d.W) (fun o => decide (o ∉ row d.W (leftR d.W (octs d.m) i)))] at hvb'
        exact hvb'
  · intro f l hI
    with_reducible refine' exE15_9 hI fun x left BK vb nb vd nd LF vf nf o6 o5 co4 v6 v5 hx hleft hwk hvb hvd hvf g4 g6 g5 => ?_
    clear hI
    with_reducible refine' W_wk hwk ?_
    with_reducible refine' W_endRangeN hh ?z1 ?z2 hleft ⟨rfl, ?_⟩
    case z1 => walk_at "rm"
    case z2 => walk_at "mem"
    refine h vd nd _ _ hvd ?_
    exact ⟨by walk_at "fw", (by walk_at "sl")⟩
end
end
section
section
variable {c : Cx} {A : Around} {led : Led} {d : Dat}
theorem law10 {n : Nat} {L a6 a5 a4 sl IT BK : Addr} {l : List Nat} {t : Tok} {Q : Flow → Frs → Led → Prop} (hA : AOk (n + 14) A) (T : Tops c.base)
    (h : ∀ DE, Q .next [(L, [("script", .ref sl), ("turned", .bytes (bys l) t), ("items", .ref IT), ("book", .ref BK), ("deeds", .ref DE)])] ((DE, seqObj "list" #[] 0) :: led)) :
    W c A (exec (lawB 10) (dEnv d L a6 a5 a4)) [(L, [("script", .ref sl), ("turned", .bytes (bys l) t), ("items", .ref IT), ("book", .ref BK)])] led Q := by
  refine W_Assign_Name ?_ rfl
  walk_at "go"
  with_reducible exact h _
theorem getElt {n : Nat} {L C a6 a5 a4 : Addr} {e : Nat × Nat} {s : Tok} {frs : Frs} {Q : Value → Frs → Led → Prop} (hA : AOk (n + 14) A) (T : Tops c.base) (r1 : e.1 < 256) (r2 : e.2 < 256)
    (h : ∀ TP sa os t1 t2, Q (.ref TP) ((C, [("line", .str (deedS e) s)]) :: frs) ((TP, seqObj "tuple" [Value.int (e.1 : Nat) t1, .int (e.2 : Nat) t2].toArray 0) :: (sa, os) :: led)) :
    W c A (eval (cElt (asgV (lawB 12))) (compEnvC (cScope (asgV (lawB 12))) [] C (dEnv d L a6 a5 a4))) ((C, [("line", .str (deedS e) s)]) :: frs) led Q := by
  refine W_Tuple ?_
  walk_at "go"
  unfold deedS at h ⊢
  with_reducible refine' W_catT [61] (figL e.1 ++ 61 :: figL e.2) ?z1 ?z2 ?z3 fun _ => ?_
  case z1 => rfl
  case z2 => rfl
  case z3 => simp [figL]
  walk_at "go"
  refine c_unquote (n := n + 13) hA T r1 (slice13 e.1 (61 :: figL e.2)) (by rw [tx_len]; simp [figL]) fun _ => ?_
  walk_at "go"
  with_reducible refine' W_ord fun _ => ?_
  walk_at "go"
  intro sa
  with_reducible refine' W_slice_sn ?z1 ?z2 (slice2f e.1 (61 :: figL e.2)) ?z3 ?z4 fun _ => ?_
  case z1 => exact (.led (by walk_at "mem"))
  case z2 => (rw [tx_len, sizeLine_eq]; simp [figL])
  case z3 => rfl
  case z4 => (intros; rfl)
  walk_at "go"
  with_reducible refine' c_unquote (n := n + 13) hA T r2 ?z1 ?z2 fun _ => ?_
  case z1 => (have := slice13 e.2 []; rw [List.append_nil] at this; exact this)
  case z2 => (rw [tx_len]; simp [figL])
  walk_at "go"
  with_reducible refine' W_ord fun _ => ?_
  walk_at "go"
  with_reducible exact h _ _ _ _ _
theorem law12 {n : Nat} {L a6 a5 a4 DE : Addr} {vd : List Value} {nd : Nat} {e0 e1 e2 e3 : Nat × Nat} {Q : Flow → Frs → Led → Prop} (hA : AOk (n + 14) A) (T : Tops c.base)
    (hvd : StrsAre vd ([e0, e1, e2, e3].map deedS)) (hr : ∀ e ∈ [e0, e1, e2, e3], e.1 < 256 ∧ e.2 < 256)
    (h : ∀ GT ng (ta : Nat → Addr) (tv : Nat → Value × Value), (∀ j, j < 4 → ∃ t1 t2, tv j = (.int ((p4 e0 e1 e2 e3 j).1 : Nat) t1, .int ((p4 e0 e1 e2 e3 j).2 : Nat) t2)) →
      Q .next [(L, [("deeds", .ref DE), ("gets", .ref GT)])] ((ta 3, seqObj "tuple" [(tv 3).1, (tv 3).2].toArray 0) :: (ta 2, seqObj "tuple" [(tv 2).1, (tv 2).2].toArray 0) :: (ta 1, seqObj "tuple" [(tv 1).1, (tv 1).2].toArray 0) :: (ta 0, seqObj "tuple" [(tv 0).1, (tv 0).2].toArray 0) :: (GT, seqObj "list" [Value.ref (ta 0), .ref (ta 1), .ref (ta 2), .ref (ta 3)].toArray ng) :: led)) :
    W c A (exec (lawB 12) (dEnv d L a6 a5 a4)) [(L, [("deeds", .ref DE)])] ((DE, seqObj "list" vd.toArray nd) :: led) Q := by
  have hh := hA.handled
  with_reducible refine' exE0_2 ?z1 fun r0 r0' => ?_
  case z1 => exact (hr e0 (by simp))
  with_reducible refine' exE0_2 ?z1 fun r1 r1' => ?_
  case z1 => exact (hr e1 (by simp))
  with_reducible refine' exE0_2 ?z1 fun r2 r2' => ?_
  case z1 => exact (hr e2 (by simp))
  with_reducible refine' exE0_2 ?z1 fun r3 r3' => ?_
  case z1 => exact (hr e3 (by simp))
  with_reducible refine' exX1 (hvd.at (j := 0) (y := deedS e0) rfl) fun s0 h0 => ?_
  with_reducible refine' exX1 (hvd.at (j := 1) (y := deedS e1) rfl) fun s1 h1 => ?_
  with_reducible refine' exX1 (hvd.at (j := 2) (y := deedS e2) rfl) fun s2 h2 => ?_
  with_reducible refine' exX1 (hvd.at (j := 3) (y := deedS e3) rfl) fun s3 h3 => ?_
  have hvl : vd.length = 4 := hvd.length
  refine W_AssignComp rfl rfl (by intro _; rfl) rfl rfl (by decide) (by decide) hh ?_
  walk_at "go"
  rename_i I
  intro D C
  with_reducible refine' Wc_compStart ?_ ?z1
  case z1 => exact (W_selfList (by walk_at "mem") ⟨rfl, rfl⟩)
  with_reducible refine' Wc_comp ?z1 ?_
  case z1 => decide
  with_reducible refine' W_nextList ?z1 (o := seqItObj "list_iterator" DE 0) ?z2 ?z3 ?z4 fun I1 hI1 => ?_
  case z1 => intro o'; walk_at "up"
  case z2 => exact ⟨rfl, rfl⟩
  case z3 => exact (.led (by walk_at "mem"))
  case z4 => simpa using h0
  iterate 6 (walk_at "m")
  refine getElt (n := n) hA T r0 r0' fun T0 sa0 os0 u0 w0 => ?_
  walk_at "go"
  with_reducible refine' Wc_comp ?z1 ?_
  case z1 => decide
  with_reducible refine' W_nextList ?z1 hI1 ?z2 ?z3 fun I2 hI2 => ?_
  case z1 => intro o'; walk_at "up"
  case z2 => exact (.led (by walk_at "mem"))
  case z3 => simpa using h1
  iterate 6 (walk_at "m")
  refine getElt (n := n) hA T r1 r1' fun T1 sa1 os1 u1 w1 => ?_
  walk_at "go"
  with_reducible refine' Wc_comp ?z1 ?_
  case z1 => decide
  with_reducible refine' W_nextList ?z1 hI2 ?z2 ?z3 fun I3 hI3 => ?_
  case z1 => intro o'; walk_at "up"
  case z2 => exact (.led (by walk_at "mem"))
  case z3 => simpa using h2
  iterate 6 (walk_at "m")
  refine getElt (n := n) hA T r2 r2' fun T2 sa2 os2 u2 w2 => ?_
  walk_at "go"
  with_reducible refine' Wc_comp ?z1 ?_
  case z1 => decide
  with_reducible refine' W_nextList ?z1 hI3 ?z2 ?z3 fun I4 hI4 => ?_
  case z1 => intro o'; walk_at "up"
  case z2 => exact (.led (by walk_at "mem"))
  case z3 => simpa using h3
  iterate 6 (walk_at "m")
  refine getElt (n := n) hA T r3 r3' fun T3 sa3 os3 u3 w3 => ?_
  walk_at "go"
  with_reducible refine' Wc_wk (f0 := [(C, []), (L, [("deeds", .ref DE)])]) (l0 := (T3, seqObj "tuple" [Value.int (e3.1 : Nat) u3, .int (e3.2 : Nat) w3].toArray 0) :: (T2, seqObj "tuple" [Value.int (e2.1 : Nat) u2, .int (e2.2 : Nat) w2].toArray 0) :: (T1, seqObj "tuple" [Value.int (e1.1 : Nat) u1, .int (e1.2 : Nat) w1].toArray 0) :: (T0, seqObj "tuple" [Value.int (e0.1 : Nat) u0, .int (e0.2 : Nat) w0].toArray 0) ::
    (D, seqObj "list" ([] ++ [Value.ref T0] ++ [Value.ref T1] ++ [Value.ref T2] ++ [Value.ref T3]).toArray (0 + 1 + 1 + 1 + 1)) :: (I, I4) :: (DE, seqObj "list" vd.toArray nd) :: led) ?z1 ?_
  case z1 => walk_at "wk"
  with_reducible refine' Wc_comp ?z1 ?_
  case z1 => decide
  with_reducible refine' W_endList hh (led' := (T3, seqObj "tuple" [Value.int (e3.1 : Nat) u3, .int (e3.2 : Nat) w3].toArray 0) :: (T2, seqObj "tuple" [Value.int (e2.1 : Nat) u2, .int (e2.2 : Nat) w2].toArray 0) :: (T1, seqObj "tuple" [Value.int (e1.1 : Nat) u1, .int (e1.2 : Nat) w1].toArray 0) :: (T0, seqObj "tuple" [Value.int (e0.1 : Nat) u0, .int (e0.2 : Nat) w0].toArray 0) ::
    (D, seqObj "list" ([] ++ [Value.ref T0] ++ [Value.ref T1] ++ [Value.ref T2] ++ [Value.ref T3]).toArray (0 + 1 + 1 + 1 + 1)) :: (DE, seqObj "list" vd.toArray nd) :: led) ?z1 ?z2 hI4 ?z3 ?z4 ?_
  case z1 => walk_at "rm"
  case z2 => walk_at "mem"
  case z3 => exact (.led (by walk_at "mem"))
  case z4 => (simp; exact om16 hvl)
  with_reducible refine' CompTurn_none ?_
  with_reducible refine' W_keep (f0 := [(C, []), (L, [("deeds", .ref DE)])]) (l0 := (T3, seqObj "tuple" [Value.int (e3.1 : Nat) u3, .int (e3.2 : Nat) w3].toArray 0) :: (T2, seqObj "tuple" [Value.int (e2.1 : Nat) u2, .int (e2.2 : Nat) w2].toArray 0) :: (T1, seqObj "tuple" [Value.int (e1.1 : Nat) u1, .int (e1.2 : Nat) w1].toArray 0) :: (T0, seqObj "tuple" [Value.int (e0.1 : Nat) u0, .int (e0.2 : Nat) w0].toArray 0) ::
    (D, seqObj "list" ([] ++ [Value.ref T0] ++ [Value.ref T1] ++ [Value.ref T2] ++ [Value.ref T3]).toArray (0 + 1 + 1 + 1 + 1)) :: led) (FW.refl _) ?z1 ?_
  case z1 => walk_at "sl"
  walk_at "go"
  refine h D 4 (p4 T0 T1 T2 T3) (p4 (_, _) (_, _) (_, _) (_, _)) ?_
  intro k hk
  rcases lt4 hk with rfl | rfl | rfl | rfl
  · exact ⟨_, _, rfl⟩
  · exact ⟨_, _, rfl⟩
  · exact ⟨_, _, rfl⟩
  · exact ⟨_, _, rfl⟩
end
end
section
section
variable {c : Cx} {A : Around} {frs : Frs} {led : Led} {d : Dat}
theorem W_letGoListT {elts : List Expr} {x1} {pos : Pos} {I l a : Addr} {i : Nat} {o : Obj} {Q : Unit → Frs → Led → Prop} (hm : (I, o) ∈ led) (ho : SeqIt "list_iterator" l i o) (h : Q () frs led) : W c A (letOwnedTupleGo (.Tuple elts x1 pos) (.ref I) (.ref a)) frs led Q := fun s S =>
  wpAny_letOwnedTupleGo_listiter ⟨o, S.ld _ hm, ho⟩ ⟨_, _, S, h⟩
theorem W_notBool {b : Bool} {Q : Value → Frs → Led → Prop} (h : Q (.bool (!b)) frs led) : W c A (unaryOp .Not (.bool b)) frs led Q := fun s S => not_of (wpAny_truthy_bool ⟨_, _, S, h⟩)
/-- what was got stands in the ledger so -/
structure Got (c : Cx) (led : Led) (GT : Addr) (ng : Nat) (ta : Nat → Addr) (tv : Nat → Value × Value) (e : Nat → Nat × Nat) : Prop where
  list : At c led GT (seqObj "list" [Value.ref (ta 0), .ref (ta 1), .ref (ta 2), .ref (ta 3)].toArray ng)
  tup : ∀ j, j < 4 → At c led (ta j) (seqObj "tuple" [(tv j).1, (tv j).2].toArray 0)
  val : ∀ j, j < 4 → ∃ t1 t2, tv j = (.int ((e j).1 : Nat) t1, .int ((e j).2 : Nat) t2)
theorem Got.cons {GT : Addr} {ng : Nat} {ta : Nat → Addr} {tv : Nat → Value × Value} {e : Nat → Nat × Nat} {p : Addr × Obj} (h : Got c led GT ng ta tv e) : Got c (p :: led) GT ng ta tv e := ⟨h.list.cons, fun j hj => (h.tup j hj).cons, h.val⟩
theorem sorted_same {a b : List Int} (h1 : a.Pairwise (· ≤ ·)) (h2 : b.Pairwise (· ≤ ·)) (hp : a.Perm b) : a = b :=
  List.Perm.eq_of_pairwise (fun _ _ _ _ x y => Int.le_antisymm x y) h1 h2 hp
theorem law13 {n : Nat} {L a6 a5 a4 DE GT : Addr} {ng : Nat} {ta : Nat → Addr} {tv : Nat → Value × Value} {e : Nat → Nat × Nat} {Q : Flow → Frs → Led → Prop} (hA : AOk (n + 14) A) (T : Tops c.base) (hd : DatOk c led d) (hg : Got c led GT ng ta tv e)
    (hp : ([(e 0).1, (e 1).1, (e 2).1, (e 3).1] : List Nat).Perm (octs d.m))
    (h : Q .next [(L, [("deeds", .ref DE), ("gets", .ref GT)])] led) :
    W c A (exec (lawB 13) (dEnv d L a6 a5 a4)) [(L, [("deeds", .ref DE), ("gets", .ref GT)])] led Q := by
  have hh := hA.handled
  have h2 := hd.h2
  have g2 := hd.g2
  refine W_If ?_
  with_reducible refine' W_isTrue_Compare ?_ ?z1
  case z1 => with_unfolding_all rfl
  walk_at "go"
  with_reducible refine' W_iterList hg.list fun I => ?_
  intro D C
  with_reducible refine' Wc_compStart ?_ ?z1
  case z1 => exact (W_selfList (by walk_at "mem") ⟨rfl, rfl⟩)
  with_reducible refine' Wc_compInd ?z1 4 (fun i f l => ∃ (oi : Obj) (us : List Value) (n2 : Nat), Wk [(C, []), (L, [("deeds", .ref DE), ("gets", .ref GT)])]
      ((D, seqObj "list" us.toArray n2) :: (I, oi) :: led) f l ∧ SeqIt "list_iterator" GT i oi ∧ NA us (([(e 0).1, (e 1).1, (e 2).1, (e 3).1] : List Nat).take i)) ?h0 ?_ ?_
  case z1 => decide
  case h0 =>
    refine' exI3 (seqItObj "list_iterator" GT 0) [] 0 ⟨?w, ⟨rfl, rfl⟩, NA.nil⟩
    case w => walk_at "wk"
  · intro j hj f l hI
    first | with_reducible refine' W_hideT fun J K hJ hK => ?_ | with_reducible refine' W_hideC fun J K hJ hK => ?_ | with_reducible refine' W_hideO fun J K hJ hK => ?_
    with_reducible refine' exE3_3 hI fun oi us n2 hwk hoi hus => ?_
    clear hI
    with_reducible refine' W_wk hwk ?_
    have hul := hus.len
    rw [List.length_take] at hul
    with_reducible refine' exX2 (hg.val j hj) fun t1 t2 htv => ?_
    have htp := hg.tup j hj
    rw [htv] at htp
    with_reducible refine' W_nextList (v := .ref (ta j)) ?z1 hoi hg.list.cons.cons ?_ fun o' ho' => ?_
    case z1 => intro o'; walk_at "up"
    · rcases lt4 hj with rfl | rfl | rfl | rfl <;> rfl
    with_reducible refine' CompIn_some ?_
    with_reducible refine' W_letGoListT ?z1 ho' ?_
    case z1 => exact (.tail _ (.head _))
    walk_at "go"
    refine' hJ _ _ (exI3 o' _ _ ⟨?w, ho', ?d⟩)
    case w => walk_at "wk"
    case d =>
      have e1 : ([(e 0).1, (e 1).1, (e 2).1, (e 3).1] : List Nat).take (j + 1) = ([(e 0).1, (e 1).1, (e 2).1, (e 3).1] : List Nat).take j ++ [(e j).1] := by
        rcases lt4 hj with rfl | rfl | rfl | rfl <;> rfl
      rw [e1]
      exact hus.push _ _
  · intro f l hI
    with_reducible refine' exE3_3 hI fun oi us n2 hwk hoi hus => ?_
    clear hI
    with_reducible refine' W_wk hwk ?_
    with_reducible refine' W_endList hh ?z1 ?z2 hoi hg.list.cons.cons ?z3 ⟨rfl, ?_⟩
    case z1 => walk_at "rm"
    case z2 => walk_at "mem"
    case z3 => rfl
    rw [List.take_of_length_le (by simp)] at hus
    have hul := hus.len
    walk_at "go"
    refine W_sorted (.led (by walk_at "mem")) (ListO.of _ _) hus (by rw [hul]; exact Nat.le_of_ble_eq_true rfl) fun S1 v1 n1 e1 hi1 hp1 hs1 => ?_
    walk_at "go"
    have hvl := hd.hvo.len
    refine W_sorted hd.hao.cons.cons (ListO.of _ _) hd.hvo (by rw [hvl]; exact Nat.le_of_ble_eq_true rfl) fun S2 v2 n2' e2 hi2 hp2 hs2 => ?_
    walk_at "go"
    have hpp : n1.Perm n2' := hp1.trans ((hp.map fun (n : Nat) => (n : Int)).trans hp2.symm)
    have heq := sorted_same hs1 hs2 hpp
    subst heq
    with_reducible refine' W_neInts hA.cline ?z1 (ListO.of _ _) ?z2 (ListO.of _ _) hi1 hi2 ?_
    case z1 => exact (.led (by walk_at "mem"))
    case z2 => exact (.led (by walk_at "mem"))
    with_reducible refine' ex_bool (if_f (W_keep (f0 := [(L, [("deeds", .ref DE), ("gets", .ref GT)])]) (l0 := led) (FW.refl _) (by walk_at "sl") (W_nil h)))
theorem gotVal {W : Nat → List Nat} {os : List Nat} {e : Nat → Nat × Nat} (hk : ([((e 0).1 : Int), ((e 1).1 : Int), ((e 2).1 : Int), ((e 3).1 : Int)] : List Int).Nodup) (v : Nat → Value) (j : Nat) (hj : j < 4) :
    valueAt ([(((e 0).1 : Int), v 0), (((e 1).1 : Int), v 1), (((e 2).1 : Int), v 2), (((e 3).1 : Int), v 3)] : List (Int × Value)) ((e j).1 : Int) = some (v j) := by
  simp only [List.nodup_cons, List.mem_cons, List.not_mem_nil, or_false, not_or, List.nodup_nil, and_true, not_false_eq_true] at hk
  obtain ⟨⟨a1, a2, a3⟩, ⟨b1, b2⟩, c1⟩ := hk
  unfold valueAt
  rcases lt4 hj with rfl | rfl | rfl | rfl
  · simp [List.find?_cons]
  · simp [List.find?_cons, a1]
  · simp [List.find?_cons, a2, b1]
  · simp [List.find?_cons, a3, b2, c1]
theorem law14 {n : Nat} {L a6 a5 a4 DE GT : Addr} {ng : Nat} {ta : Nat → Addr} {tv : Nat → Value × Value} {e : Nat → Nat × Nat} {Q : Flow → Frs → Led → Prop} (hA : AOk (n + 14) A) (T : Tops c.base) (hd : DatOk c led d) (hg : Got c led GT ng ta tv e)
    (he : [e 0, e 1, e 2, e 3] = deedR d.W (octs d.m) 4)
    (h : ∀ f l, Q (.ret (.bool true)) f l) :
    W c A (exec (lawB 14) (dEnv d L a6 a5 a4)) [(L, [("deeds", .ref DE), ("gets", .ref GT)])] led Q := by
  have hh := hA.handled
  have h2 := hd.h2
  have g2 := hd.g2
  have h3 := hd.h3
  have g3 := hd.g3
  have H := hd.H
  have hnd := deeds_nodup H
  rw [← he] at hnd
  have hndI : ([((e 0).1 : Int), ((e 1).1 : Int), ((e 2).1 : Int), ((e 3).1 : Int)] : List Int).Nodup := by
    simp only [List.map_cons, List.map_nil, List.nodup_cons, List.mem_cons, List.not_mem_nil, or_false, not_or, List.nodup_nil, and_true, not_false_eq_true] at hnd ⊢
    exact om216 hnd
  refine W_Return ?_
  walk_at "go"
  with_reducible refine' W_dictPairs (knd := intKind pw c.w) (ks := [(((e 0).1 : Int), (tv 0).2), (((e 1).1 : Int), (tv 1).2), (((e 2).1 : Int), (tv 2).2), (((e 3).1 : Int), (tv 3).2)]) hh hg.list ?z1 ?_ ?z2 ?z3 fun DD oD ep hD => ?_
  case z1 => rfl
  case z2 => simp
  case z3 => simpa using hndI
  · intro j x hx
    have hj : j < 4 := (List.getElem?_eq_some_iff.mp hx).1
    with_reducible refine' exX2 (hg.val j hj) fun t1 t2 htv => ?_
    have htp := hg.tup j hj
    refine ⟨ta j, 0, (tv j).1, ?_, ?_, ?_⟩
    · rcases lt4 hj with rfl | rfl | rfl | rfl <;> rfl
    · have : x.2 = (tv j).2 := by
        rcases lt4 hj with rfl | rfl | rfl | rfl <;> (cases hx; rfl)
      rw [this]
      exact htp
    · have : x.1 = ((e j).1 : Int) := by
        rcases lt4 hj with rfl | rfl | rfl | rfl <;> (cases hx; rfl)
      rw [this, htv]
      exact intKind_is _ _ _ _
  walk_at "go"
  have hgm : ∀ o ∈ octs d.m, ∃ j, j < 4 ∧ e j = (o, gotOf d.W (octs d.m) o) := by
    intro o ho
    have := deeds_mem H ho
    rw [← he] at this
    simp only [List.mem_cons, List.not_mem_nil, or_false] at this
    rcases this with q | q | q | q
    · exact ⟨0, by decide, q.symm⟩
    · exact ⟨1, by decide, q.symm⟩
    · exact ⟨2, by decide, q.symm⟩
    · exact ⟨3, by decide, q.symm⟩
  refine c_ring (n := n + 13) (Ls := dLs d) (gk := fun k => gotOf d.W (octs d.m) (octO d.m k)) (rnd := fun k => rnd d.W (octs d.m) (octO d.m k)) (os := octs d.m) (wa := d.wa) (wv := d.wv) (wn := d.wn) hA T hd.hao.cons (ListO.of _ _) hd.hvo rfl hd.hLL.cons (ListO.of _ _) (fun k hk => (hd.hw k hk).cons) hd.hwv
    (fun k hk => w_len H (octO_mem d.m k hk)) (fun k hk => w_rg H (octO_mem d.m k hk)) (fun k hk x hx => (H.perm _ (octO_mem d.m k hk)).mem_iff.mpr hx) (.led (.head _)) hD ?_ ?_ ?_ ?_ ?_
  · intro k hk
    rw [octs_getD d.m k hk]
    with_reducible refine' exE1_2 (hgm _ (octO_mem d.m k hk)) fun j hj hej => ?_
    with_reducible refine' exX2 (hg.val j hj) fun t1 t2 htv => ?_
    have := gotVal (W := d.W) (os := octs d.m) hndI (fun j => (tv j).2) j hj
    rw [htv] at this
    rw [hej] at this
    exact ⟨t2, this⟩
  · intro k hk
    exact got_mem H (octO_mem d.m k hk)
  · intro k j hk hj hle
    rw [octs_getD d.m j hj] at hle
    exact ring_le H (octO_mem d.m k hk) (octO_mem d.m j hj) hle
  · intro k j hk hj hlt
    rw [octs_getD d.m j hj] at hlt
    exact ring_lt H (octO_mem d.m k hk) (octO_mem d.m j hj) hlt
  with_reducible refine' W_notBool ?_
  exact h _ _
end
end
section
def numAt (its : Array Value) (k : Nat) : Nat := match its[k]? with
  | some (.int n _) => n.toNat
  | _ => 0
theorem numAt_spec {its : Array Value} (h : CellsAt 100000000 its) (k : Nat) (hk : k < 5) : (∃ t, its[k]? = some (.int (numAt its k : Nat) t)) ∧ numAt its k ≤ 100000000 := by
  refine exE2_3 (h.2 k hk) fun n t e h0 h1 => ?_
  have : numAt its k = n.toNat := by unfold numAt; rw [e]
  rw [this]
  exact ⟨⟨t, by rw [e]; congr 2; exact om217 h0⟩, by exact om218 h1⟩
def wOf (m : Nat) (N : Nat → Nat) (o : Nat) : List Nat := wishesOf (octs m) (N ((octs m).idxOf o))
theorem idx_oct (m k : Nat) (hk : k < 4) : (octs m).idxOf (octO m k) = k := by
  have hnd := octs_nd m
  unfold octs at hnd ⊢
  simp only [List.nodup_cons, List.mem_cons, List.not_mem_nil, or_false, not_or, List.nodup_nil, and_true, not_false_eq_true] at hnd
  obtain ⟨⟨a1, a2, a3⟩, ⟨b1, b2⟩, c1⟩ := hnd
  rcases lt4 hk with rfl | rfl | rfl | rfl
  · simp [List.idxOf_cons]
  · simp [List.idxOf_cons, beq_eq_false_iff_ne.mpr a1]
  · simp [List.idxOf_cons, beq_eq_false_iff_ne.mpr a2, beq_eq_false_iff_ne.mpr b1]
  · simp [List.idxOf_cons, beq_eq_false_iff_ne.mpr a3, beq_eq_false_iff_ne.mpr b2, beq_eq_false_iff_ne.mpr c1]
theorem wOf_oct (m : Nat) (N : Nat → Nat) (k : Nat) (hk : k < 4) : wOf m N (octO m k) = wishesOf (octs m) (N k) := by
  unfold wOf
  rw [idx_oct m k hk]
theorem wOf_ok (m : Nat) (N : Nat → Nat) : Wok (wOf m N) (octs m) := ⟨octs_nd m, octs_rg m, fun o _ => wishes_perm _ _ rfl, rfl⟩
section
variable {c : Cx} {A : Around}
theorem c_law {n : Nat} {L a6 a5 a4 a3 a2 a1 sl : Addr} {o6 o5 o4 o3 o2 o1 osl : Obj} {vs : List Value} (hA : AOk (n + 14) A) (T : Tops c.base) (hkc : c.kc = none)
    (hs : c.base.get? sl = some osl) (hsne : sl ≠ tabP) (hos : ListO vs.toArray osl) (hi : ∀ j, j < vs.length → ∃ n t, vs[j]? = some (.int n t)) (hn : vs.length ≤ 63)
    (g1 : o1.data = .cell none) (g2 : o2.data = .cell none) (g3 : o3.data = .cell none) (g4 : o4.data = .cell none) (g5 : o5.data = .cell none) (g6 : o6.data = .cell none) :
    WN c A (execs (fnB (stAt 35)) (lawEnv L a6 a5 a4 a3 a2 a1)) [(L, [("script", .ref sl)])] [(a6, o6), (a5, o5), (a4, o4), (a3, o3), (a2, o2), (a1, o1)] (fun fl _ _ => fl = .ret (.bool true)) := by
  show WN c A (execs [lawB 0, lawB 1, lawB 2, lawB 3, lawB 4, lawB 5, lawB 6, lawB 7, lawB 8, lawB 9, lawB 10, lawB 11, lawB 12, lawB 13, lawB 14] (lawEnv L a6 a5 a4 a3 a2 a1)) _ _ _
  with_reducible refine' WN_cons (WN_of (law0 (n := n) hA T hs hsne hos hi hn g1 fun cl its ocl co hocl hc hco => ⟨rfl, ?_⟩))
  obtain ⟨⟨t4, h4⟩, hm⟩ := numAt_spec hc 4 (by decide)
  with_reducible refine' WN_cons (WN_of (law1 (n := n) (led := []) hA T hocl h4 hm hco g2 fun ao vo no co2 hvo hco2 => ⟨rfl, ?_⟩))
  with_reducible refine' WN_cons (WN_of (law2 (n := n) hA T hocl (N := numAt its) (fun k hk => (numAt_spec hc k (by exact om219 hk)).1) hco hvo rfl hco2 g3 fun LL nl wa wv wn co3 hwv hco3 => ⟨rfl, ?_⟩))
  let d : Dat := ⟨a3, a2, a1, LL, ao, cl, co3, co2, co, ocl, nl, no, wa, wv, wn, vo, its, numAt its 4, t4, wOf (numAt its 4) (numAt its)⟩
  have hwv' : ∀ k, k < 4 → NA (wv k) (dLs d k) := fun k hk => by
    show NA (wv k) (wOf (numAt its 4) (numAt its) (octO (numAt its 4) k))
    rw [wOf_oct _ _ k hk]
    exact hwv k hk
  have H : Wok d.W (octs d.m) := wOf_ok _ _
  have hwl : ∀ k, k < 4 → (dLs d k).length = 4 := fun k hk => w_len H (octO_mem d.m k hk)
  have hwr : ∀ k, k < 4 → ∀ x ∈ dLs d k, x < 256 := fun k hk => w_rg H (octO_mem d.m k hk)
  have hfr : ∀ x ∈ flat (dLs d), x < 256 := by
    intro x hx
    unfold flat at hx
    rcases List.mem_append.mp hx with hx | hx
    · rcases List.mem_append.mp hx with hx | hx
      · rcases List.mem_append.mp hx with hx | hx
        · exact hwr 0 (by decide) x hx
        · exact hwr 1 (by decide) x hx
      · exact hwr 2 (by decide) x hx
    · exact hwr 3 (by decide) x hx
  with_reducible refine' WN_cons (law3 (n := n) (Ls := dLs d) (LL := LL) (wa := wa) (wv := wv) (wn := wn) (nl := nl) hA T (.led (by walk_at "mem")) hco3 (.led (by walk_at "mem")) ?_ hwv' hwl hfr fun tt => ?_)
  · intro k hk
    rcases lt4 hk with rfl | rfl | rfl | rfl
    · exact .led (by walk_at "mem")
    · exact .led (by walk_at "mem")
    · exact .led (by walk_at "mem")
    · exact .led (by walk_at "mem")
  with_reducible refine' WN_of ?_
  refine W_perm (List.perm_append_comm_assoc [(wa 3, seqObj "list" (wv 3).toArray (wn 3)), (wa 2, seqObj "list" (wv 2).toArray (wn 2)), (wa 1, seqObj "list" (wv 1).toArray (wn 1)), (wa 0, seqObj "list" (wv 0).toArray (wn 0)), (LL, _), (ao, _), (cl, _)] [(a6, o6), (a5, o5), (a4, o4)] [(a3, co3), (a2, co2), (a1, co)]) ?_
  have hd : DatOk c [(wa 3, seqObj "list" (wv 3).toArray (wn 3)), (wa 2, seqObj "list" (wv 2).toArray (wn 2)), (wa 1, seqObj "list" (wv 1).toArray (wn 1)), (wa 0, seqObj "list" (wv 0).toArray (wn 0)), (LL, seqObj "list" [Value.ref (wa 0), .ref (wa 1), .ref (wa 2), .ref (wa 3)].toArray nl),
      (ao, seqObj "list" vo.toArray no), (cl, ocl), (a3, co3), (a2, co2), (a1, co)] d := by
    refine ⟨.led (by walk_at "mem"), hco3, .led (by walk_at "mem"), hco2, .led (by walk_at "mem"), hco, .led (by walk_at "mem"), ?_, hwv', .led (by walk_at "mem"), hvo, .led (by walk_at "mem"), hocl, h4, H⟩
    intro k hk
    rcases lt4 hk with rfl | rfl | rfl | rfl
    · exact .led (by walk_at "mem")
    · exact .led (by walk_at "mem")
    · exact .led (by walk_at "mem")
    · exact .led (by walk_at "mem")
  show W c A _ _ ((a6, o6) :: (a5, o5) :: (a4, o4) :: [(wa 3, seqObj "list" (wv 3).toArray (wn 3)), (wa 2, seqObj "list" (wv 2).toArray (wn 2)), (wa 1, seqObj "list" (wv 1).toArray (wn 1)), (wa 0, seqObj "list" (wv 0).toArray (wn 0)), (LL, seqObj "list" [Value.ref (wa 0), .ref (wa 1), .ref (wa 2), .ref (wa 3)].toArray nl),
      (ao, seqObj "list" vo.toArray no), (cl, ocl), (a3, co3), (a2, co2), (a1, co)]) _
  generalize [(wa 3, seqObj "list" (wv 3).toArray (wn 3)), (wa 2, seqObj "list" (wv 2).toArray (wn 2)), (wa 1, seqObj "list" (wv 1).toArray (wn 1)), (wa 0, seqObj "list" (wv 0).toArray (wn 0)), (LL, seqObj "list" [Value.ref (wa 0), .ref (wa 1), .ref (wa 2), .ref (wa 3)].toArray nl),
      (ao, seqObj "list" vo.toArray no), (cl, ocl), (a3, co3), (a2, co2), (a1, co)] = led at hd ⊢
  show W c A (execs [lawB 4, lawB 5, lawB 6, lawB 7, lawB 8, lawB 9, lawB 10, lawB 11, lawB 12, lawB 13, lawB 14] (dEnv d L a6 a5 a4)) _ _ _
  with_reducible refine' W_cons (law4 (n := n) hA T (Then_next ?_))
  with_reducible refine' W_cons (law5 (n := n) hA T hd g4 fun LF vf nf co4 hvf g4 => Then_next ?_)
  with_reducible refine' W_cons (law6 (n := n) hA T hd.cons.cons.cons.cons rfl fun IT vi ni hvi => Then_next ?_)
  with_reducible refine' W_cons (law7 (n := n) hA T hd (by walk_at "mem") hvi hvf g4 (Then_next ?_))
  with_reducible refine' W_cons (law8 (n := n) hA T H hvi fun BK vb nb hvb => Then_next ?_)
  with_reducible refine' W_keep (f0 := [(L, [("script", .ref sl), ("turned", .bytes (bys (swapL (flat (dLs d)))) tt), ("items", .ref IT), ("book", .ref BK)])]) (l0 := (BK, seqObj "list" vb.toArray nb) :: (LF, seqObj "list" vf.toArray nf) :: (a6, o6) :: (a5, o5) :: (a4, co4) :: led) (FW.refl _) ?z1 ?_
  case z1 => walk_at "sl"
  with_reducible refine' W_cons (law9 (n := n) hA T hd (by walk_at "mem") hvb hvf g4 (Then_next ?_))
  with_reducible refine' W_cons (law10 (n := n) hA T fun DE => Then_next ?_)
  refine W_cons (law11 (n := n) hA T hkc hd (by walk_at "sub") hvb hvf g4 g5 g6 fun vd nd f l hvd hwk => Then_next (W_wk hwk ?_))
  have hperm := deeds_askers H
  have hrg := deeds_rg H 4
  have hlen : (deedR d.W (octs d.m) 4).length = 4 := by
    have := hperm.length_eq
    rw [List.length_map] at this
    exact this
  with_reducible refine' exX4 (four_of hlen) fun e0 e1 e2 e3 he => ?_
  rw [he] at hvd hrg hperm
  with_reducible refine' W_cons (law12 (n := n) hA T hvd hrg fun GT ng ta tv htv => Then_next ?_)
  have hg : Got c ((ta 3, seqObj "tuple" [(tv 3).1, (tv 3).2].toArray 0) :: (ta 2, seqObj "tuple" [(tv 2).1, (tv 2).2].toArray 0) :: (ta 1, seqObj "tuple" [(tv 1).1, (tv 1).2].toArray 0) :: (ta 0, seqObj "tuple" [(tv 0).1, (tv 0).2].toArray 0) :: (GT, seqObj "list" [Value.ref (ta 0), .ref (ta 1), .ref (ta 2), .ref (ta 3)].toArray ng) :: led) GT ng ta tv (p4 e0 e1 e2 e3) := by
    refine ⟨.led (by walk_at "mem"), ?_, htv⟩
    intro k hk
    rcases lt4 hk with rfl | rfl | rfl | rfl
    · exact .led (by walk_at "mem")
    · exact .led (by walk_at "mem")
    · exact .led (by walk_at "mem")
    · exact .led (by walk_at "mem")
  refine W_cons (law13 (n := n) hA T hd.cons.cons.cons.cons.cons hg hperm (Then_next ?_))
  exact W_cons (law14 (n := n) hA T hd.cons.cons.cons.cons.cons hg he.symm fun f l => Then_ret rfl)
end
end
section
/-! what the top left, out of the written part of the heap -/
def fdE (K : Frag) (a : Addr) : Option FuncData := match K.lookup a with
  | some ⟨_, _, .func fd, _⟩ => some fd
  | _ => none
def fdD (K : Frag) (a : Addr) : FuncData := (fdE K a).getD default
theorem fdE_in {K : Frag} {h : Heap} (X : K.In h) {a : Addr} {fd : FuncData} (e : fdE K a = some fd) : ∃ o, h.get? a = some o ∧ o.data = .func fd := by
  unfold fdE at e
  split at e
  · rename_i q; cases e; exact ⟨_, X _ _ q, rfl⟩
  · cases e
theorem codeIn_in {K : Frag} {h : Heap} (X : K.In h) {k : Addr} {q : Str} (e : codeIn K (.ref k) q = true) : ∃ oc vs t, h.get? k = some oc ∧ oc.data = .fields vs ∧ vs[1]? = some (.str q t) := by
  unfold codeIn at e
  dsimp only at e
  split at e
  · rename_i vs _ hk
    split at e
    · rename_i a n t r hv
      have := beq_iff_eq.mp e
      subst this
      exact ⟨_, vs, t, X _ _ hk, rfl, by rw [← Array.getElem?_toList, hv]; rfl⟩
    · cases e
  · cases e
theorem fnAt_of {K : Frag} {h : Heap} (X : K.In h) {f k : Addr} {qual : Str} {params body scope}
    (e : fdE K f = some (fnX (fdD K f).name qual params body scope [] .none .none (fdD K f).doc (fdD K f).pyModule (fdD K f).annotations (.ref k) (fdD K f).closureTuple)) (e2 : codeIn K (.ref k) qual = true) : FnAt h f k qual params body scope := by
  obtain ⟨o, h1, h2⟩ := fdE_in X e
  obtain ⟨oc, vs, t, h3, h4, h5⟩ := codeIn_in X e2
  exact ⟨o, _, _, _, _, _, oc, vs, t, h1, h2, h3, h4, h5⟩
def seqE (K : Frag) (a : Addr) : Option (List Value × Nat) := match K.lookup a with
  | some ⟨.type "list", none, .seq vs n, sl⟩ => if sl.size = 0 then some (vs.toList, n) else none
  | _ => none
theorem seqE_in {K : Frag} {h : Heap} (X : K.In h) {a : Addr} {vs : List Value} {n : Nat} (e : seqE K a = some (vs, n)) : h.get? a = some (seqObj "list" vs.toArray n) := by
  unfold seqE at e
  split at e
  · rename_i ws m sl q
    split at e
    · rename_i hs
      cases e
      have : sl = #[] := Array.eq_empty_of_size_eq_zero hs
      subst this
      exact X _ _ q
    · cases e
  · cases e
def strsOk : List Value → List Str → Bool
  | [], [] => true
  | .str x _ :: vs, y :: ys => x == y && strsOk vs ys
  | _, _ => false
theorem strsOk_are : ∀ {vs : List Value} {ys : List Str}, strsOk vs ys = true → StrsAre vs ys
  | [], [], _ => .nil
  | v :: vs, y :: ys, e => by
    cases v <;> unfold strsOk at e <;> first | cases e | skip
    obtain ⟨e1, e2⟩ := Bool.and_eq_true_iff.mp e
    have := beq_iff_eq.mp e1
    subst this
    exact .cons _ _ (strsOk_are e2)
  | [], _ :: _, e => by simp [strsOk] at e
  | _ :: _, [], e => by simp [strsOk] at e
def glOk (K : Frag) : Bool := gl.all fun p => nsIn K mainGlobals p.1 == some (some p.2)
def blOk (K : Frag) : Bool := bl.all fun p => nsIn K mainGlobals p.1 == some none
theorem bl_boot : ∀ p ∈ bl, bootBuiltins p.1 = some p.2 ∧ p.1 ≠ "__name__" := by
  have h : (bl.all fun p => bootBuiltins p.1 == some p.2 && p.1 != "__name__") = true := by decide +kernel
  intro p hp
  have := List.all_eq_true.mp h p hp
  simp only [Bool.and_eq_true, beq_iff_eq, bne_iff_ne] at this
  exact this
theorem topN_of {K : Frag} {h : Heap} {p : Program} {loose : List Str} {mean : ExcName → Option Value} {mg mb : Str → Option Value} (X : K.In h) (T : Top p loose mean mg mb h) (e1 : glOk K = true) (e2 : blOk K = true) : TopN h where
  g := ⟨mg, T.g, fun q hq => mg_of X T.g (beq_iff_eq.mp (List.all_eq_true.mp e1 q hq)), fun q hq => mg_none_of X T.g (beq_iff_eq.mp (List.all_eq_true.mp e2 q hq))⟩
  b := ⟨mb, T.b, fun q hq => (T.builtins q.1 (bl_boot q hq).2).trans (bl_boot q hq).1⟩
  nolimit := T.nolimit
theorem clsGet {K : Frag} {C : Addr} {cd : ClassData} {name : Str} (h1 : clsIn K C = some cd) (h2 : findIn K (.ref C) name = some (some .none)) (hg : specialIn K .none "__get__" = some none) (h3 : cd.hasDict = true) : ∀ od v, lookIn name od = some (some v) → findObj K C (some od) name = some (.value v) := by
  intro od v e
  unfold findObj
  rw [h1, h2]
  simp only [Option.bind_some, hg]
  unfold PySem.W.ownOf
  rw [if_pos h3]
  simp only [e, Option.bind_some]
theorem bm_of {h : Heap} {p : Program} {loose : List Str} {mean : ExcName → Option Value} {mg mb : Str → Option Value} (T : Top p loose mean mg mb h) (ht : h.get? tabP = some (tabObj #[])) (hm : (h.get? mainGlobals).map (·.cls) ≠ some (.type "module")) : BmAt h := by
  obtain ⟨bm, o, e1, e2, e3, e4, e5, e6⟩ := T.bmain
  refine ⟨mg, T.g, bm, o, e1, e2, ?_, ?_, e3, e4, e5, e6⟩
  · rintro rfl
    rw [e3] at hm
    exact hm (congrArg some e4)
  · rintro rfl
    rw [ht] at e3
    cases e3
    cases e4
def FnK (K : Frag) (f k : Addr) (qual : Str) (st : Stmt) : Prop :=
  fdE K f = some (fnX (fdD K f).name qual (fnA st) (fnB st) (fnS st) [] .none .none (fdD K f).doc (fdD K f).pyModule (fdD K f).annotations (.ref k) (fdD K f).closureTuple)
theorem FnK.at {K : Frag} {h : Heap} (X : K.In h) {f k : Addr} {qual : Str} {st : Stmt} (e : FnK K f k qual st) (e2 : codeIn K (.ref k) qual = true) : FnAt h f k qual (fnA st) (fnB st) (fnS st) := fnAt_of X e e2
def qmE (K : Frag) : Bool := match seqE K 29 with
  | some (vs, _) => strsOk vs ((List.range 256).map qtext)
  | none => false
theorem qmE_in {K : Frag} {h : Heap} (X : K.In h) (e : qmE K = true) : ∃ vs n, h.get? 29 = some (seqObj "list" vs.toArray n) ∧ StrsAre vs ((List.range 256).map qtext) := by
  unfold qmE at e
  split at e
  · rename_i vs n q
    exact ⟨vs, n, seqE_in X q, strsOk_are e⟩
  · cases e
def clsD (K : Frag) : ClassData := (clsIn K 99).getD default
structure FactsK (K : Frag) : Prop where
  keqv : FnK K 21 20 "parse_keqv_list" (stAt 1)
  keqvC : codeIn K (.ref 20) "parse_keqv_list" = true
  http : FnK K 26 25 "parse_http_list" (stAt 2)
  httpC : codeIn K (.ref 25) "parse_http_list" = true
  unq : FnK K 49 48 "unquote" (stAt 14)
  unqC : codeIn K (.ref 48) "unquote" = true
  quo : FnK K 56 55 "quote" (stAt 15)
  quoC : codeIn K (.ref 55) "quote" = true
  swap : FnK K 68 67 "_byteswap" (stAt 20)
  swapC : codeIn K (.ref 67) "_byteswap" = true
  pmap : FnK K 75 74 "get_parent_map" (stAt 22)
  pmapC : codeIn K (.ref 74) "get_parent_map" = true
  prep : FnK K 82 81 "prepare_parent" (stAt 23)
  prepC : codeIn K (.ref 81) "prepare_parent" = true
  cells : FnK K 110 109 "_law_cells" (stAt 26)
  cellsC : codeIn K (.ref 109) "_law_cells" = true
  wish : FnK K 117 116 "_law_wishes" (stAt 27)
  wishC : codeIn K (.ref 116) "_law_wishes" = true
  figs : FnK K 124 123 "_law_figures" (stAt 28)
  figsC : codeIn K (.ref 123) "_law_figures" = true
  letter : FnK K 129 128 "_law_letter" (stAt 29)
  letterC : codeIn K (.ref 128) "_law_letter" = true
  told : FnK K 134 133 "_law_told" (stAt 30)
  toldC : codeIn K (.ref 133) "_law_told" = true
  book : FnK K 139 138 "_law_book" (stAt 31)
  bookC : codeIn K (.ref 138) "_law_book" = true
  led : FnK K 146 145 "_law_led" (stAt 32)
  ledC : codeIn K (.ref 145) "_law_led" = true
  singly : FnK K 153 152 "_law_singly" (stAt 33)
  singlyC : codeIn K (.ref 152) "_law_singly" = true
  ring : FnK K 158 157 "_law_ring" (stAt 34)
  ringC : codeIn K (.ref 157) "_law_ring" = true
  law : FnK K 163 162 "law" (stAt 35)
  lawC : codeIn K (.ref 162) "law" = true
  init : FnK K 96 95 "_SelectorContext.__init__" (initSt)
  initC : codeIn K (.ref 95) "_SelectorContext.__init__" = true
  lawN : nsIn K mainGlobals "law" = some (some (.ref 163))
  gl : glOk K = true
  bl : blOk K = true
  qm : qmE K = true
  tab : K.lookup tabP = none
  makes : makesIn K 99 = true
  cinit : findIn K (.ref 99) "__init__" = some (some (.ref 96))
  fn : typeIn K (.ref 96) = some (.type "function")
  over : plainOver K 99 = true
  hasd : (clsIn K 99).any (·.hasDict) = true
  t1 : takerIn K 99 "root" = some none
  t2 : takerIn K 99 "parent_map" = some none
  sa : findIn K (.ref 99) "__setattr__" = some (some (.builtin "object.__setattr__"))
  ga : findIn K (.ref 99) "__getattribute__" = some (some (.builtin "object.__getattribute__"))
  cd : clsIn K 99 = some (clsD K)
  pm : findIn K (.ref 99) "parent_map" = some (some .none)
  pg : specialIn K .none "__get__" = some none
  pd : (clsD K).hasDict = true
  c81 : codeHdIn K 81 tabP = true
  gm : (K.lookup mainGlobals).any (fun o => o.cls != .type "module") = true
theorem tops_of {K : Frag} {h : Heap} {p : Program} {loose : List Str} {mean : ExcName → Option Value} {mg mb : Str → Option Value} (X : K.In h) (T : Top p loose mean mg mb h) (ht : h.get? tabP = some (tabObj #[])) (F : FactsK K) : Tops h where
  n := topN_of X T F.gl F.bl
  keqv := F.keqv.at X F.keqvC
  http := F.http.at X F.httpC
  unq := F.unq.at X F.unqC
  quo := F.quo.at X F.quoC
  swap := F.swap.at X F.swapC
  pmap := F.pmap.at X F.pmapC
  prep := F.prep.at X F.prepC
  cells := F.cells.at X F.cellsC
  wish := F.wish.at X F.wishC
  figs := F.figs.at X F.figsC
  letter := F.letter.at X F.letterC
  told := F.told.at X F.toldC
  book := F.book.at X F.bookC
  led := F.led.at X F.ledC
  singly := F.singly.at X F.singlyC
  ring := F.ring.at X F.ringC
  init := F.init.at X F.initC
  qmap := qmE_in X F.qm
  cls := ⟨K, X, F.tab, F.makes, F.cinit, F.fn, F.over, F.hasd, F.t1, F.t2, F.sa, F.ga, clsGet F.cd F.pm F.pg F.pd⟩
  hd81 := codeHd_of_K X F.c81
  bm := bm_of T ht (by
    obtain ⟨o, h1, h2⟩ := Option.any_eq_true _ _ |>.mp F.gm
    rw [X _ _ h1]
    intro e
    rw [Option.map_some] at e
    exact bne_iff_ne.mp h2 (Option.some.inj e))
theorem lawAt {K : Frag} {h : Heap} (X : K.In h) (F : FactsK K) : FnAt h 163 162 "law" (fnA (stAt 35)) (fnB (stAt 35)) (fnS (stAt 35)) := F.law.at X F.lawC
end
section
abbrev rwr : RowW := PySem.Challenge.rw_wv0006_01.row.toRowW
theorem ints_at {vs : List Value} {zs : List Int} (h : IntsAre vs zs) : ∀ j, j < vs.length → ∃ n t, vs[j]? = some (.int n t) := by
  induction h with
  | nil => exact fun j hj => absurd hj (Nat.not_lt_zero _)
  | cons n t _ ih =>
    intro j hj
    cases j with
    | zero => exact ⟨n, t, rfl⟩
    | succ j => exact ih j (Nat.lt_of_succ_lt_succ hj)
theorem law_args {w : World} {s₀ s₁ : Shared} {args : List WData} {vals : List Value} {as : List Addr} (hpre : rwr.claim.pre args = true) (hlay : WData.layableAll args = true)
    (hrd : ReadsAllW rwr.records (classAt s₀.heap) s₁.heap vals args as) (hwl : WellAll w.params s₁.heap vals args) (hlo : ∀ a ∈ as, (a == sysModules) = false) : ∃ (sl : Addr) (osl : Obj) (vs : List Value), vals = [.ref sl] ∧ s₁.heap.get? sl = some osl ∧ ListO vs.toArray osl ∧ (∀ j, j < vs.length → ∃ n t, vs[j]? = some (.int n t)) ∧ vs.length ≤ 63 := by
  wrow_args hpre hlay hrd hwl hlo
  rename_i hL _ _ _ hI _ hc _
  obtain ⟨osl, e1, e2, e3⟩ := hL
  refine ⟨_, osl, _, rfl, e1, ⟨e2, e3⟩, ?_, ?_⟩
  · exact ints_at hI
  · have := hI.length
    exact om193 hc this
theorem law_post (args : List WData) : rwr.claim.post args (.bool true) args = true := by
  wrow_post
def moreO : Option Addr → Array Value
  | none => #[]
  | some k => #[rawInt 76, rawInt 4, .ref k]
theorem good_true {args : List WData} {cl : Str → Option Addr} {mean : ExcName → Option Value} {s₁ s' : Shared} (hK : OldK s₁.heap s'.heap) (hos : s'.os = s₁.os) (hg : AllBare s'.gens) : GoodWG rwr.claim cl mean args s₁ (.ok (.ret (.bool true))) s' :=
  ⟨.inl ⟨.bool true, .bool true, [], rfl, fun _ => rfl, .bool _, law_post args, fun _ => ⟨.nil, fun _ h => nomatch h⟩⟩, hK, hos, hg⟩
theorem oldK_of {w : World} {s s' : Shared} {frs : Frs} {led : Led} {kc : Option Addr} (ht : s.heap.get? tabP = some (tabObj #[])) (hd : CodeHd s.heap 81 tabP) (S : Sx ⟨w, s.heap, s.gens, s.drawn, s.os, kc⟩ frs led s') : OldK s.heap s'.heap := by
  obtain ⟨k, T⟩ := S.tb
  have h7 := T.tab
  refine ⟨fun b o e => ?_, fun b o e => ?_⟩
  · by_cases hb : b = tabP
    · subst hb
      rw [ht] at e
      cases e
      refine .inr (.inl ⟨(hd.tab ht).isCodeTable, rfl, #[], moreO k, rfl, ?_⟩)
      rw [h7]
      cases k <;> rfl
    · exact .inl (S.keep _ _ hb e)
  · by_cases hb : b = tabP
    · subst hb
      exact ⟨_, h7⟩
    · exact ⟨o, S.keep _ _ hb e⟩
theorem law_run {w : World} {s₀ s₁ : Shared} {K : Frag} {p : Program} {loose : List Str} {mean mean' : ExcName → Option Value} {mg mb : Str → Option Value} {cl : Str → Option Addr} {args : List WData} {vals : List Value} {as : List Addr} {a : Addr}
    (X : K.In s₁.heap) (F : FactsK K) (T : Top p loose mean' mg mb s₁.heap) (ht : s₁.heap.get? tabP = some (tabObj #[])) (hmg : mg "law" = some (.ref a)) (hg : s₁.gens = #[])
    (hpre : rwr.claim.pre args = true) (hlay : WData.layableAll args = true) (hrd : ReadsAllW rwr.records (classAt s₀.heap) s₁.heap vals args as) (hwl : WellAll w.params s₁.heap vals args) (hlo : ∀ a ∈ as, (a == sysModules) = false) :
    wpN (model rwr.prog w) callerA (PySem.call (.ref a) vals) (fun v s' => GoodWG rwr.claim cl mean args s₁ (.ok (.ret v)) s') (fun e s' => GoodWG rwr.claim cl mean args s₁ (.error e) s') s₁ := by
  have ha : a = 163 := by
    have := mg_of X T.g F.lawN
    rw [hmg] at this
    cases this
    rfl
  subst ha
  refine exE3_5 (law_args hpre hlay hrd hwl hlo) fun sl osl vs hrf3 e1 e2 e3 e4 => ?_; subst hrf3
  have TT : Tops s₁.heap := tops_of X T ht F
  have hne : sl ≠ tabP := by
    rintro rfl
    rw [ht] at e1
    cases e1
    cases e2.1
  have hA : AOk 16 callerA := ⟨rfl, rfl, by decide +kernel, by decide +kernel, [], rfl⟩
  with_reducible refine' N_mono (E := fun _ _ => False) ?_ (fun _ _ x => x) (fun _ _ x => x.elim)
  refine N_enter (w := w) (n := 15) (kc := none) (m := [("script", .ref sl)]) (binds := [("script", .ref sl)]) hA TT.n (Heap.lt_size ht) ⟨none, ht, fun _ h => (nomatch h), fun _ h => (nomatch h), .inl ht, fun _ h => (nomatch h)⟩ (lawAt X F) (by intros; rfl) (fun n x hx => .inl ?_) rfl rfl rfl ?_ (by decide) ?_
  · simp only [List.mem_cons, List.not_mem_nil, or_false] at hx
    subst hx
    rfl
  · intro L cs q hq
    simp only [List.mem_cons, List.not_mem_nil, or_false] at hq
    subst hq
    rfl
  intro L cs led hcs Y
  replace hcs : cs.map (·.1) = [("row" : Str), "pointed", "left", "lists", "octets", "cells"] := hcs
  refine cells6 (G := fun cs led => WN _ (callerA.deeper (envX _ _ L _ _ cs)) (execs _ (envX _ _ L _ _ cs)) [(L, _)] led _) hcs Y fun a6 a5 a4 a3 a2 a1 o6 o5 o4 o3 o2 o1 h6 h5 h4 h3 h2 h1 => ?_
  clear hcs Y
  with_reducible refine' WN_mono (c_law (n := 1) (c := ⟨w, s₁.heap, s₁.gens, s₁.drawn, s₁.os, none⟩) (vs := vs) hA.deeper TT rfl e1 hne e2 e3 e4 (h1.trans rfl) (h2.trans rfl) (h3.trans rfl) (h4.trans rfl) (h5.trans rfl) (h6.trans rfl)) ?_
  rintro fl f' l' rfl
  refine ⟨_, .inl rfl, fun s' S => good_true (oldK_of ht TT.hd81 S) S.os ?_⟩
  have hb := S.gens.2
  exact hb (by rw [show (⟨w, s₁.heap, s₁.gens, s₁.drawn, s₁.os, none⟩ : Cx).gens = s₁.gens from rfl, hg]; exact .empty)
end
section
def FactsL (K : Frag) := (fdE K 21, codeIn K (.ref 20) "parse_keqv_list", fdE K 26, codeIn K (.ref 25) "parse_http_list", fdE K 49, codeIn K (.ref 48) "unquote", fdE K 56, codeIn K (.ref 55) "quote", fdE K 68, codeIn K (.ref 67) "_byteswap", fdE K 75, codeIn K (.ref 74) "get_parent_map", fdE K 82, codeIn K (.ref 81) "prepare_parent", fdE K 110, codeIn K (.ref 109) "_law_cells", fdE K 117, codeIn K (.ref 116) "_law_wishes", fdE K 124, codeIn K (.ref 123) "_law_figures", fdE K 129, codeIn K (.ref 128) "_law_letter", fdE K 134, codeIn K (.ref 133) "_law_told", fdE K 139, codeIn K (.ref 138) "_law_book", fdE K 146, codeIn K (.ref 145) "_law_led", fdE K 153, codeIn K (.ref 152) "_law_singly", fdE K 158, codeIn K (.ref 157) "_law_ring", fdE K 163, codeIn K (.ref 162) "law", fdE K 96, codeIn K (.ref 95) "_SelectorContext.__init__", nsIn K mainGlobals "law", glOk K, blOk K, qmE K, K.lookup tabP, makesIn K 99, findIn K (.ref 99) "__init__", typeIn K (.ref 96), plainOver K 99, (clsIn K 99).any (·.hasDict), takerIn K 99 "root", takerIn K 99 "parent_map", findIn K (.ref 99) "__setattr__", findIn K (.ref 99) "__getattribute__", clsIn K 99, findIn K (.ref 99) "parent_map", specialIn K .none "__get__", (clsD K).hasDict, codeHdIn K 81 tabP, (K.lookup mainGlobals).any (fun o => o.cls != .type "module"))
def FactsR (K : Frag) : type_of% (FactsL K) := (some (fnX (fdD K 21).name "parse_keqv_list" (fnA (stAt 1)) (fnB (stAt 1)) (fnS (stAt 1)) [] .none .none (fdD K 21).doc (fdD K 21).pyModule (fdD K 21).annotations (.ref 20) (fdD K 21).closureTuple), true, some (fnX (fdD K 26).name "parse_http_list" (fnA (stAt 2)) (fnB (stAt 2)) (fnS (stAt 2)) [] .none .none (fdD K 26).doc (fdD K 26).pyModule (fdD K 26).annotations (.ref 25) (fdD K 26).closureTuple), true, some (fnX (fdD K 49).name "unquote" (fnA (stAt 14)) (fnB (stAt 14)) (fnS (stAt 14)) [] .none .none (fdD K 49).doc (fdD K 49).pyModule (fdD K 49).annotations (.ref 48) (fdD K 49).closureTuple), true, some (fnX (fdD K 56).name "quote" (fnA (stAt 15)) (fnB (stAt 15)) (fnS (stAt 15)) [] .none .none (fdD K 56).doc (fdD K 56).pyModule (fdD K 56).annotations (.ref 55) (fdD K 56).closureTuple), true, some (fnX (fdD K 68).name "_byteswap" (fnA (stAt 20)) (fnB (stAt 20)) (fnS (stAt 20)) [] .none .none (fdD K 68).doc (fdD K 68).pyModule (fdD K 68).annotations (.ref 67) (fdD K 68).closureTuple), true, some (fnX (fdD K 75).name "get_parent_map" (fnA (stAt 22)) (fnB (stAt 22)) (fnS (stAt 22)) [] .none .none (fdD K 75).doc (fdD K 75).pyModule (fdD K 75).annotations (.ref 74) (fdD K 75).closureTuple), true, some (fnX (fdD K 82).name "prepare_parent" (fnA (stAt 23)) (fnB (stAt 23)) (fnS (stAt 23)) [] .none .none (fdD K 82).doc (fdD K 82).pyModule (fdD K 82).annotations (.ref 81) (fdD K 82).closureTuple), true, some (fnX (fdD K 110).name "_law_cells" (fnA (stAt 26)) (fnB (stAt 26)) (fnS (stAt 26)) [] .none .none (fdD K 110).doc (fdD K 110).pyModule (fdD K 110).annotations (.ref 109) (fdD K 110).closureTuple), true, some (fnX (fdD K 117).name "_law_wishes" (fnA (stAt 27)) (fnB (stAt 27)) (fnS (stAt 27)) [] .none .none (fdD K 117).doc (fdD K 117).pyModule (fdD K 117).annotations (.ref 116) (fdD K 117).closureTuple), true, some (fnX (fdD K 124).name "_law_figures" (fnA (stAt 28)) (fnB (stAt 28)) (fnS (stAt 28)) [] .none .none (fdD K 124).doc (fdD K 124).pyModule (fdD K 124).annotations (.ref 123) (fdD K 124).closureTuple), true, some (fnX (fdD K 129).name "_law_letter" (fnA (stAt 29)) (fnB (stAt 29)) (fnS (stAt 29)) [] .none .none (fdD K 129).doc (fdD K 129).pyModule (fdD K 129).annotations (.ref 128) (fdD K 129).closureTuple), true, some (fnX (fdD K 134).name "_law_told" (fnA (stAt 30)) (fnB (stAt 30)) (fnS (stAt 30)) [] .none .none (fdD K 134).doc (fdD K 134).pyModule (fdD K 134).annotations (.ref 133) (fdD K 134).closureTuple), true, some (fnX (fdD K 139).name "_law_book" (fnA (stAt 31)) (fnB (stAt 31)) (fnS (stAt 31)) [] .none .none (fdD K 139).doc (fdD K 139).pyModule (fdD K 139).annotations (.ref 138) (fdD K 139).closureTuple), true, some (fnX (fdD K 146).name "_law_led" (fnA (stAt 32)) (fnB (stAt 32)) (fnS (stAt 32)) [] .none .none (fdD K 146).doc (fdD K 146).pyModule (fdD K 146).annotations (.ref 145) (fdD K 146).closureTuple), true, some (fnX (fdD K 153).name "_law_singly" (fnA (stAt 33)) (fnB (stAt 33)) (fnS (stAt 33)) [] .none .none (fdD K 153).doc (fdD K 153).pyModule (fdD K 153).annotations (.ref 152) (fdD K 153).closureTuple), true, some (fnX (fdD K 158).name "_law_ring" (fnA (stAt 34)) (fnB (stAt 34)) (fnS (stAt 34)) [] .none .none (fdD K 158).doc (fdD K 158).pyModule (fdD K 158).annotations (.ref 157) (fdD K 158).closureTuple), true, some (fnX (fdD K 163).name "law" (fnA (stAt 35)) (fnB (stAt 35)) (fnS (stAt 35)) [] .none .none (fdD K 163).doc (fdD K 163).pyModule (fdD K 163).annotations (.ref 162) (fdD K 163).closureTuple), true, some (fnX (fdD K 96).name "_SelectorContext.__init__" (fnA (initSt)) (fnB (initSt)) (fnS (initSt)) [] .none .none (fdD K 96).doc (fdD K 96).pyModule (fdD K 96).annotations (.ref 95) (fdD K 96).closureTuple), true, some (some (.ref 163)), true, true, true, none, true, some (some (.ref 96)), some (.type "function"), true, true, some none, some none, some (some (.builtin "object.__setattr__")), some (some (.builtin "object.__getattribute__")), some (clsD K), some (some .none), some none, true, true, true)
def FactsE (K : Frag) : Prop := FactsL K = FactsR K
theorem facts_of {K : Frag} (h : FactsE K) : FactsK K := by
  unfold FactsE FactsL FactsR at h
  simp only [Prod.mk.injEq] at h
  exact ⟨h.1, h.2.1, h.2.2.1, h.2.2.2.1, h.2.2.2.2.1, h.2.2.2.2.2.1, h.2.2.2.2.2.2.1, h.2.2.2.2.2.2.2.1, h.2.2.2.2.2.2.2.2.1, h.2.2.2.2.2.2.2.2.2.1, h.2.2.2.2.2.2.2.2.2.2.1, h.2.2.2.2.2.2.2.2.2.2.2.1, h.2.2.2.2.2.2.2.2.2.2.2.2.1, h.2.2.2.2.2.2.2.2.2.2.2.2.2.1, h.2.2.2.2.2.2.2.2.2.2.2.2.2.2.1, h.2.2.2.2.2.2.2.2.2.2.2.2.2.2.2.1, h.2.2.2.2.2.2.2.2.2.2.2.2.2.2.2.2.1, h.2.2.2.2.2.2.2.2.2.2.2.2.2.2.2.2.2.1, h.2.2.2.2.2.2.2.2.2.2.2.2.2.2.2.2.2.2.1, h.2.2.2.2.2.2.2.2.2.2.2.2.2.2.2.2.2.2.2.1, h.2.2.2.2.2.2.2.2.2.2.2.2.2.2.2.2.2.2.2.2.1, h.2.2.2.2.2.2.2.2.2.2.2.2.2.2.2.2.2.2.2.2.2.1, h.2.2.2.2.2.2.2.2.2.2.2.2.2.2.2.2.2.2.2.2.2.2.1, h.2.2.2.2.2.2.2.2.2.2.2.2.2.2.2.2.2.2.2.2.2.2.2.1, h.2.2.2.2.2.2.2.2.2.2.2.2.2.2.2.2.2.2.2.2.2.2.2.2.1, h.2.2.2.2.2.2.2.2.2.2.2.2.2.2.2.2.2.2.2.2.2.2.2.2.2.1, h.2.2.2.2.2.2.2.2.2.2.2.2.2.2.2.2.2.2.2.2.2.2.2.2.2.2.1, h.2.2.2.2.2.2.2.2.2.2.2.2.2.2.2.2.2.2.2.2.2.2.2.2.2.2.2.1, h.2.2.2.2.2.2.2.2.2.2.2.2.2.2.2.2.2.2.2.2.2.2.2.2.2.2.2.2.1, h.2.2.2.2.2.2.2.2.2.2.2.2.2.2.2.2.2.2.2.2.2.2.2.2.2.2.2.2.2.1, h.2.2.2.2.2.2.2.2.2.2.2.2.2.2.2.2.2.2.2.2.2.2.2.2.2.2.2.2.2.2.1, h.2.2.2.2.2.2.2.2.2.2.2.2.2.2.2.2.2.2.2.2.2.2.2.2.2.2.2.2.2.2.2.1, h.2.2.2.2.2.2.2.2.2.2.2.2.2.2.2.2.2.2.2.2.2.2.2.2.2.2.2.2.2.2.2.2.1, h.2.2.2.2.2.2.2.2.2.2.2.2.2.2.2.2.2.2.2.2.2.2.2.2.2.2.2.2.2.2.2.2.2.1, h.2.2.2.2.2.2.2.2.2.2.2.2.2.2.2.2.2.2.2.2.2.2.2.2.2.2.2.2.2.2.2.2.2.2.1, h.2.2.2.2.2.2.2.2.2.2.2.2.2.2.2.2.2.2.2.2.2.2.2.2.2.2.2.2.2.2.2.2.2.2.2.1, h.2.2.2.2.2.2.2.2.2.2.2.2.2.2.2.2.2.2.2.2.2.2.2.2.2.2.2.2.2.2.2.2.2.2.2.2.1, h.2.2.2.2.2.2.2.2.2.2.2.2.2.2.2.2.2.2.2.2.2.2.2.2.2.2.2.2.2.2.2.2.2.2.2.2.2.1, h.2.2.2.2.2.2.2.2.2.2.2.2.2.2.2.2.2.2.2.2.2.2.2.2.2.2.2.2.2.2.2.2.2.2.2.2.2.2.1, h.2.2.2.2.2.2.2.2.2.2.2.2.2.2.2.2.2.2.2.2.2.2.2.2.2.2.2.2.2.2.2.2.2.2.2.2.2.2.2.1, h.2.2.2.2.2.2.2.2.2.2.2.2.2.2.2.2.2.2.2.2.2.2.2.2.2.2.2.2.2.2.2.2.2.2.2.2.2.2.2.2.1, h.2.2.2.2.2.2.2.2.2.2.2.2.2.2.2.2.2.2.2.2.2.2.2.2.2.2.2.2.2.2.2.2.2.2.2.2.2.2.2.2.2.1, h.2.2.2.2.2.2.2.2.2.2.2.2.2.2.2.2.2.2.2.2.2.2.2.2.2.2.2.2.2.2.2.2.2.2.2.2.2.2.2.2.2.2.1, h.2.2.2.2.2.2.2.2.2.2.2.2.2.2.2.2.2.2.2.2.2.2.2.2.2.2.2.2.2.2.2.2.2.2.2.2.2.2.2.2.2.2.2.1, h.2.2.2.2.2.2.2.2.2.2.2.2.2.2.2.2.2.2.2.2.2.2.2.2.2.2.2.2.2.2.2.2.2.2.2.2.2.2.2.2.2.2.2.2.1, h.2.2.2.2.2.2.2.2.2.2.2.2.2.2.2.2.2.2.2.2.2.2.2.2.2.2.2.2.2.2.2.2.2.2.2.2.2.2.2.2.2.2.2.2.2.1, h.2.2.2.2.2.2.2.2.2.2.2.2.2.2.2.2.2.2.2.2.2.2.2.2.2.2.2.2.2.2.2.2.2.2.2.2.2.2.2.2.2.2.2.2.2.2.1, h.2.2.2.2.2.2.2.2.2.2.2.2.2.2.2.2.2.2.2.2.2.2.2.2.2.2.2.2.2.2.2.2.2.2.2.2.2.2.2.2.2.2.2.2.2.2.2.1, h.2.2.2.2.2.2.2.2.2.2.2.2.2.2.2.2.2.2.2.2.2.2.2.2.2.2.2.2.2.2.2.2.2.2.2.2.2.2.2.2.2.2.2.2.2.2.2.2.1, h.2.2.2.2.2.2.2.2.2.2.2.2.2.2.2.2.2.2.2.2.2.2.2.2.2.2.2.2.2.2.2.2.2.2.2.2.2.2.2.2.2.2.2.2.2.2.2.2.2.1, h.2.2.2.2.2.2.2.2.2.2.2.2.2.2.2.2.2.2.2.2.2.2.2.2.2.2.2.2.2.2.2.2.2.2.2.2.2.2.2.2.2.2.2.2.2.2.2.2.2.2.1, h.2.2.2.2.2.2.2.2.2.2.2.2.2.2.2.2.2.2.2.2.2.2.2.2.2.2.2.2.2.2.2.2.2.2.2.2.2.2.2.2.2.2.2.2.2.2.2.2.2.2.2.1, h.2.2.2.2.2.2.2.2.2.2.2.2.2.2.2.2.2.2.2.2.2.2.2.2.2.2.2.2.2.2.2.2.2.2.2.2.2.2.2.2.2.2.2.2.2.2.2.2.2.2.2.2.1, h.2.2.2.2.2.2.2.2.2.2.2.2.2.2.2.2.2.2.2.2.2.2.2.2.2.2.2.2.2.2.2.2.2.2.2.2.2.2.2.2.2.2.2.2.2.2.2.2.2.2.2.2.2.1, h.2.2.2.2.2.2.2.2.2.2.2.2.2.2.2.2.2.2.2.2.2.2.2.2.2.2.2.2.2.2.2.2.2.2.2.2.2.2.2.2.2.2.2.2.2.2.2.2.2.2.2.2.2.2.1, h.2.2.2.2.2.2.2.2.2.2.2.2.2.2.2.2.2.2.2.2.2.2.2.2.2.2.2.2.2.2.2.2.2.2.2.2.2.2.2.2.2.2.2.2.2.2.2.2.2.2.2.2.2.2.2⟩
end
section
noncomputable section
def kF (P : Params) : Frag := (List.range 164).filterMap fun a => match a == tabP with
  | true => none
  | false => match (hF P).get? a with
    | some o => some (a, o)
    | none => none
theorem lookup_filterMap {h : Heap} : ∀ (l : List Nat) (a : Addr) (o : Obj), (l.filterMap fun a => match a == tabP with
    | true => none
    | false => match h.get? a with
      | some o => some (a, o)
      | none => none).lookup a = some o → h.get? a = some o
  | [], a, o, e => by simp at e
  | b :: l, a, o, e => by
    rw [List.filterMap_cons] at e
    cases hb : b == tabP with
    | true => simp only [hb] at e; exact lookup_filterMap l a o e
    | false =>
      cases hg : h.get? b with
      | none => simp only [hb, hg] at e; exact lookup_filterMap l a o e
      | some x =>
        simp only [hb, hg, List.lookup_cons] at e
        cases hab : a == b with
        | true =>
          simp only [hab] at e
          cases e
          rw [beq_iff_eq.mp hab]
          exact hg
        | false => simp only [hab] at e; exact lookup_filterMap l a o e
theorem kF_in {P : Params} {h : Heap} (x : ∀ a o, (hF P).get? a = some o → h.get? a = some o) : (kF P).In h := fun a o e => x a o (lookup_filterMap _ a o e)
/-- all that is asked of the last heap, in one equation -/
theorem finals (P : Params) (os : OsState) : ((staticsOk (importedModules tpw.main.body) (boot_heap P) (hF P) && namesBound tpw (hF P) && gensDone ⟨hF P, Array.mk [], boot_drawn, 1910, os⟩ && laidKept (boot_heap P) (hF P)),
    twSeen qv lv (importedModules tpw.main.body) (fun _ => true) true ⟨hF P, Array.mk [], boot_drawn, 1910, os⟩, (hF P).get? tabP, FactsL (kF P)) = (true, openGood qv lv, some (tabObj #[]), FactsR (kF P)) := by kernel_rfl
theorem looks (P : Params) (os : OsState) : (staticsOk (importedModules tpw.main.body) (boot_heap P) (hF P) && namesBound tpw (hF P) && gensDone ⟨hF P, Array.mk [], boot_drawn, 1910, os⟩ && laidKept (boot_heap P) (hF P)) = true ∧
    twSeen qv lv (importedModules tpw.main.body) (fun _ => true) true ⟨hF P, Array.mk [], boot_drawn, 1910, os⟩ = openGood qv lv := ⟨(Prod.mk.inj (finals P os)).1, (Prod.mk.inj (Prod.mk.inj (finals P os)).2).1⟩
theorem factsF (P : Params) : FactsE (kF P) := (Prod.mk.inj (Prod.mk.inj (Prod.mk.inj (finals P {})).2).2).2
theorem tabF (P : Params) : (hF P).get? tabP = some (tabObj #[]) := (Prod.mk.inj (Prod.mk.inj (Prod.mk.inj (finals P {})).2).2).1
theorem leftO : LeftO tpw qv lv (fun _ => true) (fun s => s.heap) (fun w => hF w.params) 40000 true :=
  LeftO.of_pieces (H₀ := boot_heap) (H₁ := hF) (gs₀ := Array.mk []) (gs₁ := Array.mk []) (d₀ := boot_drawn) (d₁ := boot_drawn) (k₀ := boot_toks) (k₁ := 1910) (m₀ := 11) (ann := tAnn) (M := 20000)
    boot_mine size_here top_run (by decide)
    (fun w => funext fun os => by rw [(looks w.params os).1, twSeen_eq, (looks w.params os).2])
theorem said_ok : PySem.Challenge.rw_wv0006_01.wellSaid = true := (congrFun PySem.W.Fast.te9446332074065402090 _).trans (by kernel_rfl)
set_option maxHeartbeats 8000000 in
theorem law_holds : PySem.Challenge.rw_wv0006_01.Holds := by
  w_on
  refine holds_law said_ok fun said => ?_
  refine holdsOpenN (q := qv) (loose := lv) (Xt := fun _ => true) (XP := fun _ _ => True) (Yf := fun s => s.heap) (Ya := fun w => hF w.params) (YP := fun w h => ∀ a o, (hF w.params).get? a = some o → h.get? a = some o) (N := 40000)
    leftO (fun w s e a o x => by rw [e]; exact x) (fun w h h' x k a o e => k _ _ (x a o e)) (fun _ _ => trivial) (fun _ _ _ _ _ => trivial) (by rfl) (by rfl) (by rfl) (fun s _ => recFacts_nil rfl) (by rfl) (by first | assumption | decide +kernel) (by decide +kernel) ⟨rfl, rfl, rfl, rfl, rfl, by decide +kernel⟩ ?hw ?hc
  case hw => w_witness2
  intro w s₀ s₁ mg mb G Y fa o pm cd doc dV kV ho hd hcd hD hmg hg args vals as hpre hlay hrd hwl hlo
  exact law_run (kF_in Y) (facts_of (factsF w.params)) G.T (Y _ _ (tabF w.params)) hmg hg hpre hlay hrd hwl hlo
end
end
end
end Mine
theorem PySem.Challenge.cw_wv0006_01_holds : PySem.Challenge.rw_wv0006_01.Holds :=
  Mine.law_holds
