import PyProof.Rows.All
import Wide.All
import OpenK.AllK
import Wide.FinOn
import Lean
import PyProof.ObjNew
import PyProof.AttrMissHeap
import PyProof.ExcFactsAll.TypeError
import PyProof.ExcStrCall
import PyProof.ExcStrAll.ValueError
import PyProof.ExcStrAll.TypeError
import PySem.Challenge.RW_ik0158_02
set_option autoImplicit false
set_option maxRecDepth 100000
set_option Elab.async false
set_option bootstrap.genMatcherCode false
set_option genSizeOf false
set_option genSizeOfSpec false
set_option linter.all false
set_option tactic.hygienic false
namespace Mine
theorem o_a {A0 : Prop} {Z : Prop} {G : Prop} (h : A0 ∧ Z) (k : A0 → Z → G) : G := let ⟨w, z⟩ := h; k w z
theorem o_e.{u0} {α0 : Sort u0} {Z : α0 → Prop} {G : Prop} (h : ∃ x0, Z x0) (k : ∀ x0, Z x0 → G) : G := let ⟨w, z⟩ := h; k w z
theorem o_aa {A0 : Prop} {A1 : Prop} {Z : Prop} {G : Prop} (h : A0 ∧ A1 ∧ Z) (k : A0 → A1 → Z → G) : G := o_a h fun w20 z => o_a z (k w20)
theorem o_ae.{u0} {α0 : Sort u0} {A0 : Prop} {Z : α0 → Prop} {G : Prop} (h : A0 ∧ ∃ x0, Z x0) (k : A0 → ∀ x0, Z x0 → G) : G := o_a h fun w20 z => o_e z (k w20)
theorem o_ea.{u0} {α0 : Sort u0} {A0 : α0 → Prop} {Z : α0 → Prop} {G : Prop} (h : ∃ x0, A0 x0 ∧ Z x0) (k : ∀ x0, A0 x0 → Z x0 → G) : G := o_e h fun w20 z => o_a z (k w20)
theorem o_ee.{u0, u1} {α0 : Sort u0} {α1 : Sort u1} {Z : α0 → α1 → Prop} {G : Prop} (h : ∃ x0, ∃ x1, Z x0 x1) (k : ∀ x0, ∀ x1, Z x0 x1 → G) : G := o_e h fun w20 z => o_e z (k w20)
theorem o_aaa {A0 : Prop} {A1 : Prop} {A2 : Prop} {Z : Prop} {G : Prop} (h : A0 ∧ A1 ∧ A2 ∧ Z) (k : A0 → A1 → A2 → Z → G) : G := o_aa h fun w30 w31 z => o_a z (k w30 w31)
theorem o_aea.{u0} {α0 : Sort u0} {A0 : Prop} {A1 : α0 → Prop} {Z : α0 → Prop} {G : Prop} (h : A0 ∧ ∃ x0, A1 x0 ∧ Z x0) (k : A0 → ∀ x0, A1 x0 → Z x0 → G) : G := o_ae h fun w30 w31 z => o_a z (k w30 w31)
theorem o_eaa.{u0} {α0 : Sort u0} {A0 : α0 → Prop} {A1 : α0 → Prop} {Z : α0 → Prop} {G : Prop} (h : ∃ x0, A0 x0 ∧ A1 x0 ∧ Z x0) (k : ∀ x0, A0 x0 → A1 x0 → Z x0 → G) : G := o_ea h fun w30 w31 z => o_a z (k w30 w31)
theorem o_eea.{u0, u1} {α0 : Sort u0} {α1 : Sort u1} {A0 : α0 → α1 → Prop} {Z : α0 → α1 → Prop} {G : Prop} (h : ∃ x0, ∃ x1, A0 x0 x1 ∧ Z x0 x1) (k : ∀ x0, ∀ x1, A0 x0 x1 → Z x0 x1 → G) : G := o_ee h fun w30 w31 z => o_a z (k w30 w31)
theorem o_eee.{u0, u1, u2} {α0 : Sort u0} {α1 : Sort u1} {α2 : Sort u2} {Z : α0 → α1 → α2 → Prop} {G : Prop} (h : ∃ x0, ∃ x1, ∃ x2, Z x0 x1 x2) (k : ∀ x0, ∀ x1, ∀ x2, Z x0 x1 x2 → G) : G := o_ee h fun w30 w31 z => o_e z (k w30 w31)
theorem o_aaaa {A0 : Prop} {A1 : Prop} {A2 : Prop} {A3 : Prop} {Z : Prop} {G : Prop} (h : A0 ∧ A1 ∧ A2 ∧ A3 ∧ Z) (k : A0 → A1 → A2 → A3 → Z → G) : G := o_aaa h fun w40 w41 w42 z => o_a z (k w40 w41 w42)
theorem o_aeaa.{u0} {α0 : Sort u0} {A0 : Prop} {A1 : α0 → Prop} {A2 : α0 → Prop} {Z : α0 → Prop} {G : Prop} (h : A0 ∧ ∃ x0, A1 x0 ∧ A2 x0 ∧ Z x0) (k : A0 → ∀ x0, A1 x0 → A2 x0 → Z x0 → G) : G := o_aea h fun w40 w41 w42 z => o_a z (k w40 w41 w42)
theorem o_aeea.{u0, u1} {α0 : Sort u0} {α1 : Sort u1} {A0 : Prop} {A1 : α0 → α1 → Prop} {Z : α0 → α1 → Prop} {G : Prop} (h : A0 ∧ ∃ x0, ∃ x1, A1 x0 x1 ∧ Z x0 x1) (k : A0 → ∀ x0, ∀ x1, A1 x0 x1 → Z x0 x1 → G) : G := o_ae h fun w40 w41 z => o_ea z (k w40 w41)
theorem o_eaaa.{u0} {α0 : Sort u0} {A0 : α0 → Prop} {A1 : α0 → Prop} {A2 : α0 → Prop} {Z : α0 → Prop} {G : Prop} (h : ∃ x0, A0 x0 ∧ A1 x0 ∧ A2 x0 ∧ Z x0) (k : ∀ x0, A0 x0 → A1 x0 → A2 x0 → Z x0 → G) : G := o_eaa h fun w40 w41 w42 z => o_a z (k w40 w41 w42)
theorem o_eeaa.{u0, u1} {α0 : Sort u0} {α1 : Sort u1} {A0 : α0 → α1 → Prop} {A1 : α0 → α1 → Prop} {Z : α0 → α1 → Prop} {G : Prop} (h : ∃ x0, ∃ x1, A0 x0 x1 ∧ A1 x0 x1 ∧ Z x0 x1) (k : ∀ x0, ∀ x1, A0 x0 x1 → A1 x0 x1 → Z x0 x1 → G) : G := o_eea h fun w40 w41 w42 z => o_a z (k w40 w41 w42)
theorem o_eeea.{u0, u1, u2} {α0 : Sort u0} {α1 : Sort u1} {α2 : Sort u2} {A0 : α0 → α1 → α2 → Prop} {Z : α0 → α1 → α2 → Prop} {G : Prop} (h : ∃ x0, ∃ x1, ∃ x2, A0 x0 x1 x2 ∧ Z x0 x1 x2) (k : ∀ x0, ∀ x1, ∀ x2, A0 x0 x1 x2 → Z x0 x1 x2 → G) : G := o_eee h fun w40 w41 w42 z => o_a z (k w40 w41 w42)
theorem o_eeee.{u0, u1, u2, u3} {α0 : Sort u0} {α1 : Sort u1} {α2 : Sort u2} {α3 : Sort u3} {Z : α0 → α1 → α2 → α3 → Prop} {G : Prop} (h : ∃ x0, ∃ x1, ∃ x2, ∃ x3, Z x0 x1 x2 x3) (k : ∀ x0, ∀ x1, ∀ x2, ∀ x3, Z x0 x1 x2 x3 → G) : G := o_eee h fun w40 w41 w42 z => o_e z (k w40 w41 w42)
theorem o_aaaaa {A0 : Prop} {A1 : Prop} {A2 : Prop} {A3 : Prop} {A4 : Prop} {Z : Prop} {G : Prop} (h : A0 ∧ A1 ∧ A2 ∧ A3 ∧ A4 ∧ Z) (k : A0 → A1 → A2 → A3 → A4 → Z → G) : G := o_aaaa h fun w50 w51 w52 w53 z => o_a z (k w50 w51 w52 w53)
theorem o_aaeaa.{u0} {α0 : Sort u0} {A0 : Prop} {A1 : Prop} {A2 : α0 → Prop} {A3 : α0 → Prop} {Z : α0 → Prop} {G : Prop} (h : A0 ∧ A1 ∧ ∃ x0, A2 x0 ∧ A3 x0 ∧ Z x0) (k : A0 → A1 → ∀ x0, A2 x0 → A3 x0 → Z x0 → G) : G := o_aa h fun w50 w51 z => o_eaa z (k w50 w51)
theorem o_aeeaa.{u0, u1} {α0 : Sort u0} {α1 : Sort u1} {A0 : Prop} {A1 : α0 → α1 → Prop} {A2 : α0 → α1 → Prop} {Z : α0 → α1 → Prop} {G : Prop} (h : A0 ∧ ∃ x0, ∃ x1, A1 x0 x1 ∧ A2 x0 x1 ∧ Z x0 x1) (k : A0 → ∀ x0, ∀ x1, A1 x0 x1 → A2 x0 x1 → Z x0 x1 → G) : G := o_aeea h fun w50 w51 w52 w53 z => o_a z (k w50 w51 w52 w53)
theorem o_aeeee.{u0, u1, u2, u3} {α0 : Sort u0} {α1 : Sort u1} {α2 : Sort u2} {α3 : Sort u3} {A0 : Prop} {Z : α0 → α1 → α2 → α3 → Prop} {G : Prop} (h : A0 ∧ ∃ x0, ∃ x1, ∃ x2, ∃ x3, Z x0 x1 x2 x3) (k : A0 → ∀ x0, ∀ x1, ∀ x2, ∀ x3, Z x0 x1 x2 x3 → G) : G := o_ae h fun w50 w51 z => o_eee z (k w50 w51)
theorem o_eeaaa.{u0, u1} {α0 : Sort u0} {α1 : Sort u1} {A0 : α0 → α1 → Prop} {A1 : α0 → α1 → Prop} {A2 : α0 → α1 → Prop} {Z : α0 → α1 → Prop} {G : Prop} (h : ∃ x0, ∃ x1, A0 x0 x1 ∧ A1 x0 x1 ∧ A2 x0 x1 ∧ Z x0 x1) (k : ∀ x0, ∀ x1, A0 x0 x1 → A1 x0 x1 → A2 x0 x1 → Z x0 x1 → G) : G := o_eeaa h fun w50 w51 w52 w53 z => o_a z (k w50 w51 w52 w53)
theorem o_eeeaa.{u0, u1, u2} {α0 : Sort u0} {α1 : Sort u1} {α2 : Sort u2} {A0 : α0 → α1 → α2 → Prop} {A1 : α0 → α1 → α2 → Prop} {Z : α0 → α1 → α2 → Prop} {G : Prop} (h : ∃ x0, ∃ x1, ∃ x2, A0 x0 x1 x2 ∧ A1 x0 x1 x2 ∧ Z x0 x1 x2) (k : ∀ x0, ∀ x1, ∀ x2, A0 x0 x1 x2 → A1 x0 x1 x2 → Z x0 x1 x2 → G) : G := o_eeea h fun w50 w51 w52 w53 z => o_a z (k w50 w51 w52 w53)
theorem o_eeeee.{u0, u1, u2, u3, u4} {α0 : Sort u0} {α1 : Sort u1} {α2 : Sort u2} {α3 : Sort u3} {α4 : Sort u4} {Z : α0 → α1 → α2 → α3 → α4 → Prop} {G : Prop} (h : ∃ x0, ∃ x1, ∃ x2, ∃ x3, ∃ x4, Z x0 x1 x2 x3 x4) (k : ∀ x0, ∀ x1, ∀ x2, ∀ x3, ∀ x4, Z x0 x1 x2 x3 x4 → G) : G := o_eeee h fun w50 w51 w52 w53 z => o_e z (k w50 w51 w52 w53)
theorem o_aaaaaa {A0 : Prop} {A1 : Prop} {A2 : Prop} {A3 : Prop} {A4 : Prop} {A5 : Prop} {Z : Prop} {G : Prop} (h : A0 ∧ A1 ∧ A2 ∧ A3 ∧ A4 ∧ A5 ∧ Z) (k : A0 → A1 → A2 → A3 → A4 → A5 → Z → G) : G := o_aaaaa h fun w60 w61 w62 w63 w64 z => o_a z (k w60 w61 w62 w63 w64)
theorem o_eaaaaa.{u0} {α0 : Sort u0} {A0 : α0 → Prop} {A1 : α0 → Prop} {A2 : α0 → Prop} {A3 : α0 → Prop} {A4 : α0 → Prop} {Z : α0 → Prop} {G : Prop} (h : ∃ x0, A0 x0 ∧ A1 x0 ∧ A2 x0 ∧ A3 x0 ∧ A4 x0 ∧ Z x0) (k : ∀ x0, A0 x0 → A1 x0 → A2 x0 → A3 x0 → A4 x0 → Z x0 → G) : G := o_eaaa h fun w60 w61 w62 w63 z => o_aa z (k w60 w61 w62 w63)
theorem o_eeaaaa.{u0, u1} {α0 : Sort u0} {α1 : Sort u1} {A0 : α0 → α1 → Prop} {A1 : α0 → α1 → Prop} {A2 : α0 → α1 → Prop} {A3 : α0 → α1 → Prop} {Z : α0 → α1 → Prop} {G : Prop} (h : ∃ x0, ∃ x1, A0 x0 x1 ∧ A1 x0 x1 ∧ A2 x0 x1 ∧ A3 x0 x1 ∧ Z x0 x1) (k : ∀ x0, ∀ x1, A0 x0 x1 → A1 x0 x1 → A2 x0 x1 → A3 x0 x1 → Z x0 x1 → G) : G := o_eeaaa h fun w60 w61 w62 w63 w64 z => o_a z (k w60 w61 w62 w63 w64)
theorem o_eeeaaa.{u0, u1, u2} {α0 : Sort u0} {α1 : Sort u1} {α2 : Sort u2} {A0 : α0 → α1 → α2 → Prop} {A1 : α0 → α1 → α2 → Prop} {A2 : α0 → α1 → α2 → Prop} {Z : α0 → α1 → α2 → Prop} {G : Prop} (h : ∃ x0, ∃ x1, ∃ x2, A0 x0 x1 x2 ∧ A1 x0 x1 x2 ∧ A2 x0 x1 x2 ∧ Z x0 x1 x2) (k : ∀ x0, ∀ x1, ∀ x2, A0 x0 x1 x2 → A1 x0 x1 x2 → A2 x0 x1 x2 → Z x0 x1 x2 → G) : G := o_eeeaa h fun w60 w61 w62 w63 w64 z => o_a z (k w60 w61 w62 w63 w64)
theorem o_eeeeaaa.{u0, u1, u2, u3} {α0 : Sort u0} {α1 : Sort u1} {α2 : Sort u2} {α3 : Sort u3} {A0 : α0 → α1 → α2 → α3 → Prop} {A1 : α0 → α1 → α2 → α3 → Prop} {A2 : α0 → α1 → α2 → α3 → Prop} {Z : α0 → α1 → α2 → α3 → Prop} {G : Prop} (h : ∃ x0, ∃ x1, ∃ x2, ∃ x3, A0 x0 x1 x2 x3 ∧ A1 x0 x1 x2 x3 ∧ A2 x0 x1 x2 x3 ∧ Z x0 x1 x2 x3) (k : ∀ x0, ∀ x1, ∀ x2, ∀ x3, A0 x0 x1 x2 x3 → A1 x0 x1 x2 x3 → A2 x0 x1 x2 x3 → Z x0 x1 x2 x3 → G) : G := o_eeee h fun w70 w71 w72 w73 z => o_aaa z (k w70 w71 w72 w73)
theorem o_eeeaaaaa.{u0, u1, u2} {α0 : Sort u0} {α1 : Sort u1} {α2 : Sort u2} {A0 : α0 → α1 → α2 → Prop} {A1 : α0 → α1 → α2 → Prop} {A2 : α0 → α1 → α2 → Prop} {A3 : α0 → α1 → α2 → Prop} {A4 : α0 → α1 → α2 → Prop} {Z : α0 → α1 → α2 → Prop} {G : Prop} (h : ∃ x0, ∃ x1, ∃ x2, A0 x0 x1 x2 ∧ A1 x0 x1 x2 ∧ A2 x0 x1 x2 ∧ A3 x0 x1 x2 ∧ A4 x0 x1 x2 ∧ Z x0 x1 x2) (k : ∀ x0, ∀ x1, ∀ x2, A0 x0 x1 x2 → A1 x0 x1 x2 → A2 x0 x1 x2 → A3 x0 x1 x2 → A4 x0 x1 x2 → Z x0 x1 x2 → G) : G := o_eeeaaa h fun w80 w81 w82 w83 w84 w85 z => o_aa z (k w80 w81 w82 w83 w84 w85)
theorem o_aeeeeaaaa.{u0, u1, u2, u3} {α0 : Sort u0} {α1 : Sort u1} {α2 : Sort u2} {α3 : Sort u3} {A0 : Prop} {A1 : α0 → α1 → α2 → α3 → Prop} {A2 : α0 → α1 → α2 → α3 → Prop} {A3 : α0 → α1 → α2 → α3 → Prop} {A4 : α0 → α1 → α2 → α3 → Prop} {Z : α0 → α1 → α2 → α3 → Prop} {G : Prop} (h : A0 ∧ ∃ x0, ∃ x1, ∃ x2, ∃ x3, A1 x0 x1 x2 x3 ∧ A2 x0 x1 x2 x3 ∧ A3 x0 x1 x2 x3 ∧ A4 x0 x1 x2 x3 ∧ Z x0 x1 x2 x3) (k : A0 → ∀ x0, ∀ x1, ∀ x2, ∀ x3, A1 x0 x1 x2 x3 → A2 x0 x1 x2 x3 → A3 x0 x1 x2 x3 → A4 x0 x1 x2 x3 → Z x0 x1 x2 x3 → G) : G := o_aeeee h fun w90 w91 w92 w93 w94 z => o_aaaa z (k w90 w91 w92 w93 w94)
theorem o_eeeeaaaaa.{u0, u1, u2, u3} {α0 : Sort u0} {α1 : Sort u1} {α2 : Sort u2} {α3 : Sort u3} {A0 : α0 → α1 → α2 → α3 → Prop} {A1 : α0 → α1 → α2 → α3 → Prop} {A2 : α0 → α1 → α2 → α3 → Prop} {A3 : α0 → α1 → α2 → α3 → Prop} {A4 : α0 → α1 → α2 → α3 → Prop} {Z : α0 → α1 → α2 → α3 → Prop} {G : Prop} (h : ∃ x0, ∃ x1, ∃ x2, ∃ x3, A0 x0 x1 x2 x3 ∧ A1 x0 x1 x2 x3 ∧ A2 x0 x1 x2 x3 ∧ A3 x0 x1 x2 x3 ∧ A4 x0 x1 x2 x3 ∧ Z x0 x1 x2 x3) (k : ∀ x0, ∀ x1, ∀ x2, ∀ x3, A0 x0 x1 x2 x3 → A1 x0 x1 x2 x3 → A2 x0 x1 x2 x3 → A3 x0 x1 x2 x3 → A4 x0 x1 x2 x3 → Z x0 x1 x2 x3 → G) : G := o_eeeeaaa h fun w90 w91 w92 w93 w94 w95 w96 z => o_aa z (k w90 w91 w92 w93 w94 w95 w96)
theorem no_ns {α : Type} {a : α} {G : Prop} (h : none = some a) : G := nomatch h
theorem no_sn {α : Type} {a : α} {G : Prop} (h : some a = none) : G := nomatch h
theorem no_tf {G : Prop} (h : true = false) : G := nomatch h
theorem no_ft {G : Prop} (h : false = true) : G := nomatch h
@[elab_as_elim] theorem rr.{u} {α : Sort u} {a b : α} {P : α → Prop} (h : a = b) (p : P b) : P a := h ▸ p
@[elab_as_elim] theorem rl.{u} {α : Sort u} {a b : α} {P : α → Prop} (h : b = a) (p : P b) : P a := h ▸ p
@[elab_as_elim] theorem ie.{u} {α : Sort u} {c : Prop} [d : Decidable c] {x a b : α} {P : α → Prop} (e : @ite α c d a b = x) (h1 : c → P a) (h2 : ¬c → P b) : P x := e ▸ (if h : c then (if_pos h).symm ▸ h1 h else (if_neg h).symm ▸ h2 h)
theorem i_ea.{u0} {α0 : Sort u0} {A0 : α0 → Prop} {Z : α0 → Prop} (x0 : α0) (h1 : A0 x0) (h2 : Z x0) : ∃ x0, A0 x0 ∧ Z x0 := ⟨x0, h1, h2⟩
theorem i_aa {A0 : Prop} {A1 : Prop} {Z : Prop} (h0 : A0) (h1 : A1) (h2 : Z) : A0 ∧ A1 ∧ Z := ⟨h0, h1, h2⟩
theorem i_eaa.{u0} {α0 : Sort u0} {A0 : α0 → Prop} {A1 : α0 → Prop} {Z : α0 → Prop} (x0 : α0) (h1 : A0 x0) (h2 : A1 x0) (h3 : Z x0) : ∃ x0, A0 x0 ∧ A1 x0 ∧ Z x0 := ⟨x0, h1, h2, h3⟩
theorem i_eea.{u0, u1} {α0 : Sort u0} {α1 : Sort u1} {A0 : α0 → α1 → Prop} {Z : α0 → α1 → Prop} (x0 : α0) (x1 : α1) (h2 : A0 x0 x1) (h3 : Z x0 x1) : ∃ x0, ∃ x1, A0 x0 x1 ∧ Z x0 x1 := ⟨x0, x1, h2, h3⟩
theorem i_eeaa.{u0, u1} {α0 : Sort u0} {α1 : Sort u1} {A0 : α0 → α1 → Prop} {A1 : α0 → α1 → Prop} {Z : α0 → α1 → Prop} (x0 : α0) (x1 : α1) (h2 : A0 x0 x1) (h3 : A1 x0 x1) (h4 : Z x0 x1) : ∃ x0, ∃ x1, A0 x0 x1 ∧ A1 x0 x1 ∧ Z x0 x1 := ⟨x0, x1, h2, h3, h4⟩
theorem i_aaa {A0 : Prop} {A1 : Prop} {A2 : Prop} {Z : Prop} (h0 : A0) (h1 : A1) (h2 : A2) (h3 : Z) : A0 ∧ A1 ∧ A2 ∧ Z := ⟨h0, h1, h2, h3⟩
theorem i_eaaa.{u0} {α0 : Sort u0} {A0 : α0 → Prop} {A1 : α0 → Prop} {A2 : α0 → Prop} {Z : α0 → Prop} (x0 : α0) (h1 : A0 x0) (h2 : A1 x0) (h3 : A2 x0) (h4 : Z x0) : ∃ x0, A0 x0 ∧ A1 x0 ∧ A2 x0 ∧ Z x0 := ⟨x0, h1, h2, h3, h4⟩
theorem i_ee.{u0, u1} {α0 : Sort u0} {α1 : Sort u1} {Z : α0 → α1 → Prop} (x0 : α0) (x1 : α1) (h2 : Z x0 x1) : ∃ x0, ∃ x1, Z x0 x1 := ⟨x0, x1, h2⟩
theorem i_eee.{u0, u1, u2} {α0 : Sort u0} {α1 : Sort u1} {α2 : Sort u2} {Z : α0 → α1 → α2 → Prop} (x0 : α0) (x1 : α1) (x2 : α2) (h3 : Z x0 x1 x2) : ∃ x0, ∃ x1, ∃ x2, Z x0 x1 x2 := ⟨x0, x1, x2, h3⟩
theorem i_eeea.{u0, u1, u2} {α0 : Sort u0} {α1 : Sort u1} {α2 : Sort u2} {A0 : α0 → α1 → α2 → Prop} {Z : α0 → α1 → α2 → Prop} (x0 : α0) (x1 : α1) (x2 : α2) (h3 : A0 x0 x1 x2) (h4 : Z x0 x1 x2) : ∃ x0, ∃ x1, ∃ x2, A0 x0 x1 x2 ∧ Z x0 x1 x2 := ⟨x0, x1, x2, h3, h4⟩
theorem i_aea.{u0} {α0 : Sort u0} {A0 : Prop} {A1 : α0 → Prop} {Z : α0 → Prop} (h0 : A0) (x0 : α0) (h2 : A1 x0) (h3 : Z x0) : A0 ∧ ∃ x0, A1 x0 ∧ Z x0 := ⟨h0, x0, h2, h3⟩
theorem i_ae.{u0} {α0 : Sort u0} {A0 : Prop} {Z : α0 → Prop} (h0 : A0) (x0 : α0) (h2 : Z x0) : A0 ∧ ∃ x0, Z x0 := ⟨h0, x0, h2⟩
theorem i_eeaaa.{u0, u1} {α0 : Sort u0} {α1 : Sort u1} {A0 : α0 → α1 → Prop} {A1 : α0 → α1 → Prop} {A2 : α0 → α1 → Prop} {Z : α0 → α1 → Prop} (x0 : α0) (x1 : α1) (h2 : A0 x0 x1) (h3 : A1 x0 x1) (h4 : A2 x0 x1) (h5 : Z x0 x1) : ∃ x0, ∃ x1, A0 x0 x1 ∧ A1 x0 x1 ∧ A2 x0 x1 ∧ Z x0 x1 := ⟨x0, x1, h2, h3, h4, h5⟩
theorem i_eaaaa.{u0} {α0 : Sort u0} {A0 : α0 → Prop} {A1 : α0 → Prop} {A2 : α0 → Prop} {A3 : α0 → Prop} {Z : α0 → Prop} (x0 : α0) (h1 : A0 x0) (h2 : A1 x0) (h3 : A2 x0) (h4 : A3 x0) (h5 : Z x0) : ∃ x0, A0 x0 ∧ A1 x0 ∧ A2 x0 ∧ A3 x0 ∧ Z x0 := ⟨x0, h1, h2, h3, h4, h5⟩
theorem i_aaaa {A0 : Prop} {A1 : Prop} {A2 : Prop} {A3 : Prop} {Z : Prop} (h0 : A0) (h1 : A1) (h2 : A2) (h3 : A3) (h4 : Z) : A0 ∧ A1 ∧ A2 ∧ A3 ∧ Z := ⟨h0, h1, h2, h3, h4⟩
theorem i_eeeaa.{u0, u1, u2} {α0 : Sort u0} {α1 : Sort u1} {α2 : Sort u2} {A0 : α0 → α1 → α2 → Prop} {A1 : α0 → α1 → α2 → Prop} {Z : α0 → α1 → α2 → Prop} (x0 : α0) (x1 : α1) (x2 : α2) (h3 : A0 x0 x1 x2) (h4 : A1 x0 x1 x2) (h5 : Z x0 x1 x2) : ∃ x0, ∃ x1, ∃ x2, A0 x0 x1 x2 ∧ A1 x0 x1 x2 ∧ Z x0 x1 x2 := ⟨x0, x1, x2, h3, h4, h5⟩
theorem i_eeeaaa.{u0, u1, u2} {α0 : Sort u0} {α1 : Sort u1} {α2 : Sort u2} {A0 : α0 → α1 → α2 → Prop} {A1 : α0 → α1 → α2 → Prop} {A2 : α0 → α1 → α2 → Prop} {Z : α0 → α1 → α2 → Prop} (x0 : α0) (x1 : α1) (x2 : α2) (h3 : A0 x0 x1 x2) (h4 : A1 x0 x1 x2) (h5 : A2 x0 x1 x2) (h6 : Z x0 x1 x2) : ∃ x0, ∃ x1, ∃ x2, A0 x0 x1 x2 ∧ A1 x0 x1 x2 ∧ A2 x0 x1 x2 ∧ Z x0 x1 x2 := ⟨x0, x1, x2, h3, h4, h5, h6⟩
theorem i_aeea.{u0, u1} {α0 : Sort u0} {α1 : Sort u1} {A0 : Prop} {A1 : α0 → α1 → Prop} {Z : α0 → α1 → Prop} (h0 : A0) (x0 : α0) (x1 : α1) (h3 : A1 x0 x1) (h4 : Z x0 x1) : A0 ∧ ∃ x0, ∃ x1, A1 x0 x1 ∧ Z x0 x1 := ⟨h0, x0, x1, h3, h4⟩
theorem i_eeee.{u0, u1, u2, u3} {α0 : Sort u0} {α1 : Sort u1} {α2 : Sort u2} {α3 : Sort u3} {Z : α0 → α1 → α2 → α3 → Prop} (x0 : α0) (x1 : α1) (x2 : α2) (x3 : α3) (h4 : Z x0 x1 x2 x3) : ∃ x0, ∃ x1, ∃ x2, ∃ x3, Z x0 x1 x2 x3 := ⟨x0, x1, x2, x3, h4⟩
theorem i_eeeaaaa.{u0, u1, u2} {α0 : Sort u0} {α1 : Sort u1} {α2 : Sort u2} {A0 : α0 → α1 → α2 → Prop} {A1 : α0 → α1 → α2 → Prop} {A2 : α0 → α1 → α2 → Prop} {A3 : α0 → α1 → α2 → Prop} {Z : α0 → α1 → α2 → Prop} (x0 : α0) (x1 : α1) (x2 : α2) (h3 : A0 x0 x1 x2) (h4 : A1 x0 x1 x2) (h5 : A2 x0 x1 x2) (h6 : A3 x0 x1 x2) (h7 : Z x0 x1 x2) : ∃ x0, ∃ x1, ∃ x2, A0 x0 x1 x2 ∧ A1 x0 x1 x2 ∧ A2 x0 x1 x2 ∧ A3 x0 x1 x2 ∧ Z x0 x1 x2 := ⟨x0, x1, x2, h3, h4, h5, h6, h7⟩
theorem i_eeeeaa.{u0, u1, u2, u3} {α0 : Sort u0} {α1 : Sort u1} {α2 : Sort u2} {α3 : Sort u3} {A0 : α0 → α1 → α2 → α3 → Prop} {A1 : α0 → α1 → α2 → α3 → Prop} {Z : α0 → α1 → α2 → α3 → Prop} (x0 : α0) (x1 : α1) (x2 : α2) (x3 : α3) (h4 : A0 x0 x1 x2 x3) (h5 : A1 x0 x1 x2 x3) (h6 : Z x0 x1 x2 x3) : ∃ x0, ∃ x1, ∃ x2, ∃ x3, A0 x0 x1 x2 x3 ∧ A1 x0 x1 x2 x3 ∧ Z x0 x1 x2 x3 := ⟨x0, x1, x2, x3, h4, h5, h6⟩
theorem i_eeeeaaa.{u0, u1, u2, u3} {α0 : Sort u0} {α1 : Sort u1} {α2 : Sort u2} {α3 : Sort u3} {A0 : α0 → α1 → α2 → α3 → Prop} {A1 : α0 → α1 → α2 → α3 → Prop} {A2 : α0 → α1 → α2 → α3 → Prop} {Z : α0 → α1 → α2 → α3 → Prop} (x0 : α0) (x1 : α1) (x2 : α2) (x3 : α3) (h4 : A0 x0 x1 x2 x3) (h5 : A1 x0 x1 x2 x3) (h6 : A2 x0 x1 x2 x3) (h7 : Z x0 x1 x2 x3) : ∃ x0, ∃ x1, ∃ x2, ∃ x3, A0 x0 x1 x2 x3 ∧ A1 x0 x1 x2 x3 ∧ A2 x0 x1 x2 x3 ∧ Z x0 x1 x2 x3 := ⟨x0, x1, x2, x3, h4, h5, h6, h7⟩
theorem i_aaaaa {A0 : Prop} {A1 : Prop} {A2 : Prop} {A3 : Prop} {A4 : Prop} {Z : Prop} (h0 : A0) (h1 : A1) (h2 : A2) (h3 : A3) (h4 : A4) (h5 : Z) : A0 ∧ A1 ∧ A2 ∧ A3 ∧ A4 ∧ Z := ⟨h0, h1, h2, h3, h4, h5⟩
theorem i_eeaaaa.{u0, u1} {α0 : Sort u0} {α1 : Sort u1} {A0 : α0 → α1 → Prop} {A1 : α0 → α1 → Prop} {A2 : α0 → α1 → Prop} {A3 : α0 → α1 → Prop} {Z : α0 → α1 → Prop} (x0 : α0) (x1 : α1) (h2 : A0 x0 x1) (h3 : A1 x0 x1) (h4 : A2 x0 x1) (h5 : A3 x0 x1) (h6 : Z x0 x1) : ∃ x0, ∃ x1, A0 x0 x1 ∧ A1 x0 x1 ∧ A2 x0 x1 ∧ A3 x0 x1 ∧ Z x0 x1 := ⟨x0, x1, h2, h3, h4, h5, h6⟩
theorem i_eeeaaaaa.{u0, u1, u2} {α0 : Sort u0} {α1 : Sort u1} {α2 : Sort u2} {A0 : α0 → α1 → α2 → Prop} {A1 : α0 → α1 → α2 → Prop} {A2 : α0 → α1 → α2 → Prop} {A3 : α0 → α1 → α2 → Prop} {A4 : α0 → α1 → α2 → Prop} {Z : α0 → α1 → α2 → Prop} (x0 : α0) (x1 : α1) (x2 : α2) (h3 : A0 x0 x1 x2) (h4 : A1 x0 x1 x2) (h5 : A2 x0 x1 x2) (h6 : A3 x0 x1 x2) (h7 : A4 x0 x1 x2) (h8 : Z x0 x1 x2) : ∃ x0, ∃ x1, ∃ x2, A0 x0 x1 x2 ∧ A1 x0 x1 x2 ∧ A2 x0 x1 x2 ∧ A3 x0 x1 x2 ∧ A4 x0 x1 x2 ∧ Z x0 x1 x2 := ⟨x0, x1, x2, h3, h4, h5, h6, h7, h8⟩
theorem i_eeeeaaaaa.{u0, u1, u2, u3} {α0 : Sort u0} {α1 : Sort u1} {α2 : Sort u2} {α3 : Sort u3} {A0 : α0 → α1 → α2 → α3 → Prop} {A1 : α0 → α1 → α2 → α3 → Prop} {A2 : α0 → α1 → α2 → α3 → Prop} {A3 : α0 → α1 → α2 → α3 → Prop} {A4 : α0 → α1 → α2 → α3 → Prop} {Z : α0 → α1 → α2 → α3 → Prop} (x0 : α0) (x1 : α1) (x2 : α2) (x3 : α3) (h4 : A0 x0 x1 x2 x3) (h5 : A1 x0 x1 x2 x3) (h6 : A2 x0 x1 x2 x3) (h7 : A3 x0 x1 x2 x3) (h8 : A4 x0 x1 x2 x3) (h9 : Z x0 x1 x2 x3) : ∃ x0, ∃ x1, ∃ x2, ∃ x3, A0 x0 x1 x2 x3 ∧ A1 x0 x1 x2 x3 ∧ A2 x0 x1 x2 x3 ∧ A3 x0 x1 x2 x3 ∧ A4 x0 x1 x2 x3 ∧ Z x0 x1 x2 x3 := ⟨x0, x1, x2, x3, h4, h5, h6, h7, h8, h9⟩
theorem i_eeeeaaaa.{u0, u1, u2, u3} {α0 : Sort u0} {α1 : Sort u1} {α2 : Sort u2} {α3 : Sort u3} {A0 : α0 → α1 → α2 → α3 → Prop} {A1 : α0 → α1 → α2 → α3 → Prop} {A2 : α0 → α1 → α2 → α3 → Prop} {A3 : α0 → α1 → α2 → α3 → Prop} {Z : α0 → α1 → α2 → α3 → Prop} (x0 : α0) (x1 : α1) (x2 : α2) (x3 : α3) (h4 : A0 x0 x1 x2 x3) (h5 : A1 x0 x1 x2 x3) (h6 : A2 x0 x1 x2 x3) (h7 : A3 x0 x1 x2 x3) (h8 : Z x0 x1 x2 x3) : ∃ x0, ∃ x1, ∃ x2, ∃ x3, A0 x0 x1 x2 x3 ∧ A1 x0 x1 x2 x3 ∧ A2 x0 x1 x2 x3 ∧ A3 x0 x1 x2 x3 ∧ Z x0 x1 x2 x3 := ⟨x0, x1, x2, x3, h4, h5, h6, h7, h8⟩
theorem i_aeaa.{u0} {α0 : Sort u0} {A0 : Prop} {A1 : α0 → Prop} {A2 : α0 → Prop} {Z : α0 → Prop} (h0 : A0) (x0 : α0) (h2 : A1 x0) (h3 : A2 x0) (h4 : Z x0) : A0 ∧ ∃ x0, A1 x0 ∧ A2 x0 ∧ Z x0 := ⟨h0, x0, h2, h3, h4⟩
theorem i_aaea.{u0} {α0 : Sort u0} {A0 : Prop} {A1 : Prop} {A2 : α0 → Prop} {Z : α0 → Prop} (h0 : A0) (h1 : A1) (x0 : α0) (h3 : A2 x0) (h4 : Z x0) : A0 ∧ A1 ∧ ∃ x0, A2 x0 ∧ Z x0 := ⟨h0, h1, x0, h3, h4⟩
theorem le_by {l r L R : Nat} (S : L ≤ R) (v : l + R ≤ r + L) : l ≤ r := Nat.le_of_add_le_add_right (Nat.le_trans v (Nat.add_le_add_left S r))
theorem ad {a b c d : Nat} (h : a ≤ b) (k : c ≤ d) : a + c ≤ b + d := Nat.add_le_add h k
theorem lq {a b : Nat} (h : a = b) : a ≤ b := Nat.le_of_eq h
theorem nb {a : Int} (h : a.natAbs < 2 ^ 62) : -2 ^ 62 < a ∧ a < 2 ^ 62 := by omega
theorem ar0 {a b : Nat} (h1 : a + 1 < b + 1) : a < b := Nat.lt_of_succ_lt_succ h1
theorem ar1 {a b c : Nat} (h1 : a ≤ b) (h2 : b ≤ c) : a ≤ c := Nat.le_trans h1 h2
theorem ar2 {a : Nat} : ((a + 1) : Int) = ((a : Int) + (1 : Int)) := rfl
theorem ar3 {a b : Nat} (h1 : a + (b + 1) ≤ 100) : (a + 1) + b ≤ 100 := le_by h1 (by simp +arith)
theorem ar4 {a b : Nat} (h1 : a + (b + 1) ≤ 1000) : (a + 1) + b ≤ 1000 := le_by h1 (by simp +arith)
theorem ar6 {a b : Nat} (h1 : a + (b + 1) ≤ 100) : a + b ≤ 100 := Nat.le_of_lt h1
theorem ar7 {a b : Nat} (h1 : a + 1 < b) : b = (b - 1) + 1 := (Nat.succ_pred_eq_of_pos (Nat.lt_of_le_of_lt (Nat.zero_le _) h1)).symm
theorem ar8 {a b : Nat} (h1 : a < b) : b = (b - 1) + 1 := (Nat.succ_pred_eq_of_pos (Nat.lt_of_le_of_lt (Nat.zero_le _) h1)).symm
theorem ar10 {a b : Nat} : (((a : Int) + (1 : Int)) + (b : Int)) = ((a : Int) + ((b : Int) + (1 : Int))) := congrArg Int.ofNat (Nat.le_antisymm (by simp +arith) (by simp +arith) : ((a + 1) + b) = (a + (b + 1)))
theorem ar11 {a b c : Nat} (h1 : a + (b + 1) ≤ 1000) (h2 : c = 16777216) : a < c := le_by (ad h1 (lq h2.symm)) (by simp +arith)
theorem ar12 {a b c : Nat} (h1 : a = b + (c + 1)) : b < a := by simp_all
theorem ar13 {a b : Nat} (h1 : a = 16777216) (h2 : b ≤ a) : (b : Int) < (9223372036854775808 : Int) := Int.ofNat_lt.mpr ((le_by (ad (lq h1) h2) (by simp +arith)) : b < 9223372036854775808)
theorem ar14 {a b : Nat} (h1 : a + 1 = b) : a < b := lq h1
theorem ar15 {a b c : Nat} (h1 : a = b) (h2 : b ≤ c) : a ≤ c := by subst h1; exact h2
theorem ar20 {a b c : Nat} (h1 : a + (b + 1) ≤ 100) (h2 : c = 16777216) : a < c := le_by (ad h1 (lq h2.symm)) (by simp +arith)
theorem ar21 {a : Nat} (h1 : a ≤ 20) : a ≤ 100 := Nat.le_trans h1 (Nat.le_add_left 20 80)
theorem ar22 {a b c : Nat} (h1 : a + (b + 1) ≤ 200) (h2 : c = 16777216) : a < c := le_by (ad h1 (lq h2.symm)) (by simp +arith)
theorem ar23 {a b c d : Nat} (h1 : a + 1 ≤ b + 1) (h2 : c + d = a) : d ≤ b := le_by (ad h1 (lq h2)) (by simp +arith)
theorem ar25 {a b c : Nat} (h1 : a ≤ b - c) (h2 : c ≤ b) : c + a ≤ b := le_by (Nat.add_le_of_le_sub h2 h1) (by simp +arith)
theorem ar26 {a b : Nat} : (a + 1) + b = a + (b + 1) := Nat.le_antisymm (by simp +arith) (by simp +arith)
theorem ar28 {a b : Nat} (h1 : a = 16777216) (h2 : b ≤ a) : b ≤ 1099511627776 := by subst h1; exact Nat.le_trans h2 (by decide)
theorem ar29 {a b c : Nat} (h1 : a = 16777216) (h2 : b = c) (h3 : c ≤ 1000) : b ≤ a := le_by (ad (ad (lq h1.symm) (lq h2)) h3) (by simp +arith)
theorem ar30 {a b c d : Nat} (h1 : a = 16777216) (h2 : b = c) (h3 : c = d) (h4 : d ≤ 1000) : b ≤ a := le_by (ad (ad (ad (lq h1.symm) (lq h2)) (lq h3)) h4) (by simp +arith)
theorem ar32 {a b : Nat} (h1 : a < b) : a + 1 ≤ b := by assumption
theorem ar33 {a b c : Nat} (h1 : a < b) (h2 : c = a) : c < b := by subst h2; exact h1
theorem ar34 {a b c : Nat} (h1 : a = b) (h2 : b = c) : a = c := by subst h2; exact h1
theorem ar35 {a b c : Nat} (h1 : a + (b + 1) ≤ c) : (a + 1) + b ≤ c := le_by h1 (by simp +arith)
theorem ar36 {a b c : Nat} (h1 : a + (b + 1) ≤ c) : a < c := le_by h1 (by simp +arith)
theorem ar41 {a : Nat} : ((a : Int) + (1 : Int)) = ((a + 1) : Int) := rfl
theorem ar42 {a b : Nat} : (a + b) - a = b := by simp_all
theorem ar45 {a : Nat} : (a : Int) = ((a + 0) : Int) := rfl
theorem ar46 {a b c : Nat} (h1 : a + 1 ≤ (b + 1) + c) : a + 1 ≤ b + (c + 1) := le_by h1 (by simp +arith)
theorem ar49 {a b c d e f : Nat} (h1 : a = 16777216) (h2 : b ≤ 10) (h3 : c ≤ 10) (h4 : d = 9) (h5 : e = 30) (h6 : f = 7) : (((d + b) + e) + c) + f ≤ a := le_by (ad (ad (ad (ad (ad (lq h1.symm) h2) h3) (lq h4)) (lq h5)) (lq h6)) (by simp +arith)
theorem ar50 {a b c : Nat} (h1 : (a ≤ b ∧ a ≤ 10)) (h2 : c ≤ a) : c < b + 1 := le_by (ad h1.1 h2) (by simp +arith)
theorem ar51 {a b : Nat} (h1 : (a ≤ b ∧ a ≤ 10)) : a ≤ 100 := le_by h1.2 (by simp +arith)
theorem ar53 {a b c : Nat} (h1 : a + b = c) : b ≤ c := le_by (lq h1) (by simp +arith)
theorem ar55 {a : Nat} : ¬((a : Int) + (1 : Int)) = (0 : Int) := fun h => Nat.ne_of_gt ((by simp +arith) : 0 < (a + 1)) (Int.ofNat.inj h)
theorem ar56 {a b : Nat} (h1 : a ≤ b) : ¬b < a := Nat.not_lt_of_le h1
theorem ar61 {a b c d : Nat} (h1 : a + 1 ≤ 2 * b) (h2 : b ≤ c) (h3 : c ≤ 1000) (h4 : d = 16777216) : a < d := le_by (ad (ad (ad (ad (ad h1 h2) h2) h3) h3) (lq h4.symm)) (by simp +arith)
theorem ar62 {a : Nat} (h1 : ¬a = 0) : a = (a - 1) + 1 := (Nat.sub_add_cancel (Nat.pos_of_ne_zero h1)).symm
theorem ar63 {a b c : Nat} (h1 : a + 1 ≤ b) (h2 : c ≤ 2 * a) : c ≤ 2 * b := le_by (ad (ad h1 h1) h2) (by simp +arith)
theorem ar66 {a b : Nat} : (a + b) + 1 = (a + 1) + b := Nat.le_antisymm (by simp +arith) (by simp +arith)
theorem ar67 {a : Nat} (h1 : a ≤ 3) : a < 256 := Nat.lt_of_le_of_lt h1 (Nat.le_add_left (Nat.succ 3) 252)
theorem ar70 {a b : Nat} (h1 : a < b) : a < (Int.toNat ((b : Int) - (0 : Int))) := by assumption
theorem ar71 {a b c : Nat} (h1 : ¬((a : Int) - (b : Int)) < (c : Int)) : b + c ≤ a := by lia
theorem ar74 {a b : Nat} (h1 : a = 16777216) (h2 : b ≤ 100) : b ≤ a := by subst h1; exact Nat.le_trans h2 (by decide)
theorem ar75 {a b c : Nat} (h1 : ((a : Int) - (b : Int)) < (c : Int)) : ¬b + c ≤ a := by lia
theorem ar76 {a b c : Nat} (h1 : ¬a ≤ b) : b - c ≤ a - c := Nat.sub_le_sub_right (Nat.le_of_not_le h1) c
theorem ar77 {a : Nat} (h1 : a + 1 ≤ 300) : a ≤ 300 := Nat.le_of_lt h1
theorem ar78 {a : Nat} : (Int.toNat (((a : Int) + (1 : Int)) - (0 : Int))) = a + 1 := rfl
theorem ar79 {a b : Nat} (h1 : a ≤ 300) : a - b ≤ 300 := Nat.le_trans (Nat.sub_le _ _) h1
theorem ar80 {a b : Nat} (h1 : a = 16777216) (h2 : b ≤ 300) : b + 1 ≤ a := by subst h1; exact Nat.lt_of_le_of_lt h2 (by decide)
theorem ar81 {a b : Nat} (h1 : a + 1 ≤ b) : b = (b - 1) + 1 := (Nat.succ_pred_eq_of_pos (Nat.lt_of_le_of_lt (Nat.zero_le _) h1)).symm
theorem ar82 {a : Int} : (Int.toNat (a % (8 : Int))) < 8 := (Int.toNat_lt (Int.emod_nonneg _ (by decide))).mpr (Int.emod_lt_of_pos _ (by decide))
theorem ar83 {a : Int} : (a % (8 : Int)) = ((Int.toNat (a % (8 : Int))) : Int) := (Int.toNat_of_nonneg (Int.emod_nonneg _ (by decide))).symm
theorem ar84 {a : Int} : (a % (4 : Int)) ≤ (3 : Int) := by lia
theorem ar85 {a b : Int} (h1 : (0 : Int) ≤ a) (h2 : a < b) : (a / (4 : Int)) < b := Int.lt_of_le_of_lt (Int.ediv_le_self _ h1) h2
theorem ar86 {a : Int} (h1 : (0 : Int) ≤ a) : (0 : Int) ≤ (a / (4 : Int)) := by lia
theorem ar87 {a : Int} (h1 : (Int.toNat ((a / (2048 : Int)) % (256 : Int))) = 91) : ((a / (2048 : Int)) % (256 : Int)) = (91 : Int) := (Int.toNat_of_nonneg (Int.emod_nonneg _ (by decide))).symm.trans (congrArg Int.ofNat h1)
theorem ar88 {a : Int} : (Int.toNat ((a / (2048 : Int)) % (256 : Int))) < 256 := (Int.toNat_lt (Int.emod_nonneg _ (by decide))).mpr (Int.emod_lt_of_pos _ (by decide))
theorem ar89 {a : Int} : ((a / (2048 : Int)) % (256 : Int)) ≤ (1114111 : Int) := by lia
theorem ar90 {a : Int} : (0 : Int) ≤ ((a / (2048 : Int)) % (256 : Int)) := by lia
theorem ar91 {a : Nat} : (Int.toNat (((a + 1) : Int) + (-(1 : Int)))) = a := by rw [Int.add_neg_cancel_right]; rfl
theorem ar92 {a : Nat} : (0 : Int) ≤ (((a : Int) + (1 : Int)) + (-(1 : Int))) := by lia
theorem ar93 {a b c : Nat} : (a : Int) < ((a : Int) + (((b : Int) + (c : Int)) + (1 : Int))) := Int.ofNat_lt.mpr ((by simp +arith) : a < (a + ((b + c) + 1)))
theorem ar94 {a : Nat} : ((a : Int) + (2 : Int)) = ((a + 2) : Int) := rfl
theorem ar95 {a : Nat} : (((a + 0) : Int) + (2 : Int)) = ((a + 2) : Int) := rfl
theorem ar96 {a : Nat} : (((a + 0) : Int) + (6 : Int)) = ((a + 6) : Int) := rfl
theorem ar97 {a b : Nat} (h1 : a = b) : a ≤ b := lq h1
theorem ar98 {a b : Nat} : a ≤ (b + a) - b := by simp_all
theorem ar100 {a b : Nat} (h1 : ¬a ≤ b) : b < a := Nat.lt_of_not_le h1
theorem ar101 {a b : Nat} (h1 : a ≤ 300) (h2 : b ≤ a) : b + 1 ≤ 700 := le_by (ad h1 h2) (by simp +arith)
theorem ar102 {a : Nat} (h1 : a ≤ 700) : a ≤ 1000 := Nat.le_trans h1 (Nat.le_add_left 700 300)
theorem ar104 {a b : Nat} (h1 : a + 1 ≤ 0 + b) : a < b := le_by h1 (by simp +arith)
theorem ar105 {a b : Nat} (h1 : a + b ≤ 100) : b ≤ 100 := Nat.le_trans (Nat.le_add_left _ _) h1
theorem ar106 {a b c d e : Nat} (h1 : a + (b + c) ≤ 500) (h2 : b + c ≤ 100) (h3 : d ≤ max a (e + 1)) (h4 : e ≤ 300) : (d + b) + c ≤ 500 := (Nat.le_total a (e + 1)).elim (fun h => le_by (ad (Nat.le_trans h3 (lq (Nat.max_eq_right h))) (ad h2 h4)) (by simp +arith)) fun h => le_by (ad (Nat.le_trans h3 (lq (Nat.max_eq_left h))) h1) (by simp +arith)
theorem ar107 {a b c : Nat} (h1 : a + (b + c) ≤ 500) : a ≤ 700 := le_by h1 (by simp +arith)
theorem ar108 {a b : Nat} (h1 : a + b ≤ 100) : a ≤ 100 := Nat.le_trans (Nat.le_add_right _ _) h1
theorem ar109 {a b c d e f g k l m : Nat} (h1 : ((a + b) ≤ ((c + d) + 1) ∧ e ≤ (f + 1))) (h2 : ((g + k) ≤ ((a + b) + l) ∧ m ≤ (e + l))) : ((g + k) ≤ ((c + d) + (l + 1)) ∧ m ≤ (f + (l + 1))) := ⟨(le_by (ad h1.1 h2.1) (by simp +arith)), (le_by (ad h1.2 h2.2) (by simp +arith))⟩
theorem ar111 {a b : Nat} (h1 : a ≤ 300) : a - b ≤ 1000 := Nat.le_trans (Nat.sub_le _ _) (Nat.le_trans h1 (by decide))
theorem ar112 {a b c d : Nat} (h1 : ((a + b) ≤ c ∧ d ≤ c)) (h2 : c ≤ 20) : b ≤ 100 := le_by (ad h1.1 h2) (by simp +arith)
theorem ar113 {a b c : Nat} (h1 : a + b ≤ c) : (a : Int) ≤ ((c : Int) - (b : Int)) := by lia
theorem ar114 {a b c d : Nat} (h1 : ((a + b) ≤ c ∧ d ≤ c)) (h2 : c ≤ 20) : b ≤ 20 := le_by (ad h1.1 h2) (by simp +arith)
theorem ar115 {a b c : Nat} (h1 : a + b ≤ 20) (h2 : c ≤ 20) : a + c ≤ 500 := le_by (ad h1 h2) (by simp +arith)
theorem ar116 {a b c : Nat} (h1 : a + b ≤ 20) (h2 : c ≤ b) : c ≤ 20 := le_by (ad h1 h2) (by simp +arith)
theorem ar117 {a b c d : Nat} (h1 : a ≤ b + c) : d + a ≤ d + (b + c) := by simp_all
theorem ar118 {a : Nat} : ¬(((a + 1) + 1) : Int) = (1 : Int) := fun h => Nat.ne_of_gt ((by simp +arith) : 1 < ((a + 1) + 1)) (Int.ofNat.inj h)
theorem ar119 {a b : Nat} : ((a : Int) = (b : Int) ↔ a = b) := Int.ofNat_inj
theorem ar120 : 0 ≤ 1000 := by simp_all
theorem ar121 {a b : Nat} (h1 : a + b ≤ 20) : a ≤ 100 := le_by h1 (by simp +arith)
theorem ar122 {a b c d : Nat} (h1 : ((a + b) ≤ c ∧ d ≤ c)) (h2 : c ≤ 20) : d ≤ 20 := le_by (ad h1.2 h2) (by simp +arith)
theorem ar123 {a b c d : Nat} (h1 : ((a + b) ≤ c ∧ d ≤ c)) (h2 : c ≤ 20) : a + (b + 0) ≤ 20 := le_by (ad h1.1 h2) (by simp +arith)
theorem ar124 {a b : Nat} (h1 : a ≤ 6 * b) (h2 : b ≤ 20) : a ≤ 1000 := by lia
theorem ar125 {a b c : Nat} (h1 : a ≤ 6 * b) (h2 : c ≤ 6) : c + a ≤ 6 * (b + 1) := le_by (ad h1 h2) (by simp +arith)
theorem ar126 {a b : Nat} (h1 : ¬a + 1 ≤ b) : ((b : Int) - (a : Int)) < (1 : Int) := by lia
theorem ar127 {a b c d e : Nat} (h1 : a = 16777216) (h2 : b ≤ 10) (h3 : c ≤ 10) (h4 : d = 9) (h5 : e = 30) : ((d + b) + e) + c ≤ a := le_by (ad (ad (ad (ad (lq h1.symm) h2) h3) (lq h4)) (lq h5)) (by simp +arith)
theorem ar129 {a b c d : Nat} (h1 : a = 16777216) (h2 : b = 30) (h3 : c = 9) (h4 : d ≤ 10) : (c + d) + b ≤ a := le_by (ad (ad (ad (lq h1.symm) (lq h2)) (lq h3)) h4) (by simp +arith)
theorem ar130 {a b c : Nat} (h1 : a = 16777216) (h2 : b = 9) (h3 : c ≤ 10) : b + c ≤ a := le_by (ad (ad (lq h1.symm) (lq h2)) h3) (by simp +arith)
theorem ar131 {a b : Nat} (h1 : a + 1 ≤ b) : (1 : Int) ≤ ((b : Int) - (a : Int)) := by lia
theorem ar132 {a b : Nat} (h1 : a ≤ 100) : a - (b + 1) ≤ 1000 := Nat.le_trans (Nat.sub_le _ _) (Nat.le_trans h1 (by decide))
theorem ar133 {a : Nat} (h1 : a ≤ 3) : a ≤ 1000 := Nat.le_trans h1 (Nat.le_add_left 3 997)
theorem ar134 {a b c : Nat} (h1 : ¬(a + 1) + b ≤ c) : (((c : Int) - (a : Int)) - (1 : Int)) < (b : Int) := by rw [Int.sub_sub]; exact Int.sub_left_lt_of_lt_add (Int.ofNat_lt.mpr (Nat.lt_of_not_le h1))
theorem ar135 {a b c : Nat} (h1 : (a + 1) + b ≤ c) (h2 : c ≤ 100) : (a + b) + 1 ≤ 200 := le_by (ad h1 h2) (by simp +arith)
theorem ar136 {a b c : Nat} (h1 : a + (b + 1) ≤ 100) (h2 : c = 16777216) : a + 1 < c := le_by (ad h1 (lq h2.symm)) (by simp +arith)
theorem ar137 {a b c : Nat} (h1 : (a + 1) + b ≤ c) : (b : Int) ≤ (((c : Int) - (a : Int)) - (1 : Int)) := by lia
theorem ar138 {a : Nat} (h1 : a ≤ 3) : a ≤ 300 := Nat.le_trans h1 (Nat.le_add_left 3 297)
theorem ar139 {a b : Nat} : a + ((b + 1) + 1) = (a + b) + 2 := rfl
theorem ar140 {a b : Nat} : ((a : Int) + (((b : Int) + (1 : Int)) + (1 : Int))) = ((((a : Int) + (1 : Int)) + (b : Int)) + (1 : Int)) := congrArg Int.ofNat (Nat.le_antisymm (by simp +arith) (by simp +arith) : (a + ((b + 1) + 1)) = (((a + 1) + b) + 1))
theorem ar141 {a b c d : Nat} (h1 : a + (b + 1) ≤ 1000) (h2 : b = c + (d + 1)) : (a + ((c + 1) + 1)) + d ≤ 1000 := le_by (ad h1 (lq h2.symm)) (by simp +arith)
theorem ar142 {a b c : Nat} (h1 : a + (b + 1) ≤ 1000) (h2 : c = 16777216) : a + 1 ≤ c := le_by (ad h1 (lq h2.symm)) (by simp +arith)
theorem ar143 {a b c d e : Nat} (h1 : a + (b + 1) ≤ 1000) (h2 : b = c + (d + 1)) (h3 : e = 16777216) : a + (c + 1) < e := le_by (ad (ad h1 (lq h2.symm)) (lq h3.symm)) (by simp +arith)
theorem ar144 {a b c d e : Nat} (h1 : a = b + (c + 1)) (h2 : a ≤ 100) (h3 : c = d + (e + 1)) : (Int.natAbs (((b : Int) + (1 : Int)) + (d : Int))) < 4611686018427387904 := Nat.lt_of_le_of_lt (m := 100) (show b + 1 + d ≤ 100 from le_by (ad (lq h1.symm) (ad h2 (lq h3.symm))) (by simp +arith)) (by decide)
theorem ar145 {a b c d e : Nat} (h1 : a = b + (c + 1)) (h2 : c = d + (e + 1)) : ¬(((b : Int) + (1 : Int)) + (d : Int)) = (a : Int) := fun h => Nat.ne_of_lt ((le_by (ad (lq h1.symm) (lq h2.symm)) (by simp +arith)) : ((b + 1) + d) < a) (Int.ofNat.inj h)
theorem ar146 {a b c d : Nat} (h1 : a = b + (c + 1)) (h2 : c = d) : (((b : Int) + (1 : Int)) + (d : Int)) = (a : Int) := congrArg Int.ofNat (Nat.le_antisymm (le_by (ad (lq h1.symm) (lq h2.symm)) (by simp +arith)) (le_by (ad (lq h1) (lq h2)) (by simp +arith)) : ((b + 1) + d) = a)
theorem ar147 {a b c : Nat} (h1 : a = b + (c + 1)) : ¬(b : Int) = (a : Int) := fun h => Nat.ne_of_lt ((le_by (lq h1.symm) (by simp +arith)) : b < a) (Int.ofNat.inj h)
theorem ar148 {a : Nat} (h1 : a ≤ 4) : 1 + (a - 1) ≤ 1000 := le_by (Nat.le_trans (Nat.sub_le a 1) h1) (by simp +arith)
theorem ar149 {a b : Nat} (h1 : ((a + 1) ≤ b ∧ (a + 1) ≤ 10)) : a ≤ 1000 := le_by h1.2 (by simp +arith)
theorem ar151 {a : Nat} (h1 : a ≤ 4) : 1 + a ≤ 1000 := le_by h1 (by simp +arith)
theorem ar152 {a b : Nat} (h1 : (a ≤ b ∧ a ≤ 10)) : a ≤ 1000 := le_by h1.2 (by simp +arith)
theorem ar153 {a b : Nat} (h1 : a ≤ 10) : ((min b a) ≤ b ∧ (min b a) ≤ 10) := ⟨Nat.min_le_left _ _, Nat.le_trans (Nat.min_le_right _ _) h1⟩
theorem ar154 : 0 ≤ 200 := by simp_all
theorem ar155 {a : Nat} (h1 : a ≤ 10) : a ≤ 100 := Nat.le_trans h1 (Nat.le_add_left 10 90)
theorem ar156 {a : Nat} (h1 : a = 16777216) : 0 < a := by simp_all
theorem ar157 {a b c : Nat} (h1 : a + (b + 1) ≤ 200) (h2 : c ≤ a + 1) : c + b ≤ 200 := le_by (ad h1 h2) (by simp +arith)
theorem ar158 {a : Nat} (h1 : a ≤ 100) : a ≤ 200 := Nat.le_trans h1 (Nat.le_add_left 100 100)
theorem ar159 {a : Nat} {b : Int} (h1 : ¬((a : Int) + b) < (0 : Int)) (h2 : ¬(0 : Int) ≤ b) : ((0 : Int) ≤ ((a : Int) + b) ∧ ((a : Int) + b) < (a : Int)) := by lia
theorem ar160 {a : Int} (h1 : ¬(0 : Int) ≤ a) : a < (0 : Int) := Int.not_le.mp h1
theorem ar161 {b : Nat} {a : Int} (h1 : (0 : Int) ≤ a) (h2 : Int.toNat a < b) : ((0 : Int) ≤ a ∧ a < (b : Int)) := by simp_all
theorem ar162 {a : Int} (h1 : (0 : Int) ≤ a) : ¬a < (0 : Int) := by simp_all
theorem ar163 {a b c d e : Nat} (h1 : a + b ≤ c) (h2 : d = a) (h3 : e = b) : d + e ≤ c := by simp_all
theorem ar164 {a b c : Nat} (h1 : a + b = c) : (a + 1) + b = c + 1 := Nat.le_antisymm (le_by (lq h1) (by simp +arith)) (le_by (lq h1.symm) (by simp +arith))
theorem ar165 {a b c d : Nat} (h1 : a ≤ b) (h2 : c ≤ d) : a + c ≤ d + b := le_by (ad h1 h2) (by simp +arith)
theorem ar166 {a b c d : Nat} (h1 : a ≤ b) (h2 : c ≤ d) : (a + 0) + c ≤ d + b := le_by (ad h1 h2) (by simp +arith)
theorem ar167 {a b c d e f : Nat} (h1 : (a + b) + c = d) (h2 : (a : Int) = ((e : Int) + (1 : Int))) (h3 : d = e + ((f + 1) + 1)) : c ≤ f + 1 := le_by (ad (ad (lq h1) (lq (Int.ofNat.inj h2 : a = (e + 1)).symm)) (lq h3)) (by simp +arith)
theorem ar168 {a b c d : Nat} (h1 : a + (2 * ((b + 1) + 1)) ≤ 1000) (h2 : c + d = b) : (a + 1) + (2 * d) ≤ 1000 := le_by (ad (ad h1 (lq h2)) (lq h2)) (by simp +arith)
theorem ar169 {a b c d : Nat} (h1 : (a + 1) + 1 < b + 1) (h2 : c + d = a) : d < b := le_by (ad h1 (lq h2)) (by simp +arith)
theorem ar170 {a b c d e f : Nat} (h1 : (a + b) + c = d) (h2 : d ≤ 100) (h3 : e = 16777216) (h4 : f ≤ 100 * b) : ((0 + ((((((0 + 1) + 1) + 1) + 1) + 1) + 1)) + f) + (0 + 1) ≤ e := le_by (ad (Nat.le_trans h4 (Nat.mul_le_mul_left 100 (show b ≤ 100 from le_by (ad (lq h1) h2) (by simp +arith)))) (lq h3.symm)) (by simp +arith)
theorem ar171 {a b c d e f : Nat} (h1 : (a + b) + c = d) (h2 : d ≤ 100) (h3 : e = 16777216) (h4 : f ≤ 100 * b) : (0 + ((((((0 + 1) + 1) + 1) + 1) + 1) + 1)) + f ≤ e := le_by (ad (Nat.le_trans h4 (Nat.mul_le_mul_left 100 (show b ≤ 100 from le_by (ad (lq h1) h2) (by simp +arith)))) (lq h3.symm)) (by simp +arith)
theorem ar172 {a : Nat} (h1 : a = 16777216) : 0 + ((((((0 + 1) + 1) + 1) + 1) + 1) + 1) ≤ a := by subst_vars; decide
theorem ar174 {a b : Nat} (h1 : a + (2 * ((b + 1) + 1)) ≤ 1000) : a ≤ 998 := le_by h1 (by simp +arith)
theorem ar175 {a b : Nat} (h1 : (a + 1) + 1 < b + 1) : b = (b - 1) + 1 := (Nat.sub_add_cancel (le_by h1 (by simp +arith))).symm
theorem ar176 {a b c : Nat} (h1 : a + (2 * ((b + 1) + 1)) ≤ 1000) (h2 : c = 16777216) : a + 1 < c := le_by (ad h1 (lq h2.symm)) (by simp +arith)
theorem ar177 {a b c : Nat} (h1 : (a + 1) + b = c) : (((a : Int) + (1 : Int)) + (b : Int)) = (c : Int) := congrArg Int.ofNat (Nat.le_antisymm (le_by (lq h1) (by simp +arith)) (le_by (lq h1.symm) (by simp +arith)) : ((a + 1) + b) = c)
theorem ar178 {a : Nat} (h1 : a = 16777216) : 100 * 100 ≤ a := by subst_vars; decide
theorem ar179 {a b : Nat} (h1 : a + (2 * ((b + 1) + 1)) ≤ 1000) : b ≤ 999 := le_by h1 (by simp +arith)
theorem ar180 {a b c d : Nat} (h1 : (a + b) + c = d) (h2 : d ≤ 100) : b ≤ 100 := le_by (ad (lq h1) h2) (by simp +arith)
theorem ar181 {a b c : Nat} (h1 : a = b + ((c + 1) + 1)) : ¬((b : Int) + (1 : Int)) = (a : Int) := fun h => Nat.ne_of_lt ((le_by (lq h1.symm) (by simp +arith)) : (b + 1) < a) (Int.ofNat.inj h)
theorem ar182 {a b : Nat} (h1 : a = b + 1) : (a : Int) = ((b : Int) + (1 : Int)) := congrArg Nat.cast h1
theorem ar183 {a b c : Nat} (h1 : a + (2 * (b + 1)) ≤ 1000) (h2 : c = 16777216) : a < c := le_by (ad h1 (lq h2.symm)) (by simp +arith)
theorem ar184 {a b : Nat} (h1 : a = b + 1) : ((b : Int) + (1 : Int)) = (a : Int) := by simp_all
theorem ar188 {a b c : Nat} (h1 : a = b) : (c + 0) + a = c + b := congrArg (HAdd.hAdd (c + 0)) h1
theorem ar189 {a b : Nat} (h1 : a = 16777216) (h2 : b ≤ 100000) : ((0 + ((((0 + 1) + 1) + 1) + 1)) + b) + (((0 + 1) + 1) + 1) ≤ a := le_by (ad (lq h1.symm) h2) (by simp +arith)
theorem ar190 {a b : Nat} (h1 : a = 16777216) (h2 : b ≤ 100000) : (0 + ((((0 + 1) + 1) + 1) + 1)) + b ≤ a := le_by (ad (lq h1.symm) h2) (by simp +arith)
theorem ar191 {a : Nat} (h1 : a = 16777216) : 0 + ((((0 + 1) + 1) + 1) + 1) ≤ a := by subst_vars; decide
theorem ar192 {a b : Nat} (h1 : a = 16777216) (h2 : b ≤ 100000) : b ≤ a := by subst h1; exact Nat.le_trans h2 (by decide)
theorem ar193 {a b c d e : Nat} (h1 : a + b = c) (h2 : c ≤ 100) (h3 : d ≤ (100 * b) + (7 * b)) (h4 : e ≤ 100 * a) : e + d ≤ 100000 := le_by (ad h4 (ad h3 (ad (Nat.mul_le_mul_left 100 (show a ≤ 100 from le_by (ad (lq h1) h2) (by simp +arith))) (Nat.mul_le_mul_left 107 (show b ≤ 100 from le_by (ad (lq h1) h2) (by simp +arith)))))) (by simp +arith)
theorem ar194 {a b c : Nat} (h1 : a + b = c) (h2 : c ≤ 100) : a + (2 * b) ≤ 1000 := le_by (ad (ad (ad (lq h1) (lq h1)) h2) h2) (by simp +arith)
theorem ar195 {a : Nat} (h1 : a ≤ 100) : a ≤ 1000 := Nat.le_trans h1 (Nat.le_add_left 100 900)
theorem ar196 {a b : Nat} (h1 : a ≤ b) : a < b + 1 := Nat.lt_succ_of_le h1
theorem ar197 {a b : Nat} : a + (b + 1) = (a + 1) + b := Nat.le_antisymm (by simp +arith) (by simp +arith)
theorem ar198 {a b c : Nat} (h1 : (a + 1) + b ≤ c) : a + (b + 1) ≤ c := (Nat.succ_add_eq_add_succ _ _) ▸ h1
theorem ar199 {a b : Nat} (h1 : a < b) : a + 1 < b + 1 := Nat.lt_succ_of_le h1
theorem ar200 {a b c : Nat} (h1 : a + (b + 1) ≤ c) (h2 : ¬a < c) : False := absurd ((le_by (ad h1 (Nat.le_of_not_lt h2)) (by simp +arith)) : 1 ≤ 0) (by decide)
theorem ar201 {a b : Nat} (h1 : ¬a < b) : b ≤ a := Nat.le_of_not_lt h1
theorem ar202 {a b c d : Nat} (h1 : a + b ≤ c) (h2 : d ≤ a) : d ≤ c := le_by (ad h1 h2) (by simp +arith)
theorem ar203 {a b : Nat} (h1 : a ≤ b) (h2 : ¬b = a) : a + 1 ≤ b := Nat.lt_of_le_of_ne h1 (Ne.symm h2)
theorem ar204 {a b c d e : Nat} (h1 : ((a + b) ≤ c ∧ ((d < (a + b)) → d < c))) (h2 : d < e) (h3 : e ≤ a) : d < c := h1.2 (Nat.lt_of_lt_of_le h2 (Nat.le_trans h3 (Nat.le_add_right _ _)))
theorem ar205 {a b c d e : Nat} (h1 : ((a + b) ≤ c ∧ ((d < (a + b)) → d < c))) (h2 : e ≤ a) : e ≤ c := Nat.le_trans h2 (Nat.le_trans (Nat.le_add_right _ _) h1.1)
theorem ar206 {a b c : Nat} (h1 : a + b ≤ c) (h2 : c < a) : False := absurd ((le_by (ad h1 h2) (by simp +arith)) : 1 ≤ 0) (by decide)
theorem ar207 {a b c d : Nat} (h1 : a ≤ b) : (a + c) + ((b - a) + d) = (b + c) + d := by obtain ⟨k, rfl⟩ := Nat.le.dest h1; rw [Nat.add_sub_cancel_left]; simp +arith
theorem ar208 {a b c d e : Nat} (h1 : a + b ≤ c) (h2 : d ≤ c - (a + b)) (h3 : e ≤ a) : (a - e) + d ≤ c - (e + b) := by obtain ⟨k, rfl⟩ := Nat.le.dest h3; rw [Nat.add_sub_cancel_left]; exact Nat.le_sub_of_add_le (le_by (Nat.add_le_of_le_sub h1 h2) (by simp +arith))
theorem ar209 {a b c d : Nat} (h1 : a + (b + 1) = c) (h2 : c ≤ d + 1) : b ≤ d := le_by (ad (lq h1) h2) (by simp +arith)
theorem ar210 {a b c d : Nat} (h1 : a + (b + 1) = c) (h2 : c ≤ d) : d = (d - 1) + 1 := (Nat.sub_add_cancel (le_by (ad (lq h1) h2) (by simp +arith))).symm
theorem ar211 {a b : Nat} : a ≤ (a - b) + b := Nat.sub_le_iff_le_add.mp (Nat.le_refl _)
theorem ar212 {a b : Nat} : a - b ≤ a := by simp_all
theorem ar213 {a b c : Nat} (h1 : a + b ≤ c) : a ≤ c - b := Nat.le_sub_of_add_le h1
theorem ar214 {a b c d : Nat} (h1 : a + b ≤ c) (h2 : d ≤ a) : d + b ≤ c := le_by (ad h1 h2) (by simp +arith)
theorem ar215 {a b c : Nat} (h1 : a + b ≤ c) (h2 : c ≤ a + b) : c - b = a := by rw [Nat.le_antisymm h2 h1, Nat.add_sub_cancel]
theorem ar216 {a b : Nat} (h1 : a ≤ b) : a + (b - a) = b := by simp_all
theorem ar217 {a b c : Nat} (h1 : a ≤ b) (h2 : c ≤ b) : a + (c - a) ≤ b := (Nat.le_total a c).elim (fun h => Nat.le_trans (lq (Nat.add_sub_cancel' h)) h2) fun h => Nat.le_trans (lq (congrArg (a + ·) (Nat.sub_eq_zero_of_le h))) h1
theorem ar218 {a b c : Nat} (h1 : a ≤ b) : a - c ≤ b - c := Nat.sub_le_sub_right h1 c
theorem ar219 {a b : Nat} (h1 : 0 + a ≤ b) : a ≤ b := Nat.le_trans (Nat.le_add_left _ _) h1
theorem ar220 {a b c d : Nat} (h1 : a + (b + 1) = c) (h2 : c = d + 1) : b ≤ d := le_by (ad (lq h1) (lq h2)) (by simp +arith)
theorem ar221 {a b c : Nat} (h1 : a = b + c) : b ≤ a := le_by (lq h1.symm) (by simp +arith)
theorem ar222 {a b c : Nat} (h1 : a ≤ b) : a + 1 ≤ (c + 1) + b := le_by h1 (by simp +arith)
theorem ar224 {a b c : Nat} (h1 : a + (b + 1) = c) : c = (c - 1) + 1 := (Nat.sub_add_cancel (le_by (lq h1) (by simp +arith))).symm
theorem ar225 {a b : Nat} (h1 : a = b) : b ≤ a := h1 ▸ Nat.le_refl _
theorem ar226 {a b c d : Nat} (h1 : a + b = c) (h2 : d ≤ 2 * b) : (a + (d + 1)) + 1 ≤ 2 * (c + 1) := le_by (ad (ad (lq h1) (lq h1)) h2) (by simp +arith)
theorem ar227 {a b c : Nat} (h1 : a + b = c) : a + 1 ≤ 2 * (c + 1) := le_by (lq h1) (by simp +arith)
theorem ar228 {a b c d : Nat} (h1 : a + b = c) (h2 : d ≤ 2 * b) : a + d ≤ 2 * c := le_by (ad (ad (lq h1) (lq h1)) h2) (by simp +arith)
theorem ar229 {a b c : Nat} (h1 : (a + (8 * b)) + 100 < 9900) (h2 : c ≤ b) : (a + (8 * c)) + 100 < 9900 := Nat.lt_of_le_of_lt (Nat.add_le_add_right (Nat.add_le_add_left (Nat.mul_le_mul_left 8 h2) a) 100) h1
theorem ar230 {a b c : Nat} (h1 : a + b < 1000) (h2 : c ≤ b) : a + c < 1000 := le_by (ad h1 h2) (by simp +arith)
theorem ar231 {a b : Nat} (h1 : (a + (8 * (b + 1))) + 100 < 9900) : ((a + 3) + (8 * b)) + 100 < 9900 := le_by h1 (by simp +arith)
theorem ar232 {a b : Nat} (h1 : a + (b + 1) < 1000) : (a + 1) + b < 1000 := le_by h1 (by simp +arith)
theorem ar233 {a b : Nat} (h1 : (a + (8 * (b + 1))) + 100 < 9900) : ((a + 1) + (8 * b)) + 100 < 9900 := le_by h1 (by simp +arith)
theorem ar234 {a b : Nat} (h1 : (a + (8 * b)) + 100 < 9900) : a + 64 < 9900 := le_by h1 (by simp +arith)
theorem ar235 {a b : Nat} (h1 : a + b < 1000) : a < 1000 := le_by h1 (by simp +arith)
theorem ar236 {a : Int} (h1 : ¬a < (0 : Int)) : (0 : Int) ≤ a := Int.not_lt.mp h1
theorem ar237 {b : Nat} {a : Int} (h1 : ((0 : Int) ≤ (a + (b : Int)) ∧ (a + (b : Int)) < (b : Int))) : (-(b : Int)) ≤ a := by lia
theorem ar238 {b : Nat} {a : Int} : (Int.toNat (max (0 : Int) (min a (b : Int)))) ≤ b := Int.toNat_le.mpr (Int.max_le.mpr ⟨Int.natCast_nonneg b, Int.min_le_right _ _⟩)
theorem ar239 {b : Nat} {a : Int} (h1 : Int.toNat a < b) : a < (b : Int) := Int.lt_of_le_of_lt (Int.self_le_toNat a) (Int.ofNat_lt.mpr h1)
theorem ar240 {a b : Nat} (h1 : min (a - 0) (b - 0) = b) : b ≤ a - 0 := Nat.le_trans (lq h1.symm) (Nat.min_le_left _ _)
theorem ar241 {a b c : Nat} (h1 : min (a - b) (c - b) = c) (h2 : ¬c = 0) : b = 0 := Nat.eq_zero_of_not_pos fun hb => absurd (Nat.le_trans (lq h1.symm) (Nat.min_le_right _ _)) (Nat.not_le_of_lt (Nat.sub_lt (Nat.pos_of_ne_zero h2) hb))
theorem ar242 {a b c : Nat} (h1 : a - b = c) (h2 : a ≤ c) : min (a - b) (c - b) = c := (Nat.min_eq_left (Nat.sub_le_sub_right h2 b)).trans h1
theorem ar243 {a b c d e : Nat} (h1 : a ≤ (b + c) + d) : (e + c) + a ≤ (e + c) + ((b + c) + d) := le_by h1 (by simp +arith)
theorem ar244 {a b c d : Nat} : ((a + b) + c) + d = a + ((b + c) + d) := by simp +arith
theorem ar245 {a b : Int} (h1 : ¬a < b) : min b a = b := Int.min_eq_left (Int.not_lt.mp h1)
theorem ar246 {a b : Int} (h1 : a < b) : min b a = a := Int.min_eq_right (Int.le_of_lt h1)
theorem ar247 {a : Int} (h1 : ¬(0 : Int) < a) : a ≤ (0 : Int) := Int.not_lt.mp h1
theorem ar248 {a : Int} (h1 : ¬(0 : Int) < a) : Int.toNat a = 0 := by simp_all
theorem ar249 {a : Int} (h1 : (0 : Int) < a) : Int.toNat a = ((Int.toNat (a - (1 : Int))) + 1) := by cases a with | ofNat n => (cases n with | zero => exact absurd h1 (by decide) | succ n => exact congrArg (· + 1) (congrArg Int.toNat (Int.add_sub_cancel (n : Int) 1)).symm) | negSucc n => exact absurd h1 (Int.not_lt.mpr (Int.le_of_lt (Int.negSucc_lt_zero n)))
theorem ar250 {a b : Nat} (h1 : a = 16777216) (h2 : b ≤ 1000) : b ≤ a := by subst h1; exact Nat.le_trans h2 (by decide)
theorem ar251 {a : Nat} (h1 : a ≤ 20) : a < 30 := Nat.lt_of_le_of_lt h1 (by decide)
theorem ar252 {a b c d : Nat} (h1 : ((a : Int) = (b : Int) ∧ (c : Int) = (d : Int))) : c = d := Nat.le_antisymm (le_by (lq (Int.ofNat.inj h1.2 : c = d)) (by simp +arith)) (le_by (lq (Int.ofNat.inj h1.2 : c = d).symm) (by simp +arith))
theorem ar253 {a b c d : Nat} (h1 : ((a : Int) = (b : Int) ∧ (c : Int) = (d : Int))) : a = b := Nat.le_antisymm (le_by (lq (Int.ofNat.inj h1.1 : a = b)) (by simp +arith)) (le_by (lq (Int.ofNat.inj h1.1 : a = b).symm) (by simp +arith))
theorem ar254 {a b : Nat} (h1 : (a : Int) < (b : Int)) : a < b := Int.ofNat_lt.mp h1
theorem ar255 {a b : Nat} {c : Int} (h1 : a = b) (h2 : Int.toNat c < b) : c < (a : Int) := Int.lt_of_le_of_lt (Int.self_le_toNat c) (Int.ofNat_lt.mpr (Nat.lt_of_lt_of_le h2 (lq h1.symm)))
theorem ar258 {a : Nat} : (a + 1) - a = 1 := by simp_all
theorem ar259 {a b : Nat} (h1 : a < b) : min b (a + 1) = a + 1 := Nat.min_eq_right h1
theorem ar260 {a b c : Nat} (h1 : a ≤ b) : min a (b + c) = a := Nat.min_eq_left (Nat.le_trans h1 (Nat.le_add_right _ _))
theorem ar261 {a b c : Nat} (h1 : a ≤ b) : min (min a (b + c)) a ≤ b := Nat.le_trans (Nat.min_le_right _ _) h1
theorem ar262 {a b : Nat} (h1 : a ≤ 1000) : a - (b + 1) ≤ 1000 := Nat.le_trans (Nat.sub_le _ _) h1
theorem ar264 {a b c : Nat} (h1 : ¬(a + 1) + b ≤ c) : min c ((a + 1) + b) = c := Nat.min_eq_left (Nat.le_of_not_le h1)
theorem ar265 {a b : Nat} : ((a + 1) + b) - (a + 1) = b := by simp_all
theorem ar266 {a b c : Nat} (h1 : (a + 1) + b ≤ c) : min c ((a + 1) + b) = (a + 1) + b := by simp_all
theorem ar267 {a b c : Nat} : (min (min a ((b + 1) + c)) a) - (b + 1) = (min a ((b + 1) + c)) - (b + 1) := by simp_all
theorem ar268 {a b c d : Nat} (h1 : a + 1 ≤ 2 * b) (h2 : b + 1 ≤ c) (h3 : d = a + 1) : d + 1 ≤ 2 * c := le_by (ad (ad (ad h1 h2) h2) (lq h3)) (by simp +arith)
theorem ar269 {a b : Nat} : a + (b + 1) = (a + b) + 1 := rfl
theorem ar270 {a b c d : Nat} (h1 : a + 1 ≤ (b + 1) + c) (h2 : c + 1 ≤ d) : a + 1 ≤ b + d := le_by (ad h1 h2) (by simp +arith)
theorem ar271 {a b c : Nat} (h1 : a + 1 ≤ b) (h2 : c ≤ a) : c + 1 ≤ b := Nat.lt_of_le_of_lt h2 h1
theorem ar272 {a b c : Nat} (h1 : a + 1 ≤ b) (h2 : b + 1 ≤ c) : a + 1 ≤ c := Nat.lt_trans h1 h2
theorem ar273 {a b : Nat} (h1 : a = 16777216) (h2 : b ≤ 1000) : b + 1 ≤ a := by subst h1; exact Nat.lt_of_le_of_lt h2 (by decide)
theorem ar274 {a b c : Nat} (h1 : a + 1 ≤ b) (h2 : c ≤ 2 * a) : (c + 1) + 1 ≤ 2 * b := le_by (ad (ad h1 h1) h2) (by simp +arith)
theorem ar275 {a b c d : Nat} (h1 : a = 16777216) (h2 : b ≤ 2 * c) (h3 : c ≤ d) (h4 : d ≤ 1000) : b < a := le_by (ad (ad (ad (ad (ad (lq h1.symm) h2) h3) h3) h4) h4) (by simp +arith)
theorem ar276 {a b : Nat} (h1 : (a + (8 * ((((b + 1) + 1) + 1) + 1))) + 100 < 9900) : (((a + 0) + 3) + (8 * (((b + 1) + 1) + 1))) + 100 < 9900 := le_by h1 (by simp +arith)
theorem ar277 {a b : Nat} (h1 : a + ((((b + 1) + 1) + 1) + 1) < 1000) : ((a + 0) + 1) + (((b + 1) + 1) + 1) < 1000 := le_by h1 (by simp +arith)
theorem ar278 {a : Nat} : (((a + 1) : Int) - (1 : Int)) = (a : Int) := by simp_all
theorem ar279 {a : Nat} : (0 : Int) < ((a + 1) : Int) := by simp +arith
theorem ar280 {a b : Nat} (h1 : a + (b + 1) ≤ 1000) : a ≤ 1000 := Nat.le_trans (Nat.le_add_right _ _) h1
theorem ar281 {a : Nat} (h1 : a + 1 ≤ 100) : 1 + a ≤ 1000 := le_by h1 (by simp +arith)
theorem ar282 {a b : Nat} (h1 : a ≤ 10) (h2 : b ≤ 100) : a + b ≤ 1000 := le_by (ad h1 h2) (by simp +arith)
theorem ar283 {a b : Nat} (h1 : a + 64 < b) : a + 2 < b := le_by h1 (by simp +arith)
theorem ar284 {a b : Nat} (h1 : a ≤ b) : a + 1 ≤ b + 1 := Nat.lt_succ_of_le h1
theorem ar286 {a b : Nat} (h1 : a ≤ 0 + 1) : a ≤ b + 1 := le_by h1 (by simp +arith)
theorem ar287 {a b c : Nat} (h1 : a = 16777216) (h2 : b ≤ c + 1) (h3 : c ≤ 1000) : b ≤ a + 1 := le_by (ad (ad (lq h1.symm) h2) h3) (by simp +arith)
theorem ar288 {a b c : Nat} (h1 : a + (b + 1) = c) : (a + 1) + b = c := Nat.le_antisymm (le_by (lq h1) (by simp +arith)) (le_by (lq h1.symm) (by simp +arith))
theorem ar289 {a b c d e : Nat} (h1 : a + (b + 1) = c) (h2 : c ≤ d) (h3 : e = a) : e ≤ d := le_by (ad (ad (lq h1) h2) (lq h3)) (by simp +arith)
theorem ar290 {a b c d : Nat} (h1 : a + (b + 1) = c) (h2 : d = min a c) : d = a := by subst h1; lia
theorem ar292 {a b : Nat} (h1 : a + 0 = b) : b ≤ a := h1 ▸ Nat.le_refl _
theorem ar294 {a : Nat} : 0 + a = a := by simp +arith
theorem ar295 {a b : Nat} (h1 : a < b) : b - a = ((b - a) - 1) + 1 := (Nat.sub_add_cancel (Nat.sub_pos_of_lt h1)).symm
theorem ar297 {a b c : Nat} : (a - (b + 1)) - c = a - ((b + c) + 1) := by lia
theorem ar298 {a b c : Nat} (h1 : (a + 1) + b ≤ c) : b ≤ min b (c - (a + 1)) := Nat.le_min.mpr ⟨Nat.le_refl _, Nat.le_sub_of_add_le (le_by h1 (by simp +arith))⟩
theorem ar299 {a b c : Nat} : min a (b - (c + 1)) ≤ a := Nat.min_le_left _ _
theorem ar300 {a b c : Nat} (h1 : (a + 1) + b ≤ c) : (a + b) + 1 ≤ c := le_by h1 (by simp +arith)
theorem ar301 {a b c : Nat} (h1 : a - b = c + 1) : a - (b + 1) = c := by rw [Nat.sub_add_eq, h1, Nat.add_sub_cancel]
theorem ar302 {a b c : Nat} (h1 : (a + 1) + b ≤ c) : c - a = ((c - a) - 1) + 1 := (Nat.sub_add_cancel (Nat.le_sub_of_add_le (le_by h1 (by simp +arith)))).symm
theorem ar303 {a b : Nat} : (a + 1) + b = (a + b) + 1 := by simp +arith
theorem ar304 {a b c : Nat} (h1 : (a + 1) + b ≤ c) : a < c := Nat.le_trans (Nat.le_add_right _ _) h1
theorem ar305 {a b c : Nat} (h1 : a = b) (h2 : ¬c + 1 ≤ b) : a ≤ c := le_by (ad (lq h1) (Nat.lt_of_not_le h2)) (by simp +arith)
theorem ar306 {a b : Nat} (h1 : a - b = 0) : a ≤ b := Nat.le_of_sub_eq_zero h1
theorem ar307 {a b c d : Nat} (h1 : a + 1 ≤ (b + 1) + c) : a + 1 ≤ b + ((c + d) + 1) := le_by h1 (by simp +arith)
theorem ar308 {a b : Nat} : ((a + b) + 2) + 1 = (a + 1) + (b + 2) := by simp +arith
theorem ar309 {a b : Nat} : (a + b) + 2 = (a + 1) + (1 + b) := by simp +arith
theorem ar310 {a b c d e : Nat} (h1 : a = b) : b + 1 ≤ (a + 1) + ((((c + d) + 1) + e) + 1) := le_by (lq h1.symm) (by simp +arith)
theorem ar311 {a b : Nat} (h1 : a ≤ b) : min a b = a := by simp_all
theorem ar312 {a b c d e : Nat} (h1 : 7 ≤ a + 1) (h2 : a ≤ b) (h3 : c = (d + 1) + b) (h4 : c ≤ e + 3) : (0 + 1) + d ≤ e := le_by (ad (ad (ad h1 h2) (lq h3.symm)) h4) (by simp +arith)
theorem ar313 {a b c : Nat} (h1 : a + (4 * (b + 1)) ≤ 100) (h2 : c ≤ 3) : (a + (c + 1)) + (4 * b) ≤ 100 := le_by (ad h1 h2) (by simp +arith)
theorem ar314 {a b c d : Nat} (h1 : a + (4 * (b + 1)) ≤ 100) (h2 : c = 16777216) (h3 : d ≤ 3) : (a + 1) + d ≤ c := le_by (ad (ad h1 (lq h2.symm)) h3) (by simp +arith)
theorem ar315 {a b : Nat} (h1 : a = 16777216) (h2 : b ≤ 3) : b ≤ a := by subst h1; exact Nat.le_trans h2 (by decide)
theorem ar316 {a b c : Nat} (h1 : a + (4 * (b + 1)) ≤ 100) (h2 : c = 16777216) : a + 1 ≤ c := le_by (ad h1 (lq h2.symm)) (by simp +arith)
theorem ar317 {a b c : Nat} (h1 : a = b + c) (h2 : a ≤ 40) : b ≤ 100 := le_by (ad (lq h1.symm) h2) (by simp +arith)
theorem ar318 {a : Nat} (h1 : a ≤ 4) : a ≤ 100 := Nat.le_trans h1 (by decide)
theorem ar319 {a b : Nat} (h1 : a ≤ 40) : min b a ≤ 1000 := Nat.le_trans (Nat.min_le_right _ _) (Nat.le_trans h1 (by decide))
theorem ar320 {a b c : Nat} (h1 : a = b + c) (h2 : c ≤ 3) : a ≤ b + 3 := le_by (ad (lq h1) h2) (by simp +arith)
theorem ar321 {a : Nat} (h1 : a < 256) : ((0 : Int) ≤ (a : Int) ∧ (a : Int) < (256 : Int)) := ⟨Int.ofNat_le.mpr ((by simp +arith) : 0 ≤ a), Int.ofNat_lt.mpr ((le_by h1 (by simp +arith)) : a < 256)⟩
theorem ar322 {a b c : Nat} (h1 : a = b + c) : ((a : Int) - (c : Int)) = (b : Int) := by simp_all
theorem ar323 {a b : Nat} (h1 : 7 ≤ a) (h2 : b ≤ 3) : a = (a - b) + b := (Nat.sub_add_cancel (Nat.le_trans h2 (Nat.le_trans (by decide) h1))).symm
theorem ar324 {a b : Nat} (h1 : a ≤ 4 * b) (h2 : b ≤ 10) : a ≤ 40 := by lia
theorem ar325 {a b c : Nat} (h1 : a ≤ 4 * b) (h2 : c ≤ 3) : (c + 1) + a ≤ 4 * (b + 1) := le_by (ad h1 h2) (by simp +arith)
theorem ar326 {a : Int} (h1 : a < (4 : Int)) : Int.toNat a ≤ 3 := by lia
theorem ar327 {a : Int} (h1 : a < (5 : Int)) : Int.toNat a ≤ 4 := Int.toNat_le.mpr (Int.le_of_lt_add_one h1)
theorem ar328 {a : Nat} (h1 : a ≤ 10) : 4 * a ≤ 100 := by lia
theorem ar329 {a b : Nat} (h1 : a = 7 - b) (h2 : b ≤ 10) : b + a ≤ 10 := (Nat.le_total b 7).elim (fun h => Nat.le_trans (lq (h1 ▸ Nat.add_sub_cancel' h)) (by decide)) fun h => Nat.le_trans (lq (h1 ▸ congrArg (b + ·) (Nat.sub_eq_zero_of_le h))) h2
theorem ar330 {a b : Nat} (h1 : a = 7 - b) : 7 ≤ b + a := Nat.sub_le_iff_le_add'.mp (lq h1.symm)
theorem ar331 {a : Nat} : (min 11 a) - 1 ≤ 10 := Nat.sub_le_sub_right (Nat.min_le_left 11 a) 1
theorem ar332 {a b c : Nat} (h1 : a = 16777216) (h2 : b ≤ 63) (h3 : c ≤ b) : 0 + c ≤ a := le_by (ad (ad (lq h1.symm) h2) h3) (by simp +arith)
theorem ar333 {a b : Nat} (h1 : a = 16777216) (h2 : b ≤ 63) : b + 1 ≤ a := by subst h1; exact Nat.lt_of_le_of_lt h2 (by decide)
theorem ar334 {a : Nat} : ((a + 1) + 1) + 1 ≤ (((((((a + 1) + 1) + 1) + 1) + 1) + 1) + 1) + 1 := (by simp +arith)
theorem ar335 {a : Nat} (h1 : a < 55296) : a < 1114112 := Nat.lt_of_lt_of_le h1 (by decide)
theorem ar336 {a : Nat} (h1 : a < 256) : a < 1114112 := Nat.lt_of_lt_of_le h1 (by decide)
theorem ar341 {a b : Nat} (h1 : a = 16777216) (h2 : b ≤ 63) : b ≤ a := by subst h1; exact Nat.le_trans h2 (by decide)
theorem ar342 {a b c : Nat} (h1 : a = b + (c + 1)) (h2 : a ≤ 100) : (Int.natAbs (b : Int)) < 2 ^ 62 := Nat.lt_of_le_of_lt (m := 100) (show b ≤ 100 from le_by (ad (lq h1.symm) h2) (by simp +arith)) (by decide)
theorem ar343 {a : Int} (h1 : Int.natAbs a < 2 ^ 62) : a < ((2 : Int) ^ 63) := Int.lt_trans (nb h1).2 (by decide)
theorem ar344 {a : Int} (h1 : Int.natAbs a < 2 ^ 62) : (-((2 : Int) ^ 63)) ≤ a := Int.le_of_lt (Int.lt_trans (by decide) (nb h1).1)
theorem ar347 {a : Nat} (h1 : a ≤ 100) : (Int.natAbs (a : Int)) < 2 ^ 62 := Nat.lt_of_le_of_lt h1 (by decide)
theorem ar349 {a b c : Nat} (h1 : (a ≤ b ∧ a ≤ 10)) (h2 : c ≤ a) : (Int.natAbs (c : Int)) < 2 ^ 62 := Nat.lt_of_le_of_lt (m := 10) (show c ≤ 10 from Nat.le_trans h2 h1.2) (by decide)
theorem ar350 {a : Int} (h1 : Int.natAbs a < 2 ^ 62) : (a + ((1 : Int) - (1 : Int))) < ((2 : Int) ^ 63) := (Int.add_zero a).symm ▸ (Int.lt_trans (nb h1).2 (by decide))
theorem ar351 {a : Int} (h1 : Int.natAbs a < 2 ^ 62) : (-((2 : Int) ^ 63)) ≤ (a + ((1 : Int) - (1 : Int))) := (Int.add_zero a).symm ▸ Int.le_of_lt (Int.lt_trans (by decide) (nb h1).1)
theorem ar354 {a : Int} (h1 : (-((2 : Int) ^ 63)) ≤ a) (h2 : a < ((2 : Int) ^ 63)) : ((-(9223372036854775808 : Int)) ≤ a ∧ a < (9223372036854775808 : Int)) := by simp_all
theorem ar355 {a b c : Nat} (h1 : a < (Int.toNat ((b : Int) - (0 : Int)))) (h2 : b ≤ 100) (h3 : c ≤ 1000) : (Int.natAbs ((c : Int) + (a : Int))) < 2 ^ 62 := by lia
theorem ar356 {a : Nat} (h1 : a ≤ 300) : (Int.natAbs ((a : Int) + (1 : Int))) < 2 ^ 62 := Nat.lt_of_le_of_lt (m := 301) (show a + 1 ≤ 301 from Nat.succ_le_succ h1) (by decide)
theorem ar357 {a : Int} : (Int.natAbs (a % (4 : Int))) < 2 ^ 62 := by lia
theorem ar358 {a b : Nat} (h1 : a ≤ 100) (h2 : b ≤ 200) : (Int.natAbs (((a : Int) - (b : Int)) - (1 : Int))) < 2 ^ 62 := by omega
theorem ar359 {a : Nat} (h1 : a ≤ 3) : (Int.natAbs (a : Int)) < 2 ^ 62 := Nat.lt_of_le_of_lt h1 (by decide)
theorem ar361 {a : Nat} (h1 : a ≤ 4) : (Int.natAbs (a : Int)) < 2 ^ 62 := Nat.lt_of_le_of_lt h1 (by decide)
theorem ar362 {a : Int} (h1 : Int.natAbs a < 2 ^ 62) : a < ((2 : Int) ^ 64) := Int.lt_trans (nb h1).2 (by decide)
theorem ar363 {a : Int} (h1 : Int.natAbs a < 2 ^ 62) : (-((2 : Int) ^ 64)) < a := Int.lt_trans (by decide) (nb h1).1
theorem ar364 {a : Int} (h1 : Int.natAbs a < 1000) : Int.natAbs a < 2 ^ 62 := Nat.lt_of_lt_of_le h1 (by decide)
theorem ar365 {a b c : Nat} (h1 : a = b + ((c + 1) + 1)) (h2 : a ≤ 100) : (Int.natAbs ((b : Int) + (1 : Int))) < 2 ^ 62 := Nat.lt_of_le_of_lt (m := 100) (show b + 1 ≤ 100 from le_by (ad (lq h1.symm) h2) (by simp +arith)) (by decide)
theorem ar366 {a : Int} (h1 : Int.natAbs a < 2 ^ 62) : (¬(a < (-((2 : Int) ^ 63))) ∧ ¬(((2 : Int) ^ 63) ≤ a)) := ⟨Int.not_lt.mpr (Int.le_of_lt (Int.lt_trans (by decide) (nb h1).1)), Int.not_le.mpr (Int.lt_trans (nb h1).2 (by decide))⟩
open PySem PySem.Spec PySem.Calls PySem.W
section
inductive ItK where
 | list (l : Addr) (i : Nat)
 | range (x left : Int)
 | str (ty : String) (x : Str) (t : Tok) (i : Nat)
noncomputable def ItK.Holds (h : Heap) (a : Addr) : ItK -> Prop
 | .list l i => h.IsListIter a l i
 | .range x left => IsRangeIter h a x left 1
 | .str ty x t i => h.IsStrIter a ty x t i
inductive OM where
 | it (k : ItK)
 | fz (o : Obj)
 | lst (vs : List Value)
 | hid (vs : List Value)
 | ns (m : Str -> Option Value)
 | cell (v : Option Value)
 | tab (qs : List (Pos × Str)) (ps : Array Value)
 | ex (o : Obj)
noncomputable def OM.Holds (h : Heap) (a : Addr) : OM -> Prop
 | .fz o => h.get? a = some o
 | .lst vs => ∃ n, h.get? a = some { cls := .type "list", data := .seq vs.toArray n }
 | .hid vs => ∃ n, h.get? a = some { cls := .type "list", data := .seq vs.toArray n }
 | .ns m => h.Ns a m
 | .cell v => h.IsCell a v
 | .tab _ ps => h.get? a = some { cls := .none, data := .fields ps }
 | .ex o => h.get? a = some o
 | .it k => k.Holds h a
noncomputable def OM.fixed : OM -> Bool
 | .fz _ => true
 | .tab _ _ => true
 | _ => false
noncomputable def OM.isTab : OM -> Bool
 | .tab _ _ => true
 | _ => false
noncomputable abbrev Own := Addr -> Option OM
noncomputable def Own.set (ω : Own) (a : Addr) (o : OM) : Own := fun b => if b = a then some o else ω b
noncomputable def Own.del (ω : Own) (a : Addr) : Own := fun b => if b = a then none else ω b
theorem Own.set_self (ω : Own) (a : Addr) (o : OM) : ω.set a o a = some o := by simp [Own.set]
theorem Own.set_ne (ω : Own) {a b : Addr} (o : OM) (h : b ≠ a) : ω.set a o b = ω b := by simp [Own.set, h]
theorem ItK.Holds.obj {h : Heap} {a : Addr} {k : ItK} (x : k.Holds h a) : ∃ o, h.get? a = some o /\ ∀ h' : Heap, h'.get? a = some o -> k.Holds h' a := by
 induction k using ItK.casesOn with
 | list l i => refine o_ea x fun o ho r => ?_; exact (i_ea o ho (fun h' e => (i_ea o e r)))
 | range y left => exact (i_ea _ x (fun h' e => e))
 | str ty y t i => refine o_ea x fun o ho r => ?_; exact (i_ea o ho (fun h' e => (i_ea o e r)))
theorem OM.Holds.lt {h : Heap} {a : Addr} {o : OM} (x : o.Holds h a) : a < h.objs.size := by
 induction o using OM.casesOn with
 | fz o => exact Heap.lt_size x
 | lst vs => obtain ⟨n, ho⟩ := x; exact Heap.lt_size ho
 | hid vs => obtain ⟨n, ho⟩ := x; exact Heap.lt_size ho
 | ns m => exact Heap.Ns.lt x
 | cell v => refine o_ea x fun o ho _ => ?_; exact Heap.lt_size ho
 | tab qs ps => exact Heap.lt_size x
 | ex o => exact Heap.lt_size x
 | it k => refine o_ea (ItK.Holds.obj x) fun o ho _ => ?_; exact Heap.lt_size ho
theorem OM.Holds.keep {h h' : Heap} {a : Addr} {o : OM} (x : o.Holds h a) (k : ∀ ob, h.get? a = some ob -> h'.get? a = some ob) : o.Holds h' a := by
 induction o using OM.casesOn with
 | fz o => exact k _ x
 | lst vs => obtain ⟨n, ho⟩ := x; exact ⟨n, k _ ho⟩
 | hid vs => obtain ⟨n, ho⟩ := x; exact ⟨n, k _ ho⟩
 | ns m => refine o_eeea x fun o es ep ho r => ?_; exact (i_eeea o es ep (k _ ho) r)
 | cell v => refine o_ea x fun o ho r => ?_; exact (i_ea o (k _ ho) r)
 | tab qs ps => exact k _ x
 | ex o => exact k _ x
 | it k' => refine o_ea (ItK.Holds.obj x) fun o ho f => ?_; exact f h' (k _ ho)
noncomputable def CodeOk (ω : Own) (cv : Value) (qual : Str) : Prop := ∃ c oc vs t, cv = .ref c /\ ω c = some (.fz oc) /\ oc.data = .fields vs /\ vs[1]? = some (.str qual t)
noncomputable def TabGood (ω : Own) (qs : List (Pos × Str)) (ps : Array Value) : Prop := TriplesOk ps.toList /\ ∀ q ∈ qs, codeAmong q.1 ps.toList = none ∨ ∃ cv, codeAmong q.1 ps.toList = some cv /\ CodeOk ω cv q.2
noncomputable def LeF (ω ω' : Own) : Prop := ∀ a o, ω a = some (.fz o) -> ω' a = some (.fz o)
theorem CodeOk.monoF {ω ω' : Own} (x : LeF ω ω') {cv : Value} {q : Str} (h : CodeOk ω cv q) : CodeOk ω' cv q := by
 (refine o_eeee h fun c oc vs t z1 => ?_; refine o_aa z1 fun h1 h2 h3 => ?_); exact (i_eeeeaa c oc vs t h1 (x _ _ h2) h3)
theorem TabGood.monoF {ω ω' : Own} (x : LeF ω ω') {qs : List (Pos × Str)} {ps : Array Value} (h : TabGood ω qs ps) : TabGood ω' qs ps :=
 ⟨h.1, fun q hq => (h.2 q hq).imp id fun ⟨cv, a, b⟩ => (i_ea cv a (b.monoF x))⟩
theorem LeF.set' {ω : Own} {a : Addr} (m : OM) (hs : ∀ o, ω a ≠ some (.fz o)) : LeF ω (ω.set a m) := fun b o e => by
 by_cases q : b = a
 · subst q; exact absurd e (hs o)
 · refine rr (Own.set_ne _ _ q) ?_; exact e
theorem LeF.del' {ω : Own} {a : Addr} (hs : ∀ o, ω a ≠ some (.fz o)) : LeF ω (ω.del a) := fun b o e => by
 by_cases q : b = a
 · subst q; exact absurd e (hs o)
 · simp [Own.del, q, e]
structure MS (B0 : Heap) (os : OsState) (ω : Own) (gs : Array GenState) (s : Shared) : Prop where
 hold : ∀ a o, ω a = some o -> o.Holds s.heap a
 old : OldK B0 s.heap
 lo : ∀ a o, ω a = some o -> o.fixed = false -> B0.objs.size <= a
 gens : s.gens = gs
 os : s.os = os
 last : ∃ b o, B0.get? b = some o /\ b + 1 = B0.objs.size
 tabs : ∀ P qs ps, ω P = some (.tab qs ps) -> TabGood ω qs ps
section
variable {B0 : Heap} {os : OsState} {ω : Own} {gs : Array GenState} {s : Shared}
theorem MS.top (S : MS B0 os ω gs s) {b : Addr} {o : Obj} (e : B0.get? b = some o) (hc : o.cls ≠ .none) : s.heap.get? b = some o := S.old.get_of_cls e hc
theorem MS.size (S : MS B0 os ω gs s) : B0.objs.size <= s.heap.objs.size := by
 refine o_eea S.last fun b o h1 h2 => ?_
 refine o_e (S.old.there b o h1) fun o' h3 => ?_
 refine h2 ▸ ?_
 exact Heap.lt_size h3
theorem MS.toks (S : MS B0 os ω gs s) (t : Nat) : MS B0 os ω gs { s with toks := t } := ⟨S.hold, S.old, S.lo, S.gens, S.os, S.last, S.tabs⟩
theorem MS.tabs_set (S : MS B0 os ω gs s) {a : Addr} {m : OM} (hs : ∀ o, ω a ≠ some (.fz o)) (hm : m.isTab = false) : ∀ P qs ps, (ω.set a m) P = some (.tab qs ps) -> TabGood (ω.set a m) qs ps := fun P qs ps e => by
 unfold Own.set at e
 (revert e; refine ie rfl (fun _ e => ?_) fun _ e => ?_)
 · (replace e := Option.some.inj e; subst e); exact no_tf hm
 · exact (S.tabs P qs ps e).monoF (LeF.set' m hs)
theorem MS.tabs_del (S : MS B0 os ω gs s) {a : Addr} (hs : ∀ o, ω a ≠ some (.fz o)) : ∀ P qs ps, (ω.del a) P = some (.tab qs ps) -> TabGood (ω.del a) qs ps := fun P qs ps e => by
 unfold Own.del at e
 (revert e; refine ie rfl (fun _ e => ?_) fun _ e => ?_)
 · exact no_ns e
 · exact (S.tabs P qs ps e).monoF (LeF.del' hs)
theorem not_fz {a : Addr} {m₀ : OM} (e₀ : ω a = some m₀) (hf : m₀.fixed = false) : ∀ o, ω a ≠ some (.fz o) := fun o q => by rw [e₀] at q; (replace q := Option.some.inj q; clear e₀; subst q); exact no_tf hf
theorem MS.unused (S : MS B0 os ω gs s) : ω s.heap.objs.size = none := by
 induction q : ω s.heap.objs.size with
 | none => rfl
 | some o => exact absurd (S.hold _ _ q).lt (Nat.lt_irrefl _)
theorem MS.push (S : MS B0 os ω gs s) (o : Obj) {m : OM} (hm : m.Holds (s.heap.push o) s.heap.objs.size) (ht : m.isTab = false := by rfl) : MS B0 os (ω.set s.heap.objs.size m) gs { s with heap := s.heap.push o } := by
 refine ⟨fun a om e => ?_, S.old.step_keeps fun _ _ e => Heap.get?_push_of_some _ e, fun a om e hf => ?_, S.gens, S.os, S.last, S.tabs_set (fun o q => by rw [S.unused] at q; exact no_ns q) ht⟩
 · unfold Own.set at e
   (revert e; refine ie rfl (fun _ e => ?_) fun _ e => ?_)
   · rename_i q; refine q ▸ ?_; (replace e := Option.some.inj e; subst e); exact hm
   · exact (S.hold a om e).keep fun _ x => Heap.get?_push_of_some _ x
 · unfold Own.set at e
   (revert e; refine ie rfl (fun _ e => ?_) fun _ e => ?_)
   · rename_i q; subst q; exact S.size
   · exact S.lo a om e hf
theorem MS.same (S : MS B0 os ω gs s) {a : Addr} {m₀ m : OM} {h' : Heap} (e₀ : ω a = some m₀) (hf : m₀.fixed = false) (hs : Heap.SameBut a s.heap h') (hm : m.Holds h' a) (t : Nat) (ht : m.isTab = false := by rfl) :
 MS B0 os (ω.set a m) gs { s with heap := h', toks := t } := by
 refine ⟨fun b om e => ?_, S.old.step_same (S.lo a m₀ e₀ hf) hs, fun b om e hf' => ?_, S.gens, S.os, S.last, S.tabs_set (not_fz e₀ hf) ht⟩
 · unfold Own.set at e
   (revert e; refine ie rfl (fun _ e => ?_) fun _ e => ?_)
   · rename_i q; refine q ▸ ?_; refine Option.some.inj e ▸ ?_; exact hm
   · rename_i q
     exact (S.hold b om e).keep fun _ x => (hs.2 b q).trans x
 · unfold Own.set at e
   (revert e; refine ie rfl (fun _ e => ?_) fun _ e => ?_)
   · rename_i q; refine q ▸ ?_; exact S.lo _ _ e₀ hf
   · exact S.lo b om e hf'
theorem oldK_ext {h₀ h h' : Heap} (K : OldK h₀ h) {a : Addr} (ha : h₀.objs.size <= a) (hx : Heap.ExtBut a h h') : OldK h₀ h' := by
 have ne : ∀ b o, h₀.get? b = some o -> b ≠ a := fun b o e => Nat.ne_of_lt (Nat.lt_of_lt_of_le (Heap.lt_size e) ha)
 refine ⟨fun b o e => ?_, fun b o e => let ⟨o', ho'⟩ := K.there b o e; ⟨o', hx b o' (ne b o e) ho'⟩⟩
 rcases K.old b o e with x | ⟨t, hc, vs, more, hv, x⟩ | ⟨rfl, hc, ⟨o', es, n, ho', r⟩, z⟩
 · exact .inl (hx b _ (ne b o e) x)
 · exact .inr (.inl ⟨t, hc, vs, more, hv, hx b _ (ne b o e) x⟩)
 · exact .inr (.inr (i_aaa rfl hc ((i_eeea o' es n ((hx _ _ (ne _ o e) ho')) r)) (fun key => by refine (OldK.staticOf_congr ((hx _ _ (ne _ o e) ho').trans ho'.symm) key) ▸ ?_; exact z key)))
theorem MS.ext (S : MS B0 os ω gs s) {a : Addr} {m₀ : OM} {h' : Heap} (e₀ : ω a = some m₀) (hf : m₀.fixed = false) (hx : Heap.ExtBut a s.heap h') (t : Nat) :
 MS B0 os (ω.del a) gs { s with heap := h', toks := t } := by
 refine ⟨fun b om e => ?_, oldK_ext S.old (S.lo a m₀ e₀ hf) hx, fun b om e hf' => ?_, S.gens, S.os, S.last, S.tabs_del (not_fz e₀ hf)⟩
 · unfold Own.del at e
   (revert e; refine ie rfl (fun _ e => ?_) fun _ e => ?_)
   · exact no_ns e
   · rename_i q
     exact (S.hold b om e).keep fun ob x => hx b ob q x
 · unfold Own.del at e
   (revert e; refine ie rfl (fun _ e => ?_) fun _ e => ?_)
   · exact no_ns e
   · exact S.lo b om e hf'
theorem Own.del_del (ω : Own) (a : Addr) : (ω.del a).del a = ω.del a := by funext b; unfold Own.del; refine ie rfl (fun _ => ?_) fun _ => ?_ <;> simp_all
theorem MS.gone (S : MS B0 os ω gs s) {a : Addr} {m₀ : OM} {h' : Heap} (e₀ : ω a = some m₀) (hf : m₀.fixed = false) (hs : Heap.SameBut a s.heap h') :
 MS B0 os (ω.del a) gs { s with heap := h' } := S.ext e₀ hf (fun b o q e => (hs.2 b q).trans e) s.toks
theorem MS.turn (S : MS B0 os ω gs s) {a : Addr} {m₀ m : OM} (e₀ : ω a = some m₀) (hf : m₀.fixed = false) (hm : m.Holds s.heap a) (ht : m.isTab = false := by rfl) : MS B0 os (ω.set a m) gs s :=
 S.same e₀ hf ⟨rfl, fun _ _ => rfl⟩ hm s.toks ht
theorem MS.keeps (S : MS B0 os ω gs s) {h' : Heap} (k : ∀ b o, s.heap.get? b = some o -> h'.get? b = some o) (t : Nat) :
 MS B0 os ω gs { s with heap := h', toks := t } :=
 ⟨fun a om e => (S.hold a om e).keep fun _ x => k _ _ x, S.old.step_keeps k, S.lo, S.gens, S.os, S.last, S.tabs⟩
end
noncomputable def LeO : OM -> Option OM -> Prop
 | .lst _, r => ∃ vs, r = some (.lst vs)
 | .ex _, r => ∃ o, r = some (.ex o)
 | .tab qs ps, r => ∃ more, r = some (.tab qs (ps ++ more))
 | o, r => r = some o
noncomputable def Le (ω ω' : Own) : Prop := ∀ a o, ω a = some o -> LeO o (ω' a)
theorem LeO.refl (o : OM) : LeO o (some o) := by
 cases o <;> first | rfl | exact ⟨_, rfl⟩ | exact ⟨#[], by rfl⟩
theorem Le.refl (ω : Own) : Le ω ω := fun a o e => by refine rr e ?_; exact LeO.refl o
theorem Le.trans {ω1 ω2 ω3 : Own} (x : Le ω1 ω2) (y : Le ω2 ω3) : Le ω1 ω3 := fun a o e => by
 have z := x a o e
 clear e; induction o using OM.casesOn with
 | it k => exact y a _ z
 | hid vs => exact y a _ z
 | lst vs => refine o_e z fun vs' q => ?_; exact (y a _ q : ∃ vs, _)
 | ex o => refine o_e z fun o' q => ?_; exact (y a _ q : ∃ vs, _)
 | tab qs ps => refine o_e z fun m1 q => ?_; obtain ⟨m2, q2⟩ := y a _ q; exact ⟨m1 ++ m2, by simp only [q2, Array.append_assoc]⟩
 | fz o => exact y a _ z
 | ns m => exact y a _ z
 | cell v => exact y a _ z
noncomputable def OM.stay : OM -> Bool
 | .fz _ => true
 | .ns _ => true
 | .cell _ => true
 | .tab _ _ => false
 | _ => false
noncomputable def LeW (ω ω' : Own) : Prop := ∀ a o, ω a = some o -> o.stay = true -> ω' a = some o
theorem Le.w {ω ω' : Own} (x : Le ω ω') : LeW ω ω' := fun a o e h => by
 cases o <;> first | exact x a _ e | exact Bool.noConfusion (show false = true from h)
theorem LeW.f {ω ω' : Own} (x : LeW ω ω') : LeF ω ω' := fun a o e => x a _ e rfl
theorem Le.f {ω ω' : Own} (x : Le ω ω') : LeF ω ω' := x.w.f
theorem LeW.trans {ω1 ω2 ω3 : Own} (x : LeW ω1 ω2) (y : LeW ω2 ω3) : LeW ω1 ω3 := fun a o e h => y a o (x a o e h) h
theorem LeF.trans {ω1 ω2 ω3 : Own} (x : LeF ω1 ω2) (y : LeF ω2 ω3) : LeF ω1 ω3 := fun a o e => y a o (x a o e)
theorem LeW.set {ω : Own} {a : Addr} {m₀ : OM} (m : OM) (h : ω a = some m₀) (hs : m₀.stay = false) : LeW ω (ω.set a m) := fun b o e k => by
 by_cases q : b = a
 · subst q; rw [h] at e; (replace e := Option.some.inj e; subst e); rw [hs] at k; exact no_ft k
 · refine rr (Own.set_ne _ _ q) ?_; exact e
theorem LeW.del {ω : Own} {a : Addr} {m₀ : OM} (h : ω a = some m₀) (hs : m₀.stay = false) : LeW ω (ω.del a) := fun b o e k => by
 by_cases q : b = a
 · subst q; rw [h] at e; (replace e := Option.some.inj e; subst e); rw [hs] at k; exact no_ft k
 · simp [Own.del, q, e]
theorem LeF.set {ω : Own} {a : Addr} {m₀ : OM} (m : OM) (h : ω a = some m₀) (hs : ∀ o, m₀ ≠ .fz o) : LeF ω (ω.set a m) := fun b o e => by
 by_cases q : b = a
 · subst q; rw [h] at e; (replace e := Option.some.inj e; clear h; subst e); exact absurd rfl (hs o)
 · refine rr (Own.set_ne _ _ q) ?_; exact e
theorem LeF.del {ω : Own} {a : Addr} {m₀ : OM} (h : ω a = some m₀) (hs : ∀ o, m₀ ≠ .fz o) : LeF ω (ω.del a) := fun b o e => by
 by_cases q : b = a
 · subst q; rw [h] at e; (replace e := Option.some.inj e; clear h; subst e); exact absurd rfl (hs o)
 · simp [Own.del, q, e]
theorem Le.setNew {ω0 ω : Own} {a : Addr} (x : Le ω0 ω) (m : OM) (h : ω0 a = none) : Le ω0 (ω.set a m) := fun b o e => by
 by_cases q : b = a
 · subst q; rw [h] at e; exact no_ns e
 · refine rr (Own.set_ne _ _ q) ?_; exact x b o e
theorem Le.delNew {ω0 ω : Own} {a : Addr} (x : Le ω0 ω) (h : ω0 a = none) : Le ω0 (ω.del a) := fun b o e => by
 by_cases q : b = a
 · subst q; simp only [h] at e; exact no_ns e
 · have : ω.del a b = ω b := by simp [Own.del, q]
   refine rr this ?_; exact x b o e
theorem Le.new {ω : Own} {a : Addr} (o : OM) (h : ω a = none) : Le ω (ω.set a o) := fun b ob e => by
 by_cases q : b = a
 · subst q; rw [h] at e; exact no_ns e
 · rw [Own.set_ne _ _ q, e]; exact LeO.refl _
theorem Le.lst {ω : Own} {a : Addr} {vs vs' : List Value} (h : ω a = some (.lst vs)) : Le ω (ω.set a (.lst vs')) := fun b ob e => by
 by_cases q : b = a
 · subst q; rw [h] at e; (replace e := Option.some.inj e; subst e); simp only [Own.set_self]; exact ⟨_, rfl⟩
 · rw [Own.set_ne _ _ q, e]; exact LeO.refl _
inductive HV where
 | none
 | bool (b : Bool)
 | int (i : Int)
 | str (l : List Nat)
 | bytes (l : List UInt8)
 | list (xs : List HV)
 | tup (xs : List HV)
 | val (v : Value)
 | obj (a : Addr)
 | rng (lo hi : Int)
 | bm (a : Addr)
 deriving Inhabited
mutual
noncomputable def Rd (ω : Own) : HV -> Value -> Prop
 | .none, v => v = .none
 | .bool b, v => v = .bool b
 | .int i, v => ∃ t, v = .int i t
 | .str l, v => l.length <= sizeLine /\ ∃ t, v = .str ⟨l.toArray⟩ t
 | .bytes l, v => l.length <= sizeLine /\ ∃ t, v = .bytes ⟨l⟩ t
 | .list xs, v => xs.length <= sizeLine /\ ∃ a o vs n, v = .ref a /\ ω a = some (.fz o) /\ o.cls = .type "list" /\ o.data = .seq (List.toArray vs) n /\ RdL ω xs vs
 | .tup xs, v => xs.length <= sizeLine /\ ∃ a o vs n, v = .ref a /\ ω a = some (.fz o) /\ o.cls = .type "tuple" /\ o.data = .seq (List.toArray vs) n /\ RdL ω xs vs
 | .val w, v => v = w
 | .obj a, v => v = .ref a
 | .bm a, v => ∃ b, v = .ref b /\ ω b = some (.fz { cls := .type "builtin_function_or_method", data := .fields #[.builtin "list.append", .ref a] })
 | .rng lo hi, v => lo.natAbs < 2 ^ 62 /\ hi.natAbs < 2 ^ 62 /\ ∃ a t u x, v = .ref a /\ ω a = some (.fz { cls := .type "range", data := .fields #[.int lo t, .int hi u, .int 1 x] })
noncomputable def RdL (ω : Own) : List HV -> List Value -> Prop
 | [], vs => vs = []
 | x :: xs, vs => ∃ v r, vs = v :: r /\ Rd ω x v /\ RdL ω xs r
end
theorem Le.fz {ω ω' : Own} (x : Le ω ω') {a : Addr} {o : Obj} (e : ω a = some (.fz o)) : ω' a = some (.fz o) := x a _ e
mutual
theorem Rd.monoF {ω ω' : Own} (x : LeF ω ω') : ∀ {h : HV} {v : Value}, Rd ω h v -> Rd ω' h v
 | .none, _, r | .bool _, _, r | .int _, _, r | .str _, _, r | .bytes _, _, r | .val _, _, r | .obj _, _, r => r
 | .list xs, v, r => by
  refine o_aeeeeaaaa r fun hz a o vs n h1 h2 h3 h4 h5 => ?_
  exact ⟨hz, a, o, vs, n, h1, x _ _ h2, h3, h4, RdL.monoF x h5⟩
 | .tup xs, v, r => by
  refine o_aeeeeaaaa r fun hz a o vs n h1 h2 h3 h4 h5 => ?_
  exact ⟨hz, a, o, vs, n, h1, x _ _ h2, h3, h4, RdL.monoF x h5⟩
 | .bm a, v, r => by
  refine o_ea r fun b h1 h2 => ?_
  exact (i_ea b h1 (x _ _ h2))
 | .rng lo hi, v, r => by
  (refine o_aa r fun z1 z2 z7 => ?_; refine o_eeee z7 fun a t u y z8 => ?_; refine o_a z8 fun h1 h2 => ?_)
  exact (i_aa z1 z2 (i_eeee a t u y ⟨h1, x _ _ h2⟩))
theorem RdL.monoF {ω ω' : Own} (x : LeF ω ω') : ∀ {h : List HV} {v : List Value}, RdL ω h v -> RdL ω' h v
 | [], _, r => r
 | y :: ys, v, r => by
  refine o_eeaa r fun w q h1 h2 h3 => ?_
  exact (i_eeaa w q h1 (Rd.monoF x h2) (RdL.monoF x h3))
end
theorem Rd.mono {ω ω' : Own} (x : Le ω ω') {h : HV} {v : Value} (r : Rd ω h v) : Rd ω' h v := r.monoF x.f
theorem RdL.mono {ω ω' : Own} (x : Le ω ω') {h : List HV} {v : List Value} (r : RdL ω h v) : RdL ω' h v := r.monoF x.f
theorem RdL.length {ω : Own} : ∀ {xs : List HV} {vs : List Value}, RdL ω xs vs -> vs.length = xs.length := by
 intro xs0
 induction xs0 with
 | nil =>
  exact @fun _ r => by simp only [RdL] at r; refine rr r ?_; rfl
 | cons _ xs ih =>
  exact @fun vs r => by
   simp only [RdL] at r
   (refine o_eeaa r fun v q z14 _ h => ?_; clear r; refine rr z14 ?_)
   simp [ih h]
end
set_option maxRecDepth 8000
section
theorem mro_obj : mroOf (.type "object") = pure [.type "object"] := by kernel_rfl
theorem lookup_obj_new : typeLookup (.type "object") "__new__" = pure (some (.builtin "object.__new__")) := by kernel_rfl
theorem slot_obj_init : Slot "object" "__init__" "object.__init__" :=
 .of (owner := "object") (n := "__init__") (by kernel_rfl) (by decide +kernel) (by decide +kernel) (by decide +kernel)
  (by first | exact .inl (by decide +kernel) | exact .inr (by decide +kernel)) (by kernel_rfl)
theorem called_obj : TypeCalled "object" "object.__new__" "object.__init__" :=
 ⟨by decide +kernel, by decide +kernel, (i_ee _ _ mro_obj), madeBy_type mro_obj lookup_obj_new (by decide +kernel), by decide +kernel, by kernel_rfl, slot_obj_init⟩
theorem typeCall_obj : checkTypeCall "object" ⟨[], []⟩ = pure () := by kernel_rfl
theorem newCall_obj : checkBuiltinCall "object.__new__" ⟨[.type "object"], []⟩ = pure () := by kernel_rfl
theorem here_obj : Bind.madeHere "object.__new__" (.type "object") = pure () := by
 first | kernel_rfl
theorem meets_obj_new : Meets (Builtin.«object.__new__» ⟨[.type "object"], []⟩) (fun _ R s => R (.ok (.ret (.ref s.heap.objs.size))) { s with heap := s.heap.push { cls := .type "object", data := .plain } }) := by
 refine Meets.of_wp fun prog w A R s hs => ?_
 dsimp only [Builtin.«object.__new__»]
 have f1 := here_obj
 repeat (any_goals (first | assumption | wp_step))
 exact ⟨_, rfl, hs⟩
section
variable {prog : Program} {w : World} {A : Around} {E : Value -> Shared -> Prop} {s : Shared}
theorem meets_obj_init (o : Value) : Meets (Builtin.«object.__init__» ⟨[o], []⟩) (fun _ R s => R (.ok (.ret .none)) s) := by
 refine Meets.of_wp fun prog w A R s hs => ?_
 exact wpAny_pure (i_ea _ rfl hs)
theorem call_obj {Q : Value -> Shared -> Prop} (h : Q (.ref s.heap.objs.size) { s with heap := s.heap.push { cls := .type "object", data := .plain } }) : wpAny (model prog w) A (call (.type "object") []) Q E s :=
 callType_meets (Q₁ := fun o s₁ => o = .ref s.heap.objs.size /\ s₁ = { s with heap := s.heap.push { cls := .type "object", data := .plain } }) called_obj typeCall_obj newCall_obj F.entry_object_new F.entry_object_init meets_obj_new ⟨rfl, rfl⟩ fun o s₁ hq => by
  (refine o_a hq fun z513 z514 => ?_; clear hq; subst z513; subst z514)
  exact (i_aaea ((i_ea _ (Heap.get?_push_size _ rfl) rfl)) (F.args_object_init_1 _) _ (meets_obj_init _) ⟨rfl, h⟩)
end
end
section
noncomputable abbrev St := Addr -> Option (List HV)
noncomputable abbrev Loc := Str -> Option HV
noncomputable abbrev KV := HV -> St -> Prop
structure GC where
 g : Loc
 c : Str -> Bool
 l : Str -> Bool
 gg : Loc
noncomputable def GC.all (G : GC) (x : Str) : Option HV := match G.g x with
 | some h => some h
 | none => G.gg x
noncomputable def St.put (σ : St) (a : Addr) (xs : List HV) : St := fun b => if b = a then some xs else σ b
noncomputable def upd (ρ : Loc) (x : Str) (h : HV) : Loc := fun y => if y = x then some h else ρ y
noncomputable def RelS (ω : Own) (σ : St) : Prop := ∀ a xs, σ a = some xs -> xs.length <= sizeLine /\ ∃ vs, ω a = some (.lst vs) /\ RdL ω xs vs
noncomputable def litS (x : Str) : List Nat := x.cps.toList
noncomputable abbrev Spec := List HV -> St -> KV -> Prop
noncomputable abbrev Spx := Value -> Option Spec
noncomputable def asList : HV -> St -> Option (List HV)
 | .list xs, _ => some xs
 | .obj a, σ => σ a
 | _, _ => none
noncomputable def slc {α : Type} (l : List α) (lo hi : Option Int) : List α :=
 (l.drop (lo.elim 0 (clipAt l.length))).take (hi.elim l.length (clipAt l.length) - lo.elim 0 (clipAt l.length))
noncomputable def at? {α : Type} (l : List α) (i : Int) : Option α := if 0 <= i then l[i.toNat]? else if (l.length : Int) + i < 0 then none else l[((l.length : Int) + i).toNat]?
noncomputable def truH : HV -> St -> Option Bool
 | .none, _ => some false
 | .bool b, _ => some b
 | .int i, _ => some (i != 0)
 | .str l, _ => some (!l.isEmpty)
 | .bytes l, _ => some (!l.isEmpty)
 | .list xs, _ => some (!xs.isEmpty)
 | .tup xs, _ => some (!xs.isEmpty)
 | .obj a, σ => (σ a).map fun xs => !xs.isEmpty
 | _, _ => none
noncomputable def isTxt : HV -> Option (List Nat)
 | .str l => some l
 | _ => none
noncomputable def allTxt : List HV -> Option (List (List Nat))
 | [] => some []
 | .str l :: r => (allTxt r).map (l :: ·)
 | _ :: _ => none
mutual
noncomputable def py : HV -> PyData
 | .bool b => .bool b
 | .int i => .int i
 | .str l => .str ⟨l.toArray⟩
 | .list xs => .list (pyL xs)
 | .tup xs => .tuple (pyL xs)
 | _ => .none
noncomputable def pyL : List HV -> List PyData
 | [] => []
 | x :: xs => py x :: pyL xs
end
noncomputable def datN : Nat -> HV -> Bool
 | _, .none => true
 | _, .bool _ => true
 | _, .int _ => true
 | _, .str l => PyData.strOk ⟨l.toArray⟩
 | n + 1, .list xs => xs.all (datN n)
 | n + 1, .tup xs => xs.all (datN n)
 | _, _ => false
noncomputable def eqD (a b : HV) : Bool := PyData.eqv (py a) (py b)
noncomputable def intOf : HV -> Option Int
 | .int i => some i
 | _ => none
noncomputable def intsOf : List HV -> Option (List Int)
 | [] => some []
 | .int i :: r => (intsOf r).map (i :: ·)
 | _ :: _ => none
noncomputable def flat : HV -> Bool
 | .none => true
 | .bool _ => true
 | .int _ => true
 | .str _ => true
 | .bytes _ => true
 | _ => false
noncomputable def calB (Γ : Spx) : HV -> Bool
 | .bm _ => true
 | .val (.builtin _) => true
 | .val (.type _) => true
 | .val v => (Γ v).isSome
 | _ => false
noncomputable def notStar (e : Expr) : Bool := e.ctorIdx != 22
noncomputable def rcv (name : Str) (h : HV) (σ : St) : Bool :=
 if name = Str.ofString "append" then (match h with
  | .obj a => (σ a).isSome
  | _ => false)
 else if name = Str.ofString "join" then (match h with
  | .str _ => true
  | _ => false)
 else false
noncomputable def itemsH : HV -> Option (List HV)
 | .list xs => some xs
 | .rng lo hi => some ((List.range (hi - lo).toNat).map fun (k : Nat) => HV.int (lo + (k : Int)))
 | .str l => some (l.map fun c => HV.str [c])
 | _ => none
noncomputable def restr (sc : Scope) (ρ : Loc) : Loc := fun x => if sc.names.lookup x = some .free then ρ x else none
noncomputable def restrG (sc : Scope) (G : GC) : GC := ⟨fun x => if sc.names.lookup x = some .globalImplicit then G.all x else none, fun x => sc.names.lookup x == some .free, fun _ => false, G.gg⟩
noncomputable def scB (sc : Scope) (t : Str) (c : Str -> Bool) : Bool :=
 sc.kind == .function && sc.names.all (fun x => x.2 != .cell) && sc.names.all (fun x => x.2 != .local || sc.names.lookup x.1 == some .local)
  && sc.names.lookup t == some .local && sc.names.all (fun x => x.2 != .free || c x.1) && t != ("__debug__" : Str) && t != ("__classdict__" : Str)
noncomputable def iterB (e : Expr) : Bool := e.ctorIdx == 23 || e.ctorIdx == 16 || e.ctorIdx == 21
noncomputable def notCall (e : Expr) : Bool := e.ctorIdx != 16
noncomputable def compL (test : HV -> St -> (Bool -> St -> Prop) -> Prop) (elt : HV -> St -> KV -> Prop) : List HV -> List HV -> St -> KV -> Prop
 | acc, [], σ, K => K (.list acc) σ
 | acc, x :: xs, σ, K => test x σ fun b σ' => if b then elt x σ' (fun h σ'' => acc.length < sizeLine /\ compL test elt (acc ++ [h]) xs σ'' K) else compL test elt acc xs σ' K
theorem ite_t {c : Prop} {d : Decidable c} {P Q : Prop} (h : c) (k : P) : @ite Prop c d P Q := (if_pos h).symm ▸ k
theorem ite_f {c : Prop} {d : Decidable c} {P Q : Prop} (h : ¬c) (k : Q) : @ite Prop c d P Q := (if_neg h).symm ▸ k
end
set_option maxRecDepth 4000
section
inductive PostV (B0 : Heap) (os : OsState) (gs : Array GenState) (ω : Own) (K : KV) (v : Value) (s' : Shared) : Prop
 | mk : ∀ h ω' σ', (Le ω ω') -> (MS B0 os ω' gs s') -> (RelS ω' σ') -> (Rd ω' h v) -> (K h σ') -> PostV B0 os gs ω K v s'
inductive PostB (B0 : Heap) (os : OsState) (gs : Array GenState) (ω : Own) (K : Bool -> St -> Prop) (b : Bool) (s' : Shared) : Prop
 | mk : ∀ ω' σ', (Le ω ω') -> (MS B0 os ω' gs s') -> (RelS ω' σ') -> (K b σ') -> PostB B0 os gs ω K b s'
theorem RelS.new {ω : Own} {σ : St} {a : Addr} {m : OM} (R : RelS ω σ) (h : ω a = none) : RelS (ω.set a m) σ := fun b xs e => by
 refine o_aea (R b xs e) fun hz vs h1 h2 => ?_
 have : b ≠ a := fun q => by subst q; rw [h] at h1; exact no_ns h1
 exact (i_aea hz vs (by refine rr (Own.set_ne _ _ this) ?_; exact h1) (h2.mono (Le.new m h)))
theorem RelS.put {ω : Own} {σ : St} {a : Addr} {vs0 vs : List Value} {xs : List HV} (R : RelS ω σ) (h : ω a = some (.lst vs0)) (hz : xs.length <= sizeLine) (r : RdL ω xs vs) : RelS (ω.set a (.lst vs)) (σ.put a xs) := fun b ys e => by
 unfold St.put at e
 (revert e; refine ie rfl (fun _ e => ?_) fun _ e => ?_)
 · rename_i q; refine rr q ?_; (replace e := Option.some.inj e; subst e)
   exact (i_aea hz vs (Own.set_self ..) (r.mono (Le.lst h)))
 · rename_i q
   refine o_aea (R b ys e) fun hz' ws h1 h2 => ?_
   exact (i_aea hz' ws (by refine rr (Own.set_ne _ _ q) ?_; exact h1) (h2.mono (Le.lst h)))
theorem RelS.putNew {ω : Own} {σ : St} {a : Addr} {vs : List Value} {xs : List HV} (R : RelS ω σ) (h : ω a = none) (hz : xs.length <= sizeLine) (r : RdL ω xs vs) : RelS (ω.set a (.lst vs)) (σ.put a xs) := fun b ys e => by
 unfold St.put at e
 (revert e; refine ie rfl (fun _ e => ?_) fun _ e => ?_)
 · rename_i q; refine rr q ?_; (replace e := Option.some.inj e; subst e)
   exact (i_aea hz vs (Own.set_self ..) (r.mono (Le.new _ h)))
 · rename_i q
   refine o_aea (R b ys e) fun hz' ws h1 h2 => ?_
   exact (i_aea hz' ws (by refine rr (Own.set_ne _ _ q) ?_; exact h1) (h2.mono (Le.new _ h)))
theorem RelS.keep {ω ω' : Own} {σ : St} (R : RelS ω σ) (l : Le ω ω') (k : ∀ a vs, ω a = some (.lst vs) -> ω' a = some (.lst vs)) : RelS ω' σ := fun b xs e => by
 refine o_aea (R b xs e) fun hz vs h1 h2 => ?_
 exact (i_aea hz vs (k _ _ h1) (h2.mono l))
theorem str_mk (x : Str) : (⟨x.cps.toList.toArray⟩ : Str) = x := by rfl
theorem str_app (a b : List Nat) : ((⟨a.toArray⟩ : Str) ++ ⟨b.toArray⟩) = ⟨(a ++ b).toArray⟩ := by
 refine Str.ext' ?_
 simp only [Str.cps_append]; simp
theorem slc_len {α : Type} (l : List α) (lo hi : Option Int) : (slc l lo hi).length <= l.length := by
 exact Nat.le_trans (List.length_take_le' _ _) (by refine rr List.length_drop ?_; exact Nat.sub_le _ _)
theorem at_seqIndex {α : Type} {l : List α} {i : Int} {c : α} (h : at? l i = some c) : ∃ k, seqIndex? i l.length = some k /\ l[k]? = some c /\ k < l.length := by
 unfold at? at h
 unfold seqIndex?
 by_cases h0 : 0 <= i
 · have h := (if_pos h0) ▸ h
   obtain ⟨hl, _⟩ := List.getElem?_eq_some_iff.mp h
   refine (i_eaa i.toNat ?_ h hl)
   refine rr (if_neg (show ¬ i < 0 by exact ar162 h0)) ?_
   exact if_pos (by simp only [Bool.and_eq_true, decide_eq_true_eq]; exact ar161 h0 hl)
 · rw [if_neg h0] at h
   by_cases h1 : (l.length : Int) + i < 0
   · rw [if_pos h1] at h; exact no_ns h
   · rw [if_neg h1] at h
     obtain ⟨hl, _⟩ := List.getElem?_eq_some_iff.mp h
     refine ⟨_, ?_, h, hl⟩
     rw [if_pos (show i < 0 by exact ar160 h0), Int.add_comm]
     exact if_pos (by simp only [Bool.and_eq_true, decide_eq_true_eq]; exact ar159 h1 h0)
theorem RdL.get {ω : Own} : ∀ {xs : List HV} {vs : List Value}, RdL ω xs vs -> ∀ {k : Nat} {c : HV}, xs[k]? = some c -> ∃ v, vs[k]? = some v /\ Rd ω c v := by
 intro xs0
 induction xs0 with
 | nil =>
  exact @fun _ _ k c h => by simp at h
 | cons x xs ih =>
  exact @fun vs r k c h => by
   simp only [RdL] at r
   (refine o_eeaa r fun v q z2 h1 h2 => ?_; clear r; refine rr z2 ?_)
   induction k using Nat.casesOn with
   | zero => simp at h; subst h; exact (i_ea v rfl h1)
   | succ k => exact ih h2 h
theorem RdL.append {ω : Own} : ∀ {xs ys : List HV} {vs ws : List Value}, RdL ω xs vs -> RdL ω ys ws -> RdL ω (xs ++ ys) (vs ++ ws) := by
 intro xs0
 induction xs0 with
 | nil =>
  exact @fun _ _ _ r q => by simp only [RdL] at r; subst r; exact q
 | cons x xs ih =>
  exact @fun ys vs ws r q => by
   simp only [RdL] at r
   (refine o_eeaa r fun v l z8 h1 h2 => ?_; clear r; subst z8)
   exact (i_eeaa v (l ++ ws) rfl h1 (ih h2 q))
theorem RdL.drop {ω : Own} : ∀ {xs : List HV} {vs : List Value} (_ : RdL ω xs vs) (k : Nat), RdL ω (xs.drop k) (vs.drop k)
 | _, _, r, 0 => r
 | [], _, r, k + 1 => by simp only [RdL] at r; subst r; rfl
 | x :: xs, vs, r, k + 1 => by
  simp only [RdL] at r
  (refine o_eeaa r fun v l z14 h1 h2 => ?_; clear r; subst z14)
  exact RdL.drop h2 k
theorem RdL.take {ω : Own} : ∀ {xs : List HV} {vs : List Value} (_ : RdL ω xs vs) (k : Nat), RdL ω (xs.take k) (vs.take k)
 | _, _, _, 0 => by exact rfl
 | [], _, r, k + 1 => by simp only [RdL] at r; subst r; exact rfl
 | x :: xs, vs, r, k + 1 => by
  simp only [RdL] at r
  (refine o_eeaa r fun v l z20 h1 h2 => ?_; clear r; subst z20)
  exact (i_eeaa v _ rfl h1 (RdL.take h2 k))
theorem RdL.slc {ω : Own} {xs : List HV} {vs : List Value} (r : RdL ω xs vs) (lo hi : Option Int) : RdL ω (slc xs lo hi) (slc vs lo hi) := by
 unfold Mine.slc
 refine rr r.length ?_
 exact (r.drop _).take _
theorem pick_slc (vs : List Value) (lo hi : Option Int) : slicePick vs.toArray lo hi none = (slc vs lo hi).toArray := by
 simp only [slicePick_plain]
 rfl
section
variable {prog : Program} {w : World} {A : Around} {E : Value -> Shared -> Prop} {B0 : Heap} {os : OsState} {gs : Array GenState} {ω : Own} {s : Shared} {σ : St} {K : KV}
theorem post_tok {v : Value} {h : HV} (S : MS B0 os ω gs s) (R : RelS ω σ) (r : Rd ω h v) (k : K h σ) (t : Nat) : PostV B0 os gs ω K v { s with toks := t } :=
 ⟨h, ω, σ, .refl _, S.toks t, R, r, k⟩
theorem post_now {v : Value} {h : HV} (S : MS B0 os ω gs s) (R : RelS ω σ) (r : Rd ω h v) (k : K h σ) : PostV B0 os gs ω K v s := ⟨h, ω, σ, .refl _, S, R, r, k⟩
theorem post_keep {v : Value} {h : HV} {h' : Heap} (S : MS B0 os ω gs s) (R : RelS ω σ) (r : Rd ω h v) (k : K h σ) (hk : ∀ b o, s.heap.get? b = some o -> h'.get? b = some o) (t : Nat) : PostV B0 os gs ω K v { s with heap := h', toks := t } :=
 ⟨h, ω, σ, .refl _, S.keeps hk t, R, r, k⟩
theorem post_push {o : Obj} {h : HV} (S : MS B0 os ω gs s) (R : RelS ω σ) (hf : o.isFreed = false) (r : Rd (ω.set s.heap.objs.size (.fz o)) h (.ref s.heap.objs.size)) (k : K h σ) (t : Nat) :
 PostV B0 os gs ω K (.ref s.heap.objs.size) { s with heap := s.heap.push o, toks := t } :=
 ⟨h, _, σ, Le.new _ S.unused, (S.push o (m := .fz o) (Heap.get?_push_size _ hf)).toks t, R.new S.unused, r, k⟩
theorem post_list {xs : List HV} {vs : List Value} {n : Nat} (S : MS B0 os ω gs s) (R : RelS ω σ) (hz : xs.length <= sizeLine) (r : RdL ω xs vs) (k : K (.list xs) σ) (t : Nat) :
 PostV B0 os gs ω K (.ref s.heap.objs.size) { s with heap := s.heap.push { cls := .type "list", data := .seq vs.toArray n }, toks := t } :=
 post_push S R rfl (by exact (i_ae hz _ ⟨_, vs, n, rfl, Own.set_self .., rfl, rfl, r.mono (Le.new _ S.unused)⟩)) k t
theorem post_tup {xs : List HV} {vs : List Value} {n : Nat} (S : MS B0 os ω gs s) (R : RelS ω σ) (hz : xs.length <= sizeLine) (r : RdL ω xs vs) (k : K (.tup xs) σ) (t : Nat) :
 PostV B0 os gs ω K (.ref s.heap.objs.size) { s with heap := s.heap.push { cls := .type "tuple", data := .seq vs.toArray n }, toks := t } :=
 post_push S R rfl (by exact (i_ae hz _ ⟨_, vs, n, rfl, Own.set_self .., rfl, rfl, r.mono (Le.new _ S.unused)⟩)) k t
theorem lst_of_fz {a : Addr} {o : Obj} {vs : List Value} {n : Nat} (S : MS B0 os ω gs s) (e : ω a = some (.fz o)) (hc : o.cls = .type "list") (hd : o.data = .seq vs.toArray n) : s.heap.IsList a vs.toArray :=
 (i_eaa o (S.hold _ _ e) hc ⟨n, hd⟩)
theorem tup_of_fz {a : Addr} {o : Obj} {vs : List Value} {n : Nat} (S : MS B0 os ω gs s) (e : ω a = some (.fz o)) (hc : o.cls = .type "tuple") (hd : o.data = .seq vs.toArray n) : PyProof.Rows.IsTup s.heap a vs.toArray :=
 (i_eaa o (S.hold _ _ e) hc ⟨n, hd⟩)
theorem list_in {xs : List HV} {v : Value} (S : MS B0 os ω gs s) (r : Rd ω (.list xs) v) : xs.length <= sizeLine /\ ∃ a vs, v = .ref a /\ s.heap.IsList a vs.toArray /\ RdL ω xs vs := by
 simp only [Rd] at r
 refine o_aeeeeaaaa r fun hz a o vs n h1 h2 h3 h4 h5 => ?_
 exact (i_aeea hz a vs h1 ⟨lst_of_fz S h2 h3 h4, h5⟩)
theorem tup_in {xs : List HV} {v : Value} (S : MS B0 os ω gs s) (r : Rd ω (.tup xs) v) : xs.length <= sizeLine /\ ∃ a vs, v = .ref a /\ PyProof.Rows.IsTup s.heap a vs.toArray /\ RdL ω xs vs := by
 simp only [Rd] at r
 refine o_aeeeeaaaa r fun hz a o vs n h1 h2 h3 h4 h5 => ?_
 exact (i_aeea hz a vs h1 ⟨tup_of_fz S h2 h3 h4, h5⟩)
theorem obj_in {a : Addr} {xs : List HV} {v : Value} (S : MS B0 os ω gs s) (R : RelS ω σ) (r : Rd ω (.obj a) v) (e : σ a = some xs) : v = .ref a /\ xs.length <= sizeLine /\ ∃ vs, ω a = some (.lst vs) /\ s.heap.IsList a vs.toArray /\ RdL ω xs vs := by
 simp only [Rd] at r
 refine o_aea (R a xs e) fun hz vs h1 h2 => ?_
 refine o_e (S.hold _ _ h1) fun n ho => ?_
 exact (i_aaea r hz vs h1 ⟨(i_eaa _ ho rfl ⟨n, rfl⟩), h2⟩)
theorem bits_small {i : Int} (h : i.natAbs < 2 ^ 62) : Builtin.Int.intBits i <= 64 := PySem.intBits_le_64 (ar363 h) (ar362 h)
theorem log2_small {j : Int} (h : j.natAbs < 2 ^ 62) : j.natAbs.log2 < 9000 := by
 by_cases z : j.natAbs = 0
 · refine rr z ?_; decide
 · exact Nat.lt_trans ((Nat.log2_lt z).mpr h) (by decide)
theorem pow_small {i j : Int} (h : i.natAbs < 1000) (h0 : 0 <= j) (h1 : j < 1000) : (Builtin.Int.intBits i : Int) * j <= 2 ^ 27 := by
 have a := bits_small (i := i) (ar364 h)
 exact Int.le_trans (Int.mul_le_mul (Int.ofNat_le.mpr a) (Int.le_of_lt h1) h0 (by decide)) (by decide)
theorem line_is : sizeLine = 16777216 := by decide
theorem rd_int {ω : Own} {i : Int} {t : Tok} : Rd ω (.int i) (.int i t) := ⟨t, rfl⟩
theorem rd_str {ω : Own} {l : List Nat} {t : Tok} (h : l.length <= sizeLine) : Rd ω (.str l) (.str ⟨l.toArray⟩ t) := (i_ae h t rfl)
theorem rd_bool {ω : Own} {b : Bool} : Rd ω (.bool b) (.bool b) := rfl
end
noncomputable def binH (op : Operator) (a b : HV) (σ : St) (K : KV) : Prop := ∀ ⦃prog : Program⦄ ⦃w : World⦄ ⦃B0 : Heap⦄ ⦃os : OsState⦄ ⦃gs : Array GenState⦄ (A : Around) (E : Value -> Shared -> Prop) (ω : Own) (s : Shared) (va vb : Value), MS B0 os ω gs s -> RelS ω σ -> Rd ω a va -> Rd ω b vb ->
 wpAny (model prog w) A (binaryOp op va vb) (PostV B0 os gs ω K) E s
section
variable {σ : St} {K : KV}
theorem b_add {i j : Int} (h : K (.int (i + j)) σ) : binH .Add (.int i) (.int j) σ K := fun _ _ _ _ _ A E ω s va vb S R ra rb => by
 obtain ⟨t, rfl⟩ := ra; obtain ⟨u, rfl⟩ := rb
 exact PyProof.Rows.add_int (post_tok S R rd_int h _)
theorem b_sub {i j : Int} (h : K (.int (i - j)) σ) : binH .Sub (.int i) (.int j) σ K := fun _ _ _ _ _ A E ω s va vb S R ra rb => by
 obtain ⟨t, rfl⟩ := ra; obtain ⟨u, rfl⟩ := rb
 exact PyProof.Rows.sub_int (post_tok S R rd_int h _)
theorem b_mul {i j : Int} (hz : i.natAbs < 2 ^ 62) (h : K (.int (i * j)) σ) : binH .Mult (.int i) (.int j) σ K := fun _ _ _ _ _ A E ω s va vb S R ra rb => by
 obtain ⟨t, rfl⟩ := ra; obtain ⟨u, rfl⟩ := rb
 exact PyProof.Rows.mul_int (post_tok S R rd_int h _) (IntMulOk.of_left (bits_small hz))
theorem b_pow {i j : Int} (h1 : 0 <= j /\ j < 1000 /\ i.natAbs < 1000) (h : K (.int (i ^ j.toNat)) σ) : binH .Pow (.int i) (.int j) σ K := fun _ _ _ _ _ A E ω s va vb S R ra rb => by
 obtain ⟨t, rfl⟩ := ra; obtain ⟨u, rfl⟩ := rb
 exact PyProof.Rows.pow_int h1.1 (pow_small h1.2.2 h1.1 h1.2.1) (post_tok S R rd_int h _)
theorem b_mod {i j : Int} (h0 : j ≠ 0) (h : K (.int (i.fmod j)) σ) : binH .Mod (.int i) (.int j) σ K := fun _ _ _ _ _ A E ω s va vb S R ra rb => by
 obtain ⟨t, rfl⟩ := ra; obtain ⟨u, rfl⟩ := rb
 exact PyProof.Rows.mod_int h0 (post_tok S R rd_int h _)
theorem b_div {i j : Int} (h0 : j ≠ 0 /\ i.natAbs < 2 ^ 62 /\ j.natAbs < 2 ^ 62) (h : K (.int (i.fdiv j)) σ) : binH .FloorDiv (.int i) (.int j) σ K := fun _ _ _ _ _ A E ω s va vb S R ra rb => by
 obtain ⟨t, rfl⟩ := ra; obtain ⟨u, rfl⟩ := rb
 exact PyProof.Rows.floordiv_int h0.1 (post_tok S R rd_int h _) (.inl (PyProof.noPylong_of_log2 (log2_small h0.2.2)))
theorem b_str {x y : List Nat} (hz : x.length + y.length <= sizeLine) (h : K (.str (x ++ y)) σ) : binH .Add (.str x) (.str y) σ K := fun _ _ _ _ _ A E ω s va vb S R ra rb => by
 (refine o_ae ra fun _ t z126 => ?_; clear ra; subst z126); (refine o_ae rb fun _ u z122 => ?_; clear rb; subst z122)
 exact PyProof.Rows.add_str (fun t' tk => by refine rr (str_app ..) ?_; exact post_tok S R (rd_str (by simpa using hz)) h _) (by simpa [Str.length] using hz)
theorem b_list {x y : List HV} (hz : x.length + y.length <= sizeLine) (h : K (.list (x ++ y)) σ) : binH .Add (.list x) (.list y) σ K := fun _ _ _ _ _ A E ω s va vb S R ra rb => by
 (refine o_aeeaa (list_in S ra) fun _ a vs z136 hl r1 => ?_; refine rr z136 ?_)
 (refine o_aeeaa (list_in S rb) fun _ b ws z133 hm r2 => ?_; refine rr z133 ?_)
 obtain ⟨⟨cls, dd, data, sl⟩, ho, hc, n, hd⟩ := id hl
 obtain ⟨⟨cls2, dd2, data2, sl2⟩, ho2, hc2, n2, hd2⟩ := id hm
 simp only at hc hd hc2 hd2
 subst hc hd hc2 hd2
 refine PySem.concat_meets (i_ea _ ho rfl) (i_ea _ ho2 rfl) noFill_list_add seq_list_add PySem.F.slot_list_add PySem.F.entry_list_add (PySem.F.args_list_add_2 _ _) (PyProof.Rows.list_addW a b vs.toArray ws.toArray n n2 dd dd2 sl sl2 (by have := r1.length; have := r2.length; simp; exact ar163 hz (by assumption) this)) ⟨ho, ho2, ?_⟩
 refine rr (show vs.toArray ++ ws.toArray = (vs ++ ws).toArray from by simp) ?_
 exact post_list S R (by simpa using hz) (r1.append r2) h _
end
end
set_option maxRecDepth 4000
section
structure Room (n : Nat) (A : Around) : Prop where
 depth : A.depth + n < 1000
 units : A.units + 8 * n + 100 < 9900
 handled : A.handled = none
theorem Room.le {n m : Nat} {A : Around} (r : Room n A) (h : m <= n) : Room m A := ⟨by have := r.depth; exact ar230 this h, by have := r.units; exact ar229 this h, r.handled⟩
theorem Room.deeper {n : Nat} {A : Around} {env : Env} (r : Room (n + 1) A) : Room n (A.deeper env) := ⟨by have := r.depth; show A.depth + 1 + n < 1000; exact ar232 this, by have := r.units; show A.units + 3 + 8 * n + 100 < 9900; exact ar231 this, r.handled⟩
theorem Room.in1 {n : Nat} {A : Around} (r : Room (n + 1) A) : Room n A.in1 := ⟨by have := r.depth; exact Nat.le_of_lt ‹_›, by have := r.units; show A.units + 1 + 8 * n + 100 < 9900; exact ar233 this, r.handled⟩
theorem Room.u64 {n : Nat} {A : Around} (r : Room n A) : A.units + 64 < cLine := by have := r.units; show _ < 9900; exact ar234 this
theorem Room.lim {n : Nat} {A : Around} (r : Room n A) : A.depth < recursionLimit := by have := r.depth; show _ < 1000; exact ar235 this
section
variable {prog : Program} {w : World} {A : Around} {E : Value -> Shared -> Prop} {B0 : Heap} {os : OsState} {gs : Array GenState} {ω : Own} {s : Shared} {σ : St} {K : KV}
mutual
theorem reads_of (S : MS B0 os ω gs s) : ∀ (n : Nat) (h : HV) (v : Value), datN n h = true -> Rd ω h v -> ∃ as, Reads s.heap v (py h) as
 | _, .none, v, _, r => by simp only [Rd] at r; subst r; exact ⟨_, .none⟩
 | _, .bool b, v, _, r => by simp only [Rd] at r; subst r; exact ⟨_, .bool b⟩
 | _, .int i, v, _, r => by simp only [Rd] at r; (refine o_e r fun t z128 => ?_; clear r; subst z128); exact ⟨_, .int i t⟩
 | _, .str l, v, _, r => by simp only [Rd] at r; (refine o_ae r fun _ t z124 => ?_; clear r; subst z124); exact ⟨_, .str _ t⟩
 | n + 1, .list xs, v, d, r => by
  simp only [Rd] at r
  (refine o_aeeeeaaaa r fun hz a o vs k z122 h2 h3 h4 h5 => ?_; clear r; subst z122)
  obtain ⟨as, q⟩ := readsL_of S n xs vs (List.all_eq_true.mp d) h5
  exact ⟨_, .list (S.hold _ _ h2) h3 h4 q⟩
 | n + 1, .tup xs, v, d, r => by
  simp only [Rd] at r
  (refine o_aeeeeaaaa r fun hz a o vs k z120 h2 h3 h4 h5 => ?_; clear r; subst z120)
  obtain ⟨as, q⟩ := readsL_of S n xs vs (List.all_eq_true.mp d) h5
  exact ⟨_, .tuple (S.hold _ _ h2) h3 h4 q⟩
 | 0, .list _, _, d, _ => by exact no_ft ((show false = true from d))
 | 0, .tup _, _, d, _ => by exact no_ft ((show false = true from d))
 | n, .bytes _, _, d, _ => by cases n <;> exact no_ft d
 | n, .val _, _, d, _ => by cases n <;> exact no_ft d
 | n, .obj _, _, d, _ => by cases n <;> exact no_ft d
 | n, .rng _ _, _, d, _ => by cases n <;> exact no_ft d
 | n, .bm _, _, d, _ => by cases n <;> exact no_ft d
theorem readsL_of (S : MS B0 os ω gs s) : ∀ (n : Nat) (xs : List HV) (vs : List Value), (∀ x ∈ xs, datN n x = true) -> RdL ω xs vs -> ∃ as, ReadsAll s.heap vs (pyL xs) as
 | _, [], vs, _, r => by simp only [RdL] at r; subst r; exact ⟨_, .nil⟩
 | n, x :: xs, vs, d, r => by
  simp only [RdL] at r
  (refine o_eeaa r fun v l z110 h1 h2 => ?_; clear r; subst z110)
  obtain ⟨as, q1⟩ := reads_of S n x v (d x (.head _)) h1
  obtain ⟨bs, q2⟩ := readsL_of S n xs l (fun y hy => d y (.tail _ hy)) h2
  exact ⟨_, .cons q1 q2⟩
end
mutual
theorem lay_of : ∀ (n : Nat) (h : HV), datN n h = true -> (py h).canLay0 = true /\ (py h).depth <= n
 | _, .none, _ | _, .bool _, _ | _, .int _, _ => ⟨rfl, Nat.zero_le _⟩
 | n, .str l, d => ⟨by cases n <;> exact d, Nat.zero_le _⟩
 | n + 1, .list xs, d => by
  refine o_a (layL_of n xs (List.all_eq_true.mp d)) fun h1 h2 => ?_
  exact ⟨h1, Nat.succ_le_succ h2⟩
 | n + 1, .tup xs, d => by
  refine o_a (layL_of n xs (List.all_eq_true.mp d)) fun h1 h2 => ?_
  exact ⟨h1, Nat.succ_le_succ h2⟩
 | 0, .list _, d => by exact no_ft ((show false = true from d))
 | 0, .tup _, d => by exact no_ft ((show false = true from d))
 | n, .bytes _, d => by cases n <;> exact no_ft d
 | n, .val _, d => by cases n <;> exact no_ft d
 | n, .obj _, d => by cases n <;> exact no_ft d
 | n, .rng _ _, d => by cases n <;> exact no_ft d
 | n, .bm _, d => by cases n <;> exact no_ft d
theorem layL_of : ∀ (n : Nat) (xs : List HV), (∀ x ∈ xs, datN n x = true) -> PyData.canLayAll0 (pyL xs) = true /\ PyData.depthAll (pyL xs) <= n
 | n, [], _ => ⟨rfl, Nat.zero_le _⟩
 | n, x :: xs, d => by
  refine o_a (lay_of n x (d x (.head _))) fun h1 h2 => ?_
  refine o_a (layL_of n xs fun y hy => d y (.tail _ hy)) fun h3 h4 => ?_
  exact ⟨(congr (congrArg and h1) h3 :), Nat.max_le.mpr ⟨h2, h4⟩⟩
end
theorem shaped_of {h : HV} (d : datN 8 h = true) : SeqAt.shaped (py h) = true := by
 refine o_a (lay_of 8 h d) fun h1 h2 => ?_
 unfold SeqAt.shaped
 (refine rr h1 ?_; refine rr (Bool.true_and ..) ?_)
 exact decide_eq_true (Nat.le_trans h2 (by decide))
theorem strs_are : ∀ {ys : List HV} {l : List (List Nat)} {vs : List Value}, allTxt ys = some l -> RdL ω ys vs -> PyProof.Rows.StrsAre vs (l.map fun x => ⟨x.toArray⟩) := by
 intro xs0
 induction xs0 with
 | nil =>
  exact @fun l vs h r => by
   simp only [RdL] at r; subst r
   (replace h := Option.some.inj h; subst h)
   exact .nil
 | cons y ys ih =>
  exact @fun l vs h r => by
   induction y using HV.casesOn with
   | str x =>
     simp only [RdL] at r
     (refine o_eeaa r fun v q z152 h1 h2 => ?_; clear r; subst z152)
     simp only [Rd] at h1
     (refine o_ae h1 fun _ t z148 => ?_; clear h1; refine rr z148 ?_)
     replace h := Option.map_eq_some_iff.mp h
     (refine o_ea h fun m hm z144 => ?_; clear h; subst z144)
     exact .cons _ t (ih hm h2)
   | _ => exact no_ns h
theorem any_contains (l : List (List Nat)) (x : List Nat) : ((l.map fun x => (⟨x.toArray⟩ : Str)).any (· == (⟨x.toArray⟩ : Str))) = l.contains x := by
 induction l with
 | nil => rfl
 | cons y l ih =>
  (refine rr List.map_cons ?_; refine rr List.any_cons ?_; refine rr ih ?_; refine rr List.contains_cons ?_)
  congr 1
  rw [Bool.eq_iff_iff]
  simp only [beq_iff_eq]
  constructor
  · intro h; have := congrArg (fun s : Str => s.cps.toList) h; simpa using this.symm
  · intro h; exact rr h rfl
theorem str_beq (x y : List Nat) : ((⟨x.toArray⟩ : Str) == ⟨y.toArray⟩) = (x == y) := by
 rw [Bool.eq_iff_iff]
 simp only [beq_iff_eq]
 constructor
 · intro h; have := congrArg (fun s : Str => s.cps.toList) h; simpa using this
 · intro h; exact rr h rfl
theorem tru_ok {h : HV} {v : Value} {b : Bool} {Q : Bool -> Shared -> Prop} (S : MS B0 os ω gs s) (R : RelS ω σ) (r : Rd ω h v) (e : truH h σ = some b) (H : ∀ t, Q b { s with toks := t }) :
 wpAny (model prog w) A (truthy v) Q E s := by
 have Hs : Q b s := H s.toks
 have ln := line_is
 cases h with
 | none => cases r; cases e; exact fun _ _ _ => Hs
 | bool c => cases r; cases e; exact wpAny_truthy_bool Hs
 | int i => obtain ⟨t, rfl⟩ := r; cases e; exact PyProof.Rows.truthy_int Hs
 | str l =>
  obtain ⟨hz, t, rfl⟩ := r; cases e
  refine PySem.P.truthy_str (by simp [Str.length]; exact ar13 ln hz) ?_
  have : (((⟨l.toArray⟩ : Str).length : Int) != 0) = !l.isEmpty := by cases l <;> simp [Str.length]; exact ar55
  rw [this]; exact H _
 | bytes l =>
  obtain ⟨hz, t, rfl⟩ := r; cases e
  refine PySem.W.truthy_bytes (by simp; exact ar28 ln hz) ?_
  have : ((((⟨l⟩ : Array UInt8).size : Nat) : Int) != 0) = !l.isEmpty := by cases l <;> simp; exact ar55
  rw [this]; exact H _
 | list xs =>
  obtain ⟨hz, a, vs, rfl, hl, r2⟩ := list_in S r
  cases e
  have hl2 := r2.length
  refine wpAny_truthy_list hl (by simp; lia) ?_
  have : (!(vs.toArray).isEmpty) = !xs.isEmpty := by cases vs <;> cases xs <;> simp at hl2 ⊢
  rw [this]; exact H _
 | tup xs =>
  obtain ⟨hz, a, vs, rfl, hl, r2⟩ := tup_in S r
  cases e
  have hl2 := r2.length
  refine PyProof.Rows.truthy_tuple hl (by simp; lia) ?_
  have : (!(vs.toArray).isEmpty) = !xs.isEmpty := by cases vs <;> cases xs <;> simp at hl2 ⊢
  rw [this]; exact H _
 | obj a =>
  obtain ⟨xs, e1, rfl⟩ := Option.map_eq_some_iff.mp (show (σ a).map _ = some b from e)
  (refine o_aaeaa (obj_in S R r e1) fun z203 hz vs h1 hl r2 => ?_; subst z203)
  have hl2 := r2.length
  refine wpAny_truthy_list hl (by simp; lia) ?_
  have : (!(vs.toArray).isEmpty) = !xs.isEmpty := by cases vs <;> cases xs <;> simp at hl2 ⊢
  rw [this]; exact H _
 | val _ => exact no_ns ((show (none : Option Bool) = some b from e))
 | rng _ _ => exact no_ns ((show (none : Option Bool) = some b from e))
 | bm _ => exact no_ns ((show (none : Option Bool) = some b from e))
end
noncomputable def cmpH (op : CmpOp) (a b : HV) (σ : St) (K : KV) : Prop := ∀ ⦃prog : Program⦄ ⦃w : World⦄ ⦃B0 : Heap⦄ ⦃os : OsState⦄ ⦃gs : Array GenState⦄ ⦃n : Nat⦄ (A : Around) (E : Value -> Shared -> Prop) (ω : Own) (s : Shared) (va vb : Value), Room n A -> MS B0 os ω gs s -> RelS ω σ -> Rd ω a va -> Rd ω b vb ->
 wpAny (model prog w) A (compareOp op va vb) (PostV B0 os gs ω K) E s
noncomputable def unH (op : UnaryOp) (a : HV) (σ : St) (K : KV) : Prop := ∀ ⦃prog : Program⦄ ⦃w : World⦄ ⦃B0 : Heap⦄ ⦃os : OsState⦄ ⦃gs : Array GenState⦄ (A : Around) (E : Value -> Shared -> Prop) (ω : Own) (s : Shared) (va : Value), MS B0 os ω gs s -> RelS ω σ -> Rd ω a va ->
 wpAny (model prog w) A (unaryOp op va) (PostV B0 os gs ω K) E s
section
variable {σ : St} {K : KV}
theorem c_eqi {i j : Int} (h : K (.bool (i == j)) σ) : cmpH .Eq (.int i) (.int j) σ K := fun _ _ _ _ _ _ A E ω s va vb Rm S R ra rb => by
 obtain ⟨t, rfl⟩ := ra; obtain ⟨u, rfl⟩ := rb
 exact PyProof.Rows.eq_int (post_now S R rd_bool h)
theorem c_nei {i j : Int} (h : K (.bool (i != j)) σ) : cmpH .NotEq (.int i) (.int j) σ K := fun _ _ _ _ _ _ A E ω s va vb Rm S R ra rb => by
 obtain ⟨t, rfl⟩ := ra; obtain ⟨u, rfl⟩ := rb
 exact PyProof.Rows.ne_int (post_now S R rd_bool h)
theorem c_lt {i j : Int} (h : K (.bool (decide (i < j))) σ) : cmpH .Lt (.int i) (.int j) σ K := fun _ _ _ _ _ _ A E ω s va vb Rm S R ra rb => by
 obtain ⟨t, rfl⟩ := ra; obtain ⟨u, rfl⟩ := rb
 exact PyProof.Rows.lt_int (post_now S R rd_bool h)
theorem c_le {i j : Int} (h : K (.bool (decide (i <= j))) σ) : cmpH .LtE (.int i) (.int j) σ K := fun _ _ _ _ _ _ A E ω s va vb Rm S R ra rb => by
 obtain ⟨t, rfl⟩ := ra; obtain ⟨u, rfl⟩ := rb
 exact PyProof.Rows.le_int (post_now S R rd_bool h)
theorem c_gt {i j : Int} (h : K (.bool (decide (j < i))) σ) : cmpH .Gt (.int i) (.int j) σ K := fun _ _ _ _ _ _ A E ω s va vb Rm S R ra rb => by
 obtain ⟨t, rfl⟩ := ra; obtain ⟨u, rfl⟩ := rb
 exact PyProof.Rows.gt_int (post_now S R rd_bool h)
theorem c_ge {i j : Int} (h : K (.bool (decide (j <= i))) σ) : cmpH .GtE (.int i) (.int j) σ K := fun _ _ _ _ _ _ A E ω s va vb Rm S R ra rb => by
 obtain ⟨t, rfl⟩ := ra; obtain ⟨u, rfl⟩ := rb
 exact PyProof.Rows.ge_int (post_now S R rd_bool h)
theorem c_eqs {i j : List Nat} (h : K (.bool (i == j)) σ) : cmpH .Eq (.str i) (.str j) σ K := fun _ _ _ _ _ _ A E ω s va vb Rm S R ra rb => by
 (refine o_ae ra fun _ t z124 => ?_; clear ra; subst z124); (refine o_ae rb fun _ u z120 => ?_; clear rb; subst z120)
 exact PyProof.Rows.eq_str (post_now S R (by exact rr (str_beq ..) rfl) h)
theorem c_nes {i j : List Nat} (h : K (.bool (i != j)) σ) : cmpH .NotEq (.str i) (.str j) σ K := fun _ _ _ _ _ _ A E ω s va vb Rm S R ra rb => by
 (refine o_ae ra fun _ t z135 => ?_; clear ra; subst z135); (refine o_ae rb fun _ u z131 => ?_; clear rb; subst z131)
 exact PyProof.Rows.ne_str (post_now S R (by simp only [Rd, bne]; exact rr (str_beq ..) rfl) h)
theorem c_notin2 {x a b : List Nat} (h : K (.bool (!([a, b].contains x))) σ) : cmpH .NotIn (.str x) (.tup [.str a, .str b]) σ K := fun _ _ _ _ _ _ A E ω s va vb Rm S R ra rb => by
 (refine o_ae ra fun _ t z148 => ?_; clear ra; refine rr z148 ?_)
 (refine o_aeeaa (tup_in S rb) fun _ d vs z144 ht r2 => ?_; refine rr z144 ?_)
 exact PyProof.Rows.notin_tuple_strs ht (strs_are (l := [a, b]) rfl r2) (post_now S R (by exact rr (any_contains ..) rfl) h)
theorem c_eql {a b : List HV} (h1 : datN 8 (.list a) = true) (h2 : datN 8 (.list b) = true) (h : K (.bool (eqD (.list a) (.list b))) σ) : cmpH .Eq (.list a) (.list b) σ K := fun _ _ _ _ _ _ A E ω s va vb Rm S R ra rb => by
 obtain ⟨as, q1⟩ := reads_of S 8 _ _ h1 ra
 obtain ⟨bs, q2⟩ := reads_of S 8 _ _ h2 rb
 exact PyProof.Rows.eq_dataH q1 q2 (shaped_of h1) (shaped_of h2) Rm.u64 (post_now S R rd_bool h)
theorem c_nel {a b : List HV} (h1 : datN 8 (.list a) = true) (h2 : datN 8 (.list b) = true) (h : K (.bool (!eqD (.list a) (.list b))) σ) : cmpH .NotEq (.list a) (.list b) σ K := fun _ _ _ _ _ _ A E ω s va vb Rm S R ra rb => by
 obtain ⟨as, q1⟩ := reads_of S 8 _ _ h1 ra
 obtain ⟨bs, q2⟩ := reads_of S 8 _ _ h2 rb
 exact PyProof.Rows.ne_dataH q1 q2 (shaped_of h1) (shaped_of h2) Rm.u64 (post_now S R rd_bool h)
theorem c_is_ref {a b : Addr} (e : a = b) (h : K (.bool true) σ) : cmpH .Is (.val (.ref a)) (.val (.ref b)) σ K := fun _ _ _ _ _ _ A E ω s va vb Rm S R ra rb => by
 subst ra; subst rb; subst e
 exact wpAny_is_ref_self (post_now S R rd_bool h)
theorem c_isn_ref {a b : Addr} (e : a = b) (h : K (.bool false) σ) : cmpH .IsNot (.val (.ref a)) (.val (.ref b)) σ K := fun _ _ _ _ _ _ A E ω s va vb Rm S R ra rb => by
 subst ra; subst rb; subst e
 exact wpAny_isNot_ref_self (post_now S R rd_bool h)
theorem c_isn_str {l : List Nat} {b : Addr} (h : K (.bool true) σ) : cmpH .IsNot (.str l) (.val (.ref b)) σ K := fun _ _ _ _ _ _ A E ω s va vb Rm S R ra rb => by
 (refine o_ae ra fun _ t z160 => ?_; clear ra; subst z160); subst rb
 exact wpAny_isNot_other rfl (fun e => nomatch e) (post_now S R rd_bool h)
theorem u_neg {i : Int} (h : K (.int (-i)) σ) : unH .USub (.int i) σ K := fun _ _ _ _ _ A E ω s va S R ra => by
 (refine o_e ra fun t z164 => ?_; clear ra; refine rr z164 ?_)
 exact PyProof.Rows.neg_int (post_tok S R rd_int h _)
end
end
set_option maxRecDepth 4000
section
section
variable {prog : Program} {w : World} {A : Around} {E : Value -> Shared -> Prop} {B0 : Heap} {os : OsState} {gs : Array GenState} {ω : Own} {s : Shared} {σ : St} {K : KV}
theorem sub_ops (slice : Expr) (o i : Value) : ∃ ops, subscripted slice false o i = operate ops (getItem o i) := by
 cases slice with
 | Slice lo hi st p => cases lo <;> cases hi <;> cases st <;> exact ⟨_, rfl⟩
 | _ => exact ⟨_, rfl⟩
theorem list_item {l : Addr} {vs : List Value} {i : Int} {u : Tok} {k : Nat} {v : Value} {Q : Value -> Shared -> Prop} (hl : s.heap.IsList l vs.toArray) (hz : i.natAbs < 2 ^ 62) (hk : seqIndex? i vs.length = some k) (hv : vs[k]? = some v) (h : Q v s) :
 wpAny (model prog w) A (getItem (.ref l) (.int i u)) Q E s := by
 unfold seqIndex? at hk
 by_cases h0 : i < 0
 · rw [if_pos h0] at hk
   simp only [Bool.and_eq_true, decide_eq_true_eq] at hk
   split at hk
   · (replace hk := Option.some.inj hk; subst hk)
     rename_i hc
     exact wpAny_getItem_list_neg hl h0 (by simp; exact ar237 hc) (ar344 hz) (by simpa using hv) h
   · exact no_ns hk
 · rw [if_neg h0] at hk
   dsimp only [Bool.and_eq_true, decide_eq_true_eq] at hk
   split at hk
   · (replace hk := Option.some.inj hk; subst hk)
     exact wpAny_getItem_list hl (ar236 h0) (ar343 hz) (by simpa using hv) h
   · exact no_ns hk
theorem clip_le (n : Nat) (i : Int) : clipAt n i <= n := by unfold clipAt; exact ar238
theorem pick_str (l : List Nat) (lo hi : Option Int) : ((Builtin.Str.strSliceIndices lo hi 1 l.length).filterMap (l.toArray[·]?)) = slc l lo hi := by
 have e : Builtin.Str.strSliceIndices lo hi 1 l.length = sliceRange (sliceBounds lo hi none l.length).1 (sliceBounds lo hi none l.length).2.1 1 := by
  cases lo <;> cases hi <;> rfl
 rw [e, sliceBounds_plain]
 simp only [sliceRange_one, pick_run]
 unfold slc; simp
end
noncomputable def subH (o i : HV) (σ : St) (K : KV) : Prop := ∀ ⦃prog : Program⦄ ⦃w : World⦄ ⦃B0 : Heap⦄ ⦃os : OsState⦄ ⦃gs : Array GenState⦄ (A : Around) (E : Value -> Shared -> Prop) (ω : Own) (s : Shared) (value slice : Expr) (vo vi : Value), MS B0 os ω gs s -> RelS ω σ -> Rd ω o vo -> Rd ω i vi ->
 wpAny (model prog w) A (PyProof.Rows.subscriptTail value slice vo vi) (PostV B0 os gs ω K) E s
noncomputable def slH (o : HV) (lo hi : Option Int) (σ : St) (K : KV) : Prop := ∀ ⦃prog : Program⦄ ⦃w : World⦄ ⦃B0 : Heap⦄ ⦃os : OsState⦄ ⦃gs : Array GenState⦄ (A : Around) (E : Value -> Shared -> Prop) (ω : Own) (s : Shared) (value : Expr) (p : Pos) (el eh : Option Expr) (vo vl vh : Value), MS B0 os ω gs s -> RelS ω σ -> Rd ω o vo -> IsPart vl lo -> IsPart vh hi ->
 wpAny (model prog w) A (PyProof.Rows.subscriptTail value (.Slice el eh none p) vo (.ref s.heap.objs.size)) (PostV B0 os gs ω K) E { s with heap := s.heap.push { cls := .type "slice", data := .fields #[vl, vh, .none] } }
section
variable {σ : St} {K : KV}
theorem s_str {l : List Nat} {i : Int} {c : Nat} (hz : i.natAbs < 2 ^ 62) (e : at? l i = some c) (h : K (.str [c]) σ) : subH (.str l) (.int i) σ K := fun prog w B0 os gs A E ω s value slice vo vi S R ra rb => by
 obtain ⟨ops, hops⟩ := sub_ops slice vo vi
 obtain ⟨hl, t, rfl⟩ := ra; obtain ⟨u, rfl⟩ := rb
 obtain ⟨k, hk, hx, hkl⟩ := at_seqIndex e
 refine PyProof.Rows.tail_any (typeIs_str s _ t) PySem.F.slot_str_getitem.lookup (PyProof.Rows.getItem_str (c := c) ?_ ?_ (post_tok S R ?_ h _)) hops
 · simp only [Bool.or_eq_false_iff, decide_eq_false_iff_not]; exact ar366 hz
 · simp only [Str.length, List.size_toArray, hk, Option.bind_some]; simpa using hx
 · simp only [Rd]; exact ⟨by rw [line_is]; simp, _, rfl⟩
theorem s_list {l : List HV} {i : Int} {c : HV} (hz : i.natAbs < 2 ^ 62) (e : at? l i = some c) (h : K c σ) : subH (.list l) (.int i) σ K := fun prog w B0 os gs A E ω s value slice vo vi S R ra rb => by
 obtain ⟨ops, hops⟩ := sub_ops slice vo vi
 obtain ⟨u, rfl⟩ := rb
 obtain ⟨_, a, vs, rfl, hl, r2⟩ := list_in S ra
 obtain ⟨k, hk, hx, hkl⟩ := at_seqIndex e
 obtain ⟨v, hv, rv⟩ := r2.get hx
 refine PyProof.Rows.tail_any hl.typeIs slot_list_getitem.lookup (list_item hl hz (by rw [r2.length]; exact hk) hv (post_now S R rv h)) hops
theorem s_obj {a : Addr} {l : List HV} {i : Int} {c : HV} (hz : i.natAbs < 2 ^ 62) (e1 : σ a = some l) (e : at? l i = some c) (h : K c σ) : subH (.obj a) (.int i) σ K := fun prog w B0 os gs A E ω s value slice vo vi S R ra rb => by
 obtain ⟨ops, hops⟩ := sub_ops slice vo vi
 obtain ⟨u, rfl⟩ := rb
 obtain ⟨rfl, _, vs, _, hl, r2⟩ := obj_in S R ra e1
 obtain ⟨k, hk, hx, hkl⟩ := at_seqIndex e
 obtain ⟨v, hv, rv⟩ := r2.get hx
 refine PyProof.Rows.tail_any hl.typeIs slot_list_getitem.lookup (list_item hl hz (by rw [r2.length]; exact hk) hv (post_now S R rv h)) hops
theorem s_tup {l : List HV} {i : Int} {c : HV} (hz : i.natAbs < 2 ^ 62) (e : at? l i = some c) (h : K c σ) : subH (.tup l) (.int i) σ K := fun prog w B0 os gs A E ω s value slice vo vi S R ra rb => by
 obtain ⟨ops, hops⟩ := sub_ops slice vo vi
 obtain ⟨u, rfl⟩ := rb
 obtain ⟨_, a, vs, rfl, hl, r2⟩ := tup_in S ra
 obtain ⟨k, hk, hx, hkl⟩ := at_seqIndex e
 obtain ⟨v, hv, rv⟩ := r2.get hx
 refine PyProof.Rows.tail_any hl.typeIs PyProof.Rows.slot_tuple_getitem.lookup (PyProof.Rows.getItem_tuple hl (ar344 hz) (ar343 hz) (by simpa [r2.length] using hk) (by simpa using hv) (post_now S R rv h)) hops
theorem s_bytes {l : List UInt8} {i : Int} {c : UInt8} (hz : 0 <= i) (e : l[i.toNat]? = some c) (h : K (.int c.toNat) σ) : subH (.bytes l) (.int i) σ K := fun _ _ _ _ _ A E ω s value slice vo vi S R ra rb => by
 obtain ⟨ops, hops⟩ := sub_ops slice vo vi
 obtain ⟨hl, t, rfl⟩ := ra; obtain ⟨u, rfl⟩ := rb
 have hlt := (List.getElem?_eq_some_iff.mp e).1
 have hg : l.getD i.toNat 0 = c := by rw [List.getD_eq_getElem?_getD, e]; rfl
 refine PyProof.Rows.tail_any (typeIs_bytes s _ t) FB.slot_bytes_getitem.lookup (getItem_bytes (by have := line_is; exact ar28 this hl) hz (ar239 hlt) (post_tok S R ?_ h _)) hops
 rw [hg]; simp [Rd]
theorem sl_pre {prog : Program} {w : World} {B0 : Heap} {os : OsState} {gs : Array GenState} {A : Around} {E : Value -> Shared -> Prop} {ω : Own} {s : Shared} {vl vh : Value} {X : Sem Value} (S : MS B0 os ω gs s) (R : RelS ω σ)
 (H : ∀ ω', Le ω ω' -> MS B0 os ω' gs { s with heap := s.heap.push { cls := .type "slice", data := .fields #[vl, vh, .none] } } -> RelS ω' σ -> (s.heap.push { cls := .type "slice", data := .fields #[vl, vh, .none] }).IsSliceOf s.heap.objs.size vl vh .none ->
  wpAny (model prog w) A X (PostV B0 os gs ω' K) E { s with heap := s.heap.push { cls := .type "slice", data := .fields #[vl, vh, .none] } }) :
 wpAny (model prog w) A X (PostV B0 os gs ω K) E { s with heap := s.heap.push { cls := .type "slice", data := .fields #[vl, vh, .none] } } :=
 wpAny_mono (H _ (Le.new _ S.unused) (S.push _ (m := .fz { cls := .type "slice", data := .fields #[vl, vh, .none] }) (Heap.get?_push_size _ rfl)) (R.new S.unused) (Heap.IsSliceOf.new ..))
  (fun v s' ⟨h, ω', σ', a, b, c, d, e⟩ => ⟨h, ω', σ', (Le.new _ S.unused).trans a, b, c, d, e⟩) fun _ _ h => h
theorem s_slstr {l : List Nat} {lo hi : Option Int} (h : K (.str (slc l lo hi)) σ) : slH (.str l) lo hi σ K := fun prog w B0 os gs A E ω s value p el eh vo vl vh S R ra pl ph => by
  obtain ⟨ops, hops⟩ := sub_ops (.Slice el eh none p) vo (.ref s.heap.objs.size)
  refine sl_pre S R fun ω' l' S' R' hsl => ?_
  have ra' := ra.mono l'
  obtain ⟨hl, t, rfl⟩ := ra'
  obtain ⟨lo', rfl, rfl⟩ : ∃ lo' : Option (Int × Tok), vl = partValue lo' /\ lo = lo'.map (·.1) := by
    cases pl with
    | none => exact ⟨none, rfl, rfl⟩
    | int i t => exact ⟨some (i, t), rfl, rfl⟩
  obtain ⟨hi', rfl, rfl⟩ : ∃ lo' : Option (Int × Tok), vh = partValue lo' /\ hi = lo'.map (·.1) := by
    cases ph with
    | none => exact ⟨none, rfl, rfl⟩
    | int i t => exact ⟨some (i, t), rfl, rfl⟩
  refine PyProof.Rows.tail_any (typeIs_str _ _ t) PySem.F.slot_str_getitem.lookup (wpAny_getItem_str_slice (l := lo') (u := hi') (st := none) ⟨_, Heap.get?_push_size _ rfl, rfl, rfl⟩ rfl ?_) hops
  unfold sliceMade slicePicked
  split
  · rename_i hq
    simp only [Option.map_none, Option.getD_none, beq_self_eq_true, Bool.true_and, beq_iff_eq] at hq
    have hw : slc l (lo'.map (·.1)) (hi'.map (·.1)) = l := by
      have h1 := pick_str l (lo'.map (·.1)) (hi'.map (·.1))
      have h2 : (slc l (lo'.map (·.1)) (hi'.map (·.1))).length = l.length := by
        have e : Builtin.Str.strSliceIndices (lo'.map (·.1)) (hi'.map (·.1)) 1 l.length = sliceRange (sliceBounds (lo'.map (·.1)) (hi'.map (·.1)) none l.length).1 (sliceBounds (lo'.map (·.1)) (hi'.map (·.1)) none l.length).2.1 1 := by
          cases lo' <;> cases hi' <;> rfl
        have e2 : (⟨l.toArray⟩ : Str).length = l.length := by simp [Str.length]
        rw [e2, e, sliceBounds_plain] at hq
        simp only [sliceRange_one, List.length_map, List.length_range] at hq
        unfold slc
        rw [List.length_take, List.length_drop]
        have b1 : ∀ x : Option Int, x.elim 0 (clipAt l.length) <= l.length := fun x => by cases x; exact Nat.zero_le _; exact clip_le _ _
        have b2 : ∀ x : Option Int, x.elim l.length (clipAt l.length) <= l.length := fun x => by cases x; exact Nat.le_refl _; exact clip_le _ _
        have := b1 (lo'.map (·.1)); have := b2 (hi'.map (·.1)); exact ar242 hq this
      unfold slc at h2 ⊢
      rw [List.length_take, List.length_drop] at h2
      by_cases z : l.length = 0
      · have : l = [] := List.eq_nil_of_length_eq_zero z; subst this; simp
      · have h3 : (lo'.map (·.1)).elim 0 (clipAt l.length) = 0 := ar241 h2 z
        rw [h3, List.drop_zero, List.take_of_length_le]
        rw [h3] at h2; exact ar240 h2
    exact post_now S' R' (by simp only [Rd]; exact ⟨by rw [hw]; exact hl, t, by rw [hw]⟩) h
  · have e3 : ((Builtin.Str.strSliceIndices (lo'.map (·.1)) (hi'.map (·.1)) 1 (⟨l.toArray⟩ : Str).length).filterMap ((⟨l.toArray⟩ : Str).cps[·]?)) = slc l (lo'.map (·.1)) (hi'.map (·.1)) := by
      have e2 : (⟨l.toArray⟩ : Str).length = l.length := by simp [Str.length]
      rw [e2]; exact pick_str l _ _
    show (Made.str ⟨(List.filterMap _ (Builtin.Str.strSliceIndices _ _ 1 _)).toArray⟩).post _ _
    rw [e3]
    have hle := slc_len l (lo'.map (·.1)) (hi'.map (·.1))
    exact ⟨by simp only [Str.length, List.size_toArray]; exact ar1 hle hl, post_tok S' R' (by simp only [Rd]; exact ⟨by lia, _, rfl⟩) h _⟩
theorem s_sllist {l : List HV} {lo hi : Option Int} (h : K (.list (slc l lo hi)) σ) : slH (.list l) lo hi σ K := fun prog w B0 os gs A E ω s value p el eh vo vl vh S R ra pl ph => by
 obtain ⟨ops, hops⟩ := sub_ops (.Slice el eh none p) vo (.ref s.heap.objs.size)
 refine sl_pre S R fun ω' l' S' R' hsl => ?_
 have ra' := ra.mono l'
 obtain ⟨hz, a, vs, rfl, hl, r2⟩ := list_in S' ra'
 have hle := slc_len l lo hi
 refine PyProof.Rows.tail_any hl.typeIs slot_list_getitem.lookup (wpAny_getItem_list_slice hl hsl pl ph .none (fun e => nomatch e) ?_ (by simp only [List.size_toArray, r2.length]; exact hz)) hops
 rw [pick_slc]
 exact post_list S' R' (ar1 hle hz) (r2.slc lo hi) h _
theorem s_slobj {a : Addr} {l : List HV} {lo hi : Option Int} (e : σ a = some l) (h : K (.list (slc l lo hi)) σ) : slH (.obj a) lo hi σ K := fun prog w B0 os gs A E ω s value p el eh vo vl vh S R ra pl ph => by
 obtain ⟨ops, hops⟩ := sub_ops (.Slice el eh none p) vo (.ref s.heap.objs.size)
 refine sl_pre S R fun ω' l' S' R' hsl => ?_
 have ra' := ra.mono l'
 obtain ⟨rfl, hz, vs, _, hl, r2⟩ := obj_in S' R' ra' e
 have hle := slc_len l lo hi
 refine PyProof.Rows.tail_any hl.typeIs slot_list_getitem.lookup (wpAny_getItem_list_slice hl hsl pl ph .none (fun e => nomatch e) ?_ (by simp only [List.size_toArray, r2.length]; exact hz)) hops
 rw [pick_slc]
 exact post_list S' R' (ar1 hle hz) (r2.slc lo hi) h _
theorem s_slbytes {l : List UInt8} {lo hi : Option Int} (h : K (.bytes (slc l lo hi)) σ) : slH (.bytes l) lo hi σ K := fun prog w B0 os gs A E ω s value p el eh vo vl vh S R ra pl ph => by
 obtain ⟨ops, hops⟩ := sub_ops (.Slice el eh none p) vo (.ref s.heap.objs.size)
 refine sl_pre S R fun ω' l' S' R' hsl => ?_
 have ra' := ra.mono l'
 obtain ⟨hl, t, rfl⟩ := ra'
 have hle := slc_len l lo hi
 have e : KBy.picked ⟨l⟩ lo hi = ⟨slc l lo hi⟩ := by rw [KBc.picked_eq]; rfl
 refine PyProof.Rows.tail_any (typeIs_bytes _ _ t) FB.slot_bytes_getitem.lookup (getItem_meets (typeIs_bytes _ _ _) (by decide) FB.slot_bytes_getitem FB.entry_bytes_getitem (FB.args_bytes_getitem_2 _ _) (KBc.meets_slice2 ⟨l⟩ t _ pl ph)
  ⟨hsl, by rw [e]; show (slc l lo hi).length <= _; lia, fun t' k => ?_⟩) hops
 rw [e]
 exact post_tok S' R' (h := .bytes (slc l lo hi)) (by simp only [Rd]; exact ⟨by lia, t', rfl⟩) h _
end
end
set_option maxRecDepth 4000
section
section
variable {prog : Program} {w : World} {A : Around} {E : Value -> Shared -> Prop} {B0 : Heap} {os : OsState} {gs : Array GenState} {ω : Own} {s : Shared} {σ : St} {K : KV}
theorem RdL.one {ω : Own} {x : HV} {vs : List Value} (r : RdL ω [x] vs) : ∃ v, vs = [v] /\ Rd ω x v := by
 simp only [RdL] at r; (refine o_eeaa r fun v q z175 h z176 => ?_; clear r; subst z175; subst z176); exact (i_ea v rfl h)
theorem RdL.two {ω : Own} {x y : HV} {vs : List Value} (r : RdL ω [x, y] vs) : ∃ v u, vs = [v, u] /\ Rd ω x v /\ Rd ω y u := by
 (refine o_eeaa r fun v q z187 h z188 => ?_; clear r; refine rr z187 ?_; refine o_eeaa z188 fun u q2 z189 h2 z190 => ?_; refine rr z189 ?_; refine rr z190 ?_); exact (i_eeaa v u rfl h h2)
theorem ints_are : ∀ {xs : List HV} {ns : List Int} {vs : List Value}, intsOf xs = some ns -> RdL ω xs vs -> PyProof.Rows.IntsAre vs ns := by
 intro xs0
 induction xs0 with
 | nil =>
  exact @fun ns vs h r => by
   simp only [RdL] at r; subst r
   simp only [intsOf, Option.some.injEq] at h; subst h
   exact .nil
 | cons y ys ih =>
  exact @fun ns vs h r => by
   induction y using HV.casesOn with
   | int i =>
     simp only [RdL] at r
     (refine o_eeaa r fun v q z215 h1 h2 => ?_; clear r; subst z215)
     simp only [Rd] at h1
     (refine o_e h1 fun t z223 => ?_; clear h1; subst z223)
     rw [intsOf, Option.map_eq_some_iff] at h
     (refine o_ea h fun m hm z207 => ?_; clear h; subst z207)
     exact .cons _ t (ih hm h2)
   | _ => simp [intsOf] at h
theorem join_toList (sep : List Nat) : ∀ ts : List (List Nat), (Str.join ⟨sep.toArray⟩ (ts.map fun t => (⟨t.toArray⟩ : Str))) = ⟨(sep.intercalate ts).toArray⟩
 | [] => rfl
 | [x] => by simp [Str.join, List.intercalate]
 | x :: y :: r => by
  have h := join_toList sep (y :: r)
  simp only [List.map_cons, List.map_cons] at *
  show (⟨x.toArray⟩ : Str) ++ ⟨sep.toArray⟩ ++ Str.join ⟨sep.toArray⟩ (_ :: _) = _
  simp only [h, str_app, str_app]
  congr 2
  simp [List.intercalate, List.intersperse]
theorem inter_len (sep : List Nat) : ∀ ts : List (List Nat), (sep.intercalate ts).length <= (ts.map fun t => t.length + sep.length).sum
 | [] => by simp [List.intercalate]
 | [x] => by simp [List.intercalate]
 | x :: y :: r => by
  have h := inter_len sep (y :: r)
  refine rr (show sep.intercalate (x :: y :: r) = x ++ sep ++ sep.intercalate (y :: r) from by simp [List.intercalate, List.intersperse]) ?_
  simp only [List.length_append, List.map_cons, List.sum_cons] at h ⊢
  exact ar243 h
theorem strs_vals : ∀ {ys : List HV} {l : List (List Nat)} {vs : List Value}, allTxt ys = some l -> RdL ω ys vs -> ∃ m : List (Str × Tok), vs = strValues m /\ m.map (·.1) = l.map fun t => (⟨t.toArray⟩ : Str) := by
 intro xs0
 induction xs0 with
 | nil =>
  exact @fun l vs h r => by
   simp only [RdL] at r; refine rr r ?_
   (replace h := Option.some.inj h; subst h)
   exact (i_ea ([]) rfl rfl)
 | cons y ys ih =>
  exact @fun l vs h r => by
   induction y using HV.casesOn with
   | str x =>
     simp only [RdL] at r
     (refine o_eeaa r fun v q z241 h1 h2 => ?_; clear r; refine rr z241 ?_)
     simp only [Rd] at h1
     (refine o_ae h1 fun _ t z237 => ?_; clear h1; refine rr z237 ?_)
     replace h := Option.map_eq_some_iff.mp h
     (refine o_ea h fun m hm z233 => ?_; clear h; subst z233)
     (refine o_ea (ih hm h2) fun k z230 hk => ?_; refine rr z230 ?_)
     exact (i_ea ((⟨x.toArray⟩, t) :: k) rfl (by simp [hk]))
   | _ => exact no_ns h
theorem join_ok {sep : List Nat} {t : Tok} {a : Addr} {ys : List HV} {ts : List (List Nat)} {vs : List Value} (S : MS B0 os ω gs s) (R : RelS ω σ) (hl : s.heap.IsList a vs.toArray) (r : RdL ω ys vs) (e : allTxt ys = some ts)
 (hz : (ts.map (fun t => t.length + sep.length)).sum <= sizeLine) (H : K (.str (sep.intercalate ts)) σ) : wpAny (model prog w) A (call (.builtin "str.join") [.str ⟨sep.toArray⟩ t, .ref a]) (PostV B0 os gs ω K) E s := by
 (refine o_ea (strs_vals e r) fun m z248 hm => ?_; clear r; subst z248)
 have e1 : (m.map (·.1)).toArray.foldl (· + ·.length + (⟨sep.toArray⟩ : Str).length) 0 = (ts.map fun t => t.length + sep.length).sum := by
  have key : ∀ (l : List Str) (n : Nat), l.toArray.foldl (· + ·.length + (⟨sep.toArray⟩ : Str).length) n = n + (l.map fun x => x.length + sep.length).sum := by
   intro l
   induction l with
   | nil => intro n; rfl
   | cons x l ih =>
     intro n
     have := ih (n + x.length + (⟨sep.toArray⟩ : Str).length)
     simp only [List.foldl_toArray', List.foldl_cons, List.map_cons, List.sum_cons, List.size_toArray] at this ⊢
     simp only [this]
     simp [Str.length]; exact ar244
  (refine rr (key ..) ?_; refine rr hm ?_; refine rr (Nat.zero_add ..) ?_; refine rr List.map_map ?_)
  congr 1
 refine call_meets PySem.F.slot_str_join (typeIs_str s _ t) PySem.F.entry_str_join (PySem.F.args_str_join_2 _ _) (meets_str_join_list _ t a m (show Builtin.Str.tooLong ((m.map (·.1)).toArray.foldl (· + ·.length + (⟨sep.toArray⟩ : Str).length) 0) = false from by
  refine rr e1 ?_; exact decide_eq_false (ar56 hz))) ⟨hl, post_join m ⟨?_, fun t' k => ?_⟩⟩
 · refine rr hm ?_
   show (Builtin.Str.glued _ _).length <= _
   (refine rr (StrLaws.glued_eq_join ..) ?_; refine rr (join_toList ..) ?_)
   have := inter_len sep ts
   simp only [Str.length, List.size_toArray]; lia
 · refine rr (show Txt.join (⟨sep.toArray⟩ : Str) (m.map (·.1)) = ⟨(sep.intercalate ts).toArray⟩ from by
  refine rr hm ?_
  show Builtin.Str.glued _ _ = _
  (refine rr (StrLaws.glued_eq_join ..) ?_; exact rr (join_toList ..) rfl)) ?_
   exact post_tok S R (by exact (i_ae (by have := inter_len sep ts; lia) _ rfl)) H _
theorem append_ok {a : Addr} {h : HV} {v : Value} {l : List HV} (S : MS B0 os ω gs s) (R : RelS ω σ) (e : σ a = some l) (hz : l.length < sizeLine) (r : Rd ω h v) (H : K .none (σ.put a (l ++ [h]))) :
 wpAny (model prog w) A (call (.builtin "list.append") [.ref a, v]) (PostV B0 os gs ω K) E s := by
 refine o_aea (R a l e) fun _ vs h1 r2 => ?_
 refine o_e (S.hold _ _ h1) fun n ho => ?_
 have hl : s.heap.IsList a vs.toArray := (i_eaa _ ho rfl ⟨n, rfl⟩)
 have hvl := r2.length
 refine wpAny_call_entry slot_list_append hl.typeIs entry_list_append ?_ (args_list_append _ _)
 show wpAny _ _ (updateSeq a (·.push v) >>= fun _ => ret .none) _ _ s
 refine wpAny_bind ?_
 refine wpAny_updateSeq ho rfl (wpAny_pure (i_ea .none rfl ?_)) (by simp; lia) (by simp; lia)
 refine ⟨.none, _, _, Le.lst h1, S.same h1 rfl (Heap.SameBut.update ..) (m := .lst (vs ++ [v])) ?_ _, R.put h1 (by simp; assumption) (r2.append (by exact (i_eeaa v ([]) rfl r rfl))), by exact rfl, H⟩
 refine ⟨n + 1, ?_⟩
 have := Heap.get?_update_self (Obj.mapSeq (·.push v)) ho rfl
 simp only [this]
 simp [Obj.mapSeq]
end
noncomputable def biH (id : String) (args : List HV) (σ : St) (K : KV) : Prop := ∀ ⦃prog : Program⦄ ⦃w : World⦄ ⦃B0 : Heap⦄ ⦃os : OsState⦄ ⦃gs : Array GenState⦄ ⦃n : Nat⦄ (A : Around) (E : Value -> Shared -> Prop) (ω : Own) (s : Shared) (vs : List Value), Room n A -> MS B0 os ω gs s -> RelS ω σ -> RdL ω args vs ->
 wpAny (model prog w) A (call (.builtin id) vs) (PostV B0 os gs ω K) E s
noncomputable def tyH (t : String) (args : List HV) (σ : St) (K : KV) : Prop := ∀ ⦃prog : Program⦄ ⦃w : World⦄ ⦃B0 : Heap⦄ ⦃os : OsState⦄ ⦃gs : Array GenState⦄ ⦃n : Nat⦄ (A : Around) (E : Value -> Shared -> Prop) (ω : Own) (s : Shared) (vs : List Value), Room n A -> MS B0 os ω gs s -> RelS ω σ -> RdL ω args vs ->
 wpAny (model prog w) A (call (.type t) vs) (PostV B0 os gs ω K) E s
noncomputable def callH (Γ : Spx) (f : HV) (args : List HV) (σ : St) (K : KV) : Prop :=
 match f with
 | .val (.builtin id) => biH id args σ K
 | .val (.type t) => tyH t args σ K
 | .bm a => (match args with
  | [x] => ∃ l, σ a = some l /\ l.length < sizeLine /\ K .none (σ.put a (l ++ [x]))
  | _ => False)
 | .val v => (match Γ v with
  | some sp => sp args σ K
  | none => False)
 | _ => False
noncomputable def methH (o : HV) (name : Str) (args : List HV) (σ : St) (K : KV) : Prop :=
 if name = Str.ofString "append" then (match o, args with
  | .obj a, [x] => ∃ l, σ a = some l /\ l.length < sizeLine /\ K .none (σ.put a (l ++ [x]))
  | _, _ => False)
 else if name = Str.ofString "join" then (match o, args with
  | .str l, [xs] => ∃ ys ts, asList xs σ = some ys /\ allTxt ys = some ts /\ (ts.map (fun t => t.length + l.length)).sum <= sizeLine /\ K (.str (l.intercalate ts)) σ
  | _, _ => False)
 else False
section
variable {Γ : Spx} {σ : St} {K : KV}
theorem k_len_str {l : List Nat} (h : K (.int l.length) σ) : callH Γ (.val (.builtin "len")) [.str l] σ K := show biH "len" [.str l] σ K from fun _ _ _ _ _ _ A E ω s vs Rm S R r => by
 have ln := line_is
 (refine o_ea r.one fun v z297 q => ?_; refine rr z297 ?_)
 (refine o_ae q fun hz t z294 => ?_; clear q; refine rr z294 ?_)
 refine PyProof.Rows.len_str (by simp [Str.length]; exact ar13 ln hz) (post_tok S R ?_ h _)
 simp [Rd, Str.length]
theorem k_len_list {l : List HV} (h : K (.int l.length) σ) : callH Γ (.val (.builtin "len")) [.list l] σ K := show biH "len" [.list l] σ K from fun _ _ _ _ _ _ A E ω s vs Rm S R r => by
 have ln := line_is
 (refine o_ea r.one fun v z306 q => ?_; refine rr z306 ?_)
 (refine o_aeeaa (list_in S q) fun hz a ws z303 hl r2 => ?_; refine rr z303 ?_)
 refine PyProof.Rows.len_list hl (by simp [r2.length]; exact ar13 ln hz) (post_tok S R ?_ h _)
 simp [Rd, r2.length]
theorem k_len_bytes {l : List UInt8} (h : K (.int l.length) σ) : callH Γ (.val (.builtin "len")) [.bytes l] σ K := show biH "len" [.bytes l] σ K from fun _ _ _ _ _ _ A E ω s vs Rm S R r => by
 have ln := line_is
 (refine o_ea r.one fun v z318 q => ?_; refine rr z318 ?_)
 (refine o_ae q fun hz t z315 => ?_; clear q; refine rr z315 ?_)
 refine len_bytes (by simp; exact ar28 ln hz) (post_tok S R ?_ h _)
 simp [Rd]
theorem k_len_obj {a : Addr} {l : List HV} (e : σ a = some l) (h : K (.int l.length) σ) : callH Γ (.val (.builtin "len")) [.obj a] σ K := show biH "len" [.obj a] σ K from fun _ _ _ _ _ _ A E ω s vs Rm S R r => by
 have ln := line_is
 (refine o_ea r.one fun v z323 q => ?_; refine rr z323 ?_)
 (refine o_aaeaa (obj_in S R q e) fun z320 hz ws _ hl r2 => ?_; refine rr z320 ?_)
 refine PyProof.Rows.len_list hl (by simp [r2.length]; exact ar13 ln hz) (post_tok S R ?_ h _)
 simp [Rd, r2.length]
theorem k_chr {i : Int} (h1 : 0 <= i /\ i <= 1114111) (h : K (.str [i.toNat]) σ) : callH Γ (.val (.builtin "chr")) [.int i] σ K := show biH "chr" [.int i] σ K from fun _ _ _ _ _ _ A E ω s vs Rm S R r => by
 have ln := line_is
 (refine o_ea r.one fun v z335 q => ?_; refine rr z335 ?_)
 (refine o_e q fun t z342 => ?_; clear q; refine rr z342 ?_)
 exact PyProof.Rows.chr_of_range h1.1 h1.2 (post_tok S R (by exact (i_ae (by simp; exact Nat.le_add_left _ _) _ rfl)) h _)
theorem k_ord {c : Nat} (h : K (.int c) σ) : callH Γ (.val (.builtin "ord")) [.str [c]] σ K := show biH "ord" [.str [c]] σ K from fun _ _ _ _ _ _ A E ω s vs Rm S R r => by
 (refine o_ea r.one fun v z349 q => ?_; refine rr z349 ?_)
 (refine o_ae q fun hz t z346 => ?_; clear q; refine rr z346 ?_)
 refine PyProof.Rows.ord_of_one (by rfl) (post_tok S R ?_ h _)
 simp [Rd]
theorem k_min {i j : Int} (h : K (.int (min i j)) σ) : callH Γ (.val (.builtin "min")) [.int i, .int j] σ K := show biH "min" [.int i, .int j] σ K from fun _ _ _ _ _ _ A E ω s vs Rm S R r => by
 (refine o_eeaa r.two fun v u z363 r1 r2 => ?_; refine rr z363 ?_)
 obtain ⟨t, rfl⟩ := r1; obtain ⟨t2, rfl⟩ := r2
 refine min_two_ints Rm.handled fun h' tk hk => ?_
 refine post_keep S R ?_ h hk tk
 by_cases c : j < i
 · (refine rr (if_pos c) ?_; refine rr (show min i j = j by exact ar246 c) ?_); exact ⟨_, rfl⟩
 · (refine rr (if_neg c) ?_; refine rr (show min i j = i by exact ar245 c) ?_); exact ⟨_, rfl⟩
theorem k_isi {x : List Nat} (h : K (.bool true) σ) : callH Γ (.val (.builtin "isinstance")) [.str x, .val (.type "str")] σ K := show biH "isinstance" [.str x, .val (.type "str")] σ K from fun _ _ _ _ _ _ A E ω s vs Rm S R r => by
 (refine o_eeaa r.two fun v u z382 r1 r2 => ?_; refine rr z382 ?_)
 (refine o_ae r1 fun _ t z379 => ?_; clear r1; refine rr z379 ?_); refine rr r2 ?_
 exact PySem.IsiPair.str_str (post_now S R rd_bool h)
theorem k_range1 {i : Int} (h1 : i.natAbs < 2 ^ 62) (h : K (.rng 0 i) σ) : callH Γ (.val (.type "range")) [.int i] σ K := show tyH "range" [.int i] σ K from fun _ _ _ _ _ _ A E ω s vs Rm S R r => by
 (refine o_ea r.one fun v z389 q => ?_; refine rr z389 ?_)
 (refine o_e q fun t z396 => ?_; clear q; refine rr z396 ?_)
 refine call_range_1 (post_push S R rfl ?_ h _)
 exact (i_aa (by decide) h1 (i_eeee _ _ _ _ ⟨rfl, Own.set_self ..⟩))
theorem k_strI {i : Int} (h1 : i.natAbs < 2 ^ 62) (h : K (.str (Str.ofString (toString i)).cps.toList) σ) : callH Γ (.val (.type "str")) [.int i] σ K := show tyH "str" [.int i] σ K from fun _ _ _ _ _ _ A E ω s vs Rm S R r => by
 (refine o_ea r.one fun v z403 q => ?_; refine rr z403 ?_)
 (refine o_e q fun t z424 => ?_; clear q; refine rr z424 ?_)
 refine PySem.P.str_of_int (Nat.lt_trans ((if z : i.natAbs = 0 then by rw [z]; decide else (Nat.log2_lt z).mpr h1) : i.natAbs.log2 < 62) (by decide)) (post_tok S R ?_ h _)
 refine (i_ae ?_ s.toks ?_)
 · have h5 := int_text_fits (a := i) (Nat.lt_trans ((if z : i.natAbs = 0 then by rw [z]; decide else (Nat.log2_lt z).mpr h1) : i.natAbs.log2 < 62) (by decide))
   exact h5
 · exact rr (str_mk ..) rfl
theorem k_bytes {xs : List HV} {ns : List Int} (h1 : intsOf xs = some ns) (h2 : ∀ n ∈ ns, 0 <= n /\ n < 256) (h : K (.bytes (ns.map fun n => n.toNat.toUInt8)) σ) : callH Γ (.val (.type "bytes")) [.list xs] σ K := show tyH "bytes" [.list xs] σ K from fun _ _ _ _ _ _ A E ω s vs Rm S R r => by
 (refine o_ea r.one fun v z430 q => ?_; refine rr z430 ?_)
 (refine o_aeeaa (list_in S q) fun hz a ws z427 hl r2 => ?_; refine rr z427 ?_)
 refine call_bytes_ints hl (ints_are h1 r2) h2 (by refine rr r2.length ?_; exact hz) Rm.handled fun h' t k hk => post_keep S R ?_ h hk k
 refine (i_ae ?_ t rfl)
 (refine rr (List.length_map ..) ?_; refine rl ((ints_are h1 r2).length) ?_; refine rr r2.length ?_); exact hz
theorem k_obj (h : ∀ a, K (.val (.ref a)) σ) : callH Γ (.val (.type "object")) [] σ K := show tyH "object" [] σ K from fun _ _ _ _ _ _ A E ω s vs Rm S R r => by
 simp only [RdL] at r
 refine rr r ?_
 exact call_obj (post_push (o := { cls := .type "object", data := .plain }) (h := .val (.ref s.heap.objs.size)) S R rfl (by exact rfl) (h _) s.toks)
end
end
set_option maxRecDepth 4000
section
noncomputable def ItRd (ω : Own) : ItK -> List HV -> Prop
 | .list l i, ys => ∃ o vs n xs, ω l = some (.fz o) /\ o.cls = .type "list" /\ o.data = .seq (List.toArray vs) n /\ RdL ω xs vs /\ xs.length <= sizeLine /\ ys = xs.drop i
 | .range x left, ys => ys = (List.range left.toNat).map fun (k : Nat) => HV.int (x + (k : Int))
 | .str ty x _ i, ys => ty = (if x.cps.all (· < 128) then "str_ascii_iterator" else "str_iterator") /\ ys = (x.cps.toList.drop i).map fun c => HV.str [c]
theorem ItRd.monoF {ω ω' : Own} (l : LeF ω ω') {k : ItK} {ys : List HV} (r : ItRd ω k ys) : ItRd ω' k ys := by
 induction k using ItK.casesOn with
 | list a i => refine o_eeeeaaaaa r fun o vs n xs h1 h2 h3 h4 h5 h6 => ?_; exact (i_eeeeaaaaa o vs n xs (l _ _ h1) h2 h3 (h4.monoF l) h5 h6)
 | range x left => exact r
 | str ty x t i => exact r
section
variable {prog : Program} {w : World} {A : Around} {E : Value -> Shared -> Prop} {B0 : Heap} {os : OsState} {gs : Array GenState} {ω : Own} {s : Shared} {σ : St} {K : KV}
theorem iter_ok {h : HV} {v : Value} {xs : List HV} {Q : Value -> Shared -> Prop} (S : MS B0 os ω gs s) (r : Rd ω h v) (e : itemsH h = some xs)
 (H : ∀ a k s', ω a = none -> ItRd (ω.set a (.it k)) k xs -> MS B0 os (ω.set a (.it k)) gs s' -> Q (.ref a) s') : wpAny (model prog w) A (pyIter v) Q E s := by
 induction h using HV.casesOn with
 | list ys =>
   (injection e with e; subst e)
   simp only [Rd] at r
   (refine o_aeeeeaaaa r fun hz a o vs n z162 h2 h3 h4 h5 => ?_; clear r; subst z162)
   have l := Le.new (OM.it (.list a 0)) S.unused
   refine wpAny_pyIter_list (lst_of_fz S h2 h3 h4) (H _ (.list a 0) _ S.unused ⟨o, vs, n, _, l.fz h2, h3, h4, h5.mono l, hz, by simp⟩ (S.push _ (m := .it (.list a 0)) ⟨_, Heap.get?_push_size _ rfl, rfl, rfl⟩))
 | rng lo hi =>
   (have e := Option.some.inj e; subst e)
   simp only [Rd] at r
   obtain ⟨z1, z2, a, t, u, x, rfl, h2⟩ := r
   have hsz : Builtin.Range.rangeSize lo hi 1 = ((hi - lo).toNat : Int) := by
    unfold Builtin.Range.rangeSize
    (refine rr (if_pos (by decide)) ?_; refine rr (Int.ediv_one ..) ?_)
    refine ie rfl (fun _ => ?_) fun _ => ?_ <;> lia
   refine wpAny_pyIter_range (S.hold _ _ h2) ?_ ?_
   · unfold Builtin.Range.small
     refine rr hsz ?_
     have e : ∀ z : Int, -(2 ^ 63) <= z -> z < 2 ^ 63 -> Builtin.Range.rangeFitsLong z = true := fun z h1 h2 => by unfold Builtin.Range.rangeFitsLong; simp; exact ar354 h1 h2
     (rw [e lo (by lia) (by lia)]; rw [e hi (by lia) (by lia)]; rw [e 1 (by decide) (by decide)]; rw [e _ (by lia) (by lia)]; refine rr (if_pos (by decide)) ?_; refine rr (e _ (ar351 z2) (ar350 z2)) ?_)
     simp
   · refine rr hsz ?_
     refine H _ (.range lo ((hi - lo).toNat : Int)) _ S.unused (by show _ = _; simp only [Int.toNat_natCast]) (S.push _ (m := .it (.range lo ((hi - lo).toNat : Int))) (Heap.get?_push_size _ rfl))
 | str l =>
   (injection e with e; subst e)
   simp only [Rd] at r
   (refine o_ae r fun hz t z116 => ?_; clear r; subst z116)
   by_cases ha : (⟨l.toArray⟩ : Str).cps.all (· < 128) = true
   · refine wpAny_pyIter_ascii ha (H _ (.str "str_ascii_iterator" ⟨l.toArray⟩ t 0) _ S.unused ⟨by exact rr (if_pos ha) rfl, by simp⟩ (S.push _ (m := .it (.str "str_ascii_iterator" ⟨l.toArray⟩ t 0)) ⟨_, Heap.get?_push_size _ rfl, rfl, rfl⟩))
   · refine wpAny_pyIter_wide (by simpa using ha) (H _ (.str "str_iterator" ⟨l.toArray⟩ t 0) _ S.unused ⟨by exact rr (if_neg ha) rfl, by simp⟩ (S.push _ (m := .it (.str "str_iterator" ⟨l.toArray⟩ t 0)) ⟨_, Heap.get?_push_size _ rfl, rfl, rfl⟩))
 | _ => exact no_ns e
theorem reiter_ok {a : Addr} {k : ItK} {ys : List HV} {Q : Value -> Shared -> Prop} (S : MS B0 os ω gs s) (e : ω a = some (.it k)) (r : ItRd ω k ys) (H : Q (.ref a) s) : wpAny (model prog w) A (pyIter (.ref a)) Q E s := by
 have h := S.hold _ _ e
 clear e; induction k using ItK.casesOn with
 | list l i => exact wpAny_pyIter_listiter h H
 | range x left => exact wpAny_pyIter_rangeiter h H
 | str ty x t i =>
  refine o_a r fun e1 _ => ?_
  have h' : s.heap.IsStrIter a ty x t i := h
  by_cases ha : x.cps.all (· < 128) = true
  · rw [if_pos ha] at e1; rw [e1] at h'; exact wpAny_pyIter_striter_ascii h' H
  · rw [if_neg ha] at e1; rw [e1] at h'; exact wpAny_pyIter_striter_wide h' H
theorem next_ok {a : Addr} {k : ItK} {ys : List HV} {Q : Option Value -> Shared -> Prop} (hh : A.handled = none) (S : MS B0 os ω gs s) (e : ω a = some (.it k)) (r : ItRd ω k ys)
    (H0 : ys = [] -> ∀ s', MS B0 os (ω.del a) gs s' -> Q none s')
    (H1 : ∀ y rest, ys = y :: rest -> ∀ v k' s', Rd ω y v -> ItRd ω k' rest -> MS B0 os (ω.set a (.it k')) gs s' -> Q (some v) s') : wpAny (model prog w) A (pyNext (.ref a)) Q E s := by
  have h := S.hold _ _ e
  induction k using ItK.casesOn with
  | list l i =>
    refine o_eeeeaaaaa r fun o vs n xs h1 h2 h3 h4 h5 h6 => ?_
    have hl := lst_of_fz S h1 h2 h3
    induction hx : xs[i]? using Option.casesOn with
    | none =>
      have : ys = [] := by rw [h6]; exact List.drop_eq_nil_of_le (by simpa using hx)
      refine wpAny_pyNext_list_end hh h hl (by have := h4.length; simp at hx ⊢; exact ar15 this hx) fun h' hx' => H0 this _ (S.ext e rfl hx' _)
    | some y =>
      refine o_ea (h4.get hx) fun v hv rv => ?_
      have : ys = y :: xs.drop (i + 1) := by
        rw [h6]
        refine o_e (List.getElem?_eq_some_iff.mp hx) fun hlt he => ?_
        rw [List.drop_eq_getElem_cons hlt, he]
      exact wpAny_pyNext_list_item h hl (by simpa using hv) fun h' hi hs => H1 y _ this v (.list l (i + 1)) _ rv ⟨o, vs, n, xs, h1, h2, h3, h4, h5, rfl⟩ (S.same e rfl hs (m := .it (.list l (i + 1))) hi _)
  | range x left =>
    by_cases hp : 0 < left
    · have : ys = .int x :: (List.range (left - 1).toNat).map fun (k : Nat) => HV.int (x + 1 + (k : Int)) := by
        rw [r]
        have e2 : left.toNat = (left - 1).toNat + 1 := ar249 hp
        rw [e2, List.range_succ_eq_map, List.map_cons, List.map_map]
        simp only [Int.ofNat_zero, Int.add_zero, List.cons.injEq]
        refine ⟨by simp, List.map_congr_left fun j _ => ?_⟩
        simp only [Function.comp]
        congr 1
        lia
      exact wpAny_pyNext_range_item h hp fun h' hi hs => H1 _ _ this (.int x s.toks) (.range (x + 1) (left - 1)) _ (by simp [Rd]) rfl (S.same e rfl hs (m := .it (.range (x + 1) (left - 1))) hi _)
    · have : ys = [] := by
        (refine rr r ?_; refine rr (show left.toNat = 0 by exact ar248 hp) ?_); rfl
      exact wpAny_pyNext_range_end hh h (ar247 hp) fun h' hx => H0 this _ (S.ext e rfl hx _)
  | str ty x t i =>
    obtain ⟨e1, e2⟩ := r
    have h' : s.heap.IsStrIter a ty x t i := h
    induction hx : x.cps[i]? using Option.casesOn with
    | none =>
      have : ys = [] := by
        refine rr e2 ?_
        have : x.cps.size <= i := by simpa using hx
        refine rr (List.drop_eq_nil_of_le (by simpa using this)) ?_; rfl
      by_cases ha : x.cps.all (· < 128) = true
      · rw [if_pos ha] at e1; rw [e1] at h'; exact wpAny_pyNext_ascii_end hh h' hx fun h2 hx' => H0 this _ (S.ext e rfl hx' _)
      · rw [if_neg ha] at e1; rw [e1] at h'; exact wpAny_pyNext_wide_end hh h' hx fun h2 hx' => H0 this _ (S.ext e rfl hx' _)
    | some c =>
      have : ys = .str [c] :: (x.cps.toList.drop (i + 1)).map fun c => HV.str [c] := by
        refine rr e2 ?_
        have hx2 : x.cps.toList[i]? = some c := by simpa using hx
        refine o_e (List.getElem?_eq_some_iff.mp hx2) fun hlt he => ?_
        (refine rr (List.drop_eq_getElem_cons hlt) ?_; refine rr he ?_); rfl
      have rc : Rd ω (.str [c]) (.str ⟨#[c]⟩ s.toks) := by simp only [Rd]; exact ⟨by refine rr line_is ?_; simp, _, rfl⟩
      by_cases ha : x.cps.all (· < 128) = true
      · rw [if_pos ha] at e1; rw [e1] at h'
        exact wpAny_pyNext_ascii_item h' hx fun h2 hi hs => H1 _ _ this _ (.str "str_ascii_iterator" x t (i + 1)) _ rc ⟨by exact rr (if_pos ha) rfl, rfl⟩ (S.same e rfl hs (m := .it (.str "str_ascii_iterator" x t (i + 1))) hi _)
      · rw [if_neg ha] at e1; rw [e1] at h'
        exact wpAny_pyNext_wide_item h' hx fun h2 hi hs => H1 _ _ this _ (.str "str_iterator" x t (i + 1)) _ rc ⟨by exact rr (if_neg ha) rfl, rfl⟩ (S.same e rfl hs (m := .it (.str "str_iterator" x t (i + 1))) hi _)
end
noncomputable def KNs (h : Heap) (a : Addr) (m : Str -> Option Value) : Prop :=
 ∃ o es ep, h.get? a = some o /\ o.cls ≠ .none /\ o.data = .dict es ep /\ StrKeys es /\ ∀ name, nsFind es name = m name
theorem KNs.now {B0 : Heap} {os : OsState} {ω : Own} {gs : Array GenState} {s : Shared} (S : MS B0 os ω gs s) {a : Addr} {m : Str -> Option Value} (k : KNs B0 a m) : s.heap.Ns a m := by
 refine o_eeeaa k fun o es ep h1 h2 r => ?_
 exact (i_eeea o es ep (S.top h1 h2) r)
structure TopB (B0 : Heap) (mg mb : Str -> Option Value) : Prop where
 g : KNs B0 mainGlobals mg
 b : KNs B0 builtinsNs mb
 st : B0.NoLimit
theorem TopB.lim {B0 : Heap} {os : OsState} {ω : Own} {gs : Array GenState} {s : Shared} {mg mb} (T : TopB B0 mg mb) (S : MS B0 os ω gs s) : s.heap.NoLimit := by
 (refine o_ea T.st fun mc z129 h2 => ?_; refine o_eeeaaa z129 fun o es ep ho hd hk hf => ?_)
 rcases S.old.old _ _ ho with x | ⟨_, _, vs, more, hv, _⟩ | ⟨_, _, ⟨o', es', n, ho', _, hd', hk'⟩, z⟩
 · exact (i_ea mc ((i_eeeaaa o es ep x hd hk hf)) h2)
 · rw [hd] at hv; contradiction
 · refine (i_ea (fun name => nsFind es' name) ((i_eeeaaa o' es' n ho' hd' hk' (fun _ => rfl))) ?_)
   have z := z "sys.recursionlimit"
   rw [(show staticOf B0 "sys.recursionlimit" = none from by simp only [staticOf, ho, hd]; exact (hf _).trans h2)] at z
   rcases z with z | ⟨z, _⟩
   · rw [(show staticOf s.heap "sys.recursionlimit" = nsFind es' "sys.recursionlimit" from by simp only [staticOf, ho', hd']; rfl)] at z; exact z
   · exact absurd z (by decide +kernel)
noncomputable def GV (mg mb : Str -> Option Value) (x : Str) (v : Value) : Prop := mg x = some v ∨ (mg x = none /\ mb x = some v)
structure EnvOk (mg mb : Str -> Option Value) (env : Env) (ω : Own) (ρ : Loc) (G : GC) : Prop where
 kind : env.scope.kind = .function
 glob : env.globals = mainGlobals
 blt : env.builtins = builtinsNs
 loc : ∃ m, ω env.locals = some (.ns m) /\ ∀ x h, ρ x = some h -> env.kindOf x = some .local -> ∃ v, m x = some v /\ Rd ω h v
 cel : ∀ x h, ρ x = some h -> env.kindOf x = some .cell ∨ env.kindOf x = some .free -> ∃ c v, env.cells.lookup x = some c /\ ω c = some (.cell (some v)) /\ Rd ω h v
 dom : ∀ x h, ρ x = some h -> env.kindOf x = some .local ∨ env.kindOf x = some .cell ∨ env.kindOf x = some .free
 gl : ∀ x h, G.g x = some h -> env.kindOf x = some .globalImplicit
 gv : ∀ x h, G.g x = some h -> ∃ v, h = .val v /\ GV mg mb x v
 cl : ∀ x, G.c x = true -> (env.kindOf x = some .cell ∨ env.kindOf x = some .free) /\ ∃ c, env.cells.lookup x = some c
 lc : ∀ x, G.l x = true -> env.kindOf x = some .local
 dbg : ρ "__debug__" = none /\ G.g "__debug__" = none /\ ρ "__classdict__" = none
 gg : ∀ x h, G.gg x = some h -> ∃ v, h = .val v /\ GV mg mb x v
 gd : G.gg "__debug__" = none
theorem EnvOk.monoW {mg mb : Str -> Option Value} {env : Env} {ω ω' : Own} {ρ : Loc} {G : GC} (O : EnvOk mg mb env ω ρ G) (l : LeW ω ω') : EnvOk mg mb env ω' ρ G := by
 refine { O with loc := ?_, cel := ?_ }
 · refine o_ea O.loc fun m h1 h2 => ?_
   refine (i_ea m (l _ _ h1 rfl) (fun x h e k => ?_))
   refine o_ea (h2 x h e k) fun v h3 h4 => ?_
   exact (i_ea v h3 (h4.monoF l.f))
 · intro x h e k
   refine o_eeaa (O.cel x h e k) fun c v h1 h2 h3 => ?_
   exact (i_eeaa c v h1 (l _ _ h2 rfl) (h3.monoF l.f))
theorem EnvOk.mono {mg mb : Str -> Option Value} {env : Env} {ω ω' : Own} {ρ : Loc} {G : GC} (O : EnvOk mg mb env ω ρ G) (l : Le ω ω') : EnvOk mg mb env ω' ρ G := O.monoW l.w
section
variable {prog : Program} {w : World} {A : Around} {E : Value -> Shared -> Prop} {B0 : Heap} {os : OsState} {gs : Array GenState} {ω : Own} {s : Shared} {σ : St} {K : KV} {mg mb : Str -> Option Value} {env : Env} {ρ : Loc} {G : GC}
theorem load_ok {x : Str} {h : HV} {Q : Value -> Shared -> Prop} (O : EnvOk mg mb env ω ρ G) (S : MS B0 os ω gs s) (e : ρ x = some h) (H : ∀ v, Rd ω h v -> Q v s) : wpAny (model prog w) A (loadName env x) Q E s := by
 have hcd : (x == ("__classdict__" : Str)) = false := by
  rw [beq_eq_false_iff_ne]; intro q; subst q; rw [O.dbg.2.2] at e; exact no_ns e
 refine Or.elim (O.dom x h e) (fun k => ?_) fun z => Or.elim z (fun k => ?_) fun k => ?_
 · refine o_ea O.loc fun m h1 h2 => ?_
   refine o_ea (h2 x h e k) fun v h3 h4 => ?_
   exact wpAny_loadName_local O.kind k (S.hold _ _ h1) h3 (H v h4)
 · obtain ⟨c, v, h1, h2, h3⟩ := O.cel x h e (.inl k)
   exact wpAny_loadName_cell O.kind k h1 (S.hold _ _ h2) (H v h3)
 · obtain ⟨c, v, h1, h2, h3⟩ := O.cel x h e (.inr k)
   exact wpAny_loadName_free O.kind k h1 (S.hold _ _ h2) (H v h3) hcd
theorem name_ok {x : Str} {p : Pos} {h : HV} {Q : Value -> Shared -> Prop} (O : EnvOk mg mb env ω ρ G) (S : MS B0 os ω gs s) (e : ρ x = some h) (H : ∀ v, Rd ω h v -> Q v s) : wpAny (model prog w) A (eval (.Name x p) env) Q E s := by
 exact wpAny_Name (load_ok O S e H) (show (x == ("__debug__" : Str)) = false from by
  rw [beq_eq_false_iff_ne]; intro q; subst q; rw [O.dbg.1] at e; exact no_ns e)
theorem gname_ok {x : Str} {p : Pos} {h : HV} {Q : Value -> Shared -> Prop} (T : TopB B0 mg mb) (O : EnvOk mg mb env ω ρ G) (S : MS B0 os ω gs s) (e : G.g x = some h) (H : ∀ v, h = .val v -> Q v s) : wpAny (model prog w) A (eval (.Name x p) env) Q E s := by
 (refine o_ea (O.gv x h e) fun v z140 gv => ?_; subst z140)
 refine Name_function_global O.kind (O.gl x _ e) ?_ (show (x == ("__debug__" : Str)) = false from by
  rw [beq_eq_false_iff_ne]; intro q; clear gv; subst q; rw [O.dbg.2.1] at e; exact no_ns e)
 rcases gv with q | ⟨q1, q2⟩
 · exact loadGlobal_global (O.glob ▸ T.g.now S) q (H v rfl)
 · exact loadGlobal_builtin (O.glob ▸ T.g.now S) q1 (O.blt ▸ T.b.now S) q2 (H v rfl)
end
end
set_option maxRecDepth 4000
section
noncomputable def bmObj (l : Addr) : Obj := { cls := .type "builtin_function_or_method", data := .fields #[.builtin "list.append", .ref l] }
theorem append_has : (Manifest.signature? "list.append").isSome = true := by kernel_rfl
theorem append_sig : ∃ sig, Manifest.signature? "list.append" = some sig /\ ∀ l v, Bind.checkArgs "list.append" { sig with full := s!"{Bind.lastOf "list"}.{Bind.lastOf "list.append"}" } ⟨[.ref l, v], []⟩ = pure () :=
 (i_ea ((Manifest.signature? "list.append").get append_has) (by exact rr (Option.some_get ..) rfl) (fun _ _ => by kernel_rfl))
theorem append_kind : builtinKind "list.append" = some .method := by kernel_rfl
theorem append_va : Manifest.varargsMethods.contains "list.append" = false := by decide +kernel
theorem sub_list_module : isSubtype (.type "list") (.type "module") = pure false := by kernel_rfl
theorem sub_list_type : isSubtype (.type "list") (.type "type") = pure false := by kernel_rfl
section
variable {prog : Program} {w : World} {A : Around} {E : Value -> Shared -> Prop} {s : Shared}
theorem if_no {α : Type} {M : Model} {A : Around} {E : Value -> Shared -> Prop} {s : Shared} {c : Bool} {a b : Sem α} {Q : α -> Shared -> Prop} (hc : c = false) (h : wpAny M A b Q E s) : wpAny M A (if c = true then a else b) Q E s := by
 subst hc
 exact h
theorem bound_check {l : Addr} {v : Value} {Q : Unit -> Shared -> Prop} {o : Obj} {xs : Array Value} {n : Nat} (ho : s.heap.get? l = some o) (hd : o.data = .seq xs n) (hT : s.TypeIs (.ref l) "list") (h : Q () s) : wpAny (model prog w) A (checkBoundCall "list.append" ⟨[.ref l, v], []⟩) Q E s := by
 refine o_ea append_sig fun sig h1 h2 => ?_
 unfold checkBoundCall
 (refine rr h1 ?_; refine rr append_kind ?_)
 simp -iota only [show (Manifest.AttrKind.method != Manifest.AttrKind.method && Manifest.AttrKind.method != Manifest.AttrKind.classMethod) = false by decide, Bool.false_eq_true, if_false]
 refine wpAny_bind (wpAny_isInstance hT sub_list_module ?_)
 refine rr append_va ?_
 simp -iota only [Bool.or_self, Bool.false_eq_true, if_false]
 refine wpAny_bind ?_
 unfold isType
 refine wpAny_bind (wpAny_loadPart ho ?_)
 refine rr hd ?_
 refine wpAny_pure ?_
 refine if_no (by rfl) ?_
 refine wpAny_bind (wpAny_typeOf hT ?_)
 exact wpAny_of_eq (h2 l v) h
theorem quiet_append {as : Args} : (Code.builtin "list.append" as).quiet = true := Code.quiet_builtin _ (by decide +kernel)
theorem call_bm {b l : Addr} {v : Value} {vs : List Value} {n : Nat} {Q : Value -> Shared -> Prop} (ho : s.heap.get? b = some (bmObj l)) (hl : s.heap.get? l = some { cls := .type "list", data := .seq vs.toArray n }) (hz : vs.length < sizeLine)
 (h : ∀ h', Heap.SameBut l s.heap h' -> h'.get? l = some { cls := .type "list", data := .seq (vs ++ [v]).toArray (n + 1) } -> Q .none { s with heap := h' }) :
 wpAny (model prog w) A (call (.ref b) [v]) Q E s := by
 refine wpAny_call (codeAny_of_tree ?_)
 show wpAny _ A.in1 (callAny (.ref b) ⟨[v], []⟩) _ _ s
 dsimp only [callAny]
 refine wpAny_bind (wpAny_load ho ?_)
 simp -iota only [bmObj, show (Value.type "builtin_function_or_method" == Value.type "method" || Value.type "builtin_function_or_method" == Value.type "builtin_function_or_method" || Value.type "builtin_function_or_method" == Value.type "method-wrapper") = true by decide, if_true]
 refine KFB.if_so (by decide) ?_
 refine wpAny_bind (bound_check hl rfl (i_ea _ hl rfl) ?_)
 refine wpAny_bind (wpAny_pure (wpAny_pure ?_))
 refine ⟨quiet_append, codeAny_builtin entry_list_append ?_⟩
 show wpAny _ _ (updateSeq l (·.push v) >>= fun _ => ret .none) _ _ s
 refine wpAny_bind ?_
 refine wpAny_updateSeq hl rfl (wpAny_pure ?_) (by simp; lia) (by simp; lia)
 refine h _ (Heap.SameBut.update ..) ?_
 have := Heap.get?_update_self (Obj.mapSeq (·.push v)) hl rfl
 simp only [this]
 simp [Obj.mapSeq]
theorem callWith_bm {pos : Pos} {b l : Addr} {args : List (Bool × Sem Value)} {Q : Value -> Shared -> Prop} (hplain : args.any (·.1) = false)
 (h : wpAny (model prog w) A (evalArgs (.ref b) true args []) (fun x s₁ => s₁.heap.get? b = some (bmObj l) /\ wpAny (model prog w) A (call (.ref b) x.pos x.kw) Q E s₁) E s) : wpAny (model prog w) A (callWith pos (.ref b) [] args []) Q E s := by
 dsimp only [callWith]
 refine wpAny_bind (wpAny_holding (wpAny_mono h (fun x s₁ h₁ => wpAny_bind (wpAny_standAt ?_)) fun _ _ x => x))
 simp -iota only [hplain, List.any_nil, Bool.or_false]
 refine wpAny_bind (m := keeperOf (.ref b)) ?_
 refine wpAny_bind (wpAny_load h₁.1 ?_)
 simp -iota only [bmObj, show (Value.type "builtin_function_or_method" != Value.type "method") = true by decide, show (Value.type "builtin_function_or_method" == Value.type "builtin_function_or_method" || Value.type "builtin_function_or_method" == Value.type "method-wrapper") = true by decide, if_true]
 refine wpAny_pure ?_
 exact wpAny_bind (wpAny_mono h₁.2 (fun r s₂ hr => wpAny_bind (wpAny_holding (wpAny_point (wpAny_pure hr)))) fun _ _ x => x)
end
end
set_option maxRecDepth 8000
section
theorem slot_mget : Slot "method_descriptor" "__get__" "method_descriptor.__get__" :=
 .of (owner := "method_descriptor") (n := "__get__") (by kernel_rfl) (by decide +kernel) (by decide +kernel) (by decide +kernel)
  (by first | exact .inl (by decide +kernel) | exact .inr (by decide +kernel)) (by kernel_rfl)
theorem entry_mget : entryFor table "method_descriptor.__get__" = some Builtin.«method_descriptor.__get__» := entryFor_of_tree (by kernel_rfl)
theorem args_mget (a b c : Value) : argsOk "method_descriptor.__get__" ⟨[a, b, c], []⟩ := by kernel_rfl
theorem no_mset : typeLookup (.type "method_descriptor") "__set__" = pure none := by kernel_rfl
theorem no_mdel : typeLookup (.type "method_descriptor") "__delete__" = pure none := by kernel_rfl
theorem told_no : Manifest.toldItsClass.contains "list.append" = false := by decide +kernel
theorem sub_ll : isSubtype (.type "list") (.type "list") = pure true := by kernel_rfl
section
variable {prog : Program} {w : World} {A : Around} {E : Value -> Shared -> Prop} {s : Shared}
set_option maxHeartbeats 2000000 in
theorem getAttr_append {a : Addr} {xs : Array Value} {k : Nat} {Q : Value -> Shared -> Prop} (hx : s.heap.get? a = some { cls := .type "list", data := .seq xs k })
 (h : ∀ tk, Q (.ref s.heap.objs.size) { s with heap := s.heap.push (bmObj a), toks := tk }) : wpAny (model prog w) A (getAttr (.ref a) (Str.ofString "append") true) Q E s := by
 obtain ⟨hp, g, d, tk, os⟩ := s
 have hT : ∀ tk', (⟨hp, g, d, tk', os⟩ : Shared).TypeIs (.ref a) "list" := fun _ => ⟨_, hx, rfl⟩
 have f3 := F.slot_list_getattribute.lookup
 have f4 := F.slot_list_getattribute.bind (.ref a)
 have f5 := am_list_getattr_none
 unfold getAttr getAttrBy
 repeat (any_goals (first | assumption | exact hT _ | ((with_reducible show wpAny _ _ (call (Value.builtin "list.__getattribute__") _ _) _ _ _); refine wpAny_call_entry F.slot_list_getattribute (hT _) am_entry_list_getattribute ?kk (F.args_list_getattribute_2 _ _)) | wp_step))
 have g1 := F.slot_list_append.lookup
 have g2 := F.type_list_append
 dsimp only
 refine wpAny_of_eq g1 ?_
 unfold Builtin.ObjectAttr.getOf
 have g3 := slot_mget.lookup
 have g4 := no_mset
 have g5 := no_mdel
 repeat (any_goals (first | assumption | exact hT _ | ((with_reducible show wpAny _ _ (call (Value.builtin "method_descriptor.__get__") _ _) _ _ _); refine wpAny_call_entry slot_mget F.type_list_append entry_mget ?kk2 (args_mget _ _ _)) | wp_step))
 have e1 : ".".intercalate ("list.append".cutAt '.').dropLast = "list" := by decide +kernel
 dsimp only
 refine wpAny_of_eq sub_ll ?_
 repeat (any_goals (first | assumption | exact hT _ | wp_step))
 refine ⟨_, rfl, wpAny_pure ⟨_, rfl, ?_⟩⟩
 exact wpAny_pure (h _)
end
end
set_option maxRecDepth 4000
section
inductive PostVs (B0 : Heap) (os : OsState) (gs : Array GenState) (ω : Own) (n : Nat) (K : List HV -> St -> Prop) (vs : List Value) (s' : Shared) : Prop
 | mk : ∀ hs ω' σ', (Le ω ω') -> (MS B0 os ω' gs s') -> (RelS ω' σ') -> (RdL ω' hs vs) -> (hs.length = n) -> (K hs σ') -> PostVs B0 os gs ω n K vs s'
inductive PostO (B0 : Heap) (os : OsState) (gs : Array GenState) (ω : Own) (K : Option Int -> St -> Prop) (v : Value) (s' : Shared) : Prop
 | mk : ∀ i ω' σ', (Le ω ω') -> (MS B0 os ω' gs s') -> (RelS ω' σ') -> (IsPart v i) -> (K i σ') -> PostO B0 os gs ω K v s'
theorem one_star {e : Expr} {r : List Expr} {env : Env} (h : notStar e = true) : starEach (e :: r) env = (false, eval e env) :: starEach r env := by
 cases e <;> first | rfl | exact no_ft ((show false = true from h))
theorem plain_star : ∀ (es : List Expr) (env : Env), es.all notStar = true -> starEach es env = es.map fun e => (false, eval e env) := by
 intro xs0
 induction xs0 with
 | nil =>
  exact @fun _ _ => rfl
 | cons e r ih =>
  exact @fun env h => by
   simp only [List.all_cons, Bool.and_eq_true] at h
   (refine rr List.map_cons ?_; refine rl (ih env h.2) ?_); exact one_star h.1
theorem plain_back (pos : Pos) (es : List Expr) (env : Env) (h : es.all notStar = true) : backTo pos (starEach es env) = es.map fun e => (false, eval e env) := by
 refine rr (plain_star es env h) ?_
 dsimp only [backTo]
 refine rr List.map_map ?_
 rfl
theorem plain_any (es : List Expr) (env : Env) : (es.map fun e => (false, eval e env)).any (·.1) = false := by
 refine rr List.any_map ?_; simp
section
variable {prog : Program} {w : World} {B0 : Heap} {os : OsState} {gs : Array GenState} {mg mb : Str -> Option Value}
theorem args_any {M : Model} {A : Around} {E : Value -> Shared -> Prop} {s : Shared} {f : Value} {l : List (Bool × Sem Value)} {Q : Args -> Shared -> Prop} (hp : l.any (·.1) = false)
 (h : wpAny M A (spliced l) (fun vs s' => Q ⟨vs, []⟩ s') E s) : wpAny M A (evalArgs f true l []) Q E s := by
 match l, hp, h with
 | [], _, h =>
  refine wpAny_bind (wpAny_mono h (fun vs s' h' => ?_) fun _ _ x => x)
  refine wpAny_bind (wpAny_pure ?_)
  refine wpAny_holding ?_
  exact wpAny_bind (wpAny_pure (wpAny_bind (wpAny_pure (wpAny_pure h'))))
 | (false, x) :: r, _, h => exact evalArgs_plain h
 | (true, x) :: r, hp, _ => simp at hp
section
variable {A : Around} {E : Value -> Shared -> Prop} {ω : Own} {s : Shared} {K : KV}
theorem PostV.up {ω1 : Own} {v : Value} (p : PostV B0 os gs ω1 K v s) (l : Le ω ω1) : PostV B0 os gs ω K v s := by
 obtain ⟨h, ω', σ', l', a, b, c, d⟩ := p
 exact ⟨h, ω', σ', l.trans l', a, b, c, d⟩
theorem next_v {X : Sem Value} {Q : Value -> Shared -> Prop} (p : wpAny (model prog w) A X (PostV B0 os gs ω K) E s)
 (H : ∀ h ω' σ' v s', Le ω ω' -> MS B0 os ω' gs s' -> RelS ω' σ' -> Rd ω' h v -> K h σ' -> Q v s') : wpAny (model prog w) A X Q E s :=
 wpAny_mono p (fun v s' q => by obtain ⟨h, ω', σ', a, b, c, d, e⟩ := q; exact H h ω' σ' v s' a b c d e) fun _ _ x => x
theorem up_v {ω1 : Own} {X : Sem Value} (p : wpAny (model prog w) A X (PostV B0 os gs ω1 K) E s) (l : Le ω ω1) : wpAny (model prog w) A X (PostV B0 os gs ω K) E s :=
 wpAny_mono p (fun _ _ q => q.up l) fun _ _ x => x
theorem next_b {K : Bool -> St -> Prop} {X : Sem Bool} {Q : Bool -> Shared -> Prop} (p : wpAny (model prog w) A X (PostB B0 os gs ω K) E s)
 (H : ∀ b ω' σ' s', Le ω ω' -> MS B0 os ω' gs s' -> RelS ω' σ' -> K b σ' -> Q b s') : wpAny (model prog w) A X Q E s :=
 wpAny_mono p (fun v s' q => by obtain ⟨ω', σ', a, b, c, e⟩ := q; exact H v ω' σ' s' a b c e) fun _ _ x => x
theorem up_b {ω1 : Own} {K : Bool -> St -> Prop} {X : Sem Bool} (p : wpAny (model prog w) A X (PostB B0 os gs ω1 K) E s) (l : Le ω ω1) : wpAny (model prog w) A X (PostB B0 os gs ω K) E s :=
 wpAny_mono p (fun _ _ q => by obtain ⟨ω', σ', a, b, c, d⟩ := q; exact ⟨ω', σ', l.trans a, b, c, d⟩) fun _ _ x => x
theorem next_l {n : Nat} {K : List HV -> St -> Prop} {X : Sem (List Value)} {Q : List Value -> Shared -> Prop} (p : wpAny (model prog w) A X (PostVs B0 os gs ω n K) E s)
 (H : ∀ hs ω' σ' vs s', Le ω ω' -> MS B0 os ω' gs s' -> RelS ω' σ' -> RdL ω' hs vs -> hs.length = n -> K hs σ' -> Q vs s') : wpAny (model prog w) A X Q E s :=
 wpAny_mono p (fun v s' q => by obtain ⟨h, ω', σ', a, b, c, d, f, e⟩ := q; exact H h ω' σ' v s' a b c d f e) fun _ _ x => x
end
variable (prog w B0 os gs mg mb) (mu : Pos -> Bool) (Γ : Spx) (n : Nat)
noncomputable def SpxOk : Prop := ∀ v sp, Γ v = some sp -> ∃ a o fd, v = .ref a /\ B0.get? a = some o /\ o.cls ≠ .none /\ o.data = .func fd /\
 ∀ (A : Around) (E : Value -> Shared -> Prop) (ω : Own) (s : Shared) (σ : St) (K : KV) (hs : List HV) (vs : List Value), Room n A -> MS B0 os ω gs s -> RelS ω σ -> RdL ω hs vs -> sp hs σ K ->
  wpAny (model prog w) A (call v vs []) (PostV B0 os gs ω K) E s
end
noncomputable def evE (_ : Pos -> Bool) (Γ : Spx) (e : Expr) (ρ : Loc) (G : GC) (σ : St) (K : KV) : Prop := ∀ ⦃prog : Program⦄ ⦃w : World⦄ ⦃B0 : Heap⦄ ⦃os : OsState⦄ ⦃gs : Array GenState⦄ ⦃mg mb : Str -> Option Value⦄ ⦃n : Nat⦄, TopB B0 mg mb -> SpxOk prog w B0 os gs Γ n ->
 ∀ (A : Around) (E : Value -> Shared -> Prop) (ω : Own) (s : Shared) (env : Env), Room n A -> EnvOk mg mb env ω ρ G -> MS B0 os ω gs s -> RelS ω σ -> wpAny (model prog w) A (eval e env) (PostV B0 os gs ω K) E s
noncomputable def evT (_ : Pos -> Bool) (Γ : Spx) (e : Expr) (ρ : Loc) (G : GC) (σ : St) (K : Bool -> St -> Prop) : Prop := ∀ ⦃prog : Program⦄ ⦃w : World⦄ ⦃B0 : Heap⦄ ⦃os : OsState⦄ ⦃gs : Array GenState⦄ ⦃mg mb : Str -> Option Value⦄ ⦃n : Nat⦄, TopB B0 mg mb -> SpxOk prog w B0 os gs Γ n ->
 ∀ (A : Around) (E : Value -> Shared -> Prop) (ω : Own) (s : Shared) (env : Env), Room n A -> EnvOk mg mb env ω ρ G -> MS B0 os ω gs s -> RelS ω σ -> wpAny (model prog w) A (isTrue e env (eval e env)) (PostB B0 os gs ω K) E s
section
variable (mu : Pos -> Bool) (Γ : Spx)
noncomputable def evA : BoolOp -> List Expr -> Loc -> GC -> St -> (Bool -> St -> Prop) -> Prop
 | .And, [], _, _, σ, K => K true σ
 | .Or, [], _, _, σ, K => K false σ
 | .And, x :: r, ρ, G, σ, K => evT mu Γ x ρ G σ fun b σ1 => if b then evA .And r ρ G σ1 K else K false σ1
 | .Or, x :: r, ρ, G, σ, K => evT mu Γ x ρ G σ fun b σ1 => if b then K true σ1 else evA .Or r ρ G σ1 K
noncomputable def evEs : List Expr -> Loc -> GC -> St -> (List HV -> St -> Prop) -> Prop
 | [], _, _, σ, K => K [] σ
 | e :: r, ρ, G, σ, K => evE mu Γ e ρ G σ fun h σ1 => evEs r ρ G σ1 fun hs σ2 => K (h :: hs) σ2
noncomputable def evO : Option Expr -> Loc -> GC -> St -> (Option Int -> St -> Prop) -> Prop
 | none, _, _, σ, K => K none σ
 | some e, ρ, G, σ, K => evE mu Γ e ρ G σ fun h σ1 => ∃ i, h = .int i /\ K (some i) σ1
inductive PartE : Expr -> Str ⊕ Expr -> Prop
 | str (x : Str) (k : Nat) (p : Pos) : PartE (.Constant (.str x) k p) (.inl x)
 | fmt (v : Expr) (p : Pos) : PartE (.FormattedValue v (-1) none p) (.inr v)
noncomputable def evJ : List Expr -> Loc -> GC -> St -> List Nat -> (List Nat -> St -> Prop) -> Prop
 | [], _, _, σ, acc, K => K acc σ
 | e :: r, ρ, G, σ, acc, K => ∃ q, PartE e q /\ match q with
  | .inl x => acc.length + (litS x).length <= sizeLine /\ evJ r ρ G σ (acc ++ litS x) K
  | .inr v => evE mu Γ v ρ G σ fun h σ1 => ∃ l, h = .str l /\ acc.length + l.length <= sizeLine /\ evJ r ρ G σ1 (acc ++ l) K
end
section
variable (prog : Program) (w : World) (B0 : Heap) (os : OsState) (gs : Array GenState) (mg mb : Str -> Option Value) (mu : Pos -> Bool) (Γ : Spx) (n : Nat)
noncomputable def OkE (e : Expr) : Prop := ∀ (A : Around) (E : Value -> Shared -> Prop) (ω : Own) (s : Shared) (σ : St) (K : KV) (env : Env) (ρ : Loc) (G : GC), Room n A -> EnvOk mg mb env ω ρ G -> MS B0 os ω gs s -> RelS ω σ ->
 evE mu Γ e ρ G σ K -> wpAny (model prog w) A (eval e env) (PostV B0 os gs ω K) E s
noncomputable def OkT (e : Expr) : Prop := ∀ (A : Around) (E : Value -> Shared -> Prop) (ω : Own) (s : Shared) (σ : St) (K : Bool -> St -> Prop) (env : Env) (ρ : Loc) (G : GC), Room n A -> EnvOk mg mb env ω ρ G -> MS B0 os ω gs s -> RelS ω σ ->
 evT mu Γ e ρ G σ K -> wpAny (model prog w) A (isTrue e env (eval e env)) (PostB B0 os gs ω K) E s
noncomputable def OkA (op : BoolOp) (es : List Expr) : Prop := ∀ (A : Around) (E : Value -> Shared -> Prop) (ω : Own) (s : Shared) (σ : St) (K : Bool -> St -> Prop) (env : Env) (ρ : Loc) (G : GC), Room n A -> EnvOk mg mb env ω ρ G -> MS B0 os ω gs s -> RelS ω σ ->
 evA mu Γ op es ρ G σ K -> wpAny (model prog w) A (allTrue op es env) (PostB B0 os gs ω K) E s
noncomputable def OkEs (es : List Expr) : Prop := ∀ (A : Around) (E : Value -> Shared -> Prop) (ω : Own) (s : Shared) (σ : St) (K : List HV -> St -> Prop) (env : Env) (ρ : Loc) (G : GC), Room n A -> EnvOk mg mb env ω ρ G -> MS B0 os ω gs s -> RelS ω σ ->
 evEs mu Γ es ρ G σ K -> wpAny (model prog w) A (spliced (es.map fun e => (false, eval e env))) (PostVs B0 os gs ω es.length K) E s
noncomputable def OkO (e : Option Expr) : Prop := ∀ (A : Around) (E : Value -> Shared -> Prop) (ω : Own) (s : Shared) (σ : St) (K : Option Int -> St -> Prop) (env : Env) (ρ : Loc) (G : GC), Room n A -> EnvOk mg mb env ω ρ G -> MS B0 os ω gs s -> RelS ω σ ->
 evO mu Γ e ρ G σ K -> wpAny (model prog w) A (evalPart e env) (PostO B0 os gs ω K) E s
noncomputable def OkJ (es : List Expr) : Prop := ∀ (A : Around) (E : Value -> Shared -> Prop) (ω : Own) (s : Shared) (σ : St) (acc : List Nat) (K : List Nat -> St -> Prop) (env : Env) (ρ : Loc) (G : GC), Room n A -> EnvOk mg mb env ω ρ G -> MS B0 os ω gs s -> RelS ω σ -> acc.length <= sizeLine ->
 evJ mu Γ es ρ G σ acc K -> Joins (model prog w) A E (evalEach es env) ⟨acc.toArray⟩ (fun out s' => ∃ l ω' σ', Le ω ω' /\ MS B0 os ω' gs s' /\ RelS ω' σ' /\ out = ⟨l.toArray⟩ /\ l.length <= sizeLine /\ K l σ') s
variable {prog w B0 os gs mg mb mu Γ n}
theorem okE (T : TopB B0 mg mb) (X : SpxOk prog w B0 os gs Γ n) (e : Expr) : OkE prog w B0 os gs mg mb mu Γ n e := fun A E ω s _ _ env _ _ Rm O S R H => H T X A E ω s env Rm O S R
theorem okT (T : TopB B0 mg mb) (X : SpxOk prog w B0 os gs Γ n) (e : Expr) : OkT prog w B0 os gs mg mb mu Γ n e := fun A E ω s _ _ env _ _ Rm O S R H => H T X A E ω s env Rm O S R
theorem okEs_nil : OkEs prog w B0 os gs mg mb mu Γ n [] := fun A E ω s σ K env ρ G Rm O S R H => by
 exact spliced_nil ⟨[], ω, σ, .refl _, S, R, by exact rfl, rfl, H⟩
theorem okEs_cons {e : Expr} {r : List Expr} (h1 : OkE prog w B0 os gs mg mb mu Γ n e) (h2 : OkEs prog w B0 os gs mg mb mu Γ n r) : OkEs prog w B0 os gs mg mb mu Γ n (e :: r) := fun A E ω s σ K env ρ G Rm O S R H => by
 refine spliced_cons (next_v (h1 A E ω s σ _ env ρ G Rm O S R H) fun h ω1 σ1 v s₁ l1 S1 R1 r₁ H₁ => ?_)
 refine next_l (h2 A E ω1 s₁ σ1 _ env ρ G Rm (O.mono l1) S1 R1 H₁) fun hs ω2 σ2 vs s₂ l2 S2 R₂ r₂ hn H₂ => ?_
 exact ⟨h :: hs, ω2, σ2, l1.trans l2, S2, R₂, by exact (i_eeaa v vs rfl (r₁.mono l2) r₂), by simp [hn], H₂⟩
theorem okO_none : OkO prog w B0 os gs mg mb mu Γ n none := fun A E ω s σ K env ρ G Rm O S R H => by
 exact wpAny_evalPart_none ⟨none, ω, σ, .refl _, S, R, .none, H⟩
theorem okO_some {e : Expr} (h1 : OkE prog w B0 os gs mg mb mu Γ n e) : OkO prog w B0 os gs mg mb mu Γ n (some e) := fun A E ω s σ K env ρ G Rm O S R H => by
 refine wpAny_evalPart_some (next_v (h1 A E ω s σ _ env ρ G Rm O S R H) fun h ω1 σ1 v s₁ l1 S1 R1 r₁ H₁ => ?_)
 (refine o_ea H₁ fun i z357 H₂ => ?_; clear H₁; subst z357)
 simp only [Rd] at r₁
 obtain ⟨t, rfl⟩ := r₁
 exact ⟨some i, ω1, σ1, l1, S1, R1, .int i t, H₂⟩
theorem okJ (T : TopB B0 mg mb) (X : SpxOk prog w B0 os gs Γ n) : ∀ (es : List Expr), OkJ prog w B0 os gs mg mb mu Γ n es
 | [] => fun A E ω s σ acc K env ρ G Rm O S R hz H => by
   exact (i_eeeaaaaa acc ω σ (.refl _) S R rfl hz H)
 | e :: r => fun A E ω s σ acc K env ρ G Rm O S R hz H => by
   refine o_ea H fun q hq H => ?_
   induction hq using PartE.casesOn with
   | str x k p =>
     refine wpAny_Constant_str (i_eeaa x s.toks rfl ?_ ?_)
     · have := H.1
       (refine rr (show x = ⟨(litS x).toArray⟩ from (str_mk x).symm) ?_; refine rr (str_app ..) ?_)
       simpa [Str.length] using this
     · have := (okJ T X r) A E ω { s with toks := s.toks + 1 } σ (acc ++ litS x) K env ρ G Rm O (S.toks _) R (by have := H.1; simpa using this) H.2
       rw [← str_app, show (⟨(litS x).toArray⟩ : Str) = x from str_mk x] at this
       exact this
   | fmt v p =>
     refine wpAny_FormattedValue_plain (next_v (okE T X _ A E ω s σ _ env ρ G Rm O S R H) fun h ω1 σ1 u s₁ l1 S1 R1 r₁ H₁ => ?_)
     (refine o_eaa H₁ fun l z369 hz' H₂ => ?_; clear H₁; subst z369)
     simp only [Rd] at r₁
     (refine o_ae r₁ fun hl t z365 => ?_; clear r₁; refine rr z365 ?_)
     have key : ∀ t', ((⟨acc.toArray⟩ : Str) ++ ⟨l.toArray⟩).length <= sizeLine /\ Joins (model prog w) A E (evalEach r env) ((⟨acc.toArray⟩ : Str) ++ ⟨l.toArray⟩) (fun out s' => ∃ l ω' σ', Le ω ω' /\ MS B0 os ω' gs s' /\ RelS ω' σ' /\ out = ⟨l.toArray⟩ /\ l.length <= sizeLine /\ K l σ') { s₁ with toks := t' } := fun t' => by
      refine rr (str_app ..) ?_
      refine ⟨by simpa [Str.length] using hz', ?_⟩
      have q := (okJ T X r) A E ω1 { s₁ with toks := t' } σ1 (acc ++ l) K env ρ G Rm (O.mono l1) (S1.toks _) R1 (by simpa using hz') H₂
      exact (show ∀ (es : List (Sem Value)) (acc : Str) (s : Shared), Joins (model prog w) A E es acc (fun out s' => ∃ l ω' σ', Le ω1 ω' /\ MS B0 os ω' gs s' /\ RelS ω' σ' /\ out = ⟨l.toArray⟩ /\ l.length <= sizeLine /\ K l σ') s ->
       Joins (model prog w) A E es acc (fun out s' => ∃ l ω' σ', Le ω ω' /\ MS B0 os ω' gs s' /\ RelS ω' σ' /\ out = ⟨l.toArray⟩ /\ l.length <= sizeLine /\ K l σ') s from by
       intro es
       induction es with
       | nil => intro acc s q; refine o_eeea q fun l ω' σ' a b => ?_; exact (i_eeea l ω' σ' (l1.trans a) b)
       | cons x xs ihx =>
         intro acc s q
         exact wpAny_mono q (fun v s' q => by refine o_eeaa q fun y t e1 e2 e3 => ?_; exact (i_eeaa y t e1 e2 (ihx _ _ e3))) fun _ _ x => x) _ _ _ q
     exact wpAny_formatField_str (i_eea _ _ rfl (key s₁.toks)) (i_eea _ _ rfl (key _)) (by exact hl)
theorem okEs (T : TopB B0 mg mb) (X : SpxOk prog w B0 os gs Γ n) : ∀ es : List Expr, OkEs prog w B0 os gs mg mb mu Γ n es := by
 intro xs0
 induction xs0 with
 | nil =>
  exact okEs_nil
 | cons e r ih =>
  exact okEs_cons (okE T X e) (ih)
theorem okO (T : TopB B0 mg mb) (X : SpxOk prog w B0 os gs Γ n) : ∀ o : Option Expr, OkO prog w B0 os gs mg mb mu Γ n o
 | none => okO_none
 | some e => okO_some (okE T X e)
end
end
set_option maxRecDepth 4000
section
noncomputable def noSl (e : Expr) : Bool := e.ctorIdx != 26
section
variable {prog : Program} {w : World} {B0 : Heap} {os : OsState} {gs : Array GenState} {mg mb : Str -> Option Value} {mu : Pos -> Bool} {Γ : Spx} {n : Nat} {ρ : Loc} {G : GC} {σ : St} {K : KV} {KB : Bool -> St -> Prop} {KL : List HV -> St -> Prop} {KO : Option Int -> St -> Prop}
theorem q_none {k : Nat} {p : Pos} (h : K .none σ) : evE mu Γ (.Constant .none k p) ρ G σ K := fun _ _ _ _ _ _ _ _ _ _ A E ω s env Rm O S R => wpAny_Constant_none (post_now S R (by rfl) h)
theorem q_bool {b : Bool} {k : Nat} {p : Pos} (h : K (.bool b) σ) : evE mu Γ (.Constant (.bool b) k p) ρ G σ K := fun _ _ _ _ _ _ _ _ _ _ A E ω s env Rm O S R => wpAny_Constant_bool (post_now S R (by rfl) h)
theorem q_int {i : Int} {k : Nat} {p : Pos} (h : K (.int i) σ) : evE mu Γ (.Constant (.int i) k p) ρ G σ K := fun _ _ _ _ _ _ _ _ _ _ A E ω s env Rm O S R => wpAny_Constant_int (post_tok S R (by simp [Rd]) h _)
theorem q_str {x : Str} {k : Nat} {p : Pos} (hz : Nat.ble x.cps.size 1000 = true) (h : K (.str (litS x)) σ) : evE mu Γ (.Constant (.str x) k p) ρ G σ K := fun _ _ _ _ _ _ _ _ _ _ A E ω s env Rm O S R => by
 have ln := line_is
 have hz := Nat.le_of_ble_eq_true hz
 exact wpAny_Constant_str (post_tok S R (by exact (i_ae (by simp [litS]; exact ar250 ln hz) s.toks (by exact rr (show (⟨(litS x).toArray⟩ : Str) = x from str_mk x) rfl))) h _)
theorem q_loc {x : Str} {p : Pos} {v : HV} (e : ρ x = some v) (h : K v σ) : evE mu Γ (.Name x p) ρ G σ K := fun _ _ _ _ _ _ _ _ _ _ A E ω s env Rm O S R => name_ok O S e fun v r => post_now S R r h
theorem q_glob {x : Str} {p : Pos} {v : HV} (e : ρ x = none) (e2 : G.g x = some v) (h : K v σ) : evE mu Γ (.Name x p) ρ G σ K := fun prog w B0 os gs mg mb n T X A E ω s env Rm O S R => by
 exact gname_ok T O S e2 fun v r => post_now S R (by refine rr r ?_; rfl) h
theorem q_bin {l r : Expr} {op : Operator} {p : Pos} (h : evE mu Γ l ρ G σ fun a σ1 => evE mu Γ r ρ G σ1 fun b σ2 => binH op a b σ2 K) : evE mu Γ (.BinOp l op r p) ρ G σ K := fun prog w B0 os gs mg mb n T X A E ω s env Rm O S R => by
 refine wpAny_BinOp (next_v (h T X A E ω s env Rm O S R) fun a ω1 σ1 va s₁ l1 S1 R1 r₁ H₁ => ?_)
 refine next_v (H₁ T X A E ω1 s₁ env Rm (O.mono l1) S1 R1) fun b ω2 σ2 vb s₂ l2 S2 R₂ r₂ H₂ => ?_
 exact up_v (H₂ A E ω2 s₂ va vb S2 R₂ (r₁.mono l2) r₂) (l1.trans l2)
theorem q_un {x : Expr} {op : UnaryOp} {p : Pos} (h : evE mu Γ x ρ G σ fun a σ1 => unH op a σ1 K) : evE mu Γ (.UnaryOp op x p) ρ G σ K := fun prog w B0 os gs mg mb n T X A E ω s env Rm O S R => by
 refine wpAny_UnaryOp (next_v (h T X A E ω s env Rm O S R) fun a ω1 σ1 va s₁ l1 S1 R1 r₁ H₁ => ?_)
 exact up_v (H₁ A E ω1 s₁ va S1 R1 r₁) l1
theorem q_and {x y : Expr} {p : Pos} (h : evE mu Γ x ρ G σ fun a σ1 => ∃ c, truH a σ1 = some c /\ if c then evE mu Γ y ρ G σ1 K else K a σ1) : evE mu Γ (.BoolOp .And [x, y] p) ρ G σ K := fun prog w B0 os gs mg mb n T X A E ω s env Rm O S R => by
 refine wpAny_And2 (next_v (h T X A E ω s env Rm O S R) fun a ω1 σ1 va s₁ l1 S1 R1 r₁ H₁ => ?_)
 refine o_ea H₁ fun c e H₂ => ?_
 refine tru_ok S1 R1 r₁ e fun t => ?_
 clear e; induction c with
 | true => exact up_v (H₂ T X A E ω1 _ env Rm (O.mono l1) (S1.toks t) R1) l1
 | false => exact (post_tok S1 R1 r₁ H₂ t).up l1
theorem q_or {x y : Expr} {p : Pos} (h : evE mu Γ x ρ G σ fun a σ1 => ∃ c, truH a σ1 = some c /\ if c then K a σ1 else evE mu Γ y ρ G σ1 K) : evE mu Γ (.BoolOp .Or [x, y] p) ρ G σ K := fun prog w B0 os gs mg mb n T X A E ω s env Rm O S R => by
 refine wpAny_Or2 (next_v (h T X A E ω s env Rm O S R) fun a ω1 σ1 va s₁ l1 S1 R1 r₁ H₁ => ?_)
 refine o_ea H₁ fun c e H₂ => ?_
 refine tru_ok S1 R1 r₁ e fun t => ?_
 clear e; induction c with
 | true => exact (post_tok S1 R1 r₁ H₂ t).up l1
 | false => exact up_v (H₂ T X A E ω1 _ env Rm (O.mono l1) (S1.toks t) R1) l1
theorem q_if {t b o : Expr} {p : Pos} (h : evT mu Γ t ρ G σ fun c σ1 => if c then evE mu Γ b ρ G σ1 K else evE mu Γ o ρ G σ1 K) : evE mu Γ (.IfExp t b o p) ρ G σ K := fun prog w B0 os gs mg mb n T X A E ω s env Rm O S R => by
 refine wpAny_IfExp (next_b (h T X A E ω s env Rm O S R) fun c ω1 σ1 s₁ l1 S1 R1 H₁ => ?_)
 induction c with
 | true => exact up_v (H₁ T X A E ω1 s₁ env Rm (O.mono l1) S1 R1) l1
 | false => exact up_v (H₁ T X A E ω1 s₁ env Rm (O.mono l1) S1 R1) l1
theorem q_cmp {l r : Expr} {op : CmpOp} {p : Pos} (hm : behindInMarks op r = false) (h : evE mu Γ l ρ G σ fun a σ1 => evE mu Γ r ρ G σ1 fun b σ2 => cmpH op a b σ2 K) : evE mu Γ (.Compare l [op] [r] p) ρ G σ K := fun prog w B0 os gs mg mb n T X A E ω s env Rm O S R => by
 refine wpAny_Compare1 (next_v (h T X A E ω s env Rm O S R) fun a ω1 σ1 va s₁ l1 S1 R1 r₁ H₁ => ?_) hm
 refine next_v (H₁ T X A E ω1 s₁ env Rm (O.mono l1) S1 R1) fun b ω2 σ2 vb s₂ l2 S2 R₂ r₂ H₂ => ?_
 exact up_v (H₂ A _ ω2 s₂ va vb Rm S2 R₂ (r₁.mono l2) r₂) (l1.trans l2)
theorem q_sub {v i : Expr} {p : Pos} (hi : noSl i = true) (h : evE mu Γ v ρ G σ fun o σ1 => evE mu Γ i ρ G σ1 fun k σ2 => subH o k σ2 K) : evE mu Γ (.Subscript v i p) ρ G σ K := fun prog w B0 os gs mg mb n T X A E ω s env Rm O S R => by
 refine PyProof.Rows.Subscript_ (next_v (h T X A E ω s env Rm O S R) fun a ω1 σ1 va s₁ l1 S1 R1 r₁ H₁ => ?_)
 refine next_v (H₁ T X A E ω1 s₁ env Rm (O.mono l1) S1 R1) fun b ω2 σ2 vb s₂ l2 S2 R₂ r₂ H₂ => ?_
 exact up_v (H₂ A E ω2 s₂ _ _ va vb S2 R₂ (r₁.mono l2) r₂) (l1.trans l2)
theorem q_slice {v : Expr} {lo hi : Option Expr} {q p : Pos} (h : evE mu Γ v ρ G σ fun o σ1 => evO mu Γ lo ρ G σ1 fun l σ2 => evO mu Γ hi ρ G σ2 fun u σ3 => slH o l u σ3 K) : evE mu Γ (.Subscript v (.Slice lo hi none q) p) ρ G σ K := fun prog w B0 os gs mg mb n T X A E ω s env Rm O S R => by
 refine PyProof.Rows.Subscript_ (next_v (h T X A E ω s env Rm O S R) fun a ω1 σ1 va s₁ l1 S1 R1 r₁ H₁ => ?_)
 refine wpAny_Slice (wpAny_mono (okO T X _ A E ω1 s₁ σ1 _ env ρ G Rm (O.mono l1) S1 R1 H₁) (fun vl s₂ q => ?_) fun _ _ x => x)
 obtain ⟨il, ω2, σ2, l2, S2, R₂, p₂, H₂⟩ := q
 refine wpAny_mono (okO T X _ A E ω2 s₂ σ2 _ env ρ G Rm (O.mono (l1.trans l2)) S2 R₂ H₂) (fun vh s₃ q => ?_) fun _ _ x => x
 obtain ⟨ih, ω3, σ3, l₃, S₃, R₃, p₃, H3⟩ := q
 refine wpAny_evalPart_none ?_
 exact up_v (H3 A E ω3 _ _ _ _ _ va vl vh S₃ R₃ (r₁.mono (l2.trans l₃)) p₂ p₃) (l1.trans (l2.trans l₃))
theorem q_tuple {es : List Expr} {k : Nat} {p : Pos} (h1 : es.length <= 1000) (h2 : es.all notStar = true) (h : evEs mu Γ es ρ G σ fun hs σ1 => K (.tup hs) σ1) : evE mu Γ (.Tuple es k p) ρ G σ K := fun prog w B0 os gs mg mb n T X A E ω s env Rm O S R => by
 have ln := line_is
 refine wpAny_Tuple ?_
 refine rr (plain_back p es env h2) ?_
 refine next_l (okEs T X _ A E ω s σ _ env ρ G Rm O S R h) fun xs ω1 σ1 vs s₁ l1 S1 R1 r₁ hn H₁ => ?_
 have := r₁.length
 exact ⟨ar30 ln this hn h1, (post_tup S1 R1 (ar29 ln hn h1) r₁ H₁ s₁.toks).up l1⟩
theorem q_list {es : List Expr} {p : Pos} (hm : mu p = false) (h1 : es.length <= 1000) (h2 : es.all notStar = true) (h : evEs mu Γ es ρ G σ fun hs σ1 => K (.list hs) σ1) : evE mu Γ (.List es p) ρ G σ K := fun prog w B0 os gs mg mb n T X A E ω s env Rm O S R => by
 have ln := line_is
 refine wpAny_List ?_
 refine rr (plain_back p es env h2) ?_
 refine next_l (okEs T X _ A E ω s σ _ env ρ G Rm O S R h) fun xs ω1 σ1 vs s₁ l1 S1 R1 r₁ hn H₁ => ?_
 have hl := r₁.length
 refine ⟨ar30 ln hl hn h1, ?_⟩
 exact (post_list S1 R1 (ar29 ln hn h1) r₁ H₁ s₁.toks).up l1
theorem q_own {es : List Expr} {p : Pos} (hm : mu p = true) (h1 : es.length <= 1000) (h2 : es.all notStar = true) (h : evEs mu Γ es ρ G σ fun hs σ1 => ∀ a, σ1 a = none -> K (.obj a) (σ1.put a hs)) : evE mu Γ (.List es p) ρ G σ K := fun prog w B0 os gs mg mb n T X A E ω s env Rm O S R => by
 have ln := line_is
 refine wpAny_List ?_
 refine (plain_back p es env h2) ▸ ?_
 refine next_l (okEs T X _ A E ω s σ _ env ρ G Rm O S R h) fun xs ω1 σ1 vs s₁ l1 S1 R1 r₁ hn H₁ => ?_
 have hl := r₁.length
 refine ⟨ar30 ln hl hn h1, ?_⟩
 have hu := S1.unused
 have hσ : σ1 s₁.heap.objs.size = none := by
  induction q : σ1 s₁.heap.objs.size with
  | none => rfl
  | some ys => refine o_aea (R1 _ _ q) fun _ ws h3 _ => ?_; rw [hu] at h3; exact no_ns h3
 refine ⟨.obj s₁.heap.objs.size, _, _, l1.trans (Le.new _ hu), S1.push _ (m := .lst vs) ⟨_, Heap.get?_push_size _ rfl⟩, R1.putNew hu (ar29 ln hn h1) r₁, by rfl, H₁ _ hσ⟩
theorem q_joined {v₁ v₂ : Expr} {vs : List Expr} {p : Pos} (h : evJ mu Γ (v₁ :: v₂ :: vs) ρ G σ [] fun l σ1 => K (.str l) σ1) : evE mu Γ (.JoinedStr (v₁ :: v₂ :: vs) p) ρ G σ K := fun prog w B0 os gs mg mb n T X A E ω s env Rm O S R => by
 refine wpAny_JoinedStr ?_
 have q := okJ T X _ A E ω s σ [] _ env ρ G Rm O S R (by simp) h
 refine (show ∀ (es : List (Sem Value)) (acc : Str) (s : Shared) (P P' : Str -> Shared -> Prop), (∀ x s, P x s -> P' x s) -> Joins (model prog w) A E es acc P s -> Joins (model prog w) A E es acc P' s from by
  intro es
  induction es with
  | nil => intro acc s P P' h q; exact h _ _ q
  | cons x xs ihx =>
   intro acc s P P' h q
   exact wpAny_mono q (fun v s' q => by refine o_eeaa q fun y t e1 e2 e3 => ?_; exact (i_eeaa y t e1 e2 (ihx _ _ _ _ h e3))) fun _ _ x => x) _ _ _ _ _ (fun out s' q => ?_) q
 (refine o_eeeaaaaa q fun l ω' σ' a b c z12 hz e => ?_; clear q; refine rr z12 ?_)
 exact ⟨by exact hz, (post_tok b c (by exact (i_ae hz _ rfl)) e _).up a⟩
theorem call_any {h : HV} {v : Value} {args : List Expr} {pos : Pos} {A : Around} {E : Value -> Shared -> Prop} {ω : Own} {s : Shared} {σ : St} {K : KV} {env : Env} {ρ : Loc} {G : GC} (X : SpxOk prog w B0 os gs Γ n)
    (T : TopB B0 mg mb) (Rm : Room n A) (O : EnvOk mg mb env ω ρ G) (S : MS B0 os ω gs s) (R : RelS ω σ) (r : Rd ω h v) (hp : args.all notStar = true) (hc : calB Γ h = true)
    (H : evEs mu Γ args ρ G σ fun hs σ2 => callH Γ h hs σ2 K) : wpAny (model prog w) A (callWith pos v [] (backTo pos (starEach args env)) (backToKw pos (keywordEach [] env))) (PostV B0 os gs ω K) E s := by
  refine rr (plain_back pos args env hp) ?_
  show wpAny (model prog w) A (callWith pos v [] (args.map fun e => (false, eval e env)) []) (PostV B0 os gs ω K) E s
  have ev := okEs T X _ A E ω s σ _ env ρ G Rm O S R H
  induction h using HV.casesOn with
  | bm a =>
    simp only [Rd] at r
    (refine o_ea r fun b z47 hb => ?_; clear r; subst z47)
    refine callWith_bm (l := a) (plain_any args env) (args_any (plain_any args env) (next_l ev fun xs ω1 σ1 vs s₁ l1 S1 R1 r₁ hn H₁ => ?_))
    refine ⟨S1.hold _ _ (l1.fz hb), ?_⟩
    match xs, H₁, r₁ with
    | [], H₁, _ => exact H₁.elim
    | _ :: _ :: _, H₁, _ => exact H₁.elim
    | [x], H₁, r₁ =>
      (refine o_ea r₁.one fun u z44 ru => ?_; refine z44 ▸ ?_)
      refine o_eaa H₁ fun l e1 hz H₂ => ?_
      refine o_aea (R1 a l e1) fun _ ws h1 r2 => ?_
      refine o_e (S1.hold _ _ h1) fun m ho => ?_
      have hl := r2.length
      refine call_bm (S1.hold _ _ (l1.fz hb)) ho (ar33 hz hl) fun h' hs' hg => ?_
      exact ⟨.none, _, _, l1.trans (Le.lst h1), S1.same h1 rfl hs' (m := .lst (ws ++ [u])) ⟨_, hg⟩ s₁.toks, R1.put h1 (by simp; assumption) (r2.append (i_eeaa u ([]) rfl ru rfl) : RdL ω1 (l ++ [x]) (ws ++ [u])), rfl, H₂⟩
  | val v' =>
    simp only [Rd] at r
    subst r
    by_cases hb : ∃ id, v = .builtin id
    · (refine o_e hb fun id z36 => ?_; clear H hc; subst z36)
      refine callWith_builtin (plain_any args env) (args_any (plain_any args env) (next_l ev fun xs ω1 σ1 vs s₁ l1 S1 R1 r₁ hn H₁ => ?_))
      exact up_v ((show biH _ _ _ _ from H₁) A E ω1 s₁ vs Rm S1 R1 r₁) l1
    · by_cases ht : ∃ t, v = .type t
      · obtain ⟨t, rfl⟩ := ht
        refine callWith_type (plain_any args env) (args_any (plain_any args env) (next_l ev fun xs ω1 σ1 vs s₁ l1 S1 R1 r₁ hn H₁ => ?_))
        exact up_v ((show tyH _ _ _ _ from H₁) A E ω1 s₁ vs Rm S1 R1 r₁) l1
      · have e1 : calB Γ (.val v) = (Γ v).isSome := by
          clear ev H hc; cases v <;> first | rfl | exact absurd ⟨_, rfl⟩ hb | exact absurd ⟨_, rfl⟩ ht
        rw [e1] at hc
        refine o_e (Option.isSome_iff_exists.mp hc) fun sp hsp => ?_
        (refine o_eeeaaa (X v sp hsp) fun a o fd z19 h1 h2 z20 => ?_; clear e1 ht hb H hc; subst z19; refine o_a z20 fun h3 h4 => ?_)
        refine callWith_function (o := o) (fd := fd) (args_any (plain_any args env) (next_l ev fun xs ω1 σ1 vs s₁ l1 S1 R1 r₁ hn H₁ => ?_))
        refine ⟨⟨S1.top h1 h2, h3⟩, up_v (h4 A E ω1 s₁ σ1 K xs vs Rm S1 R1 r₁ ?_) l1⟩
        refine rl ((show callH Γ (.val (.ref a)) xs σ1 K = sp xs σ1 K from by show (match Γ (.ref a) with | some sp => sp xs σ1 K | none => False) = _; exact rr hsp rfl)) ?_; exact H₁
  | _ => exact no_ft hc
theorem q_call {f : Str} {q p : Pos} {args : List Expr} {v : HV} (h5 : args.all notStar = true) (e : ρ f = none) (e2 : G.g f = some v) (hc : calB Γ v = true) (h : evEs mu Γ args ρ G σ fun hs σ2 => callH Γ v hs σ2 K) :
 evE mu Γ (.Call (.Name f q) args [] p) ρ G σ K := fun prog w B0 os gs mg mb n T X A E ω s env Rm O S R => by
 exact wpAny_Call_ofName (gname_ok T O S e2 fun v r => call_any X T Rm O S R (by refine rr r ?_; rfl) h5 hc h)
theorem q_callL {f : Str} {q p : Pos} {args : List Expr} {v : HV} (h5 : args.all notStar = true) (e : ρ f = some v) (hc : calB Γ v = true) (h : evEs mu Γ args ρ G σ fun hs σ2 => callH Γ v hs σ2 K) :
 evE mu Γ (.Call (.Name f q) args [] p) ρ G σ K := fun prog w B0 os gs mg mb n T X A E ω s env Rm O S R => by
 exact wpAny_Call_ofName (name_ok O S e fun v r => call_any X T Rm O S R r h5 hc h)
theorem base_plain {o : Expr} {name : Str} {env : Env} {x : Sem Value} (h : notCall o = true) : attributeBase o name env x = x := by
 cases o <;> first | rfl | exact no_ft ((show false = true from h))
theorem few_ok (args : List Expr) (env : Env) (hp : args.all notStar = true) (hl : args.length <= 20) (pos : Pos) : ((backTo pos (starEach args env)).all (fun x => !x.1) && (backToKw pos (keywordEach [] env)).all (fun x => x.1.isSome)
 && decide (args.length + ([] : List Keyword).length + (if ([] : List Keyword).isEmpty then 0 else 1) < 30)) = true := by
 rw [plain_back pos args env hp]
 simp only [List.all_map, Bool.and_eq_true, decide_eq_true_eq]
 refine ⟨⟨?_, rfl⟩, by simp; exact ar251 hl⟩
 rw [List.all_eq_true]; intro x _; rfl
theorem q_meth {o : Expr} {name : Str} {ap p : Pos} {args : List Expr} (h1 : notCall o = true) (h2 : name = Str.ofString "append" ∨ name = Str.ofString "join") (h3 : ap.endLine = p.line) (h4 : args.length <= 20) (h5 : args.all notStar = true)
 (h : evE mu Γ o ρ G σ fun a σ1 => rcv name a σ1 = true /\ evEs mu Γ args ρ G σ1 fun hs σ2 => methH a name hs σ2 K) : evE mu Γ (.Call (.Attribute o name ap) args [] p) ρ G σ K := fun prog w B0 os gs mg mb n T X A E ω s env Rm O S R => by
 by_cases ha : name = Str.ofString "append"
 · subst ha
   refine wpAny_Call_method (T := "list") (id := "list.append") (base_plain h1) (few_ok args env h5 h4 p) (by refine h3 ▸ ?_; simp) F.plainAttrs_list F.slot_list_append F.type_list_append (next_v (h T X A E ω s env Rm O S R) fun a ω1 σ1 va s₁ l1 S1 R1 r₁ H₁ => ?_)
   obtain ⟨hr, H₁⟩ := H₁
   dsimp only [rcv] at hr
   rw [if_pos rfl] at hr
   induction a using HV.casesOn with
   | obj b =>
     obtain ⟨xs, hx⟩ := Option.isSome_iff_exists.mp hr
     (refine o_aaeaa (obj_in S1 R1 r₁ hx) fun z78 hz vs h1 hl r2 => ?_; refine z78 ▸ ?_)
     refine o_e (S1.hold _ _ h1) fun k hk => ?_
     refine (i_aa hl.typeIs (fun a e => by (injection e with e; subst e); exact (i_ea _ hk rfl)) ?_)
     refine (plain_back p args env h5) ▸ ?_
     refine callWith_builtin (plain_any args env) (args_any (plain_any args env) (next_l (okEs T X _ A E ω1 s₁ σ1 _ env ρ G Rm (O.mono l1) S1 R1 H₁) fun ys ω2 σ2 us s₂ l2 S2 R₂ r₂ hn H₂ => ?_))
     dsimp only [methH] at H₂
     rw [if_pos rfl] at H₂
     match ys, H₂, r₂ with
     | [], H₂, _ => exact H₂.elim
     | _ :: _ :: _, H₂, _ => exact H₂.elim
     | [x], H₂, r₂ =>
       (refine o_ea r₂.one fun u z76 ru => ?_; refine rr z76 ?_)
       refine o_eaa H₂ fun l e1 hz' H3 => ?_
       exact up_v (append_ok S2 R₂ e1 hz' ru H3) (l1.trans l2)
   | _ => exact no_ft hr
 · by_cases hj : name = Str.ofString "join"
   · clear h2; subst hj
     refine wpAny_Call_method (T := "str") (id := "str.join") (base_plain h1) (few_ok args env h5 h4 p) (by refine rr h3 ?_; simp) F.plainAttrs_str F.slot_str_join F.type_str_join (next_v (h T X A E ω s env Rm O S R) fun a ω1 σ1 va s₁ l1 S1 R1 r₁ H₁ => ?_)
     obtain ⟨hr, H₁⟩ := H₁
     induction a using HV.casesOn with
     | str sep =>
       have r1' := r₁
       simp only [Rd] at r1'
       (refine o_ae r1' fun hz t z67 => ?_; clear r1'; refine rr z67 ?_)
       refine (i_aa (typeIs_str _ _ _) (fun a e => (by contradiction)) ?_)
       refine rr (plain_back p args env h5) ?_
       refine callWith_builtin (plain_any args env) (args_any (plain_any args env) (next_l (okEs T X _ A E ω1 s₁ σ1 _ env ρ G Rm (O.mono l1) S1 R1 H₁) fun ys ω2 σ2 us s₂ l2 S2 R₂ r₂ hn H₂ => ?_))
       dsimp only [methH] at H₂
       rw [if_neg ha, if_pos rfl] at H₂
       match ys, H₂, r₂ with
       | [], H₂, _ => exact H₂.elim
       | _ :: _ :: _, H₂, _ => exact H₂.elim
       | [x], H₂, r₂ =>
         (refine o_ea r₂.one fun u z64 ru => ?_; refine rr z64 ?_)
         (refine o_eeaaa H₂ fun zs ts e1 e2 hz' H3 => ?_; clear H₂)
         clear hn r₂; induction x using HV.casesOn with
         | list ws =>
           (replace e1 := Option.some.inj e1; subst e1)
           (refine o_aeeaa (list_in S2 ru) fun _ b us z61 hl r3 => ?_; refine rr z61 ?_)
           exact up_v (join_ok S2 R₂ hl r3 e2 hz' H3) (l1.trans l2)
         | obj b =>
           (refine o_aaeaa (obj_in S2 R₂ ru e1) fun z58 _ us h1 hl r3 => ?_; refine rr z58 ?_)
           exact up_v (join_ok S2 R₂ hl r3 e2 hz' H3) (l1.trans l2)
         | _ => exact no_ns e1
     | _ => exact no_ft hr
   · exact absurd h2 (by simp only [ha, hj]; simp)
theorem q_attr {o : Expr} {name : Str} {p : Pos} (h1 : notCall o = true) (h2 : name = Str.ofString "append") (h : evE mu Γ o ρ G σ fun a σ1 => ∃ b, a = .obj b /\ (σ1 b).isSome = true /\ K (.bm b) σ1) : evE mu Γ (.Attribute o name p) ρ G σ K := fun prog w B0 os gs mg mb n T X A E ω s env Rm O S R => by
 refine rr h2 ?_
 refine PyProof.Rows.Attribute_any_ (next_v (h T X A E ω s env Rm O S R) fun a ω1 σ1 va s₁ l1 S1 R1 r₁ H₁ => ?_) (by simp only [arm_eval_Attribute, base_plain h1])
 (refine o_eaa H₁ fun b z85 hs H₂ => ?_; clear H₁; subst z85)
 obtain ⟨xs, hx⟩ := Option.isSome_iff_exists.mp hs
 (refine o_aaeaa (obj_in S1 R1 r₁ hx) fun z81 hz vs h1 hl r2 => ?_; refine rr z81 ?_)
 refine o_e (S1.hold _ _ h1) fun k hk => ?_
 refine getAttr_append hk fun tk => ?_
 exact (post_push (o := bmObj b) S1 R1 rfl (by exact (i_ea _ rfl (Own.set_self ..))) H₂ tk).up l1
theorem truth_of {A : Around} {E : Value -> Shared -> Prop} {ω ω0 : Own} {s : Shared} {σ : St} {K : Bool -> St -> Prop} {h : HV} {v : Value} (l : Le ω0 ω) (S : MS B0 os ω gs s) (R : RelS ω σ) (r : Rd ω h v) (H : ∃ c, truH h σ = some c /\ K c σ) :
 wpAny (model prog w) A (truthy v) (PostB B0 os gs ω0 K) E s := by
 refine o_ea H fun c e H => ?_
 exact tru_ok S R r e fun t => ⟨ω, σ, l, S.toks t, R, H⟩
theorem q_T_not {x : Expr} {p : Pos} (h : evT mu Γ x ρ G σ fun b σ1 => KB (!b) σ1) : evT mu Γ (.UnaryOp .Not x p) ρ G σ KB := fun prog w B0 os gs mg mb n T X A E ω s env Rm O S R => by
 exact wpAny_isTrue_Not (next_b (h T X A E ω s env Rm O S R) fun b ω1 σ1 s₁ l1 S1 R1 H₁ => ⟨ω1, σ1, l1, S1, R1, H₁⟩)
theorem armA_nil {op : BoolOp} : OkA prog w B0 os gs mg mb mu Γ n op [] := fun A E ω s σ K env ρ G Rm O S R H => by
 induction op using BoolOp.casesOn with
 | And => exact wpAny_allTrue_And_nil ⟨ω, σ, .refl _, S, R, H⟩
 | Or => exact wpAny_allTrue_Or_nil ⟨ω, σ, .refl _, S, R, H⟩
theorem armA_cons {op : BoolOp} {x : Expr} {r : List Expr} (hx : OkT prog w B0 os gs mg mb mu Γ n x) (hr : OkA prog w B0 os gs mg mb mu Γ n op r) : OkA prog w B0 os gs mg mb mu Γ n op (x :: r) := fun A E ω s σ K env ρ G Rm O S R H => by
 induction op using BoolOp.casesOn with
 | And =>
  refine wpAny_allTrue_And_cons (next_b (hx A E ω s σ _ env ρ G Rm O S R H) fun b ω1 σ1 s₁ l1 S1 R1 H₁ => ?_)
  cases b with
  | true => exact up_b (hr A E ω1 s₁ σ1 _ env ρ G Rm (O.mono l1) S1 R1 H₁) l1
  | false => exact ⟨ω1, σ1, l1, S1, R1, H₁⟩
 | Or =>
  refine wpAny_allTrue_Or_cons (next_b (hx A E ω s σ _ env ρ G Rm O S R H) fun b ω1 σ1 s₁ l1 S1 R1 H₁ => ?_)
  cases b with
  | true => exact ⟨ω1, σ1, l1, S1, R1, H₁⟩
  | false => exact up_b (hr A E ω1 s₁ σ1 _ env ρ G Rm (O.mono l1) S1 R1 H₁) l1
theorem okA (T : TopB B0 mg mb) (X : SpxOk prog w B0 os gs Γ n) (op : BoolOp) : ∀ es, OkA prog w B0 os gs mg mb mu Γ n op es := by
 intro xs0
 induction xs0 with
 | nil =>
  exact armA_nil
 | cons x r ih =>
  exact armA_cons (okT T X x) (ih)
theorem q_T_bool {op : BoolOp} {vs : List Expr} {p : Pos} (h : evA mu Γ op vs ρ G σ KB) : evT mu Γ (.BoolOp op vs p) ρ G σ KB := fun prog w B0 os gs mg mb n T X A E ω s env Rm O S R => by
 exact wpAny_isTrue_BoolOp (okA T X _ _ A E ω s σ _ env ρ G Rm O S R h)
theorem q_T_cmp {l r : Expr} {op : CmpOp} {p : Pos} (hm : behindInMarks op r = false) (h : evE mu Γ l ρ G σ fun a σ1 => evE mu Γ r ρ G σ1 fun b σ2 => cmpH op a b σ2 fun h σ3 => ∃ c, truH h σ3 = some c /\ KB c σ3) : evT mu Γ (.Compare l [op] [r] p) ρ G σ KB := fun prog w B0 os gs mg mb n T X A E ω s env Rm O S R => by
 refine wpAny_isTrue_Compare1 (next_v (h T X A E ω s env Rm O S R) fun a ω1 σ1 va s₁ l1 S1 R1 r₁ H₁ => ?_) hm
 refine next_v (H₁ T X A E ω1 s₁ env Rm (O.mono l1) S1 R1) fun b ω2 σ2 vb s₂ l2 S2 R₂ r₂ H₂ => ?_
 exact next_v (H₂ A _ ω2 s₂ va vb Rm S2 R₂ (r₁.mono l2) r₂) fun c ω3 σ3 vc s₃ l₃ S₃ R₃ r₃ H3 => truth_of ((l1.trans l2).trans l₃) S₃ R₃ r₃ H3
theorem q_T_name {x : Str} {p : Pos} {v : HV} (e : ρ x = some v) (h : ∃ c, truH v σ = some c /\ KB c σ) : evT mu Γ (.Name x p) ρ G σ KB := fun _ _ _ _ _ _ _ _ _ _ A E ω s env Rm O S R => wpAny_isTrue_value (name_ok O S e fun v r => truth_of (.refl _) S R r h)
theorem q_T_call {f : Expr} {as : List Expr} {ks : List Keyword} {p : Pos} (h : evE mu Γ (.Call f as ks p) ρ G σ fun h σ1 => ∃ c, truH h σ1 = some c /\ KB c σ1) : evT mu Γ (.Call f as ks p) ρ G σ KB := fun prog w B0 os gs mg mb n T X A E ω s env Rm O S R => by
 exact wpAny_isTrue_value (next_v (h T X A E ω s env Rm O S R) fun a ω1 σ1 va s₁ l1 S1 R1 r₁ H₁ => truth_of l1 S1 R1 r₁ H₁)
end
end
set_option maxRecDepth 4000
section
theorem Own.set_set (ω : Own) (a : Addr) (m m' : OM) : (ω.set a m).set a m' = ω.set a m' := by funext b; unfold Own.set; split <;> rfl
theorem Own.del_ne (ω : Own) {a b : Addr} (h : b ≠ a) : ω.del a b = ω b := by simp -iota [Own.del, h]
theorem Own.ne_of {ω : Own} {a b : Addr} {m : OM} (h : ω a = some m) (h' : ω b = none) : a ≠ b := fun q => by subst q; rw [h] at h'; exact no_sn h'
theorem RelS.keepF {ω ω' : Own} {σ : St} (R : RelS ω σ) (l : LeF ω ω') (k : ∀ a vs, ω a = some (.lst vs) -> ω' a = some (.lst vs)) : RelS ω' σ := fun b xs e => by
 refine o_aea (R b xs e) fun hz vs h1 h2 => ?_
 exact (i_aea hz vs (k _ _ h1) (h2.monoF l))
theorem RelS.set {ω : Own} {σ : St} {a : Addr} {m₀ : OM} (R : RelS ω σ) (m : OM) (h : ω a = some m₀) (h1 : ∀ o, m₀ ≠ .fz o) (h2 : ∀ vs, m₀ ≠ .lst vs) : RelS (ω.set a m) σ :=
 R.keepF (LeF.set m h h1) fun b vs e => by
  refine rr (Own.set_ne _ _ (fun q => by subst q; rw [h] at e; (replace e := Option.some.inj e; clear h h1; subst e); exact h2 _ rfl)) ?_; exact e
theorem RelS.del {ω : Own} {σ : St} {a : Addr} {m₀ : OM} (R : RelS ω σ) (h : ω a = some m₀) (h1 : ∀ o, m₀ ≠ .fz o) (h2 : ∀ vs, m₀ ≠ .lst vs) : RelS (ω.del a) σ :=
 R.keepF (LeF.del h h1) fun b vs e => by
  refine rr (Own.del_ne _ (fun q => by subst q; rw [h] at e; (replace e := Option.some.inj e; clear h h1; subst e); exact h2 _ rfl)) ?_; exact e
theorem MS.env {B0 : Heap} {os : OsState} {ω : Own} {gs : Array GenState} {s : Shared} {o : Obj} {h' : Heap} {m : Str -> Option Value} (S : MS B0 os ω gs s) (hf : o.isFreed = false)
 (hn : h'.Ns s.heap.objs.size m) (hs : Heap.SameBut s.heap.objs.size (s.heap.push o) h') (t : Nat) : MS B0 os (ω.set s.heap.objs.size (.ns m)) gs { s with heap := h', toks := t } := by
 have S1 := S.push o (m := .ex o) (Heap.get?_push_size _ hf)
 have S2 := S1.same (Own.set_self ..) rfl hs (m := .ns m) hn t
 simp only [Own.set_set] at S2
 exact S2
theorem folded_plain {e : Expr} {env : Env} (h : iterB e = true) (x : Value) : foldedSetIterable e env x = pure x := by
 cases e <;> first | rfl | exact no_ft ((show false = true from h))
noncomputable def clStep (env : Env) (cs : List (Str × Addr)) (x : Str × NameKind) : List (Str × Addr) := if x.2 == .free then (x.1, (env.cells.lookup x.1).getD 0) :: cs else cs
theorem closure_is {env : Env} {sc : Scope} (h : ∀ x ∈ sc.names, x.2 = .free -> ∃ c, env.cells.lookup x.1 = some c) : closureFor sc env = pure (sc.names.foldl (clStep env) []) := by
 simp -iota only [closureFor]
 refine rr ((show ∀ (l : List (Str × NameKind)) (cs : List (Str × Addr)), (∀ x ∈ l, x.2 = .free -> ∃ c, env.cells.lookup x.1 = some c) ->
  (forIn l cs fun x r => (if (x.snd == NameKind.free) = true then (do
   let __do_lift ← cellOf env x.fst
   pure (ForInStep.yield ((x.fst, __do_lift) :: r)))
   else pure (ForInStep.yield r) : Sem (ForInStep (List (Str × Addr))))) = (pure (l.foldl (clStep env) cs) : Sem (List (Str × Addr))) from by
  intro l
  induction l with
  | nil => intro cs _; rfl
  | cons x r ih =>
    intro cs hx
    (refine rr (List.forIn_cons ..) ?_; refine rr List.foldl_cons ?_)
    obtain ⟨nm, kd⟩ := x
    by_cases hk : kd = .free
    · subst hk
      obtain ⟨c, hc⟩ := hx _ (.head _) rfl
      refine rr (show clStep env cs (nm, .free) = (nm, c) :: cs from by dsimp only [clStep]; simp -iota only [hc]; rfl) ?_
      simp -iota only [(show cellOf env nm = pure c from by unfold cellOf; exact rr hc rfl)]
      exact ih _ fun y hy => hx y (.tail _ hy)
    · have e2 : clStep env cs (nm, kd) = cs := by dsimp only [clStep]; simp -iota [hk]
      refine rr e2 ?_
      have hb : (kd == NameKind.free) = false := by simp -iota [hk]
      simp -iota only [hb]
      exact ih _ fun y hy => hx y (.tail _ hy)) _ _ h) ?_
 rfl
theorem closure_has {env : Env} : ∀ (l : List (Str × NameKind)) (cs : List (Str × Addr)) (x : Str) (c : Addr), env.cells.lookup x = some c -> ((x, NameKind.free) ∈ l ∨ cs.lookup x = some c) -> (l.foldl (clStep env) cs).lookup x = some c
 | [], cs, x, c, _, h => by rcases h with h | h; · contradiction
                            · exact h
 | y :: r, cs, x, c, hc, h => by
   refine closure_has r _ x c hc ?_
   obtain ⟨nm, kd⟩ := y
   by_cases hin : (x, NameKind.free) ∈ r
   · exact .inl hin
   · refine .inr ?_
     by_cases hk : kd = .free
     · refine rr hk ?_
       refine rr (show clStep env cs (nm, .free) = (nm, (env.cells.lookup nm).getD 0) :: cs from by rfl) ?_
       by_cases hx : x = nm
       · refine rl hx ?_; simp -iota [List.lookup_cons, hc]
       · simp -iota only [List.lookup_cons, (beq_eq_false_iff_ne.mpr hx)]
         rcases h with h | h
         · rcases List.mem_cons.mp h with h | h
           · (injection h with h; subst h); exact absurd rfl hx
           · exact absurd h hin
         · exact h
     · refine rr (show clStep env cs (nm, kd) = cs from by dsimp only [clStep]; simp -iota [hk]) ?_
       rcases h with h | h
       · rcases List.mem_cons.mp h with h | h
         · (injection h with h h9; subst h9); exact absurd rfl hk
         · exact absurd h hin
       · exact h
theorem lookup_mem {x : Str} {k : NameKind} : ∀ {l : List (Str × NameKind)}, l.lookup x = some k -> (x, k) ∈ l
 | [], h => by simp -iota at h
 | (n, j) :: r, h => by
  simp only [List.lookup_cons] at h
  split at h
  · rename_i hx; refine Option.some.inj h ▸ ?_; rw [beq_iff_eq] at hx; refine rr hx ?_; exact .head _
  · exact .tail _ (lookup_mem h)
theorem lookup_relabel {env : Env} {x : Str} : ∀ {l : List (Str × NameKind)} {k : NameKind}, l.lookup x = some k ->
 ∃ k', (l.map fun (n, k) => if (k == NameKind.free && env.scope.kind == .function && env.kindOf n == some .cell) then (n, NameKind.cell) else (n, k)).lookup x = some k' /\ (k ≠ .free -> k' = k) /\ (k = .free -> k' = .free ∨ k' = .cell)
 | [], _, h => by simp -iota at h
 | (n, j) :: r, k, h => by
   show ∃ k', List.lookup x ((if (j == NameKind.free && env.scope.kind == .function && env.kindOf n == some .cell) = true then (n, NameKind.cell) else (n, j)) :: _) = some k' /\ _
   induction hx : x == n with
   | true =>
     simp -iota only [List.lookup_cons, hx] at h
     refine Option.some.inj h ▸ ?_
     by_cases hc : (j == NameKind.free && env.scope.kind == .function && env.kindOf n == some .cell) = true
     · rw [if_pos hc]
       refine (i_eaa .cell (by simp only [List.lookup_cons, hx]) (fun q => ?_) (fun _ => .inr rfl))
       exfalso; apply q; simp -iota only [Bool.and_eq_true, beq_iff_eq] at hc; exact hc.1.1
     · rw [if_neg hc]
       exact (i_eaa j (by simp only [List.lookup_cons, hx]) (fun _ => rfl) (fun q => .inl q))
   | false =>
     simp -iota only [List.lookup_cons, hx] at h
     refine o_ea ((@lookup_relabel env x r k) h) fun k' h1 h2 => ?_
     refine (i_ea k' ?_ h2)
     by_cases hc : (j == NameKind.free && env.scope.kind == .function && env.kindOf n == some .cell) = true
     · rw [if_pos hc]; simp -iota only [List.lookup_cons, hx]; exact h1
     · rw [if_neg hc]; simp -iota only [List.lookup_cons, hx]; exact h1
structure ScOk (sc : Scope) (t : Str) (c : Str -> Bool) : Prop where
 kind : sc.kind = .function
 noc : ∀ x ∈ sc.names, x.2 ≠ .cell
 names : ∀ x ∈ sc.names, x.2 = .local -> sc.names.lookup x.1 = some .local
 tl : sc.names.lookup t = some .local
 free : ∀ x ∈ sc.names, x.2 = .free -> c x.1 = true
 d1 : t ≠ ("__debug__" : Str)
 d2 : t ≠ ("__classdict__" : Str)
theorem scB_ok {sc : Scope} {t : Str} {c : Str -> Bool} (h : scB sc t c = true) : ScOk sc t c := by
 unfold scB at h
 simp -iota only [Bool.and_eq_true, List.all_eq_true, Bool.or_eq_true, bne_iff_ne, beq_iff_eq] at h
 (refine o_a h fun z346 h7 => ?_; (refine o_a z346 fun z348 h6 => ?_; obtain ⟨⟨⟨⟨h1, h2⟩, h3⟩, h4⟩, h5⟩ := z348))
 exact ⟨h1, h2, fun x hx e => (h3 x hx).resolve_left (fun q => q e), h4, fun x hx e => (h5 x hx).resolve_left (fun q => q e), h6, h7⟩
noncomputable def cenvOf (sc : Scope) (env : Env) (L : Addr) : Env := { newEnv sc L env.globals (sc.names.foldl (clStep env) []) env.qual none .none (some env) builtinsNs with scope := relabel sc env }
theorem comp_env {mg mb : Str -> Option Value} {env : Env} {ω : Own} {ρ : Loc} {G : GC} {sc : Scope} {t : Str} {L : Addr} {m : Str -> Option Value} {v : Value} {x : HV} (O : EnvOk mg mb env ω ρ G) (C : ScOk sc t G.c)
 (hL : ω L = some (.ns m)) (hm : m t = some v) (r : Rd ω x v) : EnvOk mg mb (cenvOf sc env L) ω (upd (restr sc ρ) t x) (restrG sc G) := by
 have kof : ∀ y, (cenvOf sc env L).kindOf y = ((sc.names.map fun (n, k) => if (k == NameKind.free && env.scope.kind == .function && env.kindOf n == some .cell) then (n, NameKind.cell) else (n, k)).lookup y) := fun _ => rfl
 have kt : (cenvOf sc env L).kindOf t = some .local := lookup_relabel_local C.tl
 have kfree : ∀ y, sc.names.lookup y = some .free -> (cenvOf sc env L).kindOf y = some .cell ∨ (cenvOf sc env L).kindOf y = some .free := fun y hy => by
  refine o_eaa (lookup_relabel (env := env) hy) fun k' h1 h2 h3 => ?_
  (refine rr (kof ..) ?_; refine rr h1 ?_)
  refine Or.elim (h3 rfl) (fun q => ?_) fun q => ?_ <;> refine rr q ?_
  · exact .inr rfl
  · exact .inl rfl
 have look : ∀ y, sc.names.lookup y = some .free -> ∀ c, env.cells.lookup y = some c -> (cenvOf sc env L).cells.lookup y = some c := fun y hy c hc => by
  exact closure_has _ _ y c hc (.inl (lookup_mem hy))
 have un : ∀ y h, upd (restr sc ρ) t x y = some h -> (y = t /\ h = x) ∨ (y ≠ t /\ sc.names.lookup y = some .free /\ ρ y = some h) := fun y h e => by
  unfold upd at e
  (revert e; refine ie rfl (fun _ e => ?_) fun _ e => ?_)
  · rename_i q; refine Option.some.inj e ▸ ?_; exact .inl ⟨q, rfl⟩
  · rename_i q
    unfold restr at e
    (revert e; refine ie rfl (fun _ e => ?_) fun _ e => ?_)
    · rename_i q2; exact .inr (i_aa q q2 e)
    · exact no_ns e
 have gun : ∀ y h, (restrG sc G).g y = some h -> sc.names.lookup y = some .globalImplicit /\ G.all y = some h := fun y h e => by
  unfold restrG at e
  dsimp only at e
  (revert e; refine ie rfl (fun _ e => ?_) fun _ e => ?_)
  · rename_i q; exact ⟨q, e⟩
  · exact no_ns e
 refine ⟨C.kind, O.glob, O.blt, (i_ea m hL (fun y h e k => ?_)), fun y h e k => ?_, fun y h e => ?_, fun y h e => ?_, fun y h e => ?_, fun y e => ?_, fun y e => by simp -iota [restrG] at e, (i_aa ?_ ?_ ?_), O.gg, O.gd⟩
 · refine Or.elim (un y h e) (fun z396 => ?_) fun z397 => ?_
   · obtain ⟨rfl, rfl⟩ := z396; exact (i_ea v hm r)
   · rcases kfree y z397.2.1 with q4 | q4 <;> (rw [q4] at k; contradiction)
 · rcases un y h e with ⟨rfl, rfl⟩ | ⟨q, q2, q3⟩
   · rw [kt] at k; rcases k with k | k <;> contradiction
   · refine o_eeaa (O.cel y h q3 (O.cl y (C.free _ (lookup_mem q2) rfl)).1) fun c u h1 h2 h3 => ?_
     exact (i_eeaa c u (look y q2 c h1) h2 h3)
 · rcases un y h e with ⟨rfl, rfl⟩ | ⟨q, q2, q3⟩
   · exact .inl kt
   · exact .inr (kfree y q2)
 · refine o_a (gun y h e) fun q _ => ?_
   refine o_eaa (lookup_relabel (env := env) q) fun k' h1 h2 _ => ?_
   (refine rr (kof ..) ?_; refine rr h1 ?_; exact rr (h2 (by decide)) rfl)
 · have q := (gun y h e).2
   unfold GC.all at q
   split at q
   · rename_i q2; refine Option.some.inj q ▸ ?_; exact O.gv y _ q2
   · exact O.gg y h q
 · have q : sc.names.lookup y = some .free := by simpa -iota [restrG] using e
   obtain ⟨c, hc⟩ := (O.cl y (C.free _ (lookup_mem q) rfl)).2
   exact ⟨kfree y q, c, look y q c hc⟩
 · induction q : upd (restr sc ρ) t x "__debug__" using Option.casesOn with
   | none => rfl
   | some h =>
     rcases un _ h q with ⟨q2, _⟩ | ⟨_, _, q3⟩
     · exact absurd q2.symm C.d1
     · rw [O.dbg.1] at q3; exact no_ns q3
 · induction q : (restrG sc G).g "__debug__" using Option.casesOn with
   | none => rfl
   | some h => have := (gun _ h q).2; unfold GC.all at this; rw [O.dbg.2.1] at this; dsimp only at this; rw [O.gd] at this; exact no_ns this
 · induction q : upd (restr sc ρ) t x "__classdict__" using Option.casesOn with
   | none => rfl
   | some h =>
     rcases un _ h q with ⟨q2, _⟩ | ⟨_, _, q3⟩
     · exact absurd q2.symm C.d2
     · rw [O.dbg.2.2] at q3; exact no_ns q3
end
set_option maxRecDepth 4000
section
section
variable {prog : Program} {w : World} {B0 : Heap} {os : OsState} {gs : Array GenState} {mg mb : Str -> Option Value} {mu : Pos -> Bool} {Γ : Spx} {n : Nat}
theorem hid_append {A : Around} {E : Value -> Shared -> Prop} {ω : Own} {s : Shared} {a : Addr} {v : Value} {vs : List Value} {Q : Value -> Shared -> Prop} (S : MS B0 os ω gs s) (e : ω a = some (.hid vs)) (hz : vs.length < sizeLine)
 (H : ∀ s', MS B0 os (ω.set a (.hid (vs ++ [v]))) gs s' -> Q .none s') : wpAny (model prog w) A (call (.builtin "list.append") [.ref a, v]) Q E s := by
 refine o_e (S.hold _ _ e) fun n ho => ?_
 have hl : s.heap.IsList a vs.toArray := (i_eaa _ ho rfl ⟨n, rfl⟩)
 refine wpAny_call_entry slot_list_append hl.typeIs entry_list_append ?_ (args_list_append _ _)
 show wpAny _ _ (updateSeq a (·.push v) >>= fun _ => ret .none) _ _ s
 refine wpAny_bind ?_
 refine wpAny_updateSeq ho rfl (wpAny_pure (i_ea .none rfl ?_)) (by simp; lia) (by simp; lia)
 refine H _ (S.same e rfl (Heap.SameBut.update ..) (m := .hid (vs ++ [v])) ?_ s.toks)
 refine ⟨n + 1, ?_⟩
 have := Heap.get?_update_self (Obj.mapSeq (·.push v)) ho rfl
 simp only [this]
 simp [Obj.mapSeq]
noncomputable abbrev Tst := HV -> St -> (Bool -> St -> Prop) -> Prop
inductive LcI (B0 : Heap) (os : OsState) (gs : Array GenState) (ω1 : Own) (it acc L : Addr) (tst : Tst) (els : HV -> St -> KV -> Prop) (K : KV) (k : Nat) (s : Shared) : Prop where
 | mk (ω : Own) (σ : St) (kk : ItK) (xs ha : List HV) (vs : List Value) (m : Str -> Option Value) (h1 : xs.length = k) (h2 : Le ω1 ω) (h3 : MS B0 os ω gs s) (h4 : RelS ω σ) (h5 : ω it = some (.it kk)) (h6 : ItRd ω kk xs) (h7 : ω acc = some (.hid vs)) (h8 : RdL ω ha vs) (h9 : ha.length <= sizeLine) (h10 : ω L = some (.ns m)) (h11 : compL tst els ha xs σ K) : LcI B0 os gs ω1 it acc L tst els K k s
inductive LcEnd (B0 : Heap) (os : OsState) (gs : Array GenState) (ω ω1 : Own) (acc L : Addr) (K : KV) (s : Shared) : Prop where
 | mk (ω' : Own) (σ : St) (ha : List HV) (vs : List Value) (m : Str -> Option Value) (h0 : Le ω ω1) (n1 : ω1 acc = none) (n2 : ω1 L = none) (a2 : acc ≠ L) (h2 : Le ω1 ω') (h3 : MS B0 os ω' gs s) (h4 : RelS ω' σ) (h7 : ω' acc = some (.hid vs)) (h8 : RdL ω' ha vs) (h9 : ha.length <= sizeLine) (h10 : ω' L = some (.ns m)) (h11 : K (.list ha) σ) : LcEnd B0 os gs ω ω1 acc L K s
theorem comp_all {elt iter : Expr} {t : Str} {tp p : Pos} {sc : Scope} {ifs : List Expr} {A : Around} {E : Value -> Shared -> Prop} {ω : Own} {s : Shared} {σ : St} {K : KV} {env : Env} {ρ : Loc} {G : GC} (tst : Tst) (P : Value -> Addr -> Result -> Shared -> Prop)
 (hi : OkE prog w B0 os gs mg mb mu Γ n iter) (he : OkE prog w B0 os gs mg mb mu Γ n elt)
 (ht : ∀ (E : Value -> Shared -> Prop) (ω : Own) (s : Shared) (σ : St) (K : Bool -> St -> Prop) (env : Env) (x : HV), EnvOk mg mb env ω (upd (restr sc ρ) t x) (restrG sc G) -> MS B0 os ω gs s -> RelS ω σ -> tst x σ K ->
  wpAny (model prog w) A (forIn ifs true fun c r => if r = true then do let ok ← isTrue c env (eval c env); pure (ForInStep.yield ok) else pure (ForInStep.yield r)) (PostB B0 os gs ω K) E s)
 (Rm : Room n A) (O : EnvOk mg mb env ω ρ G) (S : MS B0 os ω gs s) (R : RelS ω σ) (hsc : scB sc t G.c = true)
 (H : evE mu Γ iter ρ G σ fun it σ1 => ∃ xs, itemsH it = some xs /\ compL tst (fun x σ K => evE mu Γ elt (upd (restr sc ρ) t x) (restrG sc G) σ K) [] xs σ1 K)
 (HP : ∀ ω1 acc L s', LcEnd B0 os gs ω ω1 acc L K s' -> P (.ref acc) L (.ok .next) s') :
 wpAny (model prog w) A (eval iter env) (fun x s₁ => wpAny (model prog w) A (pyIter x) (fun it s₂ => wpAny (model prog w) A (newList []) (fun acc s₃ =>
  wpAny (model prog w) A (newFunctionEnv sc env.globals (sc.names.foldl (clStep env) []) [] env.qual none .none (some env)) (fun cenv s₄ =>
   codeAny (model prog w) A (.compStart (.ListComp elt [⟨.Name t tp, iter, ifs, 0⟩] sc p) 0 it acc { cenv with scope := relabel sc env }) (P acc cenv.locals) s₄) E s₃) E s₂) E s₁) E s := by
 have ln := line_is
 have C := scB_ok hsc
 refine next_v (hi A E ω s σ _ env ρ G Rm O S R H) fun h ω1 σ1 v s₁ l1 S1 R1 r₁ H₁ => ?_
 clear H hi
 refine o_ea H₁ fun xs hx H₂ => ?_
 refine iter_ok S1 r₁ hx fun it kk s₂ hit hrd S2 => ?_
 refine wpAny_newList ?_
 have hacc := S2.unused
 have S₃ := S2.push { cls := .type "list", data := .seq (#[] : Array Value) } (m := .hid []) ⟨_, Heap.get?_push_size _ rfl⟩
 revert hacc S₃
 generalize s₂.heap.objs.size = acc
 generalize hs3 : ({ s₂ with heap := s₂.heap.push { cls := .type "list", data := .seq (#[] : Array Value) } } : Shared) = s₃
 intro hacc S₃
 refine wpAny_newFunctionEnv C.noc (fun _ h => nomatch h) (fun h' hn hs => ?_) C.kind
 have hL := S₃.unused
 have S4 := S₃.env rfl hn hs (s₃.toks + 0)
 revert hL S4
 show _ -> _ -> codeAny (model prog w) A (.compStart _ 0 _ _ (cenvOf sc env s₃.heap.objs.size)) (P _ s₃.heap.objs.size) { s₃ with heap := h', toks := s₃.toks + 0 }
 generalize s₃.heap.objs.size = L
 generalize ({ s₃ with heap := h', toks := s₃.toks + 0 } : Shared) = s₄
 intro hL S4
 have a1 : it ≠ acc := Own.ne_of (Own.set_self ω1 it _) hacc
 have n1 : ω1 acc = none := by rw [Own.set_ne _ _ a1.symm] at hacc; exact hacc
 have a2 : acc ≠ L := Own.ne_of (Own.set_self _ acc _) hL
 have a3 : it ≠ L := Own.ne_of (m := .it kk) (by rw [Own.set_ne _ _ a1]; exact Own.set_self ..) hL
 have n2 : ω1 L = none := by rw [Own.set_ne _ _ a2.symm, Own.set_ne _ _ a3.symm] at hL; exact hL
 have O1 := O.mono l1
 have i0 := Own.set_self ω1 it (OM.it kk)
 have start : LcI B0 os gs ω1 it acc L tst (fun x σ K => evE mu Γ elt (upd (restr sc ρ) t x) (restrG sc G) σ K) K xs.length s₄ := by
  refine ⟨_, σ1, kk, xs, [], [], _, rfl, ((Le.refl ω1).setNew _ hit).setNew _ n1 |>.setNew _ n2, S4, ((R1.new hit).new hacc).new hL, ?_, (hrd.monoF (Le.new _ hacc).f).monoF (Le.new _ hL).f, ?_, by simp [RdL], by simp, Own.set_self .., H₂⟩
  · rw [Own.set_ne _ _ a3, Own.set_ne _ _ a1]; exact i0
  · rw [Own.set_ne _ _ a2]; exact Own.set_self ..
 clear hL hacc S4 S₃ hs3 S2 i0 hx S1 R1 r₁ H₂ hrd S R O
 have loop : ∀ (s : Shared) (k : Nat), LcI B0 os gs ω1 it acc L tst (fun x σ K => evE mu Γ elt (upd (restr sc ρ) t x) (restrG sc G) σ K) K k s ->
  codeAny (model prog w) A (.compLoop (.ListComp elt [⟨.Name t tp, iter, ifs, 0⟩] sc p) 0 (.ref it) (.ref acc) (cenvOf sc env L)) (P (.ref acc) L) s := by
  intro s k hI
  refine codeAny_compLoop_tests _ (fun k s hI => ?_) k hI
  obtain ⟨ω2, σ2, kk, xs, ha, vs, m, hk, l2, S2, R₂, e1, e2, e3, e4, e5, e6, H⟩ := hI
  refine next_ok Rm.handled S2 e1 e2 (fun hnil s' S' => ?_) (fun y rest hcons v k' s' rv rk S' => ?_)
  · subst hnil
    exact HP ω1 acc L _ ⟨_, σ2, ha, vs, m, l1, n1, n2, a2, l2.delNew hit, S', R₂.del e1 (fun _ q => by contradiction) (fun _ q => by contradiction), (by refine rr (Own.del_ne _ a1.symm) ?_; exact e3), e4.monoF (LeF.del e1 (fun _ q => by contradiction)), e5, (by refine rr (Own.del_ne _ a3.symm) ?_; exact e6), H⟩
  · subst hcons
    have e6' : (ω2.set it (.it k')) L = some (.ns m) := by refine rr (Own.set_ne _ _ a3.symm) ?_; exact e6
    have e3' : (ω2.set it (.it k')) acc = some (.hid vs) := by refine rr (Own.set_ne _ _ a1.symm) ?_; exact e3
    have e1' : (ω2.set it (.it k')) it = some (.it k') := Own.set_self ..
    have f1 : LeF ω2 (ω2.set it (.it k')) := LeF.set _ e1 (fun _ q => by contradiction)
    have l2' : Le ω1 (ω2.set it (.it k')) := l2.setNew _ hit
    have R2' := R₂.set (OM.it k') e1 (fun _ q => by contradiction) (fun _ q => by contradiction)
    replace rv := rv.monoF f1
    replace rk := rk.monoF f1
    replace e4 := e4.monoF f1
    revert e6' e3' e1' l2' R2' rv rk e4 S'
    clear f1 e1 e2 e3 e6 S2 R₂ l2
    generalize (ω2.set it (.it k')) = ω2'
    intro S' e6 e3 e1 l2 R₂ rv rk e4
    refine wpAny_assign_Name (wpAny_storeName_local (lookup_relabel_local C.tl) (S'.hold _ _ e6) (fun h' hn hs => ?_) (by show (sc.kind == .class || (sc.kind == .module && _)) = false; refine rr C.kind ?_; rfl))
    have S'' := S'.same e6 rfl hs (m := .ns _) hn (s'.toks + 1)
    have f2 : LeF ω2' (ω2'.set L (.ns fun x => if x = t then some v else m x)) := LeF.set _ e6 (fun _ q => by contradiction)
    have l3 : Le ω1 (ω2'.set L (.ns fun x => if x = t then some v else m x)) := l2.setNew _ n2
    have Oc := comp_env (v := v) (x := y) (L := L) (O1.mono l3) C (Own.set_self ..) (by simp) (rv.monoF f2)
    have R'' := R₂.set (OM.ns fun x => if x = t then some v else m x) e6 (fun _ q => by contradiction) (fun _ q => by contradiction)
    have i1 : (ω2'.set L (.ns fun x => if x = t then some v else m x)) it = some (.it k') := by refine rr (Own.set_ne _ _ a3) ?_; exact e1
    have i2 := rk.monoF f2
    have i3 : (ω2'.set L (.ns fun x => if x = t then some v else m x)) acc = some (.hid vs) := by refine rr (Own.set_ne _ _ a2) ?_; exact e3
    have i4 := e4.monoF f2
    have i6 : (ω2'.set L (.ns fun x => if x = t then some v else m x)) L = some (.ns fun x => if x = t then some v else m x) := Own.set_self ..
    revert S'' l3 Oc R'' i1 i2 i3 i4 i6
    clear f2 e6 e3 e1 l2 R₂ rv rk e4 S' hn hs
    generalize (ω2'.set L (.ns fun x => if x = t then some v else m x)) = ω3
    generalize (fun x => if x = t then some v else m x) = m₃
    intro S'' l3 Oc R'' i1 i2 i3 i4 i6
    refine next_b (ht _ ω3 _ σ2 _ _ y Oc S'' R'' H) fun b ω4 σ4 s₄ l4 S4 R4 H4 => ?_
    replace i1 := l4 _ _ i1; replace i2 := i2.monoF l4.f; replace i3 := l4 _ _ i3; replace i4 := i4.monoF l4.f; replace i6 := l4 _ _ i6; replace l3 := l3.trans l4
    replace Oc := Oc.mono l4
    clear H S'' R'' l4
    induction b with
    | false =>
      rw [if_neg (by decide)] at H4 ⊢
      exact ⟨rest.length, by simp only [List.length_cons] at hk; lia, ⟨ω4, σ4, k', rest, ha, vs, _, rfl, l3, S4, R4, i1, i2, i3, i4, e5, i6, H4⟩⟩
    | true =>
      rw [if_pos rfl] at H4 ⊢
      refine next_v (he A _ ω4 s₄ σ4 _ _ _ _ Rm Oc S4 R4 H4) fun hv ω5 σ5 u s5 l5 S5 R5 r₅ H5 => ?_
      replace i3 : ω5 acc = some (.hid vs) := l5 _ _ i3
      have hlen := i4.length
      obtain ⟨h5, H5⟩ := H5
      refine hid_append S5 i3 (ar33 h5 hlen) fun s6 S6 => ?_
      have f5 : LeF ω5 (ω5.set acc (.hid (vs ++ [u]))) := LeF.set _ i3 (fun _ q => by contradiction)
      refine ⟨rest.length, by simp only [List.length_cons] at hk; lia, ⟨_, σ5, k', rest, ha ++ [hv], vs ++ [u], _, rfl, (l3.trans l5).setNew _ n1, S6, R5.set _ i3 (fun _ q => by contradiction) (fun _ q => by contradiction),
       by refine rr (Own.set_ne _ _ a1) ?_; exact l5 _ _ i1, (i2.monoF l5.f).monoF f5, Own.set_self .., ((i4.monoF l5.f).append (by simp only [RdL]; exact ⟨u, [], rfl, r₅, rfl⟩)).monoF f5, by simp; exact ar32 h5, by refine rr (Own.set_ne _ _ a2.symm) ?_; exact l5 _ _ i6, H5⟩⟩
 have l := loop _ _ start
 obtain ⟨ω5, _, _, _, _, _, _, _, _, S5, _, k1, k2, _⟩ := start
 exact codeAny_compStart_list l (reiter_ok S5 k1 k2 l)
theorem arm_LC {elt iter : Expr} {t : Str} {tp p : Pos} {sc : Scope} {ifs : List Expr} {A : Around} {E : Value -> Shared -> Prop} {ω : Own} {s : Shared} {σ : St} {K : KV} {env : Env} {ρ : Loc} {G : GC} (tst : Tst)
 (hi : OkE prog w B0 os gs mg mb mu Γ n iter) (he : OkE prog w B0 os gs mg mb mu Γ n elt)
 (ht : ∀ (E : Value -> Shared -> Prop) (ω : Own) (s : Shared) (σ : St) (K : Bool -> St -> Prop) (env : Env) (x : HV), EnvOk mg mb env ω (upd (restr sc ρ) t x) (restrG sc G) -> MS B0 os ω gs s -> RelS ω σ -> tst x σ K ->
  wpAny (model prog w) A (forIn ifs true fun c r => if r = true then do let ok ← isTrue c env (eval c env); pure (ForInStep.yield ok) else pure (ForInStep.yield r)) (PostB B0 os gs ω K) E s)
 (Rm : Room n A) (O : EnvOk mg mb env ω ρ G) (S : MS B0 os ω gs s) (R : RelS ω σ) (hsc : scB sc t G.c = true) (hib : iterB iter = true)
 (H : evE mu Γ iter ρ G σ fun it σ1 => ∃ xs, itemsH it = some xs /\ compL tst (fun x σ K => evE mu Γ elt (upd (restr sc ρ) t x) (restrG sc G) σ K) [] xs σ1 K) :
 wpAny (model prog w) A (eval (.ListComp elt [⟨.Name t tp, iter, ifs, 0⟩] sc p) env) (PostV B0 os gs ω K) E s := by
 have C := scB_ok hsc
 refine wpAny_comprehension_free (use := none) (g := ⟨.Name t tp, iter, ifs, 0⟩) (gs := []) rfl (folded_plain hib) (closure_is fun x hx e => (O.cl x.1 (C.free x hx e)).2) C.kind C.names ?_
 refine comp_all tst (compPost _ _ _ _ _) hi he ht Rm O S R hsc H ?_
 clear H ht hi he O S R
 rintro ω1 acc L s' ⟨ω', σ', ha, vs, m, l1, n1, n2, a2, l2, S', R', e3, e4, e5, e6, HK⟩
 refine (i_ea m (S'.hold _ _ e6) (fun h' hs' => ?_))
 have S'' := S'.gone e6 rfl hs'
 have f2 : LeF ω' (ω'.del L) := LeF.del e6 (fun _ q => by contradiction)
 have R2 := R'.del e6 (fun _ q => by contradiction) (fun _ q => by contradiction)
 have e3' : (ω'.del L) acc = some (.hid vs) := by refine rr (Own.del_ne _ a2) ?_; exact e3
 have l3 := l2.delNew n2
 replace e4 := e4.monoF f2
 revert S'' e3' l3 e4 R2
 clear f2 S' R' e3 e6 l2
 generalize ω'.del L = ω2
 intro S'' R2 e3 l2 e4
 refine o_e (S''.hold _ _ e3) fun j hj => ?_
 have S3 := S''.turn e3 rfl (m := .fz { cls := .type "list", data := .seq vs.toArray j }) hj
 have f3 : LeF ω2 (ω2.set acc (.fz { cls := .type "list", data := .seq vs.toArray j })) := LeF.set _ e3 (fun _ q => by contradiction)
 refine ⟨.list ha, _, σ', l1.trans (l2.setNew _ n1), S3, R2.set _ e3 (fun _ q => by contradiction) (fun _ q => by contradiction), ?_, HK⟩
 exact (i_ae e5 acc ⟨_, vs, j, rfl, Own.set_self .., rfl, rfl, e4.monoF f3⟩)
end
end
set_option maxRecDepth 4000
section
section
variable {mu : Pos -> Bool} {Γ : Spx} {ρ : Loc} {G : GC} {σ : St} {K : KV}
theorem q_lc0 {elt iter : Expr} {t : Str} {tp p : Pos} {sc : Scope} (h1 : scB sc t G.c = true) (h2 : iterB iter = true) (h : evE mu Γ iter ρ G σ fun it σ1 => ∃ xs, itemsH it = some xs /\
 compL (fun _ σ K => K true σ) (fun x σ K => evE mu Γ elt (upd (restr sc ρ) t x) (restrG sc G) σ K) [] xs σ1 K) : evE mu Γ (.ListComp elt [⟨.Name t tp, iter, [], 0⟩] sc p) ρ G σ K := fun prog w B0 os gs mg mb n T X A E ω s env Rm O S R =>
 arm_LC (fun _ σ K => K true σ) (okE T X _) (okE T X _) (fun E ω s σ K env x O S R H => wpAny_tests_nil ⟨ω, σ, .refl _, S, R, H⟩) Rm O S R h1 h2 h
theorem q_lc1 {elt iter c : Expr} {t : Str} {tp p : Pos} {sc : Scope} (h1 : scB sc t G.c = true) (h2 : iterB iter = true) (h : evE mu Γ iter ρ G σ fun it σ1 => ∃ xs, itemsH it = some xs /\
 compL (fun x σ K => evT mu Γ c (upd (restr sc ρ) t x) (restrG sc G) σ K) (fun x σ K => evE mu Γ elt (upd (restr sc ρ) t x) (restrG sc G) σ K) [] xs σ1 K) : evE mu Γ (.ListComp elt [⟨.Name t tp, iter, [c], 0⟩] sc p) ρ G σ K := fun prog w B0 os gs mg mb n T X A E ω s env Rm O S R =>
 arm_LC _ (okE T X _) (okE T X _) (fun E ω s σ K env x O S R H => wpAny_tests_one (okT T X _ A E ω s σ K env _ _ Rm O S R H)) Rm O S R h1 h2 h
end
end
set_option maxRecDepth 4000
section
inductive Fl where
 | nx | br | ct
 | rt (h : HV)
noncomputable abbrev KS := Fl -> Loc -> St -> Prop
noncomputable def notComp (e : Expr) : Bool := e.ctorIdx != 8 && e.ctorIdx != 9 && e.ctorIdx != 10
noncomputable def nmB (G : GC) (x : Str) : Bool := G.l x && x != ("__debug__" : Str) && x != ("__classdict__" : Str)
noncomputable def forL (body : HV -> Loc -> St -> KS -> Prop) : List HV -> Loc -> St -> KS -> Prop
 | [], ρ, σ, K => K .nx ρ σ
 | h :: r, ρ, σ, K => body h ρ σ fun fl ρ' σ' => match fl with
  | .nx => forL body r ρ' σ' K
  | .ct => forL body r ρ' σ' K
  | .br => K .nx ρ' σ'
  | .rt v => K (.rt v) ρ' σ'
noncomputable def whL (test : Loc -> St -> (Bool -> St -> Prop) -> Prop) (body : Loc -> St -> KS -> Prop) : Nat -> Loc -> St -> KS -> Prop
 | 0, _, _, _ => False
 | n + 1, ρ, σ, K => test ρ σ fun c σ1 => if c then body ρ σ1 (fun fl ρ' σ' => match fl with
  | .nx => whL test body n ρ' σ' K
  | .ct => whL test body n ρ' σ' K
  | .br => K .nx ρ' σ'
  | .rt v => K (.rt v) ρ' σ') else K .nx ρ σ1
theorem q_fo {body : HV -> Loc -> St -> KS -> Prop} {x : HV} {r : List HV} {ρ : Loc} {σ : St} {K : KS} (h : body x ρ σ fun fl ρ' σ' => match fl with
 | .nx => forL body r ρ' σ' K
 | .ct => forL body r ρ' σ' K
 | .br => K .nx ρ' σ'
 | .rt v => K (.rt v) ρ' σ') : forL body (x :: r) ρ σ K := h
theorem q_wh {test : Loc -> St -> (Bool -> St -> Prop) -> Prop} {body : Loc -> St -> KS -> Prop} {n : Nat} {ρ : Loc} {σ : St} {K : KS} (h : test ρ σ fun c σ1 => if c then body ρ σ1 (fun fl ρ' σ' => match fl with
 | .nx => whL test body n ρ' σ' K
 | .ct => whL test body n ρ' σ' K
 | .br => K .nx ρ' σ'
 | .rt v => K (.rt v) ρ' σ') else K .nx ρ σ1) : whL test body (n + 1) ρ σ K := h
noncomputable def pairB (G : GC) (x y : Str) (px py : Pos) (a b : Expr) : Bool :=
 nmB G x && nmB G y && x != y && py.line == px.line && !([a, b].all (foldedForSure 8)) && !([a, b].all (constantsAlone 8)) && [a, b].all notStar
noncomputable def LeS (L : Addr) (ω ω' : Own) : Prop := ∀ a o, a ≠ L -> ω a = some o -> LeO o (ω' a)
theorem LeS.refl (L : Addr) (ω : Own) : LeS L ω ω := fun a o _ e => Le.refl ω a o e
theorem Le.s {ω ω' : Own} (x : Le ω ω') (L : Addr) : LeS L ω ω' := fun a o _ e => x a o e
theorem LeO.trans {o : OM} {r r' : Option OM} (x : LeO o r) (y : ∀ o', r = some o' -> LeO o' r') : LeO o r' := by
 induction o using OM.casesOn with
 | lst vs => refine o_e x fun vs' q => ?_; have z := y _ q; exact z
 | ex o => refine o_e x fun o' q => ?_; have z := y _ q; exact z
 | tab qs ps => refine o_e x fun m1 q => ?_; refine o_e (y _ q) fun m2 q2 => ?_; exact ⟨m1 ++ m2, by (refine rr q2 ?_; exact rr Array.append_assoc rfl)⟩
 | it k => exact y _ x
 | hid vs => exact y _ x
 | fz o => exact y _ x
 | ns m => exact y _ x
 | cell v => exact y _ x
theorem LeS.trans {L : Addr} {ω1 ω2 ω3 : Own} (x : LeS L ω1 ω2) (y : LeS L ω2 ω3) : LeS L ω1 ω3 := fun a o h e => (x a o h e).trans fun o' e' => y a o' h e'
theorem LeS.set {L : Addr} {ω : Own} (m : OM) : LeS L ω (ω.set L m) := fun a o h e => by rw [Own.set_ne _ _ h, e]; exact LeO.refl _
theorem LeS.setNew {L : Addr} {ω0 ω : Own} {a : Addr} (x : LeS L ω0 ω) (m : OM) (h : ω0 a = none) : LeS L ω0 (ω.set a m) := fun b o hb e => by
 by_cases q : b = a
 · subst q; rw [h] at e; exact no_ns e
 · refine rr (Own.set_ne _ _ q) ?_; exact x b o hb e
theorem LeS.delNew {L : Addr} {ω0 ω : Own} {a : Addr} (x : LeS L ω0 ω) (h : ω0 a = none) : LeS L ω0 (ω.del a) := fun b o hb e => by
 by_cases q : b = a
 · subst q; rw [h] at e; exact no_ns e
 · refine rr (Own.del_ne _ q) ?_; exact x b o hb e
theorem LeS.f {L : Addr} {ω ω' : Own} (x : LeS L ω ω') {m : Str -> Option Value} (h : ω L = some (.ns m)) : LeF ω ω' := fun a o e =>
 x a _ (fun q => by clear x; subst q; have e := h ▸ e; cases e) e
theorem LeS.le {L : Addr} {ω ω' : Own} (x : LeS L ω ω') (h : ω L = none) : Le ω ω' := fun a o e => x a o (fun q => by clear x; subst q; rw [h] at e; exact no_ns e) e
inductive FlR (ω : Own) : Fl -> Flow -> Prop
 | nx : FlR ω .nx .next
 | br : FlR ω .br .brk
 | ct : FlR ω .ct .cont
 | rt {h : HV} {v : Value} : Rd ω h v -> FlR ω (.rt h) (.ret v)
theorem env_set {mg mb : Str -> Option Value} {env : Env} {ω : Own} {ρ : Loc} {G : GC} {x : Str} {h : HV} {v : Value} {m : Str -> Option Value} (O : EnvOk mg mb env ω ρ G) (hx : nmB G x = true) (hL : ω env.locals = some (.ns m))
 (r : Rd ω h v) : EnvOk mg mb env (ω.set env.locals (.ns fun y => if y = x then some v else m y)) (upd ρ x h) G := by
 unfold nmB at hx
 simp only [Bool.and_eq_true, bne_iff_ne] at hx
 (refine o_a hx fun z345 hd2 => ?_; clear hx; (refine o_a z345 fun hl hd1 => ?_; clear z345))
 have kx := O.lc x hl
 have f : LeF ω (ω.set env.locals (.ns fun y => if y = x then some v else m y)) := LeF.set _ hL (fun _ q => by contradiction)
 have un : ∀ y h', upd ρ x h y = some h' -> (y = x /\ h' = h) ∨ (y ≠ x /\ ρ y = some h') := fun y h' e => by
  unfold upd at e
  (revert e; refine ie rfl (fun _ e => ?_) fun _ e => ?_)
  · rename_i q; refine Option.some.inj e ▸ ?_; exact .inl ⟨q, rfl⟩
  · rename_i q; exact .inr ⟨q, e⟩
 refine o_ea O.loc fun m₀ h1 h2 => ?_
 replace h1 := hL ▸ h1
 cases h1
 refine { O with loc := (i_ea _ (Own.set_self ..) (fun y h' e k => ?_)), cel := fun y h' e k => ?_, dom := fun y h' e => ?_, dbg := ?_ }
 · refine Or.elim (un y h' e) (fun z342 => ?_) fun z343 => ?_
   · (refine o_a z342 fun z386 z387 => ?_; clear z342; subst z386; clear e un; subst z387); exact (i_ea v (by simp) (r.monoF f))
   · refine o_ea (h2 y h' z343.2 k) fun u h3 h4 => ?_
     exact (i_ea u (by simp [z343.1, h3]) (h4.monoF f))
 · rcases un y h' e with ⟨rfl, rfl⟩ | ⟨q, q2⟩
   · rw [kx] at k; rcases k with k | k <;> contradiction
   · refine o_eeaa (O.cel y h' q2 k) fun c u h3 h4 h5 => ?_
     refine (i_eea c u h3 ⟨?_, h5.monoF f⟩)
     refine rr (Own.set_ne _ _ (fun q => by clear h3; subst q; have h4 := hL ▸ h4; cases h4)) ?_; exact h4
 · refine Or.elim (un y h' e) (fun z336 => ?_) fun z337 => ?_
   · (refine o_a z336 fun z376 z377 => ?_; clear f hd1 hl hd2; subst z376; clear r un e z336; subst z377); exact .inl kx
   · exact O.dom y h' z337.2
 · refine (i_aa ?_ O.dbg.2.1 ?_)
   · unfold upd; refine rr (if_neg (fun q => hd1 q.symm)) ?_; exact O.dbg.1
   · unfold upd; refine rr (if_neg (fun q => hd2 q.symm)) ?_; exact O.dbg.2.2
theorem swaps_plain {e : Expr} {t : Option Expr} {l : Nat} {env : Env} (h : notComp e = true) : swapsWith e t l env = pure false := by
 cases e <;> first | rfl | exact no_ft ((show false = true from h))
section
variable {prog : Program} {w : World} {B0 : Heap} {os : OsState} {gs : Array GenState} {mg mb : Str -> Option Value}
theorem store_ok {A : Around} {E : Value -> Shared -> Prop} {ω : Own} {s : Shared} {σ : St} {env : Env} {ρ : Loc} {G : GC} {x : Str} {h : HV} {v : Value} {Q : Unit -> Shared -> Prop} (O : EnvOk mg mb env ω ρ G) (S : MS B0 os ω gs s) (R : RelS ω σ)
 (hx : nmB G x = true) (r : Rd ω h v) (H : ∀ ω' s', LeS env.locals ω ω' -> LeF ω ω' -> EnvOk mg mb env ω' (upd ρ x h) G -> MS B0 os ω' gs s' -> RelS ω' σ -> Q () s') : wpAny (model prog w) A (storeName env x v) Q E s := by
 refine o_ea O.loc fun m h1 h2 => ?_
 have hl : G.l x = true := by unfold nmB at hx; simp only [Bool.and_eq_true] at hx; exact hx.1.1
 refine wpAny_storeName_local (O.lc x hl) (S.hold _ _ h1) (fun h' hn hs => ?_) (by refine rr O.kind ?_; rfl)
 exact H _ _ (LeS.set _) (LeF.set _ h1 (fun _ q => by contradiction)) (env_set O hx h1 r) (S.same h1 rfl hs (m := .ns _) hn (s.toks + 1)) (R.set _ h1 (fun _ q => by contradiction) (fun _ q => by contradiction))
end
noncomputable def augH (op : Operator) (a b : HV) (σ : St) (K : KV) : Prop := ∀ ⦃prog : Program⦄ ⦃w : World⦄ ⦃B0 : Heap⦄ ⦃os : OsState⦄ ⦃gs : Array GenState⦄ (A : Around) (E : Value -> Shared -> Prop) (ω : Own) (s : Shared) (va vb : Value), MS B0 os ω gs s -> RelS ω σ -> Rd ω a va -> Rd ω b vb ->
 wpAny (model prog w) A (inplaceOp op va vb) (PostV B0 os gs ω K) E s
section
variable {σ : St} {K : KV}
theorem g_addi {i j : Int} (h : K (.int (i + j)) σ) : augH .Add (.int i) (.int j) σ K := fun _ _ _ _ _ A E ω s va vb S R ra rb => by
 obtain ⟨t, rfl⟩ := ra; obtain ⟨u, rfl⟩ := rb
 exact PyProof.Rows.iadd_int (post_tok S R rd_int h _)
theorem g_subi {i j : Int} (h : K (.int (i - j)) σ) : augH .Sub (.int i) (.int j) σ K := fun _ _ _ _ _ A E ω s va vb S R ra rb => by
 obtain ⟨t, rfl⟩ := ra; obtain ⟨u, rfl⟩ := rb
 exact PyProof.Rows.isub_int (post_tok S R rd_int h _)
theorem g_adds {x y : List Nat} (hz : x.length + y.length <= sizeLine) (h : K (.str (x ++ y)) σ) : augH .Add (.str x) (.str y) σ K := fun _ _ _ _ _ A E ω s va vb S R ra rb => by
 (refine o_ae ra fun _ t z459 => ?_; clear ra; subst z459); (refine o_ae rb fun _ u z451 => ?_; clear rb; subst z451)
 refine PySem.SB.iadd (fun t' k => ?_) (by simpa [Str.length] using hz)
 refine rr (str_app ..) ?_
 exact post_tok S R (rd_str (by simpa using hz)) h _
end
end
set_option maxRecDepth 4000
section
inductive PostS (B0 : Heap) (os : OsState) (gs : Array GenState) (mg mb : Str -> Option Value) (env : Env) (G : GC) (ω : Own) (K : KS) (f : Flow) (s' : Shared) : Prop
 | mk : ∀ fl ω' σ' ρ', (LeS env.locals ω ω') -> (EnvOk mg mb env ω' ρ' G) -> (MS B0 os ω' gs s') -> (RelS ω' σ') -> (FlR ω' fl f) -> (K fl ρ' σ') -> PostS B0 os gs mg mb env G ω K f s'
noncomputable def evS (_ : Pos -> Bool) (Γ : Spx) (st : Stmt) (ρ : Loc) (G : GC) (σ : St) (K : KS) : Prop := ∀ ⦃prog : Program⦄ ⦃w : World⦄ ⦃B0 : Heap⦄ ⦃os : OsState⦄ ⦃gs : Array GenState⦄ ⦃mg mb : Str -> Option Value⦄ ⦃n : Nat⦄, TopB B0 mg mb -> SpxOk prog w B0 os gs Γ n ->
 ∀ (A : Around) (E : Value -> Shared -> Prop) (ω : Own) (s : Shared) (env : Env), Room n A -> EnvOk mg mb env ω ρ G -> MS B0 os ω gs s -> RelS ω σ -> wpAny (model prog w) A (exec st env) (PostS B0 os gs mg mb env G ω K) E s
noncomputable def evB (mu : Pos -> Bool) (Γ : Spx) : List Stmt -> Loc -> GC -> St -> KS -> Prop
 | [], ρ, _, σ, K => K .nx ρ σ
 | s :: r, ρ, G, σ, K => evS mu Γ s ρ G σ fun fl ρ' σ' => match fl with
  | .nx => evB mu Γ r ρ' G σ' K
  | fl => K fl ρ' σ'
section
variable (prog : Program) (w : World) (B0 : Heap) (os : OsState) (gs : Array GenState) (mg mb : Str -> Option Value) (mu : Pos -> Bool) (Γ : Spx) (n : Nat)
noncomputable def OkS (st : Stmt) : Prop := ∀ (A : Around) (E : Value -> Shared -> Prop) (ω : Own) (s : Shared) (σ : St) (K : KS) (env : Env) (ρ : Loc) (G : GC), Room n A -> EnvOk mg mb env ω ρ G -> MS B0 os ω gs s -> RelS ω σ ->
 evS mu Γ st ρ G σ K -> wpAny (model prog w) A (exec st env) (PostS B0 os gs mg mb env G ω K) E s
noncomputable def OkB (sts : List Stmt) : Prop := ∀ (A : Around) (E : Value -> Shared -> Prop) (ω : Own) (s : Shared) (σ : St) (K : KS) (env : Env) (ρ : Loc) (G : GC), Room n A -> EnvOk mg mb env ω ρ G -> MS B0 os ω gs s -> RelS ω σ ->
 evB mu Γ sts ρ G σ K -> wpAny (model prog w) A (execs sts env) (PostS B0 os gs mg mb env G ω K) E s
end
section
variable {prog : Program} {w : World} {B0 : Heap} {os : OsState} {gs : Array GenState} {mg mb : Str -> Option Value} {mu : Pos -> Bool} {Γ : Spx} {n : Nat}
theorem up_s {A : Around} {E : Value -> Shared -> Prop} {ω ω1 : Own} {s : Shared} {K : KS} {env : Env} {G : GC} {X : Sem Flow} (p : wpAny (model prog w) A X (PostS B0 os gs mg mb env G ω1 K) E s) (l : LeS env.locals ω ω1) :
 wpAny (model prog w) A X (PostS B0 os gs mg mb env G ω K) E s :=
 wpAny_mono p (fun _ _ q => by obtain ⟨fl, ω', σ', ρ', l', a, b, c, d, e⟩ := q; exact ⟨fl, ω', σ', ρ', l.trans l', a, b, c, d, e⟩) fun _ _ x => x
theorem okS (T : TopB B0 mg mb) (X : SpxOk prog w B0 os gs Γ n) (st : Stmt) : OkS prog w B0 os gs mg mb mu Γ n st := fun A E ω s _ _ env _ _ Rm O S R H => H T X A E ω s env Rm O S R
theorem okB (T : TopB B0 mg mb) (X : SpxOk prog w B0 os gs Γ n) : ∀ sts : List Stmt, OkB prog w B0 os gs mg mb mu Γ n sts := by
 intro xs0
 induction xs0 with
 | nil =>
  exact fun A E ω s σ K env ρ G Rm O S R H => wpAny_execs_nil ⟨.nx, ω, σ, ρ, .refl _ _, O, S, R, .nx, H⟩
 | cons st r ih =>
  exact fun A E ω s σ K env ρ G Rm O S R H => by
   refine wpAny_execs_cons (wpAny_mono (okS T X st A E ω s σ _ env ρ G Rm O S R H) (fun f s₁ q => ?_) fun _ _ x => x)
   obtain ⟨fl, ω1, σ1, ρ1, l1, O1, S1, R1, hf, H₁⟩ := q
   induction hf using FlR.casesOn with
   | nx => exact up_s (ih A E ω1 s₁ σ1 _ env ρ1 G Rm O1 S1 R1 H₁) l1
   | ct => exact ⟨.ct, ω1, σ1, ρ1, l1, O1, S1, R1, .ct, H₁⟩
   | br => exact ⟨.br, ω1, σ1, ρ1, l1, O1, S1, R1, .br, H₁⟩
   | rt rr => exact ⟨_, ω1, σ1, ρ1, l1, O1, S1, R1, .rt rr, H₁⟩
end
inductive WhI (B0 : Heap) (os : OsState) (gs : Array GenState) (mg mb : Str -> Option Value) (env : Env) (G : GC) (ω : Own) (P : Nat -> Loc -> St -> Prop) (k : Nat) (s : Shared) : Prop
 | mk : ∀ ω' σ' ρ', LeS env.locals ω ω' -> EnvOk mg mb env ω' ρ' G -> MS B0 os ω' gs s -> RelS ω' σ' -> P k ρ' σ' -> WhI B0 os gs mg mb env G ω P k s
inductive ForI (B0 : Heap) (os : OsState) (gs : Array GenState) (mg mb : Str -> Option Value) (env : Env) (G : GC) (ω : Own) (a : Addr) (P : List HV -> Loc -> St -> Prop) (k : Nat) (s : Shared) : Prop
 | mk : ∀ ω' σ' ρ' kk xs, List.length xs = k -> LeS env.locals ω ω' -> EnvOk mg mb env ω' ρ' G -> MS B0 os ω' gs s -> RelS ω' σ' -> ω' a = some (.it kk) -> ItRd ω' kk xs -> P xs ρ' σ' -> ForI B0 os gs mg mb env G ω a P k s
section
variable {mu : Pos -> Bool} {Γ : Spx} {ρ : Loc} {G : GC} {σ : St} {KF : KS}
theorem q_S_pass {p : Pos} (h : KF .nx ρ σ) : evS mu Γ (.Pass p) ρ G σ KF := fun _ _ _ _ _ _ _ _ _ _ A E ω s env Rm O S R => wpAny_Pass ⟨.nx, ω, _, _, .refl _ _, O, S, R, .nx, h⟩
theorem q_S_break {p : Pos} (h : KF .br ρ σ) : evS mu Γ (.Break p) ρ G σ KF := fun _ _ _ _ _ _ _ _ _ _ A E ω s env Rm O S R => wpAny_Break ⟨.br, ω, _, _, .refl _ _, O, S, R, .br, h⟩
theorem q_S_expr {e : Expr} {p : Pos} (h1 : notComp e = true) (h : evE mu Γ e ρ G σ fun h σ1 => h = .none /\ KF .nx ρ σ1) : evS mu Γ (.Expr e p) ρ G σ KF := fun prog w B0 os gs mg mb n T X A E ω s env Rm O S R => by
 refine wpAny_Expr (next_v (h T X A E ω s env Rm O S R) fun h ω1 σ1 v s₁ l1 S1 R1 r₁ H₁ => ?_) (by dsimp only [interactive]; refine rr O.kind ?_; rfl) (swaps_plain h1)
 (refine o_a H₁ fun z158 H₂ => ?_; clear H₁; subst z158)
 simp -iota only [Rd] at r₁
 refine rr r₁ ?_
 exact ⟨.nx, ω1, σ1, ρ, l1.s _, O.mono l1, S1, R1, .nx, H₂⟩
theorem q_S_assign {x : Str} {q p : Pos} {e : Expr} (h1 : notComp e = true) (h2 : nmB G x = true) (h : evE mu Γ e ρ G σ fun h σ1 => KF .nx (upd ρ x h) σ1) : evS mu Γ (.Assign [.Name x q] e p) ρ G σ KF := fun prog w B0 os gs mg mb n T X A E ω s env Rm O S R => by
 refine wpAny_Assign_Name (next_v (h T X A E ω s env Rm O S R) fun h ω1 σ1 v s₁ l1 S1 R1 r₁ H₁ => ?_) (swaps_plain h1)
 exact store_ok (O.mono l1) S1 R1 h2 r₁ fun ω2 s₂ l2 _ O2 S2 R₂ => ⟨.nx, ω2, σ1, _, (l1.s _).trans l2, O2, S2, R₂, .nx, H₁⟩
theorem q_S_pair {x y : Str} {px py tp vp p : Pos} {k j : Nat} {a b : Expr} (h1 : pairB G x y px py a b = true) (h : evE mu Γ a ρ G σ fun h σ1 => evE mu Γ b ρ G σ1 fun k σ2 => KF .nx (upd (upd ρ y k) x h) σ2) :
 evS mu Γ (.Assign [.Tuple [.Name x px, .Name y py] k tp] (.Tuple [a, b] j vp) p) ρ G σ KF := fun prog w B0 os gs mg mb n T X A E ω s env Rm O S R => by
 have ln := line_is
 unfold pairB at h1
 simp -iota only [Bool.and_eq_true, bne_iff_ne, beq_iff_eq, Bool.not_eq_true'] at h1
 obtain ⟨⟨⟨⟨⟨⟨hx, hy⟩, hne⟩, hln⟩, hf⟩, hc⟩, hst⟩ := h1
 have lx := O.lc x (by unfold nmB at hx; simp -iota only [Bool.and_eq_true] at hx; exact hx.1.1)
 have ly := O.lc y (by unfold nmB at hy; simp -iota only [Bool.and_eq_true] at hy; exact hy.1.1)
 refine PyProof.Rows.Assign_Tuple_swapped (names := [x, y]) ?_ rfl (show swappedStores [.Tuple [.Name x px, .Name y py] k tp] (.Tuple [a, b] j vp) env = pure (some [x, y]) from by
  have nst : ∀ e : Expr, notStar e = true -> (match e with | .Starred .. => true | _ => false) = false := fun e q => by cases e <;> first | rfl | exact no_ft ((show false = true from q))
  have hs2 := hst
  simp -iota only [List.all_cons, List.all_nil, Bool.and_true, Bool.and_eq_true] at hs2
  have hst' : [a, b].any (fun e => match e with | .Starred .. => true | _ => false) = false := by
   simp -iota only [List.any_cons, List.any_nil, nst a hs2.1, nst b hs2.2, Bool.or_false]
  have hed : [x, y].eraseDups.length = 2 := by
   have : (y == x) = false := by simpa -iota using fun q : y = x => hne q.symm
   simp -iota [List.eraseDups_cons, this]
  have hpl2 : (py.line == px.line) = true := by simp -iota [hln]
  have key : ∀ F : Expr -> Option Str, F (.Name x px) = some x -> F (.Name y py) = some y -> [Expr.Name x px, .Name y py].filterMap F = [x, y] := fun F a b => by (refine rr (List.filterMap_cons_some a) ?_; refine rr (List.filterMap_cons_some b) ?_); rfl
  unfold swappedStores
  dsimp only
  (refine rr (if_neg (fun q => by simp only [(show env.blockKind = .function from by unfold Env.blockKind; refine rr O.kind ?_; rfl)] at q; exact Bool.noConfusion (show false = true from q))) ?_; refine rr (if_neg (fun q => by have q2 := q.symm.trans hst'; contradiction)) ?_; refine rr (if_neg (fun q => by have q2 := q.symm.trans ((fun l e => by (refine rr e ?_; refine rr hed ?_); rfl : ∀ l : List Str, l = [x, y] -> (l.length != 2 || l.eraseDups.length != l.length) = false) _ (key _ (if_pos (by (refine rr lx ?_; refine rr (beq_self_eq_true _ : (px.line == px.line) = true) ?_); rfl)) (if_pos (by (refine rr ly ?_; refine rr hpl2 ?_); rfl)))); contradiction)) ?_; refine rr (if_neg (by refine rr hf ?_; decide)) ?_; refine rr (if_neg (by refine rr hc ?_; decide)) ?_)
  exact congrArg (fun l => pure (some l)) (key _ (if_pos (by (refine rr lx ?_; refine rr (beq_self_eq_true _ : (px.line == px.line) = true) ?_); rfl)) (if_pos (by (refine rr ly ?_; refine rr hpl2 ?_); rfl))))
 refine wpAny_Tuple ?_
 refine (plain_back vp [a, b] env hst) ▸ ?_
 refine spliced_cons (next_v (h T X A E ω s env Rm O S R) fun h ω1 σ1 v s₁ l1 S1 R1 r₁ H₁ => ?_)
 refine spliced_cons (next_v (H₁ T X A E ω1 s₁ env Rm (O.mono l1) S1 R1) fun h' ω2 σ2 v' s₂ l2 S2 R₂ r₂ H₂ => ?_)
 refine spliced_nil ?_
 refine ⟨by simp; exact Nat.le_add_left _ _, ?_⟩
 have S₃ := S2.push { cls := .type "tuple", data := .seq [v, v'].toArray } (m := .fz _) (Heap.get?_push_size _ rfl)
 have l₃ := Le.new (OM.fz { cls := .type "tuple", data := .seq [v, v'].toArray }) S2.unused
 have R₃ := R₂.new (m := OM.fz { cls := .type "tuple", data := .seq [v, v'].toArray }) S2.unused
 refine PyProof.Rows.unpackItems_tuple (items := #[v, v']) Rm.handled (tup_of_fz S₃ (Own.set_self ..) rfl rfl) fun h' hx' => ?_
 have S4 := S₃.keeps (h' := h') (fun b o e => hx' b o (Nat.ne_of_lt (Heap.lt_size e)) e) s₂.toks
 refine wpAny_bind (wpAny_holding (wpAny_bindName (store_ok (O.mono ((l1.trans l2).trans l₃)) S4 R₃ hy (r₂.mono l₃) fun ω5 s5 l5 f₅ O5 S5 R5 => ?_)))
 refine wpAny_bind (wpAny_holding (wpAny_bindName (store_ok O5 S5 R5 hx (((r₁.mono l2).mono l₃).monoF f₅) fun ω6 s6 l₆ f₆ O6 S6 R6 => ?_)))
 exact wpAny_pure ⟨.nx, ω6, σ2, _, ((((l1.trans l2).trans l₃).s _).trans l5).trans l₆, O6, S6, R6, .nx, H₂⟩
theorem q_S_aug {x : Str} {q p : Pos} {op : Operator} {e : Expr} {a : HV} (h1 : nmB G x = true) (ha : ρ x = some a) (h : evE mu Γ e ρ G σ fun b σ1 => augH op a b σ1 fun h σ2 => KF .nx (upd ρ x h) σ2) : evS mu Γ (.AugAssign (.Name x q) op e p) ρ G σ KF := fun prog w B0 os gs mg mb n T X A E ω s env Rm O S R => by
 refine wpAny_AugAssign_Name (load_ok O S ha fun old ro => ?_)
 refine next_v (h T X A E ω s env Rm O S R) fun b ω1 σ1 v s₁ l1 S1 R1 r₁ H₁ => ?_
 refine next_v (H₁ A E ω1 s₁ old v S1 R1 (ro.mono l1) r₁) fun h ω2 σ2 u s₂ l2 S2 R₂ r₂ H₂ => ?_
 exact store_ok (O.mono (l1.trans l2)) S2 R₂ h1 r₂ fun ω3 s₃ l₃ _ O3 S₃ R₃ => ⟨.nx, ω3, σ2, _, ((l1.trans l2).s _).trans l₃, O3, S₃, R₃, .nx, H₂⟩
theorem q_S_if {t : Expr} {b o : List Stmt} {p : Pos} (h : evT mu Γ t ρ G σ fun c σ1 => if c then evB mu Γ b ρ G σ1 KF else evB mu Γ o ρ G σ1 KF) : evS mu Γ (.If t b o p) ρ G σ KF := fun prog w B0 os gs mg mb n T X A E ω s env Rm O S R => by
 refine wpAny_If (next_b (h T X A E ω s env Rm O S R) fun c ω1 σ1 s₁ l1 S1 R1 H₁ => ?_)
 induction c with
 | true => exact up_s (okB T X _ A E ω1 s₁ σ1 _ env ρ G Rm (O.mono l1) S1 R1 H₁) (l1.s _)
 | false => exact up_s (okB T X _ A E ω1 s₁ σ1 _ env ρ G Rm (O.mono l1) S1 R1 H₁) (l1.s _)
theorem q_S_ret {e : Expr} {p : Pos} (h : evE mu Γ e ρ G σ fun h σ1 => KF (.rt h) ρ σ1) : evS mu Γ (.Return (some e) p) ρ G σ KF := fun prog w B0 os gs mg mb n T X A E ω s env Rm O S R => by
 exact wpAny_Return_some (next_v (h T X A E ω s env Rm O S R) fun h ω1 σ1 v s₁ l1 S1 R1 r₁ H₁ => ⟨.rt h, ω1, σ1, ρ, l1.s _, O.mono l1, S1, R1, .rt r₁, H₁⟩)
theorem q_S_assert {t : Expr} {p : Pos} (h : evT mu Γ t ρ G σ fun c σ1 => c = true /\ KF .nx ρ σ1) : evS mu Γ (.Assert t none p) ρ G σ KF := fun prog w B0 os gs mg mb n T X A E ω s env Rm O S R => by
 refine wpAny_Assert Rm.handled (next_b (h T X A E ω s env Rm O S R) fun c ω1 σ1 s₁ l1 S1 R1 H₁ => ?_)
 (refine o_a H₁ fun z227 H₂ => ?_; clear H₁; subst z227)
 exact ⟨.nx, ω1, σ1, ρ, l1.s _, O.mono l1, S1, R1, .nx, H₂⟩
theorem q_S_while {t : Expr} {b : List Stmt} {p : Pos} (h : ∃ n, whL (fun ρ σ K => evT mu Γ t ρ G σ K) (fun ρ σ K => evB mu Γ b ρ G σ K) n ρ σ KF) : evS mu Γ (.While t b [] p) ρ G σ KF := fun prog w B0 os gs mg mb n T X A E ω s env Rm O S R => by
 obtain ⟨k, H⟩ := h
 refine wpAny_While (codeAny_whileLoop (WhI B0 os gs mg mb env G ω fun k ρ' σ' => whL (fun ρ σ KF => evT mu Γ t ρ G σ KF) (fun ρ σ KF => evB mu Γ b ρ G σ KF) k ρ' σ' KF) ?_ k ⟨ω, σ, ρ, .refl _ _, O, S, R, H⟩)
 intro k s hI
 obtain ⟨ω1, σ1, ρ1, l1, O1, S1, R1, H₁⟩ := hI
 induction k using Nat.casesOn with
 | zero => exact H₁.elim
 | succ k =>
  have H₁ : evT mu Γ t ρ1 G σ1 _ := H₁
  refine next_b (okT T X _ A _ ω1 s σ1 _ env ρ1 G Rm O1 S1 R1 H₁) fun c ω2 σ2 s₂ l2 S2 R₂ H₂ => ?_
  have l12 := l1.trans (l2.s env.locals)
  induction c with
  | false =>
   exact wpAny_execs_nil ⟨.nx, ω2, σ2, ρ1, l12, O1.mono l2, S2, R₂, .nx, H₂⟩
  | true =>
   refine wpAny_mono (okB T X _ A _ ω2 s₂ σ2 _ env ρ1 G Rm (O1.mono l2) S2 R₂ H₂) (fun f s₃ q => ?_) fun _ _ x => x
   obtain ⟨fl, ω3, σ3, ρ3, l₃, O3, S₃, R₃, hf, H3⟩ := q
   induction hf using FlR.casesOn with
   | nx => exact ⟨k, Nat.lt_succ_self _, ω3, σ3, ρ3, l12.trans l₃, O3, S₃, R₃, H3⟩
   | ct => exact ⟨k, Nat.lt_succ_self _, ω3, σ3, ρ3, l12.trans l₃, O3, S₃, R₃, H3⟩
   | br => exact ⟨.nx, ω3, σ3, ρ3, l12.trans l₃, O3, S₃, R₃, .nx, H3⟩
   | rt r => exact ⟨_, ω3, σ3, ρ3, l12.trans l₃, O3, S₃, R₃, .rt r, H3⟩
theorem q_S_for {x : Str} {q p : Pos} {it : Expr} {b : List Stmt} (h1 : nmB G x = true) (h2 : iterB it = true) (h : evE mu Γ it ρ G σ fun h σ1 => ∃ xs, itemsH h = some xs /\ forL (fun h ρ σ K => evB mu Γ b (upd ρ x h) G σ K) xs ρ σ1 KF) : evS mu Γ (.For (.Name x q) it b [] p) ρ G σ KF := fun prog w B0 os gs mg mb n T X A E ω s env Rm O S R => by
 refine wpAny_For (next_v (h T X A E ω s env Rm O S R) fun h ω1 σ1 v s₁ l1 S1 R1 r₁ H₁ => ?_) (folded_plain h2)
 refine o_ea H₁ fun xs hxs H₂ => ?_
 refine iter_ok S1 r₁ hxs fun a kk s₂ hit hrd S2 => ?_
 have hnL : a ≠ env.locals := fun q => by refine o_ea ((O.mono l1).loc) fun m h1 _ => ?_; rw [q] at hit; rw [hit] at h1; exact no_ns h1
 refine codeAny_forLoop (ForI B0 os gs mg mb env G ω1 a fun xs ρ' σ' => forL (fun h ρ σ K => evB mu Γ b (upd ρ x h) G σ K) xs ρ' σ' KF) ?_ xs.length ⟨_, σ1, ρ, kk, xs, rfl, (LeS.refl _ ω1).setNew _ hit, (O.mono l1).mono (Le.new _ hit), S2, R1.new hit, Own.set_self .., hrd, H₂⟩
 intro k s hI
 obtain ⟨ω3, σ3, ρ3, kk, xs, hk, l₃, O3, S₃, R₃, e1, e2, H3⟩ := hI
 refine next_ok Rm.handled S₃ e1 e2 (fun hnil s' S' => ?_) (fun y rest hcons u k' s' rv rk S' => ?_)
 · clear e2; subst hnil
   refine wpAny_execs_nil ⟨.nx, _, σ3, ρ3, (l1.s _).trans (l₃.delNew hit), (O3.monoW (LeW.del e1 rfl)), S', R₃.del e1 (fun _ q => by contradiction) (fun _ q => by contradiction), .nx, ?_⟩
   exact H3
 · subst hcons
   have O' := O3.monoW (LeW.set (.it k') e1 rfl)
   have f1 : LeF ω3 (ω3.set a (.it k')) := LeF.set _ e1 (fun _ q => by contradiction)
   refine wpAny_assign_Name (store_ok O' S' (R₃.set _ e1 (fun _ q => by contradiction) (fun _ q => by contradiction)) h1 (rv.monoF f1) fun ω4 s₄ l4 f₄ O4 S4 R4 => ?_)
   refine wpAny_mono (okB T X _ A _ ω4 s₄ σ3 _ env _ G Rm O4 S4 R4 H3) (fun f s5 q => ?_) fun _ _ x => x
   obtain ⟨fl, ω5, σ5, ρ5, l5, O5, S5, R5, hf, H5⟩ := q
   have l' : LeS env.locals ω1 ω5 := ((l₃.setNew _ hit).trans l4).trans l5
   refine o_ea O4.loc fun m4 hm4 _ => ?_
   have hk' : rest.length < k := by simp -iota only [List.length_cons] at hk; exact ar14 hk
   induction hf using FlR.casesOn with
   | nx => exact (fun q => (⟨_, hk', ω5, σ5, ρ5, k', rest, rfl, l', O5, S5, R5, (l5 a _ hnL (l4 a _ hnL (Own.set_self ..))), (((rk.monoF f1).monoF f₄).monoF (l5.f hm4)), q⟩ : ∃ m, m < k /\ ForI B0 os gs mg mb env G ω1 a (fun xs ρ' σ' => forL (fun h ρ σ K => evB mu Γ b (upd ρ x h) G σ K) xs ρ' σ' KF) m s5)) H5
   | ct => exact (fun q => (⟨_, hk', ω5, σ5, ρ5, k', rest, rfl, l', O5, S5, R5, (l5 a _ hnL (l4 a _ hnL (Own.set_self ..))), (((rk.monoF f1).monoF f₄).monoF (l5.f hm4)), q⟩ : ∃ m, m < k /\ ForI B0 os gs mg mb env G ω1 a (fun xs ρ' σ' => forL (fun h ρ σ K => evB mu Γ b (upd ρ x h) G σ K) xs ρ' σ' KF) m s5)) H5
   | br => exact ⟨.nx, ω5, σ5, ρ5, (l1.s _).trans l', O5, S5, R5, .nx, H5⟩
   | rt r => exact ⟨_, ω5, σ5, ρ5, (l1.s _).trans l', O5, S5, R5, .rt r, H5⟩
end
end
set_option maxRecDepth 4000
section
noncomputable def hideO (σ : St) (ω : Own) : Own := fun a => match ω a with
 | some (.lst vs) => if (σ a).isSome then some (.lst vs) else some (.hid vs)
 | r => r
mutual
noncomputable def frz (σ σ' : St) : HV -> Option HV
 | .obj a => if (σ a).isSome then some (.obj a) else (σ' a).map .list
 | .list xs => (frzL σ σ' xs).map .list
 | .tup xs => (frzL σ σ' xs).map .tup
 | h => some h
noncomputable def frzL (σ σ' : St) : List HV -> Option (List HV)
 | [] => some []
 | x :: r => (frz σ σ' x).bind fun y => (frzL σ σ' r).map (y :: ·)
end
noncomputable def within (σ σ' : St) : St := fun a => if (σ a).isSome then σ' a else none
noncomputable def lastO (σ : St) (ω ω' : Own) (σ' : St) (h : Heap) : Own := fun a => match ω a with
 | some (.lst vs) => if (σ a).isSome then ω' a else some (.lst vs)
 | none => (match σ' a, ω' a, h.get? a with
  | some _, some (.lst _), some o => some (.fz o)
  | _, r, _ => r)
 | some _ => ω' a
theorem hide_lst {σ : St} {ω : Own} {a : Addr} {vs : List Value} (h : ω a = some (.lst vs)) : hideO σ ω a = if (σ a).isSome then some (.lst vs) else some (.hid vs) := by unfold hideO; exact rr h rfl
set_option tactic.hygienic true in
theorem hide_else {σ : St} {ω : Own} {a : Addr} (h : ∀ vs, ω a ≠ some (.lst vs)) : hideO σ ω a = ω a := by
 unfold hideO
 split
 · rename_i vs e; exact absurd e (h vs)
 · rfl
theorem hide_none {σ : St} {ω : Own} {a : Addr} : hideO σ ω a = none ↔ ω a = none := by
 constructor
 · intro h
   unfold hideO at h
   split at h
   · (revert h; refine ie rfl (fun _ h => ?_) fun _ h => ?_) <;> exact no_sn h
   · exact h
 · intro h; (refine rr (hide_else (by refine rr h ?_; intro vs q; contradiction)) ?_; exact rr h rfl)
theorem hide_f {σ : St} {ω : Own} : LeF ω (hideO σ ω) := fun a o e => by (refine rr (hide_else (by refine rr e ?_; intro vs q; cases q)) ?_; exact rr e rfl)
section
variable {B0 : Heap} {os : OsState} {gs : Array GenState} {ω ω' : Own} {s s' : Shared} {σ σ' : St}
set_option tactic.hygienic true in
theorem MS.hide (S : MS B0 os ω gs s) (σ : St) : MS B0 os (hideO σ ω) gs s := by
 refine { S with hold := fun a o e => ?_, lo := fun a o e hf => ?_, tabs := fun P qs ps e => (S.tabs P qs ps (by
  unfold hideO at e
  split at e
  · split at e <;> exact absurd e nofun
  · exact e)).monoF hide_f }
 · unfold hideO at e
   split at e
   · rename_i vs h
     have := S.hold _ _ h
     split at e <;> (replace e := Option.some.inj e; subst e) <;> exact this
   · exact S.hold _ _ e
 · unfold hideO at e
   split at e
   · rename_i vs h; exact S.lo _ _ h rfl
   · exact S.lo _ _ e hf
theorem RelS.hide (R : RelS ω σ) : RelS (hideO σ ω) σ := fun a xs e => by
 refine o_aea (R a xs e) fun hz vs h1 h2 => ?_
 exact (i_aea hz vs (by (refine rr (hide_lst h1) ?_; refine rr e ?_); rfl) (h2.monoF hide_f))
theorem MS.adopt (S : MS B0 os ω gs s) {a : Addr} {m : OM} (hm : m.Holds s.heap a) (hl : B0.objs.size <= a) (h0 : ∀ o, ω a ≠ some (.fz o)) (ht : m.isTab = false := by rfl) : MS B0 os (ω.set a m) gs s := by
 refine { S with hold := fun b o e => ?_, lo := fun b o e hf => ?_, tabs := S.tabs_set h0 ht }
 · unfold Own.set at e
   (revert e; refine ie rfl (fun _ e => ?_) fun _ e => ?_)
   · rename_i q; refine rr q ?_; (replace e := Option.some.inj e; subst e); exact hm
   · exact S.hold _ _ e
 · unfold Own.set at e
   (revert e; refine ie rfl (fun _ e => ?_) fun _ e => ?_)
   · rename_i q; refine rr q ?_; exact hl
   · exact S.lo _ _ e hf
theorem last_new (l : Le (hideO σ ω) ω') (R' : RelS ω' σ') {a : Addr} {xs : List HV} (h : (σ a).isSome = false) (e : σ' a = some xs) : ω a = none := by
 refine o_aea (R' a xs e) fun _ vs h1 _ => ?_
 induction q : ω a with
 | none => rfl
 | some o =>
   exfalso
   by_cases hl : ∃ us, o = .lst us
   · (refine o_e hl fun us z10 => ?_; clear hl; subst z10)
     have e1 := hide_lst (σ := σ) q
     have := l a _ (h ▸ e1)
     have this := h1 ▸ this
     cases this
   · have := l a _ (show hideO σ ω a = some o from by (refine rr (hide_else (by refine q ▸ ?_; intro us q2; exact hl ⟨us, Option.some.inj q2⟩)) ?_; exact rr q rfl))
     simp only [h1] at this
     clear q; induction o using OM.casesOn with
     | lst us => exact hl ⟨us, rfl⟩
     | ex o => refine o_e this fun o' q2 => ?_; cases q2
     | tab qs ps => refine o_e this fun m q2 => ?_; cases q2
     | it _ => cases this
     | fz _ => cases this
     | hid _ => cases this
     | ns _ => cases this
     | cell _ => cases this
set_option tactic.hygienic true in
theorem last_f (l : Le (hideO σ ω) ω') {h : Heap} : LeF ω' (lastO σ ω ω' σ' h) := fun a o e => by
 unfold lastO
 split
 · rename_i vs hw
   refine ie rfl (fun _ => ?_) fun _ => ?_
   · exact e
   · rename_i hn
     have e1 := hide_lst (σ := σ) hw
     rw [if_neg hn] at e1
     have := l a _ e1
     have this := e ▸ this
     cases this
 · refine rr e ?_
   split
   · rename_i q _; cases q
   · rfl
 · exact e
theorem last_le (l : Le (hideO σ ω) ω') {h : Heap} : Le ω (lastO σ ω ω' σ' h) := fun a o e => by
 unfold lastO
 refine e ▸ ?_
 induction o using OM.casesOn with
 | lst vs =>
   dsimp only
   refine ie rfl (fun _ => ?_) fun _ => ?_
   · rename_i hs
     have e1 := hide_lst (σ := σ) e
     rw [if_pos hs] at e1
     exact l a _ e1
   · exact ⟨vs, rfl⟩
 | _ => exact l a _ (by (refine rr (hide_else (by refine rr e ?_; intro us q2; cases q2)) ?_; exact rr e rfl))
set_option tactic.hygienic true in
theorem MS.finish (S : MS B0 os ω gs s) (l : Le (hideO σ ω) ω') (S' : MS B0 os ω' gs s') : MS B0 os (lastO σ ω ω' σ' s'.heap) gs s' := by
 refine { S' with hold := fun a o e => ?_, lo := fun a o e hf => ?_, tabs := fun P qs ps e => (S'.tabs P qs ps (by
  unfold lastO at e
  split at e
  · split at e
    · exact e
    · exact absurd e nofun
  · split at e
    · cases e
    · exact e
  · exact e)).monoF (last_f l) }
 · unfold lastO at e
   split at e
   · rename_i vs hw
     split at e
     · exact S'.hold _ _ e
     · rename_i hn
       (replace e := Option.some.inj e; subst e)
       have e1 := hide_lst (σ := σ) hw
       rw [if_neg hn] at e1
       exact (S'.hold _ _ (l a _ e1) : (OM.hid vs).Holds s'.heap a)
   · split at e
     · rename_i q; (injection e with e; subst e); exact q
     · exact S'.hold _ _ e
   · exact S'.hold _ _ e
 · unfold lastO at e
   split at e
   · rename_i vs hw
     split at e
     · exact S'.lo _ _ e hf
     · exact S.lo _ _ hw rfl
   · split at e
     · (injection e with e; subst e); exact no_tf hf
     · exact S'.lo _ _ e hf
   · exact S'.lo _ _ e hf
theorem RelS.last (R : RelS ω σ) (l : Le (hideO σ ω) ω') (R' : RelS ω' σ') {h : Heap} : RelS (lastO σ ω ω' σ' h) (within σ σ') := fun a xs e => by
 unfold within at e
 (revert e; refine ie rfl (fun _ e => ?_) fun _ e => ?_)
 · rename_i hs
   refine o_aea (R' a xs e) fun hz vs h1 h2 => ?_
   refine (i_aea hz vs ?_ (h2.monoF (last_f l)))
   refine o_e (Option.isSome_iff_exists.mp hs) fun ys hy => ?_
   refine o_aea (R a ys hy) fun _ us h3 _ => ?_
   unfold lastO
   refine rr h3 ?_
   dsimp only
   refine rr (if_pos hs) ?_
   exact h1
 · exact no_ns e
mutual
theorem frz_ok (l : Le (hideO σ ω) ω') (S' : MS B0 os ω' gs s') (R' : RelS ω' σ') : ∀ {h h' : HV} {v : Value}, Rd ω' h v -> frz σ σ' h = some h' -> Rd (lastO σ ω ω' σ' s'.heap) h' v
 | .obj a, h', v, r, e => by
   simp only [frz] at e
   (revert e; refine ie rfl (fun _ e => ?_) fun _ e => ?_)
   · (replace e := Option.some.inj e; subst e); exact r
   · rename_i hn
     simp only [Option.map_eq_some_iff] at e
     (refine o_ea e fun xs e1 z55 => ?_; clear e; subst z55)
     simp only [Rd] at r
     refine rr r ?_
     refine o_aea (R' a xs e1) fun hz vs h1 h2 => ?_
     have hn' : (σ a).isSome = false := by simpa using hn
     refine o_e (S'.hold _ _ h1) fun n ho => ?_
     refine ⟨hz, a, { cls := .type "list", data := .seq vs.toArray n }, vs, n, rfl, ?_, rfl, rfl, h2.monoF (last_f l)⟩
     unfold lastO
     simp only [(last_new l R' hn' e1), e1, h1, ho]
 | .list xs, h', v, r, e => by
   simp only [frz, Option.map_eq_some_iff] at e
   (refine o_ea e fun ys e1 z51 => ?_; clear e; subst z51)
   (refine o_aeeeeaaaa r fun hz a o vs n h1 h2 h3 h4 h5 => ?_; clear r)
   obtain ⟨h6, h7⟩ := frzL_ok l S' R' h5 e1
   exact ⟨by lia, a, o, vs, n, h1, last_f l _ _ h2, h3, h4, h6⟩
 | .tup xs, h', v, r, e => by
   simp only [frz, Option.map_eq_some_iff] at e
   (refine o_ea e fun ys e1 z41 => ?_; clear e; subst z41)
   (refine o_aeeeeaaaa r fun hz a o vs n h1 h2 h3 h4 h5 => ?_; clear r)
   obtain ⟨h6, h7⟩ := frzL_ok l S' R' h5 e1
   exact ⟨by lia, a, o, vs, n, h1, last_f l _ _ h2, h3, h4, h6⟩
 | .none, h', v, r, e | .bool _, h', v, r, e | .int _, h', v, r, e | .str _, h', v, r, e | .bytes _, h', v, r, e | .val _, h', v, r, e | .rng _ _, h', v, r, e | .bm _, h', v, r, e => by
   simp only [frz, Option.some.injEq] at e; subst e; exact r.monoF (last_f l)
theorem frzL_ok (l : Le (hideO σ ω) ω') (S' : MS B0 os ω' gs s') (R' : RelS ω' σ') : ∀ {xs ys : List HV} {vs : List Value}, RdL ω' xs vs -> frzL σ σ' xs = some ys -> RdL (lastO σ ω ω' σ' s'.heap) ys vs /\ ys.length = xs.length
 | [], ys, vs, r, e => by simp only [frzL, Option.some.injEq] at e; subst e; simp only [RdL] at r ⊢; exact ⟨r, trivial⟩
 | x :: xs, ys, vs, r, e => by
   simp only [frzL, Option.bind_eq_some_iff, Option.map_eq_some_iff] at e
   (refine o_ea e fun y e1 z26 => ?_; clear e; refine o_ea z26 fun zs e2 z27 => ?_; refine rl z27 ?_)
   refine o_eeaa r fun v q h1 h2 h3 => ?_
   refine o_a (frzL_ok l S' R' h3 e2) fun h4 h5 => ?_
   exact ⟨(i_eeaa v q h1 (frz_ok l S' R' h2 e1) h4), by simp [h5]⟩
end
end
noncomputable def cellO (ω : Own) (cs : List (Str × Addr)) (cm : Str -> Option Value) : Own := fun b => match cs.find? fun p => p.2 == b && cs.lookup p.1 == some b with
 | some p => some (.cell (cm p.1))
 | none => ω b
set_option tactic.hygienic true in
theorem cellO_at {ω : Own} {cs : List (Str × Addr)} {cm : Str -> Option Value} (hp : cs.Pairwise fun x y => x.2 ≠ y.2) {x : Str} {c : Addr} (h : cs.lookup x = some c) : cellO ω cs cm c = some (.cell (cm x)) := by
 unfold cellO
 split
 · rename_i p e
   have h1 := List.find?_some e
   simp only [Bool.and_eq_true, beq_iff_eq] at h1
   have := name_of_addr hp (mem_of_lookup h) (mem_of_lookup h1.2)
   exact rr this rfl
 · rename_i e
   rw [List.find?_eq_none] at e
   have := e _ (mem_of_lookup h)
   simp [h] at this
set_option tactic.hygienic true in
theorem cellO_else {ω : Own} {cs : List (Str × Addr)} {cm : Str -> Option Value} {b : Addr} (h : ∀ n, (n, b) ∉ cs) : cellO ω cs cm b = ω b := by
 unfold cellO
 split
 · rename_i p e
   have h1 := List.find?_some e
   rw [Bool.and_eq_true, beq_iff_eq] at h1
   exact absurd (by refine h1.1 ▸ ?_; exact (List.mem_of_find?_eq_some e)) (h p.1)
 · rfl
set_option tactic.hygienic true in
theorem MS.cells {B0 : Heap} {os : OsState} {gs : Array GenState} {ω : Own} {s : Shared} (S : MS B0 os ω gs s) {cs : List (Str × Addr)} {cm : Str -> Option Value} (hc : ∀ n c, cs.lookup n = some c -> s.heap.IsCell c (cm n))
 (hl : ∀ n c, (n, c) ∈ cs -> B0.objs.size <= c) (h0 : ∀ n c, (n, c) ∈ cs -> ∀ o, ω c ≠ some (.fz o)) : MS B0 os (cellO ω cs cm) gs s := by
 refine { S with hold := fun b o e => ?_, lo := fun b o e hf => ?_, tabs := fun P qs ps e => (S.tabs P qs ps (by
  unfold cellO at e
  split at e
  · cases e
  · exact e)).monoF fun b o e => (cellO_else (fun n hn => h0 n b hn o e)).trans e }
 · unfold cellO at e
   split at e
   · rename_i p h
     have h1 := List.find?_some h
     simp only [Bool.and_eq_true, beq_iff_eq] at h1
     refine Option.some.inj e ▸ ?_
     exact hc _ _ h1.2
   · exact S.hold _ _ e
 · unfold cellO at e
   split at e
   · rename_i p h
     have h1 := List.find?_some h
     simp only [Bool.and_eq_true, beq_iff_eq] at h1
     exact hl p.1 b (mem_of_lookup h1.2)
   · exact S.lo _ _ e hf
theorem cells_some {x : Str} : ∀ (names : List (Str × NameKind)) (n : Nat) (acc : List (Str × Addr)), ((x, NameKind.cell) ∈ names ∨ (acc.lookup x).isSome = true) -> ((cellsFrom n names acc).lookup x).isSome = true
 | [], n, acc, h => by rcases h with h | h; · contradiction
                       · exact h
 | (y, k) :: r, n, acc, h => by
   dsimp only [cellsFrom]
   refine ie rfl (fun _ => ?_) fun _ => ?_
   · refine cells_some r _ _ ?_
     rcases h with h | h
     · rcases List.mem_cons.mp h with h | h
       · (injection h with h; refine rl h ?_); right; simp [List.lookup_cons]
       · exact .inl h
     · right
       simp only [List.lookup_cons]
       split
       · rfl
       · exact h
   · rename_i hk
     refine cells_some r _ _ ?_
     rcases h with h | h
     · rcases List.mem_cons.mp h with h | h
       · (injection h with h h9; subst h9); simp at hk
       · exact .inl h
     · exact .inr h
theorem bindL_skip {kd : Str -> Option NameKind} {x : Str} : ∀ (names : List Str) (vs : List Value) (m : Str -> Option Value), x ∉ names -> bindL kd (names.zip vs) m x = m x
 | [], _, _, _ => by rfl
 | _ :: _, [], _, _ => by rfl
 | y :: r, v :: vs, m, h => by
  refine rr (bindL_skip r vs _ (fun q => h (.tail _ q))) ?_
  refine ie rfl (fun _ => ?_) fun _ => ?_
  · exact if_neg (fun q => h (by refine q ▸ ?_; exact .head _))
  · rfl
theorem bindC_skip {kd : Str -> Option NameKind} {x : Str} : ∀ (names : List Str) (vs : List Value) (m : Str -> Option Value), x ∉ names -> bindC kd (names.zip vs) m x = m x
 | [], _, _, _ => by rfl
 | _ :: _, [], _, _ => by rfl
 | y :: r, v :: vs, m, h => by
  refine rr (bindC_skip r vs _ (fun q => h (.tail _ q))) ?_
  refine ie rfl (fun _ => ?_) fun _ => ?_
  · rfl
  · exact if_neg (fun q => h (by refine q ▸ ?_; exact .head _))
theorem bind_ok {kd : Str -> Option NameKind} {ω : Own} {x : Str} {h : HV} : ∀ {names : List Str} {hs : List HV} {vs : List Value} (mL mC : Str -> Option Value), names.Nodup -> RdL ω hs vs -> (names.zip hs).lookup x = some h ->
 ∃ v, Rd ω h v /\ (kd x = some .local -> bindL kd (names.zip vs) mL x = some v) /\ (kd x ≠ some .local -> bindC kd (names.zip vs) mC x = some v)
 | [], _, _, _, _, _, _, e => by simp only [List.zip_nil_left] at e; exact no_ns e
 | _ :: _, [], _, _, _, _, _, e => by exact no_ns e
 | y :: r, k :: ks, vs, mL, mC, hn, rd, e => by
   simp only [RdL] at rd
   (refine o_eeaa rd fun v q z71 h1 h2 => ?_; clear rd; refine rr z71 ?_)
   obtain ⟨hy, hr⟩ := List.nodup_cons.mp hn
   simp only [List.zip_cons_cons, List.lookup_cons] at e
   simp only [List.zip_cons_cons]
   unfold bindL bindC
   split at e
   · rename_i hx
     simp only [beq_iff_eq] at hx
     refine rr hx ?_
     (replace e := Option.some.inj e; subst e)
     refine (i_eaa v h1 (fun k => ?_) (fun k => ?_))
     · (refine rr (if_pos k) ?_; refine rr (bindL_skip _ _ _ hy) ?_); simp
     · (refine rr (if_neg k) ?_; refine rr (bindC_skip _ _ _ hy) ?_); simp
   · exact bind_ok _ _ hr h2 e
noncomputable def GofDef (sc : Scope) (gt : Loc) : GC := ⟨fun x => if sc.names.lookup x = some .globalImplicit then gt x else none, fun x => sc.names.lookup x == some .cell, fun x => sc.names.lookup x == some .local, fun x => if x = ("__debug__" : Str) then none else gt x⟩
noncomputable def GtOk (mg mb : Str -> Option Value) (gt : Loc) : Prop := ∀ x h, gt x = some h -> ∃ v, h = .val v /\ GV mg mb x v
structure DefOk (fd : FuncData) (ps : List Str) (body : List Stmt) : Prop where
 body : fd.body = .stmts body
 clo : fd.closure = []
 glob : fd.globals = mainGlobals
 blt : fd.builtins = builtinsNs
 kind : fd.scope.kind = .function
 co : fd.scope.isCoroutine = false
 gen : fd.scope.isGenerator = false
 nd : ps.Nodup
 kinds : ∀ x ∈ ps, fd.scope.names.lookup x = some .local ∨ fd.scope.names.lookup x = some .cell
 bind : ∀ vals : List Value, vals.length = ps.length -> bindArgs fd ⟨vals, []⟩ = pure (ps.zip vals)
 dbg : ("__debug__" : Str) ∉ ps /\ fd.scope.names.lookup ("__debug__" : Str) ≠ some .globalImplicit /\ ("__classdict__" : Str) ∉ ps
structure FnAt (B0 : Heap) (a : Addr) (fd : FuncData) : Prop where
 at' : ∃ o, B0.get? a = some o /\ o.cls ≠ .none /\ o.data = .func fd
 code : ∃ c o vs t, fd.code = .ref c /\ B0.get? c = some o /\ o.cls ≠ .none /\ o.data = .fields vs /\ vs[1]? = some (.str fd.qualname t)
noncomputable def specOf (mu : Pos -> Bool) (Γ : Spx) (sc : Scope) (gt : Loc) (ps : List Str) (body : List Stmt) : Spec := fun hs σ K => hs.length = ps.length /\
 evB mu Γ body (fun x => (ps.zip hs).lookup x) (GofDef sc gt) σ fun fl _ σ' => ∃ h h', fl = .rt h /\ frz σ σ' h = some h' /\ K h' (within σ σ')
section
variable {prog : Program} {w : World} {B0 : Heap} {os : OsState} {gs : Array GenState} {mg mb : Str -> Option Value} {mu : Pos -> Bool} {Γ : Spx} {n : Nat}
theorem def_env {ω : Own} {fd : FuncData} {ps : List Str} {body : List Stmt} {gt : Loc} {L a : Addr} {hs : List HV} {vs : List Value} (D : DefOk fd ps body) (hg : GtOk mg mb gt) (r : RdL ω hs vs)
 (hL : ω L = some (.ns (bindL (callEnvC fd L a).kindOf (ps.zip vs) fun _ => none)))
 (hc : ∀ x c, (callEnvC fd L a).cells.lookup x = some c -> ω c = some (.cell (bindC (callEnvC fd L a).kindOf (ps.zip vs) (fun _ => none) x))) :
 EnvOk mg mb (callEnvC fd L a) ω (fun x => (ps.zip hs).lookup x) (GofDef fd.scope gt) := by
 have kd : ∀ x, (callEnvC fd L a).kindOf x = fd.scope.names.lookup x := fun _ => rfl
 have inps : ∀ x h, (ps.zip hs).lookup x = some h -> x ∈ ps := fun x h e => (List.of_mem_zip (mem_of_lookup e)).1
 have cs : ∀ x, fd.scope.names.lookup x = some .cell -> ∃ c, (callEnvC fd L a).cells.lookup x = some c := fun x e =>
  Option.isSome_iff_exists.mp (cells_some fd.scope.names (L + 1) [] (.inl (lookup_mem e)))
 refine ⟨D.kind, D.glob, D.blt, (i_ea _ hL (fun x h e k => ?_)), fun x h e k => ?_, fun x h e => ?_, fun x h e => ?_, fun x h e => ?_, fun x e => ?_, fun x e => ?_, (i_aa ?_ ?_ ?_), fun x h e => ?_, by unfold GofDef; dsimp only; exact if_pos rfl⟩
 · refine o_eaa (bind_ok (kd := (callEnvC fd L a).kindOf) (fun _ => none) (fun _ => none) D.nd r e) fun v h1 h2 _ => ?_
   exact (i_ea v (h2 k) h1)
 · refine o_eaa (bind_ok (kd := (callEnvC fd L a).kindOf) (fun _ => none) (fun _ => none) D.nd r e) fun v h1 _ h3 => ?_
   have k' : fd.scope.names.lookup x = some .cell := by
    rcases D.kinds x (inps x h e) with q | q
    · rw [kd, q] at k; rcases k with k | k <;> contradiction
    · exact q
   refine o_e (cs x k') fun c hcx => ?_
   refine (i_eeaa c v hcx ?_ h1)
   (refine rr (hc x c hcx) ?_; exact rr (h3 (by (refine rr (kd ..) ?_; refine rr k' ?_); decide)) rfl)
 · rcases D.kinds x (inps x h e) with q | q
   · exact .inl q
   · exact .inr (.inl q)
 · unfold GofDef at e; dsimp only at e
   (revert e; refine ie rfl (fun _ e => ?_) fun _ e => ?_)
   · rename_i q; exact q
   · exact no_ns e
 · unfold GofDef at e; dsimp only at e
   (revert e; refine ie rfl (fun _ e => ?_) fun _ e => ?_)
   · exact hg x h e
   · exact no_ns e
 · have q : fd.scope.names.lookup x = some .cell := by simpa [GofDef] using e
   exact ⟨.inl q, cs x q⟩
 · have q : fd.scope.names.lookup x = some .local := by simpa [GofDef] using e
   exact q
 · induction q : (ps.zip hs).lookup ("__debug__" : Str) using Option.casesOn with
   | none => rfl
   | some h => exact absurd (inps _ h q) D.dbg.1
 · unfold GofDef; exact if_neg D.dbg.2.1
 · induction q : (ps.zip hs).lookup ("__classdict__" : Str) using Option.casesOn with
   | none => rfl
   | some h => exact absurd (inps _ h q) D.dbg.2.2
 · unfold GofDef at e; dsimp only at e
   (revert e; refine ie rfl (fun _ e => ?_) fun _ e => ?_)
   · exact no_ns e
   · exact hg x h e
theorem def_call (T : TopB B0 mg mb) (X : SpxOk prog w B0 os gs Γ n) {fd : FuncData} {ps : List Str} {body : List Stmt} {gt : Loc} {a : Addr} (D : DefOk fd ps body) (F : FnAt B0 a fd) (hg : GtOk mg mb gt)
 (A : Around) (E : Value -> Shared -> Prop) (ω : Own) (s : Shared) (σ : St) (K : KV) (hs : List HV) (vs : List Value) (Rm : Room (n + 1) A) (S : MS B0 os ω gs s) (R : RelS ω σ) (r : RdL ω hs vs)
 (H : specOf mu Γ fd.scope gt ps body hs σ K) : wpAny (model prog w) A (call (.ref a) vs []) (PostV B0 os gs ω K) E s := by
 refine o_a H fun hlen H => ?_
 refine o_eaa F.at' fun o ho hcls hdata => ?_
 (refine o_eeeeaaa F.code fun c oc cvs t hcode hoc hccls z90 => ?_; refine o_a z90 fun hcd hq => ?_)
 have hvs := r.length
 refine wpAny_call (codeAny_call_cells Rm.lim (S.top ho hcls) hdata (T.lim S) (i_eeeeaaa c oc cvs t hcode (S.top hoc hccls) hcd hq) D.body (D.bind vs (ar34 hvs hlen)) D.clo ?_ ?_ D.co D.gen D.kind)
 · intro x hx
   refine o_a (List.of_mem_zip hx) fun h1 _ => ?_
   rcases D.kinds x.1 h1 with q | q
   · exact .inl q
   · exact .inr ⟨q, cells_some _ _ _ (.inl (lookup_mem q))⟩
 · intro s₁ C
   refine o_ee C.toInCall.same fun h' tk hsame => ?_
   have S1 : MS B0 os ω gs s₁ := by
    simp only [hsame]
    have := S.keeps (h' := h') (fun b ob e => by have := C.toInCall.keep b ob e; rw [hsame] at this; exact this) tk
    exact this
   have S2 := S1.hide σ
   have hun : ∀ b, s.heap.objs.size <= b -> hideO σ ω b = none := fun b hb => by
    rw [hide_none]
    induction q : ω b with
    | none => rfl
    | some m => exact absurd (S.hold _ _ q).lt (Nat.not_lt.mpr hb)
   have S₃ := S2.adopt (a := s.heap.objs.size) (m := .ns _) C.toInCall.ns S.size (fun o q => by rw [hun _ (Nat.le_refl _)] at q; exact no_ns q)
   have S4 := S₃.cells (cm := bindC (callEnvC fd s.heap.objs.size a).kindOf (ps.zip vs) fun _ => none) C.cell (fun m c hm => Nat.le_trans S.size (Nat.le_of_lt (C.above m c hm))) (fun m c hm o q => by
    have : s.heap.objs.size < c := C.above m c hm
    rw [Own.set_ne _ _ (Nat.ne_of_gt this), hun c (Nat.le_of_lt this)] at q; exact no_ns q)
   have hcl : ∀ m c, (m, c) ∈ (callEnvC fd s.heap.objs.size a).cells -> s.heap.objs.size < c := fun m c hm => C.above m c hm
   have l4 : Le (hideO σ ω) (cellO ((hideO σ ω).set s.heap.objs.size (.ns (bindL (callEnvC fd s.heap.objs.size a).kindOf (ps.zip vs) fun _ => none))) (callEnvC fd s.heap.objs.size a).cells (bindC (callEnvC fd s.heap.objs.size a).kindOf (ps.zip vs) fun _ => none)) := fun b ob e => by
    have hb : b < s.heap.objs.size := by
     apply Nat.lt_of_not_le
     intro q
     rw [hun b q] at e; exact no_ns e
    (refine rr (cellO_else (fun m q => Nat.lt_irrefl _ (Nat.lt_trans hb (hcl m b q)))) ?_; refine rr (Own.set_ne _ _ (Nat.ne_of_lt hb)) ?_; refine rr e ?_)
    exact LeO.refl _
   have hL : cellO ((hideO σ ω).set s.heap.objs.size (.ns (bindL (callEnvC fd s.heap.objs.size a).kindOf (ps.zip vs) fun _ => none))) (callEnvC fd s.heap.objs.size a).cells (bindC (callEnvC fd s.heap.objs.size a).kindOf (ps.zip vs) fun _ => none) s.heap.objs.size = some (.ns (bindL (callEnvC fd s.heap.objs.size a).kindOf (ps.zip vs) fun _ => none)) := by
    refine rr (cellO_else (fun m q => Nat.lt_irrefl _ (hcl m _ q))) ?_; exact Own.set_self ..
   have hce : ∀ x c, (callEnvC fd s.heap.objs.size a).cells.lookup x = some c -> cellO ((hideO σ ω).set s.heap.objs.size (.ns (bindL (callEnvC fd s.heap.objs.size a).kindOf (ps.zip vs) fun _ => none))) (callEnvC fd s.heap.objs.size a).cells (bindC (callEnvC fd s.heap.objs.size a).kindOf (ps.zip vs) fun _ => none) c = some (.cell (bindC (callEnvC fd s.heap.objs.size a).kindOf (ps.zip vs) (fun _ => none) x)) :=
    fun x c e => cellO_at C.apart e
   revert S4 l4 hL hce
   generalize cellO ((hideO σ ω).set s.heap.objs.size (.ns (bindL (callEnvC fd s.heap.objs.size a).kindOf (ps.zip vs) fun _ => none))) (callEnvC fd s.heap.objs.size a).cells (bindC (callEnvC fd s.heap.objs.size a).kindOf (ps.zip vs) fun _ => none) = ω4
   intro S4 l4 hL hce
   have R4 : RelS ω4 σ := R.hide.keepF l4.f fun b us e => by
    have hs := l4 b _ e
    refine o_e hs fun us' q => ?_
    have h1 := S2.hold _ _ e
    refine o_e h1 fun n1 g1 => ?_
    refine o_e (S4.hold _ _ q) fun n2 g2 => ?_
    rw [g1] at g2
    have : us.toArray = us'.toArray := by injection g2 with g2; injection g2 with _ _ g2; injection g2
    refine rr q ?_
    simp at this
    exact rr this rfl
   have O := def_env (a := a) D hg ((r.monoF hide_f).monoF l4.f) hL hce
   refine wpAny_mono (okB T X body (A.deeper (callEnvC fd s.heap.objs.size a)) _ ω4 s₁ σ _ (callEnvC fd s.heap.objs.size a) _ _ Rm.deeper O S4 R4 H) (fun f s' q => ?_) fun _ _ x => x
   obtain ⟨fl, ω', σ', ρ', l', O', S', R', hf, h, h', rfl, hfr, hK⟩ := q
   cases hf with
   | rt rv =>
     have l6 := ((l4.s _).trans l' : LeS s.heap.objs.size (hideO σ ω) ω').le (hun _ (Nat.le_refl _))
     exact ⟨h', _, _, last_le l6, S1.finish l6 S', R.last l6 R', frz_ok l6 S' R' rv hfr, hK⟩
end
end
section
noncomputable def stm (i : Nat) : Stmt := PySem.Challenge.pw_ik0158_02.main.body.getD i (.Pass ⟨0, 0, 0, 0⟩)
noncomputable def bodyOf : Stmt -> List Stmt
 | .FunctionDef _ _ b _ _ _ _ _ _ _ => b
 | .For _ _ b _ _ => b
 | .While _ b _ _ => b
 | .If _ b _ _ => b
 | .Try b _ _ _ _ => b
 | _ => []
noncomputable def testOf : Stmt -> Expr
 | .While t _ _ _ => t
 | .Assign _ v _ => v
 | _ => .Constant .none 0 ⟨0, 0, 0, 0⟩
noncomputable def kid (s : Stmt) (i : Nat) : Stmt := (bodyOf s).getD i (.Pass ⟨0, 0, 0, 0⟩)
noncomputable def loopOf (s : Stmt) : Expr × List Stmt := (testOf s, bodyOf s)
noncomputable def scopeOf : Stmt -> Scope
 | .FunctionDef _ _ _ _ _ _ sc _ _ _ => sc
 | _ => default
theorem ofS_inj (a b : String) : (Str.ofString a = Str.ofString b) = (a = b) := by
 (refine rr (Str.ofString_eq_toList ..) ?_; refine rr (Str.ofString_eq_toList ..) ?_)
 refine propext ⟨fun h => ?_, fun h => by exact rr h rfl⟩
 injection h with h
 have h2 : a.toList.map Char.toNat = b.toList.map Char.toNat := by injection h
 have key : ∀ (x y : List Char), x.map Char.toNat = y.map Char.toNat -> x = y := by
  intro x
  induction x with
  | nil => intro y e; induction y using List.casesOn with | nil => rfl | cons c r => simp at e
  | cons c r ih =>
   intro y e
   induction y using List.casesOn with
   | nil => simp at e
   | cons d q =>
    simp only [List.map_cons, List.cons.injEq] at e
    refine rr (ih q e.2) ?_
    congr 1
    exact Char.toNat_inj.mp e.1
 exact String.toList_inj.mp (key _ _ h2)
theorem ofS_beq (a b : String) : (Str.ofString a == Str.ofString b) = (a == b) := by
 by_cases h : a = b
 · subst h; simp
 · have h1 : ¬ (Str.ofString a = Str.ofString b) := by refine rr (ofS_inj ..) ?_; exact h
   simp only [beq_eq_false_iff_ne.mpr h1, beq_eq_false_iff_ne.mpr h]
theorem ofS_lit (a : String) : litS (Str.ofString a) = a.toList.map Char.toNat := by refine rr (Str.ofString_eq_toList ..) ?_; rfl
theorem compL_pure {tst : Tst} {els : HV -> St -> KV -> Prop} {σ : St} (p : HV -> Bool) (f : HV -> HV) : ∀ (xs acc : List HV) (K : KV), acc.length + xs.length <= sizeLine -> (∀ x ∈ xs, ∀ K, K (p x) σ -> tst x σ K) -> (∀ x ∈ xs, p x = true -> ∀ K, K (f x) σ -> els x σ K) ->
 K (.list (acc ++ (xs.filter p).map f)) σ -> compL tst els acc xs σ K := by
 intro xs0
 induction xs0 with
 | nil =>
  exact @fun acc K _ _ _ h => by simpa [compL] using h
 | cons x xs ih =>
  exact @fun acc K hz ht he h => by
   refine ht x (.head _) _ ?_
   simp only [List.length_cons] at hz
   induction hp : p x with
   | true =>
     refine he x (.head _) hp _ ⟨ar36 hz, ?_⟩
     refine ih _ K (by simp; exact ar35 hz) (fun y hy => ht y (.tail _ hy)) (fun y hy => he y (.tail _ hy)) ?_
     simpa [hp] using h
   | false =>
     refine ih _ K (by exact Nat.le_of_lt ‹_›) (fun y hy => ht y (.tail _ hy)) (fun y hy => he y (.tail _ hy)) ?_
     simpa [hp] using h
noncomputable def onInt (f : Int -> Bool) : HV -> Bool
 | .int k => f k
 | _ => false
theorem onInt_int {f : Int -> Bool} {k : Int} : onInt f (.int k) = f k := rfl
noncomputable def bindH : List Str -> List HV -> Loc
 | x :: xs, h :: hs => upd (bindH xs hs) x h
 | _, _ => fun _ => none
theorem bind_c (x : Str) (xs : List Str) (h : HV) (hs : List HV) : bindH (x :: xs) (h :: hs) = upd (bindH xs hs) x h := rfl
theorem bind_n : bindH [] [] = fun _ => none := rfl
theorem bindH_eq : ∀ (ps : List Str) (hs : List HV), (fun x => (ps.zip hs).lookup x) = bindH ps hs
 | [], _ => by funext x; rfl
 | _ :: _, [] => by funext x; rfl
 | y :: ps, h :: hs => by
   funext x
   (refine rr List.zip_cons_cons ?_; refine rr List.lookup_cons ?_)
   show _ = upd (bindH ps hs) y h x
   unfold upd
   by_cases e : x = y
   · subst e; simp
   · have : (x == y) = false := beq_eq_false_iff_ne.mpr e
     (refine rr this ?_; refine rr (if_neg e) ?_; exact rl (bindH_eq ps hs) rfl)
theorem spec_intro {mu : Pos -> Bool} {Γ : Spx} {sc : Scope} {gt : Loc} {ps : List Str} {body : List Stmt} {hs : List HV} {σ : St} {K : KV} (hl : hs.length = ps.length)
 (h : evB mu Γ body (bindH ps hs) (GofDef sc gt) σ fun fl _ σ' => ∃ h h', fl = .rt h /\ frz σ σ' h = some h' /\ K h' (within σ σ')) : specOf mu Γ sc gt ps body hs σ K := by
 unfold specOf
 refine rr (bindH_eq ..) ?_
 exact ⟨hl, h⟩
theorem spec_introK {mu : Pos -> Bool} {Γ : Spx} {sc : Scope} {gt : Loc} {ps : List Str} {body : List Stmt} {hs : List HV} {σ : St} {K : KV} (hl : hs.length = ps.length)
 (h : ∀ KF : KS, (∀ fl (ρ : Loc) σ', (∃ h h', fl = Fl.rt h /\ frz σ σ' h = some h' /\ K h' (within σ σ')) -> KF fl ρ σ') -> evB mu Γ body (bindH ps hs) (GofDef sc gt) σ KF) : specOf mu Γ sc gt ps body hs σ K :=
 spec_intro hl (h _ fun _ _ _ k => k)
theorem upd_self {ρ : Loc} {x : Str} {h : HV} : upd ρ x h x = some h := if_pos rfl
theorem upd_ne {ρ : Loc} {x y : Str} {h : HV} {r : Option HV} (n : y ≠ x) (e : ρ y = r) : upd ρ x h y = r := (if_neg n).trans e
theorem ofS_ne {a b : String} (h : (a == b) = false) : Str.ofString a ≠ Str.ofString b := fun q => by simp only [ofS_inj] at q; subst q; simp at h
theorem none_at {y : Str} : (fun _ : Str => (none : Option HV)) y = none := rfl
theorem restr_in {sc : Scope} {ρ : Loc} {x : Str} {h : HV} (k : sc.names.lookup x = some .free) (e : ρ x = some h) : restr sc ρ x = some h := (if_pos k).trans e
theorem restr_out {sc : Scope} {ρ : Loc} {x : Str} (k : sc.names.lookup x ≠ some .free) : restr sc ρ x = none := if_neg k
theorem restrG_in {sc : Scope} {G : GC} {x : Str} {h : HV} (k : sc.names.lookup x = some .globalImplicit) (e : G.g x = some h) : (restrG sc G).g x = some h := (if_pos k).trans (by unfold GC.all; exact rr e rfl)
theorem restr_gof {sc sc' : Scope} {gt : Loc} {x : Str} {h : HV} (k : sc.names.lookup x = some .globalImplicit) (hd : x ≠ ("__debug__" : Str)) (e : gt x = some h) : (restrG sc (GofDef sc' gt)).g x = some h := by
 refine (if_pos k).trans ?_
 unfold GC.all GofDef
 dsimp only
 split
 · rename_i q
   (revert q; refine ie rfl (fun _ q => ?_) fun _ q => ?_)
   · refine rl q ?_; exact e
   · exact no_ns q
 · refine rr (if_neg hd) ?_; exact e
theorem gof_in {sc : Scope} {gt : Loc} {x : Str} {h : HV} (k : sc.names.lookup x = some .globalImplicit) (e : gt x = some h) : (GofDef sc gt).g x = some h := (if_pos k).trans e
section
variable {mu : Pos -> Bool} {Γ : Spx} {ρ : Loc} {G : GC} {σ : St} {K : KV} {KB : Bool -> St -> Prop} {KL : List HV -> St -> Prop} {KO : Option Int -> St -> Prop} {KF : KS}
theorem q_A_and0 (h : KB true σ) : evA mu Γ .And [] ρ G σ KB := h
theorem q_A_or0 (h : KB false σ) : evA mu Γ .Or [] ρ G σ KB := h
theorem q_A_and {x : Expr} {r : List Expr} (h : evT mu Γ x ρ G σ fun b σ1 => if b then evA mu Γ .And r ρ G σ1 KB else KB false σ1) : evA mu Γ .And (x :: r) ρ G σ KB := h
theorem q_A_or {x : Expr} {r : List Expr} (h : evT mu Γ x ρ G σ fun b σ1 => if b then KB true σ1 else evA mu Γ .Or r ρ G σ1 KB) : evA mu Γ .Or (x :: r) ρ G σ KB := h
theorem q_es0 (h : KL [] σ) : evEs mu Γ [] ρ G σ KL := h
theorem q_es {e : Expr} {r : List Expr} (h : evE mu Γ e ρ G σ fun h σ1 => evEs mu Γ r ρ G σ1 fun hs σ2 => KL (h :: hs) σ2) : evEs mu Γ (e :: r) ρ G σ KL := h
theorem q_o0 (h : KO none σ) : evO mu Γ none ρ G σ KO := h
theorem q_o {e : Expr} (h : evE mu Γ e ρ G σ fun h σ1 => ∃ i, h = .int i /\ KO (some i) σ1) : evO mu Γ (some e) ρ G σ KO := h
theorem q_j0 {acc : List Nat} {KJ : List Nat -> St -> Prop} (h : KJ acc σ) : evJ mu Γ [] ρ G σ acc KJ := h
theorem q_jc {x : Str} {k : Nat} {p : Pos} {r : List Expr} {acc : List Nat} {KJ : List Nat -> St -> Prop} (h1 : acc.length + (litS x).length <= sizeLine) (h : evJ mu Γ r ρ G σ (acc ++ litS x) KJ) : evJ mu Γ (.Constant (.str x) k p :: r) ρ G σ acc KJ := (i_ea (.inl x) (.str x k p) ⟨h1, h⟩)
theorem q_jv {v : Expr} {p : Pos} {r : List Expr} {acc : List Nat} {KJ : List Nat -> St -> Prop} (h : evE mu Γ v ρ G σ fun h σ1 => ∃ l, h = .str l /\ acc.length + l.length <= sizeLine /\ evJ mu Γ r ρ G σ1 (acc ++ l) KJ) : evJ mu Γ (.FormattedValue v (-1) none p :: r) ρ G σ acc KJ := (i_ea (.inr v) (.fmt v p) h)
theorem q_B0 (h : KF .nx ρ σ) : evB mu Γ [] ρ G σ KF := h
theorem q_B {s : Stmt} {r : List Stmt} (h : evS mu Γ s ρ G σ fun fl ρ' σ' => match fl with
 | .nx => evB mu Γ r ρ' G σ' KF
 | fl => KF fl ρ' σ') : evB mu Γ (s :: r) ρ G σ KF := h
theorem evS_mono {s : Stmt} {K K' : KS} (h : ∀ fl ρ σ, K fl ρ σ -> K' fl ρ σ) (q : evS mu Γ s ρ G σ K) : evS mu Γ s ρ G σ K' := fun _ _ _ _ _ _ _ _ T X A E ω s env Rm O S R =>
 wpAny_mono (q T X A E ω s env Rm O S R) (fun _ _ ⟨fl, ω', σ', ρ', l, O, S, R, hf, k⟩ => ⟨fl, ω', σ', ρ', l, O, S, R, hf, h _ _ _ k⟩) fun _ _ x => x
theorem evT_mono {e : Expr} {K K' : Bool -> St -> Prop} (h : ∀ b σ, K b σ -> K' b σ) (q : evT mu Γ e ρ G σ K) : evT mu Γ e ρ G σ K' := fun _ _ _ _ _ _ _ _ T X A E ω s env Rm O S R =>
 wpAny_mono (q T X A E ω s env Rm O S R) (fun _ _ ⟨ω', σ', l, S, R, k⟩ => ⟨ω', σ', l, S, R, h _ _ k⟩) fun _ _ x => x
theorem evB_app {r : List Stmt} : ∀ (b : List Stmt) {ρ : Loc} {σ : St} {K : KS}, evB mu Γ (b.append r) ρ G σ K -> evB mu Γ b ρ G σ fun fl ρ' σ' => match fl with
 | .nx => evB mu Γ r ρ' G σ' K
 | fl => K fl ρ' σ' := by
 intro xs0
 induction xs0 with
 | nil =>
  exact @fun _ _ _ h => h
 | cons _ b ih =>
  exact @fun _ _ _ h => evS_mono (fun fl _ _ k => match fl, k with
  | .nx, k => ih k
  | .br, k => k
  | .ct, k => k
  | .rt _, k => k) h
theorem q_Bpass {p : Pos} {r : List Stmt} (h : evB mu Γ r ρ G σ KF) : evB mu Γ (.Pass p :: r) ρ G σ KF := q_S_pass h
theorem q_Bbreak {p : Pos} {r : List Stmt} (h : KF .br ρ σ) : evB mu Γ (.Break p :: r) ρ G σ KF := q_S_break h
theorem q_Bexpr {e : Expr} {p : Pos} {r : List Stmt} (h1 : notComp e = true) (h : evE mu Γ e ρ G σ fun h σ1 => h = .none /\ evB mu Γ r ρ G σ1 KF) : evB mu Γ (.Expr e p :: r) ρ G σ KF := q_S_expr h1 h
theorem q_Bassign {x : Str} {q p : Pos} {e : Expr} {r : List Stmt} (h1 : notComp e = true) (h2 : nmB G x = true) (h : evE mu Γ e ρ G σ fun h σ1 => evB mu Γ r (upd ρ x h) G σ1 KF) : evB mu Γ (.Assign [.Name x q] e p :: r) ρ G σ KF := q_S_assign h1 h2 h
theorem q_Bpair {x y : Str} {px py tp vp p : Pos} {k j : Nat} {a b : Expr} {r : List Stmt} (h1 : pairB G x y px py a b = true) (h : evE mu Γ a ρ G σ fun h σ1 => evE mu Γ b ρ G σ1 fun k σ2 => evB mu Γ r (upd (upd ρ y k) x h) G σ2 KF) :
 evB mu Γ (.Assign [.Tuple [.Name x px, .Name y py] k tp] (.Tuple [a, b] j vp) p :: r) ρ G σ KF := q_S_pair h1 h
theorem q_Baug {x : Str} {q p : Pos} {op : Operator} {e : Expr} {a : HV} {r : List Stmt} (h1 : nmB G x = true) (ha : ρ x = some a) (h : evE mu Γ e ρ G σ fun b σ1 => augH op a b σ1 fun h σ2 => evB mu Γ r (upd ρ x h) G σ2 KF) : evB mu Γ (.AugAssign (.Name x q) op e p :: r) ρ G σ KF := q_S_aug h1 ha h
theorem q_Bif {t : Expr} {b o r : List Stmt} {p : Pos} (h : evT mu Γ t ρ G σ fun c σ1 => if c then evB mu Γ (b.append r) ρ G σ1 KF else evB mu Γ (o.append r) ρ G σ1 KF) : evB mu Γ (.If t b o p :: r) ρ G σ KF :=
 q_S_if (evT_mono (fun c _ k => by cases c; exact evB_app _ k; exact evB_app _ k) h)
theorem q_Bret {e : Expr} {p : Pos} {r : List Stmt} (h : evE mu Γ e ρ G σ fun h σ1 => KF (.rt h) ρ σ1) : evB mu Γ (.Return (some e) p :: r) ρ G σ KF := q_S_ret h
theorem q_Bassert {t : Expr} {p : Pos} {r : List Stmt} (h : evT mu Γ t ρ G σ fun c σ1 => c = true /\ evB mu Γ r ρ G σ1 KF) : evB mu Γ (.Assert t none p :: r) ρ G σ KF := q_S_assert h
theorem q_ap {s : Stmt} {b r : List Stmt} (h : evB mu Γ (s :: b.append r) ρ G σ KF) : evB mu Γ ((s :: b).append r) ρ G σ KF := h
theorem q_ap0 {r : List Stmt} (h : evB mu Γ r ρ G σ KF) : evB mu Γ (List.append [] r) ρ G σ KF := h
theorem gen_K {b : List Stmt} {K0 : KS} (h : ∀ KF : KS, (∀ fl ρ σ, K0 fl ρ σ -> KF fl ρ σ) -> evB mu Γ b ρ G σ KF) : evB mu Γ b ρ G σ K0 := h K0 fun _ _ _ k => k
theorem end_k {K0 KF : KS} {fl : Fl} (h : ∀ fl ρ σ, K0 fl ρ σ -> KF fl ρ σ) (k : K0 fl ρ σ) : KF fl ρ σ := h _ _ _ k
theorem q_fn {a : Addr} {sp : Spec} {hs : List HV} (e : Γ (.ref a) = some sp) (h : sp hs σ K) : callH Γ (.val (.ref a)) hs σ K := by show (match Γ (.ref a) with | some sp => sp hs σ K | none => False); refine rr e ?_; exact h
theorem q_cal {a : Addr} {sp : Spec} (e : Γ (.ref a) = some sp) : calB Γ (.val (.ref a)) = true := by show (Γ (.ref a)).isSome = true; refine rr e ?_; rfl
end
end
section
section
variable {prog : Program} {w : World} {A : Around} {E : Value -> Shared -> Prop} {B0 : Heap} {os : OsState} {gs : Array GenState} {ω : Own} {s : Shared} {σ : St} {K : KV}
theorem sub_ok {value slice : Expr} {ho hi : HV} {o i : Value} (S : MS B0 os ω gs s) (R : RelS ω σ) (ra : Rd ω ho o) (rb : Rd ω hi i) (H : subH ho hi σ K) : wpAny (model prog w) A (PyProof.Rows.subscriptTail value slice o i) (PostV B0 os gs ω K) E s := H A E ω s _ _ o i S R ra rb
theorem cmp_ok {n : Nat} {op : CmpOp} {ha hb : HV} {a b : Value} (Rm : Room n A) (S : MS B0 os ω gs s) (R : RelS ω σ) (ra : Rd ω ha a) (rb : Rd ω hb b) (H : cmpH op ha hb σ K) : wpAny (model prog w) A (compareOp op a b) (PostV B0 os gs ω K) E s := H A E ω s a b Rm S R ra rb
end
section
variable {mu : Pos -> Bool} {Γ : Spx} {ρ : Loc} {G : GC} {σ : St} {K : KV}
theorem t_bool {b : Bool} {KB : Bool -> Prop} (h : KB b) : ∃ c, truH (.bool b) σ = some c /\ KB c := (i_ea b rfl h)
theorem t_int {i : Int} {KB : Bool -> Prop} (h : KB (i != 0)) : ∃ c, truH (.int i) σ = some c /\ KB c := (i_ea _ rfl h)
theorem t_str {i : List Nat} {KB : Bool -> Prop} (h : KB (!i.isEmpty)) : ∃ c, truH (.str i) σ = some c /\ KB c := (i_ea _ rfl h)
theorem t_list {i : List HV} {KB : Bool -> Prop} (h : KB (!i.isEmpty)) : ∃ c, truH (.list i) σ = some c /\ KB c := (i_ea _ rfl h)
theorem t_obj {a : Addr} {i : List HV} {KB : Bool -> Prop} (e : σ a = some i) (h : KB (!i.isEmpty)) : ∃ c, truH (.obj a) σ = some c /\ KB c := (i_ea _ (congrArg (Option.map _) e) h)
theorem k_bm {a : Addr} {x : HV} {l : List HV} (e : σ a = some l) (hz : l.length < sizeLine) (h : K .none (σ.put a (l ++ [x]))) : callH Γ (.bm a) [x] σ K := (i_eaa l e hz h)
theorem m_append {a : Addr} {x : HV} {l : List HV} (e : σ a = some l) (hz : l.length < sizeLine) (h : K .none (σ.put a (l ++ [x]))) : methH (.obj a) (Str.ofString "append") [x] σ K := by exact (i_eaa l e hz h)
theorem m_join {l : List Nat} {xs : HV} {ys : List HV} {ts : List (List Nat)} (e : asList xs σ = some ys) (e2 : allTxt ys = some ts) (hz : (ts.map (fun t => t.length + l.length)).sum <= sizeLine) (h : K (.str (l.intercalate ts)) σ) : methH (.str l) (Str.ofString "join") [xs] σ K := by
 exact (i_eeaaa ys ts e e2 hz h)
theorem r_append {a : Addr} {l : List HV} (e : σ a = some l) : rcv (Str.ofString "append") (.obj a) σ = true := by dsimp only [rcv]; simp [e]
theorem r_join {l : List Nat} : rcv (Str.ofString "join") (.str l) σ = true := by dsimp only [rcv]; (refine rr (if_neg (by decide)) ?_; exact rr (if_pos rfl) rfl)
theorem oi {i : Int} {P : Int -> Prop} (h : P i) : ∃ j, HV.int i = .int j /\ P j := (i_ea i rfl h)
theorem i_rng {lo hi : Int} {P : List HV -> Prop} (h : P ((List.range (hi - lo).toNat).map fun (k : Nat) => HV.int (lo + (k : Int)))) : ∃ xs, itemsH (.rng lo hi) = some xs /\ P xs := (i_ea _ rfl h)
theorem i_list {l : List HV} {P : List HV -> Prop} (h : P l) : ∃ xs, itemsH (.list l) = some xs /\ P xs := (i_ea _ rfl h)
theorem i_str {l : List Nat} {P : List HV -> Prop} (h : P (l.map fun c => HV.str [c])) : ∃ xs, itemsH (.str l) = some xs /\ P xs := (i_ea _ rfl h)
theorem j_str {l acc : List Nat} {P : List Nat -> Prop} (hz : acc.length + l.length <= sizeLine) (h : P l) : ∃ m, HV.str l = .str m /\ acc.length + m.length <= sizeLine /\ P m := (i_eaa l rfl hz h)
theorem if_em {c : Prop} [Decidable c] {P Q : Prop} (h1 : c -> P) (h2 : ¬c -> Q) : if c then P else Q := if h : c then (if_pos h).symm ▸ h1 h else (if_neg h).symm ▸ h2 h
theorem if_t {P Q : Prop} (h : P) : if true = true then P else Q := by exact h
theorem if_f {P Q : Prop} (h : Q) : if false = true then P else Q := by exact h
theorem within_self {σ : St} : within σ σ = σ := by funext a; unfold within; cases σ a <;> rfl
theorem fin_bool {σ' : St} {b : Bool} (h : K (.bool b) (within σ σ')) : ∃ h h', Fl.rt (.bool b) = .rt h /\ frz σ σ' h = some h' /\ K h' (within σ σ') := (i_eeaa _ _ rfl (by exact rfl) h)
theorem fin_int {σ' : St} {b : Int} (h : K (.int b) (within σ σ')) : ∃ h h', Fl.rt (.int b) = .rt h /\ frz σ σ' h = some h' /\ K h' (within σ σ') := (i_eeaa _ _ rfl (by exact rfl) h)
theorem fin_str {σ' : St} {b : List Nat} (h : K (.str b) (within σ σ')) : ∃ h h', Fl.rt (.str b) = .rt h /\ frz σ σ' h = some h' /\ K h' (within σ σ') := (i_eeaa _ _ rfl (by exact rfl) h)
theorem at_nat {α : Type} {l : List α} {k : Nat} : at? l (k : Int) = l[k]? := by rfl
end
end
theorem nrfl : (none : Option HV) = none := rfl
theorem hvrfl : HV.none = HV.none := rfl
/-! the syntax of a step, built by hand -/
def syN (k : Lean.Name) (a : Array Lean.Syntax) : Lean.Syntax := .node .none k a
def syA (s : String) : Lean.Syntax := .atom .none s
def syT (s : String) (a : Array Lean.Syntax) : Lean.Syntax := syN (.str `Lean.Parser.Tactic s) a
def syK (k : String) (s : String) (a : List Lean.Syntax) : Lean.Syntax := syT k (syA s :: a).toArray
def syS (t : Lean.Syntax) : Lean.Syntax := syT "tacticSeq" #[syT "tacticSeq1Indented" #[syN `null #[t]]]
def syB (t : Lean.Syntax) : Lean.Syntax := syN `Lean.Parser.Term.byTactic #[syA "by", syS t]
def syP (f : String) (as : List Lean.Syntax) : Lean.Syntax := if as.isEmpty then Lean.mkIdent f.toName else syN `Lean.Parser.Term.app #[Lean.mkIdent f.toName, syN `null as.toArray]
def syD (k : List Lean.Syntax) : Lean.Syntax := syK "decide" "decide" [syT "optConfig" #[syN `null k.toArray]]
def syU (t : Lean.Syntax) : Lean.Syntax := syB (syK "withUnfoldingAll" "with_unfolding_all" [syS t])
def evArg (c : Char) : Lean.Syntax := match c with
  | 'r' => syU (syK "tacticRfl" "rfl" [])
  | 'k' => syB (syN `tacticKernel_rfl #[syA "kernel_rfl"])
  | 'n' => syB (syN `PyProof.Rows.tacticWalk_at_ #[syA "walk_at", syN `str #[syA "\"nm\""]])
  | 'd' => syU (syD [])
  | '?' => syN `Lean.Parser.Term.syntheticHole #[syA "?", syA "_"]
  | c =>
    let z := syB (syD [syT "configItem" #[syT "posConfigItem" #[syA "+", syP "kernel" []]]])
    let a := syB (syK "assumption" "assumption" [])
    let r := syP "rfl" []
    match c with
    | 'z' => z
    | 'e' => syP "ofS_ne" [z]
    | 'a' => a
    | 'c' => syP "q_cal" [a]
    | 'p' => syP "r_append" [a]
    | 'j' => syP "r_join" []
    | 'o' => syP "hvrfl" []
    | 'L' => syP "Or.inl" [r]
    | 'R' => syP "Or.inr" [r]
    | _ => r
/-! r: by rfl, k: by the kernel, z: decided by the kernel, e: two names differ, n: a name, d: decide, a: a fact at hand -/
def evOne (q w : String) : Lean.Syntax :=
  let cs := w.splitOn ":"
  syS (syK "refine" "refine" [syP (cs.getD 0 "") (((cs.getD 1 "") ++ q).toList.map evArg)])
local macro_rules | `(tactic| walk_at $key:str) => do
  let nm := key.getString == "nm"
  unless nm || key.getString == "ev" do Lean.Macro.throwUnsupported
  let ts := ((if nm then "upd_self upd_ne:en none_at nrfl restr_in:zn restr_out:z restrG_in:zn restr_gof:zzn gof_in:zn" else "q_ap q_ap0 q_B0 q_Bassign:rk q_Bif q_Bexpr:r q_Baug:kn q_Bret q_Bpair:k q_Bbreak q_Bassert q_B q_es q_es0 q_loc:n q_int q_str:k q_bool q_none q_glob:nn q_bin q_cmp:r q_T_cmp:r q_call:rnnr q_call:rnnc q_callL:rnr q_slice q_sub:r q_meth:rLrdr q_meth:rRrdr q_un q_if q_and q_or q_tuple:dr q_list:rdr q_own:rdr q_lc0:kr q_lc1:kr q_attr:rl q_joined q_T_not q_T_bool q_T_name:n q_T_call q_A_and0 q_A_or0 q_A_and q_A_or q_o0 q_o q_j0 q_jv q_S_pass q_S_break q_S_expr:r q_S_assign:rk q_S_pair:k q_S_aug:kn q_S_if q_S_while q_S_for:kr q_S_ret q_S_assert b_add b_sub u_neg c_eqi c_nei c_lt c_le c_gt c_ge c_eqs c_nes c_notin2 c_isn_str c_isn_ref:l c_is_ref:l t_bool t_int t_str t_list t_obj:a s_slstr s_sllist s_slbytes s_slobj:a k_len_str k_len_list k_len_bytes k_len_obj:a k_ord k_min k_isi g_addi g_subi oi i_rng i_list i_str And.intro:j And.intro:p if_t if_f And.intro:o fin_bool fin_int fin_str end_k:a").splitOn " ").map (evOne (if nm then "" else "?"))
  return syK "withReducible" "with_reducible" [syS (syK "first" "first" [syN `null (((if nm then [syS (syK "assumption" "assumption" [])] else []) ++ ts).map fun t => syN `group #[syA "|", t]).toArray])]
section
noncomputable def anyL : List Nat := litS (Str.ofString "any")
noncomputable def elL : Option Nat -> List Nat
 | none => anyL
 | some c => [c]
noncomputable def elH (x : Option Nat) : HV := .str (elL x)
noncomputable def fit2 : Option (Option Nat) -> Option Nat -> Bool
 | some none, some _ => true
 | some (some c), some d => c == d
 | _, _ => false
noncomputable def fitB (r : List (Option Nat)) (nm : List Nat) (at' : Nat) (k : Nat) : Bool := fit2 r[k]? nm[at' + k]?
noncomputable def fitsF (r : List (Option Nat)) (nm : List Nat) (p : Nat) : Bool := decide (p + r.length <= nm.length) && (List.range r.length).all (fitB r nm p)
noncomputable def isRun (σ : St) (h : HV) (r : List (Option Nat)) : Prop := h = .list (r.map elH) ∨ ∃ a, h = .obj a /\ σ a = some (r.map elH)
noncomputable def spFits : Spec := fun hs σ K => ∃ rv r nm p, hs = [rv, .str nm, .int (p : Nat)] /\ isRun σ rv r /\ r.length <= 100 /\ nm.length <= 300 /\ p <= 1000 /\ K (.bool (fitsF r nm p)) σ
theorem eqD_nil (l : List HV) : eqD (.list l) (.list []) = l.isEmpty := by
 induction l using List.casesOn with
 | nil => rfl
 | cons x r => rfl
theorem frz_dom {σ : St} {K : KV} (h : K (.bool true) σ) : K (.bool true) (within σ σ) := by refine rr within_self ?_; exact h
theorem any_len : anyL.length = 3 := by kernel_rfl
theorem fitB_is {r : List (Option Nat)} {nm : List Nat} {p k d : Nat} {x : Option Nat} (hx : r[k]? = some x) (hd : nm[p + k]? = some d) : fitB r nm p k = [anyL, [d]].contains (elL x) := by
 unfold fitB
 (refine rr hx ?_; refine rr hd ?_)
 clear hx; induction x with
 | none => rfl
 | some c =>
  have : ([c] == anyL) = false := by
   rw [beq_eq_false_iff_ne]; intro q; have := any_len; rw [← q] at this; simp at this
  simp only [elL, List.contains_cons, this, List.contains_nil, Bool.or_false, Bool.false_or]
  show (c == d) = _
  by_cases hcd : c = d <;> simp [hcd]
theorem fits_walk {mu : Pos -> Bool} {Γ : Spx} {gt : Loc} (hmu : mu ⟨167, 85, 167, 87⟩ = false) (g1 : gt (Str.ofString "len") = some (.val (.builtin "len"))) (g2 : gt (Str.ofString "range") = some (.val (.type "range"))) {hs : List HV} {σ : St} {K : KV} (H : spFits hs σ K) :
 specOf mu Γ (scopeOf (stm 20)) gt [Str.ofString "run", Str.ofString "name", Str.ofString "place"] (bodyOf (stm 20)) hs σ K := by
 (refine o_eeeeaaaaa H fun rv r nm p z24 hr h1 h2 h3 hK => ?_; clear H; subst z24)
 have ln := line_is
 refine spec_introK rfl fun KF hKF => ?_
 conv => arg 3; whnf
 conv => arg 5; arg 1; whnf
 simp only [bind_c, bind_n]
 have hlen : ∀ (K : KV), K (.int r.length) σ -> callH Γ (.val (.builtin "len")) [rv] σ K := fun K h => by
  rcases hr with rfl | ⟨a, rfl, ha⟩
  · exact k_len_list (by simpa using h)
  · exact k_len_obj ha (by simpa using h)
 have hsub : ∀ (k : Nat) (x : Option Nat) (K : KV), r[k]? = some x -> K (.str (elL x)) σ -> subH rv (.int (k : Nat)) σ K := fun k x K e h => by
  have hk : k < r.length := (List.getElem?_eq_some_iff.mp e).1
  rcases hr with rfl | ⟨a, rfl, ha⟩
  · exact s_list (by lia) (by rw [at_nat]; simp [e, elH]) h
  · exact s_obj (by lia) ha (by rw [at_nat]; simp [e, elH]) h
 repeat' walk_at "ev"
 refine hlen _ ?_
 repeat' walk_at "ev"
 split
 · rename_i hlt
   repeat' walk_at "ev"
   have : fitsF r nm p = false := by
    simp only [decide_eq_true_eq] at hlt
    unfold fitsF
    refine rr (decide_eq_false (ar75 hlt)) ?_; rfl
   rw [this] at hK
   refine rr within_self ?_; exact hK
 · rename_i hlt
   simp only [decide_eq_true_eq] at hlt
   repeat' walk_at "ev"
   refine hlen _ ?_
   repeat' walk_at "ev"
   refine k_range1 (ar347 h1) ?_
   repeat' walk_at "ev"
   refine compL_pure (onInt fun k => !(fitB r nm p k.toNat)) (fun x => x) _ _ _ (by simp; exact ar74 ln h1) (fun x hx K hK => ?_) (fun x hx hp K hK => ?_) ?_
   · simp only [List.mem_map, List.mem_range] at hx
     (refine o_ea hx fun k hk z12 => ?_; clear hx; subst z12)
     have hk' : k < r.length := by lia
     simp only [Int.zero_add] at hK ⊢
     repeat' walk_at "ev"
     obtain ⟨x, hx⟩ : ∃ x, r[k]? = some x := ⟨r[k], List.getElem?_eq_getElem hk'⟩
     obtain ⟨d, hd⟩ : ∃ d, nm[p + k]? = some d := ⟨nm[p + k], List.getElem?_eq_getElem (by omega)⟩
     refine hsub k x _ hx ?_
     repeat' walk_at "ev"
     refine s_str (ar355 hk h1 h3) (by exact hd) ?_
     repeat' walk_at "ev"
     simp only [onInt_int, Int.toNat_natCast, fitB_is hx hd] at hK
     exact hK
   · simp only [List.mem_map, List.mem_range] at hx
     (refine o_ea hx fun k hk z4 => ?_; clear hx)
     repeat' walk_at "ev"
     exact hK
   · refine q_list hmu (by decide) (by rfl) ?_
     repeat' walk_at "ev"
     simp only [List.nil_append, List.map_id']
     refine c_eql ?_ rfl ?_
     · refine List.all_eq_true.mpr ?_
       simp only [List.mem_filter, List.mem_map]
       rintro x ⟨⟨k, _, rfl⟩, _⟩
       rfl
     refine rr (eqD_nil ..) ?_
     repeat' walk_at "ev"
     refine rr within_self ?_
     have e : fitsF r nm p = List.isEmpty (List.filter (onInt fun k => !(fitB r nm p k.toNat)) ((List.range ((r.length : Int) - 0).toNat).map fun (k : Nat) => HV.int (0 + (k : Int)))) := by
      unfold fitsF
      (refine rr (decide_eq_true (ar71 hlt)) ?_; refine rr (Bool.true_and ..) ?_)
      rw [Bool.eq_iff_iff]
      simp only [List.isEmpty_iff, List.filter_eq_nil_iff, List.all_eq_true, List.mem_range, List.mem_map]
      constructor
      · rintro h x ⟨k, hk, rfl⟩
        have := h k (by lia)
        simp [onInt_int, this]
      · intro h k hk
        have := h (.int (0 + (k : Int))) ⟨k, ar70 hk, rfl⟩
        simpa [onInt_int] using this
     refine rl e ?_; exact hK
end
section
theorem slc_from {α : Type} (l : List α) (k : Nat) : slc l (some (k : Int)) none = l.drop k := by
 unfold slc
 simp only [Option.elim]
 refine rr (clipAt_nat ..) ?_
 by_cases h : k <= l.length
 · refine rr (Nat.min_eq_left h) ?_
   exact List.take_of_length_le (by refine rr List.length_drop ?_; exact Nat.le_refl _)
 · rw [Nat.min_eq_right (by lia)]
   rw [List.drop_eq_nil_of_le (Nat.le_refl _), List.drop_eq_nil_of_le (by lia)]; simp
theorem slc_mid {α : Type} (l : List α) (i j : Nat) : slc l (some (i : Int)) (some (j : Int)) = (l.take j).drop i := by
 unfold slc
 simp only [Option.elim]
 (refine rr (clipAt_nat ..) ?_; refine rr (clipAt_nat ..) ?_)
 refine rr List.drop_take ?_
 by_cases h : i <= l.length
 · rw [Nat.min_eq_left h]
   by_cases h2 : j <= l.length
   · rw [Nat.min_eq_left h2]
   · rw [show min j l.length = l.length by lia]
     rw [List.take_of_length_le (by rw [List.length_drop]; exact Nat.le_refl _), List.take_of_length_le (by rw [List.length_drop]; exact ar76 h2)]
 · rw [show min i l.length = l.length by lia, List.drop_eq_nil_of_le (Nat.le_refl _), List.drop_eq_nil_of_le (by lia)]; simp
theorem slc_to {α : Type} (l : List α) (j : Nat) : slc l none (some (j : Int)) = l.take j := by
 unfold slc
 simp only [Option.elim]
 refine rr (clipAt_nat ..) ?_
 simp only [List.drop_zero, Nat.sub_zero]
 by_cases h2 : j <= l.length
 · rw [Nat.min_eq_left h2]
 · rw [Nat.min_eq_right (by lia), List.take_of_length_le (Nat.le_refl _), List.take_of_length_le (by lia)]
noncomputable def meant : List Nat -> List Nat -> Bool
 | [], nm => nm.isEmpty
 | c :: p, nm => if c = 42 then (List.range (nm.length + 1)).any fun k => meant p (nm.drop k) else match nm with
  | [] => false
  | d :: r => (c == 63 || c == d) && meant p r
theorem meant_star (p nm : List Nat) : meant (42 :: p) nm = (List.range (nm.length + 1)).any fun k => meant p (nm.drop k) := by exact if_pos rfl
theorem meant_one {c : Nat} (hc : c ≠ 42) (p : List Nat) (e : Nat) (nm : List Nat) : meant (c :: p) (e :: nm) = ((c == 63 || c == e) && meant p nm) := by exact if_neg hc
theorem meant_no {c : Nat} (hc : c ≠ 42) (p : List Nat) : meant (c :: p) [] = false := by exact if_neg hc
noncomputable def spMeant : Nat -> Spec
 | 0 => fun _ _ _ => False
 | d + 1 => fun hs σ K => ∃ p nm, hs = [.str p, .str nm] /\ p.length <= d /\ nm.length <= 300 /\ K (.bool (meant p nm)) σ
theorem lit_nil : litS (Str.ofString "") = [] := by kernel_rfl
theorem lit_star : litS (Str.ofString "*") = [42] := by kernel_rfl
theorem lit_q : litS (Str.ofString "?") = [63] := by kernel_rfl
theorem meant_walk {Γ : Spx} {gt : Loc} {am : Addr} {d : Nat} (g1 : gt (Str.ofString "len") = some (.val (.builtin "len"))) (g2 : gt (Str.ofString "range") = some (.val (.type "range"))) (g3 : gt (Str.ofString "_law_meant") = some (.val (.ref am))) (hΓ : Γ (.ref am) = some (spMeant d))
 {hs : List HV} {σ : St} {K : KV} (H : spMeant (d + 1) hs σ K) : specOf (fun _ => false) Γ (scopeOf (stm 19)) gt [Str.ofString "pattern", Str.ofString "name"] (bodyOf (stm 19)) hs σ K := by
 obtain ⟨p, nm, rfl, h1, h2, hK⟩ := H
 have ln := line_is
 refine spec_introK rfl fun KF hKF => ?_
 conv => arg 3; whnf
 conv => arg 5; arg 1; whnf
 simp only [bind_c, bind_n]
 repeat' walk_at "ev"
 rw [lit_nil]
 cases p with
 | nil =>
   rw [if_pos (by rfl)]
   repeat' walk_at "ev"
   rw [lit_nil, within_self]
   have : meant [] nm = (nm == []) := by cases nm <;> rfl
   rw [← this]; exact hK
 | cons c p =>
   rw [if_neg (by simp)]
   simp only [List.length_cons] at h1
   obtain ⟨d, rfl⟩ : ∃ e, d = e + 1 := ⟨d - 1, ar81 h1⟩
   repeat' walk_at "ev"
   refine s_str (c := c) (by decide) rfl ?_
   repeat' walk_at "ev"
   rw [lit_star]
   by_cases hc : c = 42
   · subst hc
     rw [if_pos (by decide)]
     repeat' walk_at "ev"
     refine k_range1 (ar356 h2) ?_
     repeat' walk_at "ev"
     refine compL_pure (onInt fun k => meant p (nm.drop k.toNat)) (fun x => x) _ _ _ (by simp; exact ar80 ln h2) (fun x hx K hK => ?_) (fun x hx hp K hK => ?_) ?_
     · simp only [List.mem_map, List.mem_range] at hx
       (refine o_ea hx fun k hk z751 => ?_; clear hx; subst z751)
       simp only [Int.zero_add] at hK ⊢
       repeat' walk_at "ev"
       refine q_fn hΓ ?_
       refine ⟨p, nm.drop k, ?_, by lia, by rw [List.length_drop]; exact ar79 h2, ?_⟩
       · rw [slc_from, show (1 : Int) = ((1 : Nat) : Int) from rfl, slc_from]; rfl
       repeat' walk_at "ev"
       simpa [onInt_int] using hK
     · simp only [List.mem_map, List.mem_range] at hx
       (refine o_ea hx fun k hk z747 => ?_; clear hx; subst z747)
       repeat' walk_at "ev"
       exact hK
     · repeat' walk_at "ev"
       simp only [List.nil_append, List.map_id']
       refine c_nel ?_ rfl ?_
       · refine List.all_eq_true.mpr ?_
         simp only [List.mem_filter, List.mem_map]
         rintro x ⟨⟨k, _, rfl⟩, _⟩
         rfl
       rw [eqD_nil]
       repeat' walk_at "ev"
       rw [within_self]
       have e : meant (42 :: p) nm = !(List.isEmpty (List.filter (onInt fun k => meant p (nm.drop k.toNat)) ((List.range ((nm.length : Int) + 1 - 0).toNat).map fun (k : Nat) => HV.int (0 + (k : Int))))) := by
        rw [show ((nm.length : Int) + 1 - 0).toNat = nm.length + 1 by exact ar78]
        rw [meant_star]
        rw [Bool.eq_iff_iff]
        simp only [List.any_eq_true, List.mem_range, Bool.not_eq_true', ← Bool.not_eq_true, List.isEmpty_iff, List.filter_eq_nil_iff, List.mem_map]
        constructor
        · rintro ⟨k, hk, hm⟩ h
          exact h _ ⟨k, hk, rfl⟩ (by simpa [onInt_int] using hm)
        · intro h
          apply Classical.byContradiction
          intro hn
          apply h
          rintro x ⟨k, hk, rfl⟩ hm
          exact hn ⟨k, hk, by simpa [onInt_int] using hm⟩
       rw [← e]; exact hK
   · rw [if_neg (by simpa using hc)]
     repeat' walk_at "ev"
     rw [lit_nil]
     induction nm using List.casesOn with
     | nil =>
       rw [if_pos (by rfl)]
       repeat' walk_at "ev"
       have := meant_no hc p
       rw [this] at hK
       rw [within_self]; exact hK
     | cons e nm =>
       rw [if_neg (by simp)]
       have hm := meant_one hc p e nm
       rw [hm] at hK
       repeat' walk_at "ev"
       refine s_str (c := c) (by decide) rfl ?_
       repeat' walk_at "ev"
       refine s_str (c := e) (by decide) rfl ?_
       repeat' walk_at "ev"
       rw [lit_q]
       have hcon : ([[63], [e]] : List (List Nat)).contains [c] = (c == 63 || c == e) := by rw [Bool.eq_iff_iff]; simp
       rw [hcon]
       cases hb : (c == 63 || c == e) with
       | false =>
         rw [hb, Bool.false_and] at hK
         rw [Bool.not_false]
         repeat' walk_at "ev"
         rw [within_self]; exact hK
       | true =>
         rw [hb, Bool.true_and] at hK
         rw [Bool.not_true]
         repeat' walk_at "ev"
         refine q_fn hΓ ?_
         refine ⟨p, nm, ?_, by lia, by simp only [List.length_cons] at h2; exact ar77 h2, ?_⟩
         · rw [show (1 : Int) = ((1 : Nat) : Int) from rfl, slc_from, slc_from]; rfl
         repeat' walk_at "ev"
         rw [within_self]; exact hK
end
section
noncomputable def goodT (l : List Nat) : Prop := l.length <= 3 /\ ∀ c ∈ l, c < 256 /\ c ≠ 91
noncomputable def spText : Spec := fun hs σ K => ∃ n : Int, hs = [.int n] /\ 0 <= n /\ n < 10 ^ 8 /\ ∀ l, goodT l -> K (.str l) σ
theorem lit_signs : litS (Str.ofString "ab*?a.b") = [97, 98, 42, 63, 97, 46, 98] := by kernel_rfl
theorem lit_b : litS (Str.ofString "b") = [98] := by kernel_rfl
theorem sign_cut (r : Int) (h : 0 <= r) : slc [97, 98, 42, 63, 97, 46, 98] (some (r.fmod 8)) (some (r.fmod 8 + 1)) = [] ∨ ∃ c : Nat, slc [97, 98, 42, 63, 97, 46, 98] (some (r.fmod 8)) (some (r.fmod 8 + 1)) = [c] /\ c < 256 /\ c ≠ 91 := by
 refine rr (Int.fmod_eq_emod_of_nonneg _ (by decide)) ?_
 obtain ⟨k, hk, hk8⟩ : ∃ k : Nat, r % 8 = (k : Int) /\ k < 8 := (i_ea ((r % 8).toNat) (ar83) (ar82))
 (refine rr hk ?_; refine rr (show ((k : Int) + 1) = ((k + 1 : Nat) : Int) by rfl) ?_; refine rr (slc_mid ..) ?_)
 exact ((show ∀ k, k < 8 -> (([97, 98, 42, 63, 97, 46, 98] : List Nat).take (k + 1)).drop k = [] ∨ ((([97, 98, 42, 63, 97, 46, 98] : List Nat).take (k + 1)).drop k = [[97, 98, 42, 63, 97, 46, 98].getD k 0] /\ [97, 98, 42, 63, 97, 46, 98].getD k 0 < 256 /\ [97, 98, 42, 63, 97, 46, 98].getD k 0 ≠ 91) from by decide) k hk8).imp id fun h => ⟨_, h⟩
noncomputable def textB : List Stmt := bodyOf (kid (stm 18) 2)
theorem text_walk {Γ : Spx} {gt : Loc} (g2 : gt (Str.ofString "range") = some (.val (.type "range"))) (g3 : gt (Str.ofString "chr") = some (.val (.builtin "chr")))
 {hs : List HV} {σ : St} {K : KV} (H : spText hs σ K) : specOf (fun _ => false) Γ (scopeOf (stm 18)) gt [Str.ofString "number"] (bodyOf (stm 18)) hs σ K := by
 (refine o_eaaa H fun n z763 h1 h2 hK => ?_; clear H; subst z763)
 have ln := line_is
 refine spec_introK rfl fun KF hKF => ?_
 conv => arg 3; whnf
 conv => arg 5; arg 1; whnf
 simp only [bind_c, bind_n]
 repeat' walk_at "ev"
 refine b_div ⟨by decide, by lia, by decide⟩ ?_
 repeat' walk_at "ev"
 refine b_mod (by decide) ?_
 repeat' walk_at "ev"
 refine k_range1 (by rw [Int.fmod_eq_emod_of_nonneg _ (by decide)]; exact ar357) ?_
 repeat' walk_at "ev"
 have key : ∀ (xs : List HV) (ρ : Loc) (l : List Nat) (r : Int) (KF : KS), ρ (Str.ofString "number") = some (.int n) -> ρ (Str.ofString "rest") = some (.int r) -> ρ (Str.ofString "text") = some (.str l) -> ρ (Str.ofString "chr") = none -> 0 <= r -> r < 10 ^ 8 ->
  l.length + xs.length <= 3 -> (∀ c ∈ l, c < 256 /\ c ≠ 91) -> (∀ ρ' l', ρ' (Str.ofString "text") = some (.str l') -> goodT l' -> KF .nx ρ' σ) -> forL (fun h ρ σ K => evB (fun _ => false) Γ textB (upd ρ (Str.ofString "turn") h) (GofDef (scopeOf (stm 18)) gt) σ K) xs ρ σ KF := by
  intro xs
  induction xs with
  | nil => intro ρ l r KF _ _ h3 _ _ _ h4 h5 h6; exact h6 ρ l h3 ⟨by simpa using h4, h5⟩
  | cons x xs ih =>
    intro ρ l r KF e1 e2 e3 e4 hr1 hr2 hz hg hK
    refine q_fo ?_
    refine gen_K fun KF' hKF' => ?_
    conv => arg 3; whnf
    conv => arg 5; arg 1; whnf
    repeat' walk_at "ev"
    refine b_mod (by decide) ?_
    repeat' walk_at "ev"
    refine b_mod (by decide) ?_
    repeat' walk_at "ev"
    rw [lit_signs, lit_nil]
    simp only [List.length_cons] at hz
    rcases sign_cut r hr1 with hs | ⟨c, hs, hc⟩
    · rw [hs, if_pos (by rfl)]
      repeat' walk_at "ev"
      refine b_div ⟨by decide, by lia, by decide⟩ ?_
      repeat' walk_at "ev"
      refine b_mod (by decide) ?_
      repeat' walk_at "ev"
      have hm : (n.fdiv 2048).fmod 256 = (n / 2048) % 256 := by rw [Int.fdiv_eq_ediv_of_nonneg _ (by decide), Int.fmod_eq_emod_of_nonneg _ (by decide)]
      rw [hm]
      refine if_em (fun hne => ?_) (fun hne => ?_)
      · repeat' walk_at "ev"
        rw [lit_b]
        refine g_adds (by simp; lia) ?_
        repeat' walk_at "ev"
        refine b_div ⟨by decide, by lia, by decide⟩ ?_
        repeat' walk_at "ev"
        refine ih _ (l ++ [98]) (r.fdiv 8) _ ?_ ?_ ?_ ?_ ?_ ?_ ?_ ?_ hK
        · walk_at "nm"
        · walk_at "nm"
        · walk_at "nm"
        · walk_at "nm"
        · rw [Int.fdiv_eq_ediv_of_nonneg _ (by decide)]; lia
        · rw [Int.fdiv_eq_ediv_of_nonneg _ (by decide)]; lia
        · simp; lia
        · intro d hd
          rcases List.mem_append.mp hd with hd | hd
          · exact hg d hd
          · rw [List.mem_singleton.mp hd]; exact by decide
      · repeat' walk_at "ev"
        refine k_chr ⟨ar90, ar89⟩ ?_
        repeat' walk_at "ev"
        have hgood : ((n / 2048) % 256).toNat < 256 /\ ((n / 2048) % 256).toNat ≠ 91 := by
         refine ⟨ar88, fun q => hne ?_⟩
         rw [beq_iff_eq]
         exact ar87 q
        refine g_adds (by simp; lia) ?_
        repeat' walk_at "ev"
        refine b_div ⟨by decide, by lia, by decide⟩ ?_
        repeat' walk_at "ev"
        refine ih _ (l ++ [((n / 2048) % 256).toNat]) (r.fdiv 8) _ ?_ ?_ ?_ ?_ ?_ ?_ ?_ ?_ hK
        · walk_at "nm"
        · walk_at "nm"
        · walk_at "nm"
        · walk_at "nm"
        · rw [Int.fdiv_eq_ediv_of_nonneg _ (by decide)]; lia
        · rw [Int.fdiv_eq_ediv_of_nonneg _ (by decide)]; lia
        · simp; lia
        · intro d hd
          rcases List.mem_append.mp hd with hd | hd
          · exact hg d hd
          · rw [List.mem_singleton.mp hd]; exact hgood
    · rw [hs, if_neg (by simp)]
      repeat' walk_at "ev"
      refine g_adds (by simp; lia) ?_
      repeat' walk_at "ev"
      refine b_div ⟨by decide, by lia, by decide⟩ ?_
      repeat' walk_at "ev"
      refine ih _ (l ++ [c]) (r.fdiv 8) _ ?_ ?_ ?_ ?_ ?_ ?_ ?_ ?_ hK
      · walk_at "nm"
      · walk_at "nm"
      · walk_at "nm"
      · walk_at "nm"
      · rw [Int.fdiv_eq_ediv_of_nonneg _ (by decide)]; lia
      · rw [Int.fdiv_eq_ediv_of_nonneg _ (by decide)]; lia
      · simp; lia
      · intro d hd
        rcases List.mem_append.mp hd with hd | hd
        · exact hg d hd
        · rw [List.mem_singleton.mp hd]; exact hc
 refine key _ _ [] _ _ (by walk_at "nm") (by walk_at "nm") ?_ (by walk_at "nm") ?_ ?_ ?_ (by simp) ?_
 · rw [← lit_nil]; walk_at "nm"
 · rw [Int.fdiv_eq_ediv_of_nonneg _ (by decide)]; exact ar86 h1
 · refine rr (Int.fdiv_eq_ediv_of_nonneg _ (by decide)) ?_; exact ar85 h1 h2
 · refine rr (Int.fmod_eq_emod_of_nonneg _ (by decide)) ?_; simp; exact ar84
 · intro ρ' l' e hl
   dsimp only
   repeat' walk_at "ev"
   refine rr within_self ?_; exact hK l' hl
end
section
inductive Tk where
 | opn | star | clos | any
 | esc (c : Nat)
 | lit (c : Nat)
noncomputable def Tk.txt : Tk -> List Nat
 | .opn => [40, 63, 62, 46, 42, 63]
 | .star => [46, 42]
 | .clos => [41]
 | .any => [46]
 | .esc c => [92, c]
 | .lit c => [c]
noncomputable def Tk.ok (rest : List Nat) : Tk -> Prop
 | .any => rest.head? ≠ some 42
 | .lit c => c ≠ 40 /\ c ≠ 46 /\ c ≠ 92 /\ c ≠ 41
 | _ => True
noncomputable def flat' : List Tk -> List Nat
 | [] => []
 | t :: r => t.txt ++ flat' r
noncomputable def okTks : List Tk -> Prop
 | [] => True
 | t :: r => t.ok (flat' r) /\ okTks r
noncomputable abbrev Row := List (Option Nat)
noncomputable def Tk.step (done : List Row) (cur : Row) : Tk -> List Row × Row
 | .opn => (done ++ [cur], [])
 | .star => (done ++ [cur], [])
 | .clos => (done, cur)
 | .any => (done, cur ++ [none])
 | .esc c => (done, cur ++ [some c])
 | .lit c => (done, cur ++ [some c])
noncomputable def stepAll : List Tk -> List Row -> Row -> List Row × Row
 | [], d, c => (d, c)
 | t :: r, d, c => stepAll r (t.step d c).1 (t.step d c).2
noncomputable def RowsAt (σ : St) : List Addr -> List Row -> Prop
 | [], [] => True
 | b :: bs, r :: rs => σ b = some (r.map elH) /\ RowsAt σ bs rs
 | _, _ => False
theorem put_ne {σ : St} {a b : Addr} {l : List HV} (h : b ≠ a) : σ.put a l b = σ b := if_neg h
theorem put_self {σ : St} {a : Addr} {l : List HV} : σ.put a l a = some l := if_pos rfl
theorem RowsAt.put {σ : St} {x : Addr} {l : List HV} : ∀ {bs : List Addr} {rs : List Row}, RowsAt σ bs rs -> x ∉ bs -> RowsAt (σ.put x l) bs rs
 | [], [], _, _ => trivial
 | b :: bs, r :: rs, h, hx => ⟨by refine rr (put_ne (fun q => hx (by refine rr q ?_; exact .head _))) ?_; exact h.1, RowsAt.put h.2 (fun q => hx (.tail _ q))⟩
theorem RowsAt.snoc {σ : St} {x : Addr} {c : Row} (h' : σ x = some (c.map elH)) : ∀ {bs : List Addr} {rs : List Row}, RowsAt σ bs rs -> RowsAt σ (bs ++ [x]) (rs ++ [c])
 | [], [], _ => ⟨h', trivial⟩
 | b :: bs, r :: rs, h => ⟨h.1, RowsAt.snoc h' h.2⟩
theorem RowsAt.has {σ : St} : ∀ {bs : List Addr} {rs : List Row}, RowsAt σ bs rs -> ∀ b ∈ bs, ∃ l, σ b = some l
 | [], [], _, _, h => by contradiction
 | b :: bs, r :: rs, h, x, hx => by
  rcases List.mem_cons.mp hx with q | q
  · refine rr q ?_; exact ⟨_, h.1⟩
  · exact RowsAt.has h.2 x q
theorem RowsAt.len {σ : St} : ∀ {bs : List Addr} {rs : List Row}, RowsAt σ bs rs -> bs.length = rs.length
 | [], [], _ => rfl
 | b :: bs, r :: rs, h => by simp [RowsAt.len h.2]
theorem RowsAt.at {σ : St} : ∀ {bs : List Addr} {rs : List Row} {i : Nat} {r : Row}, RowsAt σ bs rs -> rs[i]? = some r -> ∃ b, bs[i]? = some b /\ σ b = some (r.map elH)
 | b :: bs, r :: rs, 0, q, h, e => by simp at e; subst e; exact (i_ea b rfl h.1)
 | b :: bs, r :: rs, i + 1, q, h, e => by simp at e ⊢; exact RowsAt.at h.2 e
 | [], [], _, _, _, e => by simp at e
noncomputable def Ag (σ0 σ : St) : Prop := ∀ x, (σ0 x).isSome = true -> σ x = σ0 x
theorem Ag.within {σ0 σ : St} (h : Ag σ0 σ) : within σ0 σ = σ0 := by
 funext x
 unfold Mine.within
 induction q : σ0 x with
 | none => rfl
 | some l => exact (if_pos rfl).trans ((h x (by refine rr q ?_; rfl)).trans q)
theorem Ag.put {σ0 σ : St} (h : Ag σ0 σ) {a : Addr} {l : List HV} (e : σ0 a = none) : Ag σ0 (σ.put a l) := fun x hx => by
 refine rr (put_ne (fun q => by subst q; rw [e] at hx; exact no_ft hx)) ?_; exact h x hx
structure RI (σ0 σ : St) (a : Addr) (done : List Row) (cur : Row) : Prop where
 ag : Ag σ0 σ
 a0 : σ0 a = none
 I : ∃ bi bl, σ a = some ((bi ++ [bl]).map HV.obj) /\ a ∉ bi /\ a ≠ bl /\ bl ∉ bi /\ RowsAt σ bi done /\ σ bl = some (cur.map elH) /\ σ0 bl = none
theorem RI.new {σ0 σ : St} {a : Addr} {done : List Row} {cur : Row} (h : RI σ0 σ a done cur) {b : Addr} (hb : σ b = none) {bi : List Addr} {bl : Addr} (e : σ a = some ((bi ++ [bl]).map HV.obj)) :
 RI σ0 ((σ.put b []).put a ((bi ++ [bl]).map HV.obj ++ [HV.obj b])) a (done ++ [cur]) [] := by
 (refine o_eeaaaa h.I fun bi' bl' h1 h2 h3 h4 z506 => ?_; refine o_aa z506 fun h5 h6 h7 => ?_)
 have e2 : bi = bi' /\ bl = bl' := by
  have : (bi ++ [bl]).map HV.obj = (bi' ++ [bl']).map HV.obj := Option.some.inj (e.symm.trans h1)
  have := (show ∀ (x y : List Addr), x.map HV.obj = y.map HV.obj -> x = y from by
   intro x
   induction x with
   | nil => intro y q; induction y using List.casesOn with | nil => rfl | cons _ _ => simp at q
   | cons c r ih => intro y q; induction y using List.casesOn with
     | nil => simp at q
     | cons d z => simp only [List.map_cons, List.cons.injEq, HV.obj.injEq] at q; (refine rr q.1 ?_; exact rr (ih z q.2) rfl)) _ _ this
  exact ⟨(List.append_inj' this rfl).1, by simpa using (List.append_inj' this rfl).2⟩
 (refine o_a e2 fun z500 z501 => ?_; clear e2; subst z500; clear z506 h4 h7; subst z501)
 have hab : a ≠ b := fun q => by subst q; rw [h1] at hb; contradiction
 have hbl : bl ≠ b := fun q => by clear hab; subst q; rw [h6] at hb; contradiction
 have hbi : b ∉ bi := fun q => by refine o_e (h5.has b q) fun l hl => ?_; rw [hb] at hl; contradiction
 have h0 : σ0 b = none := by
  induction q : σ0 b with
  | none => rfl
  | some l => have := h.ag b (by refine rr q ?_; rfl); simp only [hb, q] at this; contradiction
 refine ⟨(h.ag.put h0).put h.a0, h.a0, bi ++ [bl], b, by refine rr put_self ?_; simp, ?_, hab, ?_, ?_, ?_, h0⟩
 · intro q; rcases List.mem_append.mp q with q | q
   · exact h2 q
   · exact h3 (List.mem_singleton.mp q)
 · intro q; rcases List.mem_append.mp q with q | q
   · exact hbi q
   · exact hbl (List.mem_singleton.mp q).symm
 · refine RowsAt.put (RowsAt.put (h5.snoc h6) ?_) ?_
   · intro q; rcases List.mem_append.mp q with q | q
     · exact hbi q
     · exact hbl (List.mem_singleton.mp q).symm
   · intro q; rcases List.mem_append.mp q with q | q
     · exact h2 q
     · exact h3 (List.mem_singleton.mp q)
 · (refine rr (put_ne (Ne.symm hab)) ?_; refine rr put_self ?_); rfl
theorem RI.add {σ0 σ : St} {a : Addr} {done : List Row} {cur : Row} (x : Option Nat) {bi : List Addr} {bl : Addr} (ag : Ag σ0 σ) (a0 : σ0 a = none) (h1 : σ a = some ((bi ++ [bl]).map HV.obj)) (h2 : a ∉ bi) (h3 : a ≠ bl) (h4 : bl ∉ bi) (h5 : RowsAt σ bi done)
 (h7 : σ0 bl = none) : RI σ0 (σ.put bl (cur.map elH ++ [elH x])) a done (cur ++ [x]) :=
 ⟨ag.put h7, a0, bi, bl, by rw [put_ne h3]; exact h1, h2, h3, h4, h5.put h4, by rw [put_self]; simp, h7⟩
noncomputable def seekF (r : Row) (nm : List Nat) : Nat -> Nat -> Nat
 | 0, p => p
 | n + 1, p => if decide (p <= nm.length) && !fitsF r nm p then seekF r nm n (p + 1) else p
noncomputable def midsF (nm : List Nat) : List Row -> Nat -> Nat
 | [], p => p
 | r :: rs, p => midsF nm rs (seekF r nm (nm.length + 1) p + r.length)
noncomputable def takenF (rows : List Row) (nm : List Nat) : Bool := match rows with
 | [] => false
 | r :: rs => if !fitsF r nm 0 then false else if rs.isEmpty then r.length == nm.length else
  let p := midsF nm rs.dropLast r.length
  let z := rs.getLastD []
  decide (p + z.length <= nm.length) && fitsF z nm (nm.length - z.length)
noncomputable def spTaken : Spec := fun hs σ K => ∃ (tks : List Tk) (nm : List Nat), hs = [.str ([40, 63, 115, 58] ++ flat' tks ++ [41, 92, 90]), .str nm] /\ okTks tks /\ tks.length <= 20 /\ nm.length <= 300 /\
 K (.bool (takenF ((stepAll tks [] []).1 ++ [(stepAll tks [] []).2]) nm)) σ
end
set_option maxHeartbeats 1000000
section
noncomputable def takenW : Expr × List Stmt := loopOf (kid (stm 21) 4)
theorem lit_opn : litS (Str.ofString "(?>.*?") = [40, 63, 62, 46, 42, 63] := by kernel_rfl
theorem lit_dst : litS (Str.ofString ".*") = [46, 42] := by kernel_rfl
theorem lit_bs : litS (Str.ofString "\\") = [92] := by kernel_rfl
theorem lit_cl : litS (Str.ofString ")") = [41] := by kernel_rfl
theorem lit_dot : litS (Str.ofString ".") = [46] := by kernel_rfl
theorem at_last {α : Type} (l : List α) (x : α) : at? (l ++ [x]) (-1) = some x := by
 unfold at?
 rw [if_neg (by decide), if_neg (by simp; exact ar92)]
 have : (((l ++ [x]).length : Int) + -1).toNat = l.length := by simp only [List.length_append, List.length_singleton]; exact ar91
 simp only [this]; simp
theorem at_pre {α : Type} (p : List α) (c : α) (r : List α) : at? (p ++ c :: r) (p.length : Int) = some c := by simp only [at_nat]; simp
theorem cut_pre {α : Type} (p q : List α) (i j : Nat) : slc (p ++ q) (some ((p.length + i : Nat) : Int)) (some ((p.length + j : Nat) : Int)) = (q.take j).drop i := by
 rw [slc_mid, List.take_append, List.take_of_length_le (by exact Nat.le_add_right _ _), show p.length + j - p.length = j by exact ar42, List.drop_append, List.drop_eq_nil_of_le (by exact Nat.le_add_right _ _), show p.length + i - p.length = i by exact ar42, List.nil_append]
theorem Tk.head (t : Tk) : ∃ c r, t.txt = c :: r := by cases t <;> exact (i_ee _ _ rfl)
theorem taken_loop {Γ : Spx} {gt : Loc} {σ0 : St} {a : Addr} {nm inner : List Nat} (g1 : gt (Str.ofString "len") = some (.val (.builtin "len"))) (hz : inner.length <= 1000) :
 ∀ (tks : List Tk) (pre : List Nat) (done : List Row) (cur : Row) (ρ : Loc) (σ : St) (n : Nat) (KF : KS), inner = pre ++ flat' tks -> okTks tks -> ρ (Str.ofString "inner") = some (.str inner) -> ρ (Str.ofString "k") = some (.int (pre.length : Nat)) ->
  ρ (Str.ofString "runs") = some (.obj a) -> ρ (Str.ofString "name") = some (.str nm) -> ρ (Str.ofString "len") = none -> ρ (Str.ofString "_law_fits") = none -> RI σ0 σ a done cur -> tks.length < n -> done.length + tks.length <= 100 -> cur.length + tks.length <= 100 ->
  (∀ ρ' σ', ρ' (Str.ofString "runs") = some (.obj a) -> ρ' (Str.ofString "name") = some (.str nm) -> ρ' (Str.ofString "len") = none -> ρ' (Str.ofString "_law_fits") = none -> RI σ0 σ' a (stepAll tks done cur).1 (stepAll tks done cur).2 -> KF .nx ρ' σ') ->
  whL (fun ρ σ K => evT (fun _ => true) Γ takenW.1 ρ (GofDef (scopeOf (stm 21)) gt) σ K) (fun ρ σ K => evB (fun _ => true) Γ takenW.2 ρ (GofDef (scopeOf (stm 21)) gt) σ K) n ρ σ KF := by
 have ln := line_is
 intro tks
 induction tks with
 | nil =>
  intro pre done cur ρ σ n KF hi hok e1 e2 e3 e4 e5 e6 hR hn hd hc hK
  obtain ⟨n, rfl⟩ : ∃ m, n = m + 1 := ⟨n - 1, ar8 hn⟩
  refine q_wh ?_
  conv => arg 3; whnf
  conv => arg 5; arg 1; whnf
  repeat' walk_at "ev"
  have : inner.length = pre.length := by rw [hi]; simp [flat']
  rw [if_neg (by simp; exact ar97 this)]
  exact hK ρ σ e3 e4 e5 e6 hR
 | cons t tks ih =>
  intro pre done cur ρ σ n KF hi hok e1 e2 e3 e4 e5 e6 hR hn hd hc hK
  simp only [List.length_cons] at hn hd hc
  obtain ⟨n, rfl⟩ : ∃ m, n = m + 1 := ⟨n - 1, ar7 hn⟩
  obtain ⟨hok1, hok2⟩ := hok
  have hR' := hR
  obtain ⟨ag, a0, bi, bl, h1, h2, h3, h4, h5, h6, h7⟩ := hR'
  have hbl : bi.length = done.length := h5.len
  have hi2 : inner = pre ++ (t.txt ++ flat' tks) := hi
  have hi3 : inner = (pre ++ t.txt) ++ flat' tks := by rw [hi2]; simp
  have c6 : slc inner (some (pre.length : Int)) (some ((pre.length : Int) + 6)) = (t.txt ++ flat' tks).take 6 := by
   rw [hi2, show (pre.length : Int) = ((pre.length + 0 : Nat) : Int) by exact ar45, show ((pre.length + 0 : Nat) : Int) + 6 = ((pre.length + 6 : Nat) : Int) by exact ar96, cut_pre]; rfl
  have c2 : slc inner (some (pre.length : Int)) (some ((pre.length : Int) + 2)) = (t.txt ++ flat' tks).take 2 := by
   rw [hi2, show (pre.length : Int) = ((pre.length + 0 : Nat) : Int) by exact ar45, show ((pre.length + 0 : Nat) : Int) + 2 = ((pre.length + 2 : Nat) : Int) by exact ar95, cut_pre]; rfl
  have c1 : slc inner (some ((pre.length : Int) + 1)) (some ((pre.length : Int) + 2)) = ((t.txt ++ flat' tks).take 2).drop 1 := by
   rw [hi2, show ((pre.length : Int) + 1) = ((pre.length + 1 : Nat) : Int) by exact ar41, show ((pre.length : Int) + 2) = ((pre.length + 2 : Nat) : Int) by exact ar94, cut_pre]
  have c0 : ∀ c r, t.txt = c :: r -> at? inner (pre.length : Int) = some c := fun c r q => by rw [hi2, q, List.cons_append, at_pre]
  have hlen : (pre.length : Int) < inner.length := by
   obtain ⟨c, r, q⟩ := t.head
   have : inner.length = pre.length + (t.txt ++ flat' tks).length := by rw [hi2, List.length_append]
   rw [this, q]; simp; exact ar93
  refine q_wh ?_
  conv => arg 3; whnf
  conv => arg 5; arg 1; whnf
  repeat' walk_at "ev"
  rw [if_pos (by simpa using hlen)]
  refine gen_K fun KF' hKF' => ?_
  conv => arg 3; whnf
  conv => arg 5; arg 1; whnf
  repeat' walk_at "ev"
  rw [c6, lit_opn]
  cases t with
  | opn =>
   rw [if_pos (by rfl)]
   repeat' walk_at "ev"
   intro b hb
   repeat' walk_at "ev"
   have hab : a ≠ b := fun q => by subst q; rw [h1] at hb; cases hb
   refine m_append (l := (bi ++ [bl]).map HV.obj) (by rw [put_ne hab]; exact h1) (by simp; omega) ?_
   repeat' walk_at "ev"
   refine ih (pre ++ [40, 63, 62, 46, 42, 63]) (done ++ [cur]) [] _ _ n KF hi3 hok2 ?_ ?_ ?_ ?_ ?_ ?_ (hR.new hb h1) (by omega) (by simp; omega) (by simp; omega) hK
   all_goals first | walk_at "nm" | (refine upd_self.trans ?_; simp)
  | star =>
   rw [if_neg (by simp [Tk.txt])]
   repeat' walk_at "ev"
   rw [c2, lit_dst, if_pos (by rfl)]
   repeat' walk_at "ev"
   intro b hb
   repeat' walk_at "ev"
   have hab : a ≠ b := fun q => by subst q; rw [h1] at hb; contradiction
   refine m_append (l := (bi ++ [bl]).map HV.obj) (by rw [put_ne hab]; exact h1) (by simp; omega) ?_
   repeat' walk_at "ev"
   refine ih (pre ++ [46, 42]) (done ++ [cur]) [] _ _ n KF hi3 hok2 ?_ ?_ ?_ ?_ ?_ ?_ (hR.new hb h1) (by omega) (by simp; omega) (by simp; omega) hK
   all_goals first | walk_at "nm" | (refine upd_self.trans ?_; simp)
  | clos =>
   rw [if_neg (by simp [Tk.txt])]
   repeat' walk_at "ev"
   rw [c2, lit_dst, if_neg (by simp [Tk.txt])]
   repeat' walk_at "ev"
   refine s_str (by omega) (c0 41 [] rfl) ?_
   repeat' walk_at "ev"
   rw [lit_bs, if_neg (by decide)]
   repeat' walk_at "ev"
   refine s_str (by omega) (c0 41 [] rfl) ?_
   repeat' walk_at "ev"
   rw [lit_cl, if_neg (by decide)]
   repeat' walk_at "ev"
   refine ih (pre ++ [41]) done cur _ _ n KF hi3 hok2 ?_ ?_ ?_ ?_ ?_ ?_ hR (ar0 hn) (ar6 hd) (ar6 hc) hK
   all_goals first | walk_at "nm" | (refine upd_self.trans ?_; simp)
  | any =>
   have hne : (Tk.any.txt ++ flat' tks).take 2 ≠ [46, 42] := by
    intro q
    simp only [Tk.txt, List.cons_append, List.nil_append, List.take_succ_cons, List.cons.injEq, true_and] at q
    induction hf : flat' tks using List.casesOn with
    | nil => rw [hf] at q; simp at q
    | cons c r => rw [hf] at q; simp at q; exact hok1 (by rw [hf, q]; rfl)
   rw [if_neg (by simp [Tk.txt])]
   repeat' walk_at "ev"
   rw [c2, lit_dst, if_neg (by simpa using hne)]
   repeat' walk_at "ev"
   refine s_str (by omega) (c0 46 [] rfl) ?_
   repeat' walk_at "ev"
   rw [lit_bs, if_neg (by decide)]
   repeat' walk_at "ev"
   refine s_str (by omega) (c0 46 [] rfl) ?_
   repeat' walk_at "ev"
   rw [lit_cl, if_pos (by decide)]
   repeat' walk_at "ev"
   refine s_obj (c := .obj bl) (by decide) h1 (by rw [List.map_append]; exact at_last _ _) ?_
   repeat' walk_at "ev"
   refine s_str (by omega) (c0 46 [] rfl) ?_
   repeat' walk_at "ev"
   rw [lit_dot, if_pos (by rfl)]
   repeat' walk_at "ev"
   refine m_append h6 (by simp; omega) ?_
   repeat' walk_at "ev"
   refine ih (pre ++ [46]) done (cur ++ [none]) _ _ n KF hi3 hok2 ?_ ?_ ?_ ?_ ?_ ?_ (RI.add none ag a0 h1 h2 h3 h4 h5 h7) (by omega) (by omega) (by simp; omega) hK
   all_goals first | walk_at "nm" | (refine upd_self.trans ?_; simp)
  | esc c =>
   rw [if_neg (by simp [Tk.txt])]
   repeat' walk_at "ev"
   rw [c2, lit_dst, if_neg (by simp [Tk.txt])]
   repeat' walk_at "ev"
   refine s_str (by omega) (c0 92 [c] rfl) ?_
   repeat' walk_at "ev"
   rw [lit_bs, if_pos (by rfl)]
   repeat' walk_at "ev"
   refine s_obj (c := .obj bl) (by decide) h1 (by rw [List.map_append]; exact at_last _ _) ?_
   repeat' walk_at "ev"
   rw [c1]
   refine m_append h6 (by simp; omega) ?_
   repeat' walk_at "ev"
   refine ih (pre ++ [92, c]) done (cur ++ [some c]) _ _ n KF hi3 hok2 ?_ ?_ ?_ ?_ ?_ ?_ (RI.add (some c) ag a0 h1 h2 h3 h4 h5 h7) (by omega) (by omega) (by simp; omega) hK
   all_goals first | walk_at "nm" | (refine upd_self.trans ?_; simp)
  | lit c =>
   refine o_aaa hok1 fun q1 q2 q3 q4 => ?_
   rw [if_neg (by simp [Tk.txt, q1])]
   repeat' walk_at "ev"
   rw [c2, lit_dst, if_neg (by simp [Tk.txt, q2])]
   repeat' walk_at "ev"
   refine s_str (by omega) (c0 c [] rfl) ?_
   repeat' walk_at "ev"
   rw [lit_bs, if_neg (by simp [q3])]
   repeat' walk_at "ev"
   refine s_str (by omega) (c0 c [] rfl) ?_
   repeat' walk_at "ev"
   rw [lit_cl, if_pos (by simp [q4])]
   repeat' walk_at "ev"
   refine s_obj (c := .obj bl) (by decide) h1 (by rw [List.map_append]; exact at_last _ _) ?_
   repeat' walk_at "ev"
   refine s_str (by omega) (c0 c [] rfl) ?_
   repeat' walk_at "ev"
   rw [lit_dot, if_neg (by simp [q2])]
   repeat' walk_at "ev"
   refine s_str (by omega) (c0 c [] rfl) ?_
   repeat' walk_at "ev"
   refine m_append h6 (by simp; exact ar20 hc ln) ?_
   repeat' walk_at "ev"
   refine ih (pre ++ [c]) done (cur ++ [some c]) _ _ n KF hi3 hok2 ?_ ?_ ?_ ?_ ?_ ?_ (RI.add (some c) ag a0 h1 h2 h3 h4 h5 h7) (ar0 hn) (ar6 hd) (by simp; exact ar3 hc) hK
   all_goals first | walk_at "nm" | (refine upd_self.trans ?_; simp)
end
section
theorem slc_neg {α : Type} (p q : List α) (k : Nat) (h : q.length = k) (hk : 0 < k) : slc (p ++ q) (some (-(k : Int))) none = q := by
 unfold slc
 simp only [Option.elim]
 (refine rr (show clipAt (p ++ q).length (-(k : Int)) = p.length from by (refine rr (clipAt_neg _ _ hk) ?_; refine rr List.length_append ?_; refine rr h ?_; exact rr (Nat.add_sub_cancel ..) rfl)) ?_; refine rr List.drop_left ?_; rw [List.take_of_length_le])
 refine rr List.length_append ?_; exact ar98
theorem slc_in {α : Type} (p q r : List α) (i k : Nat) (h1 : p.length = i) (h : r.length = k) (hk : 0 < k) : slc (p ++ q ++ r) (some (i : Int)) (some (-(k : Int))) = q := by
 unfold slc
 simp only [Option.elim]
 (refine rr (show clipAt (p ++ q ++ r).length (-(k : Int)) = p.length + q.length from by (refine rr (clipAt_neg _ _ hk) ?_; refine rr List.length_append ?_; refine rr h ?_; refine rr (Nat.add_sub_cancel ..) ?_; exact rr List.length_append rfl)) ?_; refine rr (show clipAt (p ++ q ++ r).length (i : Int) = p.length from by (refine rr (clipAt_nat ..) ?_; refine rl h1 ?_; refine rr (List.append_assoc ..) ?_; refine rr List.length_append ?_); exact Nat.min_eq_left (Nat.le_add_right _ _)) ?_; refine rr (List.append_assoc ..) ?_; refine rr List.drop_left ?_; refine rr (Nat.add_sub_cancel_left ..) ?_; rw [List.take_left'])
 rfl
theorem slc_1m1 {α : Type} (l : List α) : slc l (some 1) (some (-1)) = l.tail.dropLast := by
 unfold slc
 simp only [Option.elim]
 (refine rr (clipAt_neg _ 1 (Nat.le_refl 1)) ?_; refine rr (clipAt_nat _ 1) ?_)
 induction l using List.casesOn with
 | nil => rfl
 | cons x r =>
  simp only [List.length_cons, List.tail_cons]
  (refine (show min 1 (r.length + 1) = 1 by rfl) ▸ ?_; refine List.drop_one ▸ ?_; refine List.tail_cons ▸ ?_; refine List.dropLast_eq_take ▸ ?_)
  congr 1
theorem lit_pre : litS (Str.ofString "(?s:") = [40, 63, 115, 58] := by kernel_rfl
theorem lit_end : litS (Str.ofString ")\\Z") = [41, 92, 90] := by kernel_rfl
theorem at_neg {α : Type} {l : List α} {c : α} (h : l.getLast? = some c) : at? l (-1) = some c := by
 obtain ⟨q, rfl⟩ : ∃ q, l = q ++ [c] := by
  rw [List.getLast?_eq_some_iff] at h
  exact h
 exact at_last _ _
noncomputable def takenF' : Expr × List Stmt := loopOf (kid (kid (stm 21) 8) 0)
theorem seek_loop {Γ : Spx} {gt : Loc} {σ : St} {nm : List Nat} {r : Row} {rv : HV} {af : Addr} (g1 : gt (Str.ofString "len") = some (.val (.builtin "len"))) (g2 : gt (Str.ofString "_law_fits") = some (.val (.ref af))) (hΓ : Γ (.ref af) = some spFits) (hr : isRun σ rv r) (hl : r.length <= 100) (hn : nm.length <= 300) :
 ∀ (n p : Nat) (ρ : Loc) (KF : KS), ρ (Str.ofString "place") = some (.int (p : Nat)) -> ρ (Str.ofString "run") = some rv -> ρ (Str.ofString "name") = some (.str nm) -> ρ (Str.ofString "len") = none -> ρ (Str.ofString "_law_fits") = none -> p <= 700 -> nm.length + 1 <= n + p ->
  (∀ ρ', ρ' (Str.ofString "place") = some (.int (seekF r nm n p : Nat)) -> ρ' (Str.ofString "run") = some rv -> (∀ x, x ≠ Str.ofString "place" -> ρ' x = ρ x) -> KF .nx ρ' σ) ->
  whL (fun ρ σ K => evT (fun _ => true) Γ takenF'.1 ρ (GofDef (scopeOf (stm 21)) gt) σ K) (fun ρ σ K => evB (fun _ => true) Γ takenF'.2 ρ (GofDef (scopeOf (stm 21)) gt) σ K) (n + 1) ρ σ KF := by
 intro n
 induction n with
 | zero =>
   intro p ρ KF e1 e2 e3 e4 e5 h1 h2 hK
   refine q_wh ?_
   conv => arg 3; whnf
   conv => arg 5; arg 1; whnf
   repeat' walk_at "ev"
   rw [if_neg (by simp; exact ar104 h2)]
   repeat' walk_at "ev"
   exact hK ρ e1 e2 fun _ _ => rfl
 | succ n ih =>
   intro p ρ KF e1 e2 e3 e4 e5 h1 h2 hK
   refine q_wh ?_
   conv => arg 3; whnf
   conv => arg 5; arg 1; whnf
   repeat' walk_at "ev"
   by_cases hp : p <= nm.length
   · rw [if_pos (by simp; omega)]
     repeat' walk_at "ev"
     refine q_fn hΓ ⟨rv, r, nm, p, rfl, hr, hl, hn, ar102 h1, ?_⟩
     repeat' walk_at "ev"
     have hs : seekF r nm (n + 1) p = if decide (p <= nm.length) && !fitsF r nm p then seekF r nm n (p + 1) else p := rfl
     rw [decide_eq_true hp, Bool.true_and] at hs
     induction hf : fitsF r nm p with
     | true =>
       rw [hf] at hs
       rw [Bool.not_true]
       repeat' walk_at "ev"
       rw [Bool.not_true, if_neg (by decide)] at hs
       refine hK ρ ?_ e2 fun _ _ => rfl
       rw [hs]; exact e1
     | false =>
       rw [hf] at hs
       refine rr Bool.not_false ?_
       repeat' walk_at "ev"
       conv => arg 3; whnf
       conv => arg 5; arg 1; whnf
       repeat' walk_at "ev"
       refine ih (p + 1) _ KF ?_ ?_ ?_ ?_ ?_ (ar101 hn hp) (ar46 h2) fun ρ' q1 q2 q3 => ?_
       · refine upd_self.trans ?_; simp
       · walk_at "nm"
       · walk_at "nm"
       · walk_at "nm"
       · walk_at "nm"
       · refine hK ρ' ?_ q2 fun x hx => ?_
         · refine rr hs ?_; exact q1
         · refine rr (q3 x hx) ?_; exact upd_ne hx rfl
   · rw [if_neg (by simp; exact ar100 hp)]
     repeat' walk_at "ev"
     have hs : seekF r nm (n + 1) p = if decide (p <= nm.length) && !fitsF r nm p then seekF r nm n (p + 1) else p := rfl
     rw [decide_eq_false hp, Bool.false_and, if_neg (by decide)] at hs
     refine hK ρ ?_ e2 fun _ _ => rfl
     refine rr hs ?_; exact e1
end
section
theorem seek_le (r : Row) (nm : List Nat) : ∀ (n p : Nat), seekF r nm n p <= max p (nm.length + 1) := by
 intro xs0
 induction xs0 with
 | zero =>
  exact @fun p => by dsimp only [seekF]; lia
 | succ n ih =>
  exact @fun p => by
   dsimp only [seekF]
   refine ie rfl (fun _ => ?_) fun _ => ?_
   · rename_i h
     simp only [Bool.and_eq_true, decide_eq_true_eq] at h
     have := ih (p + 1)
     lia
   · lia
noncomputable def sumL (rs : List Row) : Nat := (rs.map List.length).sum
theorem RowsAt.drop {σ : St} : ∀ {bs : List Addr} {rs : List Row}, RowsAt σ bs rs -> RowsAt σ bs.dropLast rs.dropLast
 | [], [], _ => trivial
 | [_], [_], _ => trivial
 | b :: c :: bs, r :: s :: rs, h => ⟨h.1, RowsAt.drop h.2⟩
 | [_], _ :: _ :: _, h => h.2.elim
 | _ :: _ :: _, [_], h => h.2.elim
noncomputable def takenB : List Stmt := bodyOf (kid (stm 21) 8)
theorem mids_loop {Γ : Spx} {gt : Loc} {σ : St} {nm : List Nat} {af : Addr} (g1 : gt (Str.ofString "len") = some (.val (.builtin "len"))) (g2 : gt (Str.ofString "_law_fits") = some (.val (.ref af))) (hΓ : Γ (.ref af) = some spFits) (hn : nm.length <= 300) :
 ∀ (bs : List Addr) (rs : List Row) (p : Nat) (ρ : Loc) (KF : KS), RowsAt σ bs rs -> ρ (Str.ofString "place") = some (.int (p : Nat)) -> ρ (Str.ofString "name") = some (.str nm) -> ρ (Str.ofString "len") = none -> ρ (Str.ofString "_law_fits") = none -> p + sumL rs <= 500 -> sumL rs <= 100 ->
  (∀ ρ', ρ' (Str.ofString "place") = some (.int (midsF nm rs p : Nat)) -> (∀ x, x ≠ Str.ofString "place" -> x ≠ Str.ofString "run" -> ρ' x = ρ x) -> KF .nx ρ' σ) ->
  forL (fun h ρ σ K => evB (fun _ => true) Γ takenB (upd ρ (Str.ofString "run") h) (GofDef (scopeOf (stm 21)) gt) σ K) (bs.map HV.obj) ρ σ KF
 | [], [], p, ρ, KF, hR, e1, e2, e3, e4, h1, h2, hK => by
  exact hK ρ e1 fun _ _ _ => rfl
 | b :: bs, r :: rs, p, ρ, KF, hR, e1, e2, e3, e4, h1, h2, hK => by
  have hs : sumL (r :: rs) = r.length + sumL rs := by rfl
  rw [hs] at h1 h2
  refine q_fo ?_
  refine gen_K fun KF' hKF' => ?_
  conv => arg 3; whnf
  conv => arg 5; arg 1; whnf
  repeat' walk_at "ev"
  refine ⟨nm.length + 1 + 1, ?_⟩
  refine seek_loop g1 g2 hΓ (rv := .obj b) (.inr ⟨b, rfl, hR.1⟩) (ar108 h2) hn (nm.length + 1) p _ _ ?_ ?_ ?_ ?_ ?_ (ar107 h1) (by exact Nat.le_add_right _ _) fun ρ' q1 q2 q3 => ?_
  · walk_at "nm"
  · walk_at "nm"
  · walk_at "nm"
  · walk_at "nm"
  · walk_at "nm"
  have hb := hR.1
  have n1 : ρ' (Str.ofString "len") = none := by refine rr (q3 _ (ofS_ne (by decide +kernel))) ?_; walk_at "nm"
  have n2 : ρ' (Str.ofString "name") = some (.str nm) := by refine rr (q3 _ (ofS_ne (by decide +kernel))) ?_; walk_at "nm"
  have n3 : ρ' (Str.ofString "_law_fits") = none := by refine rr (q3 _ (ofS_ne (by decide +kernel))) ?_; walk_at "nm"
  repeat' walk_at "ev"
  have hsk := seek_le r nm (nm.length + 1) p
  refine mids_loop g1 g2 hΓ hn bs rs (seekF r nm (nm.length + 1) p + r.length) _ KF hR.2 ?_ ?_ ?_ ?_ (ar106 h1 h2 hsk hn) (ar105 h2) fun ρ2 t1 t2 => hK ρ2 t1 fun x hx hy => ?_
  · refine upd_self.trans ?_; simp
  · walk_at "nm"
  · walk_at "nm"
  · walk_at "nm"
  · simp only [t2 x hx hy, upd_ne hx rfl, q3 x hx, upd_ne hy rfl]
theorem step_sum : ∀ (tks : List Tk) (d : List Row) (c : Row), sumL (stepAll tks d c).1 + (stepAll tks d c).2.length <= sumL d + c.length + tks.length /\ (stepAll tks d c).1.length <= d.length + tks.length := by
 intro xs0
 induction xs0 with
 | nil =>
  exact @fun d c => by simp [stepAll]
 | cons t r ih =>
  exact @fun d c => by
   have ih := ih (t.step d c).1 (t.step d c).2
   have h1 : sumL (t.step d c).1 + (t.step d c).2.length <= sumL d + c.length + 1 /\ (t.step d c).1.length <= d.length + 1 := by
    clear ih; cases t <;> simp [Tk.step, sumL] <;> exact Nat.le_refl _
   simp only [stepAll]
   simp only [List.length_cons]
   exact ar109 h1 ih
theorem taken_walk {Γ : Spx} {gt : Loc} {af : Addr} (g1 : gt (Str.ofString "len") = some (.val (.builtin "len"))) (g2 : gt (Str.ofString "_law_fits") = some (.val (.ref af))) (hΓ : Γ (.ref af) = some spFits)
 {hs : List HV} {σ : St} {K : KV} (H : spTaken hs σ K) : specOf (fun _ => true) Γ (scopeOf (stm 21)) gt [Str.ofString "text", Str.ofString "name"] (bodyOf (stm 21)) hs σ K := by
 obtain ⟨tks, nm, rfl, hok, hlen, hnm, hK⟩ := H
 have ln := line_is
 have hil : (flat' tks).length <= 1000 := by
  have : ∀ l : List Tk, (flat' l).length <= 6 * l.length := by
   intro l
   induction l with
   | nil => simp [flat']
   | cons t r ih => simp only [flat', List.length_append, List.length_cons]; have : t.txt.length <= 6 := by cases t <;> simp [Tk.txt]
                    exact ar125 ih this
  have := this tks
  exact ar124 this hlen
 have s1 : slc ([40, 63, 115, 58] ++ flat' tks ++ [41, 92, 90]) none (some 4) = [40, 63, 115, 58] := by
  rw [show (4 : Int) = ((4 : Nat) : Int) from rfl, slc_to]; rfl
 have s2 : slc ([40, 63, 115, 58] ++ flat' tks ++ [41, 92, 90]) (some (-3)) none = [41, 92, 90] := slc_neg _ _ 3 rfl (by decide)
 have s3 : slc ([40, 63, 115, 58] ++ flat' tks ++ [41, 92, 90]) (some 4) (some (-3)) = flat' tks := slc_in _ _ _ 4 3 rfl rfl (by decide)
 refine spec_introK rfl fun KF hKF => ?_
 conv => arg 3; whnf
 conv => arg 5; arg 1; whnf
 simp only [bind_c, bind_n]
 repeat' walk_at "ev"
 rw [s1, lit_pre, bne_self_eq_false]
 repeat' walk_at "ev"
 rw [s2, lit_end, bne_self_eq_false]
 repeat' walk_at "ev"
 rw [s3]
 intro b hb
 repeat' walk_at "ev"
 intro a ha
 repeat' walk_at "ev"
 have hab : b ≠ a := fun q => by subst q; rw [put_self] at ha; exact no_sn ha
 have ha0 : σ a = none := by rw [put_ne (Ne.symm hab)] at ha; exact ha
 refine ⟨tks.length + 1, ?_⟩
 refine taken_loop (σ0 := σ) (a := a) (nm := nm) (inner := flat' tks) g1 hil tks [] [] [] _ _ _ _ rfl hok ?_ ?_ ?_ ?_ ?_ ?_ ?_ (Nat.lt_succ_self _) (by simp; lia) (by simp; lia) fun ρ' σ' f1 f2 f3 f4 hR => ?_
 · walk_at "nm"
 · show _ = some (HV.int 0)
   walk_at "nm"
 · walk_at "nm"
 · walk_at "nm"
 · walk_at "nm"
 · walk_at "nm"
 · refine ⟨(Ag.put (Ag.put (fun x hx => rfl) hb) ha0), ha0, [], b, ?_, by simp, Ne.symm hab, by simp, trivial, ?_, hb⟩
   · rw [put_self]; rfl
   · rw [put_ne hab, put_self]; rfl
 have hsum := step_sum tks [] []
 revert hK hR hsum
 generalize (stepAll tks [] []).1 = done
 generalize (stepAll tks [] []).2 = cur
 intro hK hR hsum
 simp only [sumL, List.map_nil, List.sum_nil, List.length_nil, Nat.zero_add] at hsum
 obtain ⟨ag, a0, bi, bl, h1, h2, h3, h4, h5, h6, h7⟩ := hR
 have hrows := h5.snoc h6
 have hsl : sumL (done ++ [cur]) <= 20 := by simp only [sumL, List.map_append, List.sum_append, List.map_cons, List.map_nil, List.sum_cons, List.sum_nil]; exact ar123 hsum hlen
 have hlast : (bi ++ [bl]).getLast? = some bl := by simp
 have hlr : (done ++ [cur]).getLastD [] = cur := by simp
 have hcnt : (done ++ [cur]).length <= 21 := by simp; exact ar122 hsum hlen
 revert h1 hrows hK hsl hlast hlr hcnt
 generalize hB : bi ++ [bl] = bs
 generalize hW : done ++ [cur] = rows
 intro hK h1 hrows hsl hlast hlr hcnt
 have hbl : bs.length = rows.length := hrows.len
 obtain ⟨b0, bs', rfl⟩ : ∃ c r, bs = c :: r := by induction bs using List.casesOn with | nil => simp at hB | cons c r => exact ⟨c, r, rfl⟩
 obtain ⟨r0, rs', rfl⟩ : ∃ c r, rows = c :: r := by induction rows using List.casesOn with | nil => simp at hW | cons c r => exact ⟨c, r, rfl⟩
 have hb0 := hrows.1
 have hsl' : r0.length + sumL rs' <= 20 := by simpa [sumL] using hsl
 dsimp only
 repeat' walk_at "ev"
 refine s_obj (c := .obj b0) (by decide) h1 rfl ?_
 repeat' walk_at "ev"
 refine q_fn hΓ ⟨.obj b0, r0, nm, 0, rfl, .inr ⟨b0, rfl, hb0⟩, ar121 hsl', hnm, ar120, ?_⟩
 repeat' walk_at "ev"
 induction hf : fitsF r0 nm 0 with
 | false =>
   have ht : takenF (r0 :: rs') nm = false := by simp [takenF, hf]
   rw [ht] at hK
   rw [Bool.not_false]
   repeat' walk_at "ev"
   rw [ag.within]; exact hK
 | true =>
   rw [Bool.not_true]
   repeat' walk_at "ev"
   refine s_obj (c := .obj b0) (by decide) h1 rfl ?_
   repeat' walk_at "ev"
   induction hrs : rs' using List.casesOn with
   | nil =>
     subst hrs
     have hbn : bs' = [] := by induction bs' using List.casesOn with | nil => rfl | cons c r => exact hrows.2.elim
     subst hbn
     have ht : takenF [r0] nm = (r0.length == nm.length) := by simp [takenF, hf]
     rw [ht] at hK
     rw [if_pos (by rfl)]
     repeat' walk_at "ev"
     rw [ag.within]
     have : ((((r0.map elH).length : Nat) : Int) == (nm.length : Int)) = (r0.length == nm.length) := by rw [Bool.eq_iff_iff]; simp; exact ar119
     rw [this]; exact hK
   | cons r1 rs =>
     subst hrs
     have hne : ((((List.map HV.obj (b0 :: bs')).length : Nat) : Int) == 1) = false := by
      rw [beq_eq_false_iff_ne]; rw [List.length_map, hbl]; simp only [List.length_cons]; exact ar118
     rw [hne]
     repeat' walk_at "ev"
     rw [slc_1m1, List.map_cons, List.tail_cons, ← List.map_dropLast]
     have hdr : sumL (r1 :: rs).dropLast <= 20 := by
      have : ∀ l : List Row, sumL l.dropLast <= sumL l := by
       intro l
       induction l with
       | nil => simp [sumL]
       | cons x y ih => induction y using List.casesOn with
         | nil => simp [sumL]
         | cons z w => simp only [List.dropLast_cons_cons, sumL, List.map_cons, List.sum_cons] at ih ⊢; exact ar117 ih
      have := this (r1 :: rs)
      exact ar116 hsl' this
     refine mids_loop g1 g2 hΓ hnm bs'.dropLast (r1 :: rs).dropLast r0.length _ _ hrows.2.drop ?_ ?_ ?_ ?_ (ar115 hsl' hdr) (ar21 hdr) fun ρ2 t1 t2 => ?_
     · refine upd_self.trans ?_; simp
     · walk_at "nm"
     · walk_at "nm"
     · walk_at "nm"
     have u1 : ρ2 (Str.ofString "len") = none := by rw [t2 _ (ofS_ne (by decide +kernel)) (ofS_ne (by decide +kernel))]; walk_at "nm"
     have u2 : ρ2 (Str.ofString "name") = some (.str nm) := by rw [t2 _ (ofS_ne (by decide +kernel)) (ofS_ne (by decide +kernel))]; walk_at "nm"
     have u3 : ρ2 (Str.ofString "_law_fits") = none := by rw [t2 _ (ofS_ne (by decide +kernel)) (ofS_ne (by decide +kernel))]; walk_at "nm"
     have u4 : ρ2 (Str.ofString "runs") = some (.obj a) := by rw [t2 _ (ofS_ne (by decide +kernel)) (ofS_ne (by decide +kernel))]; walk_at "nm"
     have hlo : at? (List.map HV.obj (b0 :: bs')) (-1) = some (.obj bl) := at_neg (by rw [List.getLast?_map, hlast]; rfl)
     have hcl : cur.length <= 20 := ar114 hsum hlen
     dsimp only
     repeat' walk_at "ev"
     refine s_obj (c := .obj bl) (by decide) h1 hlo ?_
     repeat' walk_at "ev"
     have ht : takenF (r0 :: r1 :: rs) nm = (decide (midsF nm (r1 :: rs).dropLast r0.length + cur.length <= nm.length) && fitsF cur nm (nm.length - cur.length)) := by
      have hlr' : (r1 :: rs).getLastD [] = cur := by
       have : (r0 :: r1 :: rs).getLastD [] = (r1 :: rs).getLastD [] := by simp [List.getLastD_cons]
       rw [← this]; exact hlr
      unfold takenF
      dsimp only
      rw [hf, hlr']
      simp only [Bool.not_true, Bool.false_eq_true, if_false, List.isEmpty_cons]
     rw [ht] at hK
     simp only [List.length_map]
     by_cases hle : midsF nm (r1 :: rs).dropLast r0.length + cur.length <= nm.length
     · rw [decide_eq_true hle, Bool.true_and] at hK
       rw [if_pos (by simp; exact ar113 hle)]
       repeat' walk_at "ev"
       refine s_obj (c := .obj bl) (by decide) h1 hlo ?_
       repeat' walk_at "ev"
       refine q_fn hΓ ⟨.obj bl, cur, nm, nm.length - cur.length, ?_, .inr ⟨bl, rfl, h6⟩, ar112 hsum hlen, hnm, ar111 hnm, ?_⟩
       · rw [show ((nm.length - cur.length : Nat) : Int) = (nm.length : Int) - (cur.length : Int) by omega]
       repeat' walk_at "ev"
       rw [ag.within]; exact hK
     · rw [decide_eq_false hle, Bool.false_and] at hK
       rw [if_neg (by simp; lia)]
       have : decide (((midsF nm (r1 :: rs).dropLast r0.length : Nat) : Int) <= (nm.length : Int) - (cur.length : Int)) = false := by simp; lia
       rw [this]
       repeat' walk_at "ev"
       rw [ag.within]; exact hK
end
section
noncomputable def muDue : Pos -> Bool := fun p => p.line == 226 || p.line == 235
noncomputable def sI (n : Nat) : List Nat := (Str.ofString (toString (n : Int))).cps.toList
noncomputable def w0 : List Nat := litS (Str.ofString "not enough data in stream to read uint1")
noncomputable def w1 (n l : Nat) : List Nat := (((litS (Str.ofString "expected ") ++ sI n) ++ litS (Str.ofString " bytes in a string1, but only ")) ++ sI l) ++ litS (Str.ofString " remain")
noncomputable def cutF (e : Nat) : List (List Nat) -> Nat -> List Nat × List Nat
 | [], _ => ([], w0)
 | t :: r, p => if p + 1 + t.length <= e then ((p + t.length + 1) :: (cutF e r (p + t.length + 1)).1, (cutF e r (p + t.length + 1)).2) else ([], if p + 1 <= e then w1 t.length (e - (p + 1)) else w0)
noncomputable def entry (k : Int) (t : List Nat) : HV := .tup [.int k, .str t]
noncomputable def runF {α : Type} (fin : List HV -> List HV -> Nat -> α) (err : List HV -> α) : Nat -> List (List Nat) -> Nat -> List HV -> List HV -> α
 | 0, _, u, vs, lg => fin vs lg u
 | _ + 1, [], _, _, lg => err lg
 | t + 1, p :: r, u, vs, lg => match r.dropWhile (meant p) with
  | [] => err (lg ++ entry 0 p :: (r.takeWhile (meant p)).map (entry 1))
  | x :: r' => runF fin err t r' (u + (r.takeWhile (meant p)).length + 2) (vs ++ [.int (r.takeWhile (meant p)).length]) ((lg ++ entry 0 p :: (r.takeWhile (meant p)).map (entry 1)) ++ [entry 2 x])
theorem sI_len (n : Nat) (h : n <= 1000) : (sI n).length <= 10 := by
 have : ∀ k : Nat, k <= 1000 -> (Str.ofString (toString (k : Int))).cps.size <= 10 := by decide +kernel
 exact this n h
noncomputable def dueB : List Stmt := bodyOf (kid (stm 23) 2)
theorem due_cut {Γ : Spx} {gt : Loc} {ae : Addr} {e : Nat} (g1 : gt (Str.ofString "len") = some (.val (.builtin "len"))) (g2 : gt (Str.ofString "str") = some (.val (.type "str"))) (he : e <= 100) :
 ∀ (items : List (List Nat)) (es : List HV) (p : Nat) (ρ : Loc) (σ : St) (KF : KS), σ ae = some (es ++ [.int (p : Nat)]) -> ρ (Str.ofString "ends") = some (.obj ae) -> ρ (Str.ofString "end") = some (.int (e : Nat)) -> ρ (Str.ofString "words") = some (.str w0) -> ρ (Str.ofString "len") = none -> ρ (Str.ofString "str") = none ->
  (∀ t ∈ items, t.length <= 3) -> es.length + items.length <= 100 -> p <= 200 ->
  (∀ ρ' σ', σ' ae = some ((es ++ [.int (p : Nat)]) ++ (cutF e items p).1.map fun (n : Nat) => HV.int (n : Int)) -> (∀ x, x ≠ ae -> σ' x = σ x) -> ρ' (Str.ofString "words") = some (.str (cutF e items p).2) -> (∀ x, x ≠ Str.ofString "words" -> x ≠ Str.ofString "left" -> x ≠ Str.ofString "item" -> ρ' x = ρ x) -> KF .nx ρ' σ') ->
  forL (fun h ρ σ K => evB muDue Γ dueB (upd ρ (Str.ofString "item") h) (GofDef (scopeOf (stm 23)) gt) σ K) (items.map HV.str) ρ σ KF
 | [], es, p, ρ, σ, KF, h1, e1, e2, e3, e4, e5, hi, hz, hp, hK => by
   refine hK ρ σ ?_ (fun _ _ => rfl) e3 fun _ _ _ _ => rfl
   rw [h1]; simp [cutF]
 | t :: items, es, p, ρ, σ, KF, h1, e1, e2, e3, e4, e5, hi, hz, hp, hK => by
   have ln := line_is
   have ht : t.length <= 3 := hi t (.head _)
   simp only [List.length_cons] at hz
   have hc : cutF e (t :: items) p = if p + 1 + t.length <= e then ((p + t.length + 1) :: (cutF e items (p + t.length + 1)).1, (cutF e items (p + t.length + 1)).2) else ([], if p + 1 <= e then w1 t.length (e - (p + 1)) else w0) := rfl
   rw [List.map_cons]
   refine q_fo ?_
   refine gen_K fun KF' hKF' => ?_
   conv => arg 3; whnf
   conv => arg 5; arg 1; whnf
   repeat' walk_at "ev"
   refine s_obj (by decide) h1 (at_last _ _) ?_
   repeat' walk_at "ev"
   by_cases hfit : p + 1 + t.length <= e
   · rw [if_pos hfit] at hc
     rw [if_neg (by simp; exact ar137 hfit)]
     repeat' walk_at "ev"
     refine s_obj (by decide) h1 (at_last _ _) ?_
     repeat' walk_at "ev"
     refine m_append h1 (by simp; exact ar136 hz ln) ?_
     repeat' walk_at "ev"
     refine due_cut (ae := ae) g1 g2 he items (es ++ [.int (p : Nat)]) (p + t.length + 1) _ _ KF ?_ ?_ ?_ ?_ ?_ ?_ (fun x hx => hi x (.tail _ hx)) (by simp; exact ar3 hz) (ar135 hfit he) fun ρ' σ' q1 q2 q3 q4 => hK ρ' σ' ?_ ?_ ?_ ?_
     · rw [put_self]; simp [Int.natCast_add]
     · walk_at "nm"
     · walk_at "nm"
     · walk_at "nm"
     · walk_at "nm"
     · walk_at "nm"
     · rw [q1, hc]; simp
     · intro x hx; rw [q2 x hx, put_ne hx]
     · rw [q3, hc]
     · intro x n1 n2 n3; rw [q4 x n1 n2 n3, upd_ne n2 rfl, upd_ne n3 rfl]
   · rw [if_neg hfit] at hc
     rw [if_pos (by simp; exact ar134 hfit)]
     repeat' walk_at "ev"
     by_cases hl : p + 1 <= e
     · rw [if_pos hl] at hc
       have hz1 := sI_len t.length (ar133 ht)
       have hz2 := sI_len (e - (p + 1)) (ar132 he)
       rw [if_pos (by simp; exact ar131 hl)]
       repeat' walk_at "ev"
       refine k_strI (ar359 ht) ?_
       have z1 : (litS (Str.ofString "expected ")).length = 9 := by kernel_rfl
       have z2 : (litS (Str.ofString " bytes in a string1, but only ")).length = 30 := by kernel_rfl
       have z3 : (litS (Str.ofString " remain")).length = 7 := by kernel_rfl
       refine b_str (by show _ + (sI t.length).length <= _; exact ar130 ln z1 hz1) ?_
       repeat' walk_at "ev"
       refine b_str (by rw [List.length_append]; show _ + (sI t.length).length + _ <= _; exact ar129 ln z2 z1 hz1) ?_
       repeat' walk_at "ev"
       refine k_strI (ar358 he hp) ?_
       have hei : ((e : Int) - (p : Int) - 1) = ((e - (p + 1) : Nat) : Int) := by lia
       rw [hei]
       refine b_str (by rw [List.length_append, List.length_append]; show _ + (sI t.length).length + _ + (sI (e - (p + 1))).length <= _; exact ar127 ln hz1 hz2 z1 z2) ?_
       repeat' walk_at "ev"
       refine b_str (by rw [List.length_append, List.length_append, List.length_append]; show _ + (sI t.length).length + _ + (sI (e - (p + 1))).length + _ <= _; exact ar49 ln hz1 hz2 z1 z2 z3) ?_
       repeat' walk_at "ev"
       dsimp only
       refine hK _ σ ?_ (fun _ _ => rfl) ?_ ?_
       · rw [h1, hc]; simp
       · rw [hc]; exact upd_self
       · intro x n1 n2 n3; (refine rr (upd_ne n1 rfl) ?_; refine rr (upd_ne n2 rfl) ?_; exact rr (upd_ne n3 rfl) rfl)
     · rw [if_neg hl] at hc
       refine rr (if_neg (by simp; exact ar126 hl)) ?_
       repeat' walk_at "ev"
       dsimp only
       refine hK _ σ ?_ (fun _ _ => rfl) ?_ ?_
       · (refine rr h1 ?_; refine rr hc ?_); simp
       · refine rr hc ?_; walk_at "nm"
       · intro x n1 n2 n3; (refine rr (upd_ne n2 rfl) ?_; exact rr (upd_ne n3 rfl) rfl)
end
section
theorem runF_map {α β : Type} (f : α -> β) (fin : List HV -> List HV -> Nat -> α) (err : List HV -> α) : ∀ (t : Nat) (rest : List (List Nat)) (u : Nat) (vs lg : List HV), f (runF fin err t rest u vs lg) = runF (fun a b c => f (fin a b c)) (fun a => f (err a)) t rest u vs lg
 | 0, _, _, _, _ => rfl
 | _ + 1, [], _, _, _ => rfl
 | t + 1, p :: r, u, vs, lg => by
  dsimp only [runF]
  split
  · rfl
  · exact runF_map f fin err t _ _ _ _
theorem runF_cons {α : Type} (fin : List HV -> List HV -> Nat -> α) (err : List HV -> α) (t : Nat) (p : List Nat) (r : List (List Nat)) (u : Nat) (vs lg : List HV) : runF fin err (t + 1) (p :: r) u vs lg = match r.dropWhile (meant p) with
 | [] => err (lg ++ entry 0 p :: (r.takeWhile (meant p)).map (entry 1))
 | x :: r' => runF fin err t r' (u + (r.takeWhile (meant p)).length + 2) (vs ++ [.int (r.takeWhile (meant p)).length]) ((lg ++ entry 0 p :: (r.takeWhile (meant p)).map (entry 1)) ++ [entry 2 x]) := rfl
theorem runF_end {α : Type} {fin : List HV -> List HV -> Nat -> α} {err : List HV -> α} {t : Nat} {p : List Nat} {r : List (List Nat)} {u : Nat} {vs lg : List HV} (h : r.dropWhile (meant p) = []) : runF fin err (t + 1) (p :: r) u vs lg = err (lg ++ entry 0 p :: (r.takeWhile (meant p)).map (entry 1)) := by
 simp only [runF_cons, h]
theorem runF_go {α : Type} {fin : List HV -> List HV -> Nat -> α} {err : List HV -> α} {t : Nat} {p x : List Nat} {r r' : List (List Nat)} {u : Nat} {vs lg : List HV} (h : r.dropWhile (meant p) = x :: r') : runF fin err (t + 1) (p :: r) u vs lg =
 runF fin err t r' (u + (r.takeWhile (meant p)).length + 2) (vs ++ [.int (r.takeWhile (meant p)).length]) ((lg ++ entry 0 p :: (r.takeWhile (meant p)).map (entry 1)) ++ [entry 2 x]) := by
 simp only [runF_cons, h]
theorem runF_mono {P P' : List HV -> List HV -> Nat -> Prop} {E E' : List HV -> Prop} (hP : ∀ a b c, P a b c -> P' a b c) (hE : ∀ a, E a -> E' a) : ∀ (t : Nat) (rest : List (List Nat)) (u : Nat) (vs lg : List HV), runF P E t rest u vs lg -> runF P' E' t rest u vs lg
 | 0, _, _, _, _, h => hP _ _ _ h
 | _ + 1, [], _, _, _, h => hE _ h
 | t + 1, p :: r, u, vs, lg, h => by
  induction hd : r.dropWhile (meant p) using List.casesOn with
  | nil => rw [runF_end hd] at h ⊢; exact hE _ h
  | cons x r' => rw [runF_go hd] at h ⊢; exact runF_mono hP hE t _ _ _ _ h
noncomputable def dueL : List Stmt := bodyOf (kid (stm 23) 8)
noncomputable def dueW : Expr × List Stmt := loopOf (kid (kid (stm 23) 8) 5)
theorem at_mid {α : Type} (f : List Nat -> α) (used : List (List Nat)) (x : List Nat) (r : List (List Nat)) : at? ((used ++ x :: r).map f) (used.length : Int) = some (f x) := by
 simp only [at_nat]; simp
theorem names_loop {Γ : Spx} {gt : Loc} {am al : Addr} {p : List Nat} {T : List (List Nat)} (g1 : gt (Str.ofString "len") = some (.val (.builtin "len"))) (g2 : gt (Str.ofString "_law_meant") = some (.val (.ref am))) (hΓ : Γ (.ref am) = some (spMeant 4)) (hp : p.length <= 3) (hT : ∀ t ∈ T, t.length <= 3) (hTn : T.length <= 100) :
 ∀ (r used : List (List Nat)) (lg : List HV) (nz : Nat) (ρ : Loc) (σ : St) (n : Nat) (KF : KS), T = used ++ r -> ρ (Str.ofString "at") = some (.int (used.length : Nat)) -> ρ (Str.ofString "texts") = some (.list (T.map HV.str)) -> ρ (Str.ofString "pattern") = some (.str p) -> ρ (Str.ofString "log") = some (.obj al) ->
  ρ (Str.ofString "names") = some (.int (nz : Nat)) -> ρ (Str.ofString "len") = none -> ρ (Str.ofString "_law_meant") = none -> σ al = some lg -> r.length < n -> lg.length + r.length <= 1000 ->
  (∀ ρ' σ', ρ' (Str.ofString "at") = some (.int ((used.length + (r.takeWhile (meant p)).length : Nat) : Int)) -> ρ' (Str.ofString "names") = some (.int ((nz + (r.takeWhile (meant p)).length : Nat) : Int)) -> σ' al = some (lg ++ (r.takeWhile (meant p)).map (entry 1)) -> (∀ x, x ≠ al -> σ' x = σ x) ->
   (∀ x, x ≠ Str.ofString "at" -> x ≠ Str.ofString "names" -> ρ' x = ρ x) -> KF .nx ρ' σ') ->
  whL (fun ρ σ K => evT muDue Γ dueW.1 ρ (GofDef (scopeOf (stm 23)) gt) σ K) (fun ρ σ K => evB muDue Γ dueW.2 ρ (GofDef (scopeOf (stm 23)) gt) σ K) n ρ σ KF := by
 have ln := line_is
 intro r
 induction r with
 | nil =>
   intro used lg nz ρ σ n KF hu e1 e2 e3 e4 e5 e6 e7 hl hn hz hK
   obtain ⟨n, rfl⟩ : ∃ m, n = m + 1 := ⟨n - 1, ar8 hn⟩
   refine q_wh ?_
   conv => arg 3; whnf
   conv => arg 5; arg 1; whnf
   repeat' walk_at "ev"
   rw [if_neg (by rw [hu]; simp)]
   repeat' walk_at "ev"
   exact hK ρ σ (by simpa using e1) (by simpa using e5) (by simpa using hl) (fun _ _ => rfl) fun _ _ _ => rfl
 | cons x r ih =>
   intro used lg nz ρ σ n KF hu e1 e2 e3 e4 e5 e6 e7 hl hn hz hK
   simp only [List.length_cons] at hn hz
   obtain ⟨n, rfl⟩ : ∃ m, n = m + 1 := ⟨n - 1, ar7 hn⟩
   have hx : x.length <= 3 := hT x (by rw [hu]; simp)
   have hat : at? (T.map HV.str) (used.length : Int) = some (.str x) := by rw [hu]; exact at_mid HV.str used x r
   have hul : used.length < T.length := by rw [hu]; simp
   refine q_wh ?_
   conv => arg 3; whnf
   conv => arg 5; arg 1; whnf
   repeat' walk_at "ev"
   rw [if_pos (by simpa using hul)]
   repeat' walk_at "ev"
   refine s_list (by lia) hat ?_
   repeat' walk_at "ev"
   refine q_fn hΓ ⟨p, x, rfl, hp, ar138 hx, ?_⟩
   repeat' walk_at "ev"
   induction hm : meant p x with
   | false =>
     rw [List.takeWhile_cons, hm] at hK
     repeat' walk_at "ev"
     exact hK ρ σ (by simpa using e1) (by simpa using e5) (by simpa using hl) (fun _ _ => rfl) fun _ _ _ => rfl
   | true =>
     rw [List.takeWhile_cons, hm] at hK
     repeat' walk_at "ev"
     conv => arg 3; whnf
     conv => arg 5; arg 1; whnf
     repeat' walk_at "ev"
     refine s_list (by lia) hat ?_
     repeat' walk_at "ev"
     refine m_append hl (ar11 hz ln) ?_
     repeat' walk_at "ev"
     refine ih (used ++ [x]) (lg ++ [entry 1 x]) (nz + 1) _ _ n KF (by rw [hu]; simp) ?_ ?_ ?_ ?_ ?_ ?_ ?_ ?_ (ar0 hn) (by simp; exact ar4 hz) fun ρ' σ' q1 q2 q3 q4 q5 => hK ρ' σ' ?_ ?_ ?_ ?_ ?_
     · have e : (((used ++ [x]).length : Nat) : Int) = (used.length : Int) + 1 := by rw [List.length_append, List.length_singleton]; exact ar2
       rw [e]; walk_at "nm"
     · walk_at "nm"
     · walk_at "nm"
     · walk_at "nm"
     · have e : ((nz + 1 : Nat) : Int) = (nz : Int) + 1 := ar2
       rw [e]; walk_at "nm"
     · walk_at "nm"
     · walk_at "nm"
     · rw [put_self]; rfl
     · rw [q1]; simp; exact ar10
     · rw [q2]; simp; exact ar10
     · rw [q3]; simp
     · intro y hy; (refine rr (q4 y hy) ?_; exact rr (put_ne hy) rfl)
     · intro y n1 n2; (refine rr (q5 y n1 n2) ?_; refine rr (upd_ne n2 rfl) ?_; exact rr (upd_ne n1 rfl) rfl)
theorem entry_eq (k : Int) (t : List Nat) : HV.tup [.int k, .str t] = entry k t := rfl
theorem drop_take (p : List Nat) (r : List (List Nat)) : r = r.takeWhile (meant p) ++ r.dropWhile (meant p) := (List.takeWhile_append_dropWhile).symm
theorem due_turns {Γ : Spx} {gt : Loc} {am al : Addr} {T : List (List Nat)} {words : List Nat} {e : Nat} (g1 : gt (Str.ofString "len") = some (.val (.builtin "len"))) (g2 : gt (Str.ofString "_law_meant") = some (.val (.ref am))) (hΓ : Γ (.ref am) = some (spMeant 4)) (hT : ∀ t ∈ T, t.length <= 3) (hTn : T.length <= 100) :
 ∀ (xs : List HV) (rest used : List (List Nat)) (vs lg : List HV) (ρ : Loc) (σ : St) (KF : KS), T = used ++ rest -> ρ (Str.ofString "at") = some (.int (used.length : Nat)) -> ρ (Str.ofString "texts") = some (.list (T.map HV.str)) -> ρ (Str.ofString "log") = some (.obj al) -> ρ (Str.ofString "value") = some (.list vs) ->
  ρ (Str.ofString "words") = some (.str words) -> ρ (Str.ofString "end") = some (.int (e : Nat)) -> ρ (Str.ofString "len") = none -> ρ (Str.ofString "_law_meant") = none -> σ al = some lg -> lg.length + rest.length <= 1000 -> vs.length + xs.length <= 1000 ->
  runF (fun vs' lg' u => ∀ ρ' σ', ρ' (Str.ofString "at") = some (.int (u : Nat)) -> u <= T.length -> ρ' (Str.ofString "value") = some (.list vs') -> (∀ x, x ∉ [Str.ofString "at", Str.ofString "value", Str.ofString "turn", Str.ofString "pattern", Str.ofString "names"] -> ρ' x = ρ x) -> σ' al = some lg' -> (∀ x, x ≠ al -> σ' x = σ x) -> KF .nx ρ' σ')
   (fun lg' => ∀ ρ' σ', σ' al = some lg' -> (∀ x, x ≠ al -> σ' x = σ x) -> KF (.rt (.list [.str (litS (Str.ofString "ValueError")), .str words, .obj al, .int (e : Nat)])) ρ' σ') xs.length rest used.length vs lg ->
  forL (fun h ρ σ K => evB muDue Γ dueL (upd ρ (Str.ofString "turn") h) (GofDef (scopeOf (stm 23)) gt) σ K) xs ρ σ KF
 | [], rest, used, vs, lg, ρ, σ, KF, hu, e1, e2, e3, e4, e5, e6, e7, e8, hl, hz, hv, hK => by
   exact hK ρ σ e1 (by rw [hu]; simp) e4 (fun _ _ => rfl) hl fun _ _ => rfl
 | y :: xs, rest, used, vs, lg, ρ, σ, KF, hu, e1, e2, e3, e4, e5, e6, e7, e8, hl, hz, hv, hK => by
   have ln := line_is
   refine q_fo ?_
   refine gen_K fun KF' hKF' => ?_
   conv => arg 3; whnf
   conv => arg 5; arg 1; whnf
   repeat' walk_at "ev"
   simp only [List.length_map]
   induction rest using List.casesOn with
   | nil =>
     have hlen : T.length = used.length := by rw [hu]; simp
     rw [if_pos (by rw [hlen]; simp)]
     repeat' walk_at "ev"
     exact hK _ σ hl fun _ _ => rfl
   | cons p r =>
     have hlen : T.length = used.length + (r.length + 1) := by rw [hu]; simp
     have hp : p.length <= 3 := hT p (by rw [hu]; simp)
     have hat : at? (T.map HV.str) (used.length : Int) = some (.str p) := by rw [hu]; exact at_mid HV.str used p r
     simp only [List.length_cons] at hz hv
     rw [if_neg (by simp; exact ar147 hlen)]
     repeat' walk_at "ev"
     refine s_list (ar342 hlen hTn) hat ?_
     repeat' walk_at "ev"
     refine m_append hl (ar11 hz ln) ?_
     repeat' walk_at "ev"
     refine ⟨r.length + 1, ?_⟩
     refine names_loop (al := al) g1 g2 hΓ hp hT hTn r (used ++ [p]) (lg ++ [entry 0 p]) 0 _ _ _ _ (by rw [hu]; simp) ?_ ?_ ?_ ?_ ?_ ?_ ?_ ?_ (Nat.lt_succ_self _) (by simp; exact ar4 hz) fun ρ' σ' q1 q2 q3 q4 q5 => ?_
     · have e : (((used ++ [p]).length : Nat) : Int) = (used.length : Int) + 1 := by rw [List.length_append, List.length_singleton]; exact ar2
       rw [e]; walk_at "nm"
     · walk_at "nm"
     · walk_at "nm"
     · walk_at "nm"
     · show _ = some (HV.int 0)
       walk_at "nm"
     · walk_at "nm"
     · walk_at "nm"
     · rw [put_self]; rfl
     have u1 : ρ' (Str.ofString "texts") = some (.list (T.map HV.str)) := by rw [q5 _ (ofS_ne (by decide +kernel)) (ofS_ne (by decide +kernel))]; walk_at "nm"
     have u2 : ρ' (Str.ofString "log") = some (.obj al) := by rw [q5 _ (ofS_ne (by decide +kernel)) (ofS_ne (by decide +kernel))]; walk_at "nm"
     have u3 : ρ' (Str.ofString "value") = some (.list vs) := by rw [q5 _ (ofS_ne (by decide +kernel)) (ofS_ne (by decide +kernel))]; walk_at "nm"
     have u4 : ρ' (Str.ofString "words") = some (.str words) := by rw [q5 _ (ofS_ne (by decide +kernel)) (ofS_ne (by decide +kernel))]; walk_at "nm"
     have u5 : ρ' (Str.ofString "end") = some (.int (e : Nat)) := by rw [q5 _ (ofS_ne (by decide +kernel)) (ofS_ne (by decide +kernel))]; walk_at "nm"
     have u6 : ρ' (Str.ofString "len") = none := by rw [q5 _ (ofS_ne (by decide +kernel)) (ofS_ne (by decide +kernel))]; walk_at "nm"
     have u7 : ρ' (Str.ofString "_law_meant") = none := by rw [q5 _ (ofS_ne (by decide +kernel)) (ofS_ne (by decide +kernel))]; walk_at "nm"
     have hsp := drop_take p r
     have hsl : r.length = (r.takeWhile (meant p)).length + (r.dropWhile (meant p)).length := by rw [← List.length_append, ← hsp]
     have hlg : (lg ++ [entry 0 p]) ++ (r.takeWhile (meant p)).map (entry 1) = lg ++ entry 0 p :: (r.takeWhile (meant p)).map (entry 1) := by simp
     rw [hlg] at q3
     have q4' : ∀ x, x ≠ al -> σ' x = σ x := fun x hx => by rw [q4 x hx, put_ne hx]
     dsimp only
     repeat' walk_at "ev"
     simp only [List.length_map]
     induction hd : r.dropWhile (meant p) using List.casesOn with
     | nil =>
       rw [List.length_cons, runF_end hd] at hK
       rw [hd] at hsl
       simp only [List.length_nil, Nat.add_zero] at hsl
       rw [if_pos (by simp; exact ar146 hlen hsl)]
       repeat' walk_at "ev"
       exact hK _ σ' q3 q4'
     | cons x r' =>
       rw [List.length_cons, runF_go hd] at hK
       rw [hd] at hsl hsp
       simp only [List.length_cons] at hsl
       rw [if_neg (by simp; exact ar145 hlen hsl)]
       repeat' walk_at "ev"
       have hu2 : T = (used ++ [p] ++ r.takeWhile (meant p)) ++ x :: r' := by
        rw [hu, List.append_assoc, List.append_assoc]
        show used ++ p :: r = used ++ (p :: (r.takeWhile (meant p) ++ x :: r'))
        rw [← hsp]
       have hat2 : at? (T.map HV.str) (((used ++ [p]).length + (r.takeWhile (meant p)).length : Nat) : Int) = some (.str x) := by
        have := at_mid HV.str (used ++ [p] ++ r.takeWhile (meant p)) x r'
        rw [← hu2, List.length_append] at this
        exact this
       refine s_list (by simp; exact ar144 hlen hTn hsl) hat2 ?_
       repeat' walk_at "ev"
       refine m_append q3 (by simp; exact ar143 hz hsl ln) ?_
       repeat' walk_at "ev"
       refine b_list (by simp; exact ar142 hv ln) ?_
       repeat' walk_at "ev"
       refine due_turns (al := al) (words := words) (e := e) g1 g2 hΓ hT hTn xs r' (used ++ [p] ++ r.takeWhile (meant p) ++ [x]) (vs ++ [.int (r.takeWhile (meant p)).length]) _ _ _ KF (by rw [hu2]; simp) ?_ ?_ ?_ ?_ ?_ ?_ ?_ ?_ (by rw [put_self]) (by simp; exact ar141 hz hsl) (by simp; exact ar4 hv) ?_
       · have e : (((used ++ [p] ++ r.takeWhile (meant p) ++ [x]).length : Nat) : Int) = ((((used ++ [p]).length + (r.takeWhile (meant p)).length : Nat) : Int) + 1) := by simp; exact ar140
         rw [e]; walk_at "nm"
       · walk_at "nm"
       · walk_at "nm"
       · rw [Nat.zero_add]; walk_at "nm"
       · walk_at "nm"
       · walk_at "nm"
       · walk_at "nm"
       · walk_at "nm"
       · have hul : (used ++ [p] ++ r.takeWhile (meant p) ++ [x]).length = used.length + (r.takeWhile (meant p)).length + 2 := by simp; exact ar139
         rw [hul]
         refine runF_mono (fun a b c hP ρ2 σ2 y1 y2 y3 y4 y5 y6 => hP ρ2 σ2 y1 y2 y3 (fun x hx => ?_) y5 fun x hx => ?_) (fun a hE ρ2 σ2 y5 y6 => hE ρ2 σ2 y5 fun x hx => ?_) _ _ _ _ _ hK
         · rw [y4 x hx]
           simp only [List.mem_cons, List.not_mem_nil, or_false, not_or] at hx
           refine o_aaaa hx fun n1 n2 n3 n4 n5 => ?_
           (refine rr (upd_ne n2 rfl) ?_; refine rr (upd_ne n1 rfl) ?_; refine rr (q5 x n1 n5) ?_; refine rr (upd_ne n5 rfl) ?_; refine rr (upd_ne n1 rfl) ?_; refine rr (upd_ne n4 rfl) ?_; exact rr (upd_ne n3 rfl) rfl)
         · (refine rr (y6 x hx) ?_; refine rr (put_ne hx) ?_; exact rr (q4' x hx) rfl)
         · (refine rr (y6 x hx) ?_; refine rr (put_ne hx) ?_; exact rr (q4' x hx) rfl)
end
section
noncomputable def simpH : HV -> Bool
 | .str _ => true
 | .int _ => true
 | _ => false
theorem frz_simp {σ σ' : St} : ∀ {l : List HV}, l.all simpH = true -> frzL σ σ' l = some l := by
 intro xs0
 induction xs0 with
 | nil =>
  exact @fun _ => by dsimp only [frzL]
 | cons x r ih =>
  exact @fun h => by
   simp only [List.all_cons, Bool.and_eq_true] at h
   cases x <;> first | (simp [simpH] at h; done) | (simp only [frzL, frz, (ih h.2)]; rfl)
theorem runF_inv {P : List HV -> List HV -> Nat -> Prop} {E : List HV -> Prop} : ∀ (t : Nat) (rest : List (List Nat)) (u : Nat) (vs lg : List HV), vs.all simpH = true -> runF P E t rest u vs lg -> runF (fun a b c => a.all simpH = true /\ P a b c) E t rest u vs lg
 | 0, _, _, _, _, hv, h => ⟨hv, h⟩
 | _ + 1, [], _, _, _, _, h => h
 | t + 1, p :: r, u, vs, lg, hv, h => by
  induction hd : r.dropWhile (meant p) using List.casesOn with
  | nil => rw [runF_end hd] at h ⊢; exact h
  | cons x r' => rw [runF_go hd] at h ⊢; exact runF_inv t _ _ _ _ (by simp [hv, simpH]) h
noncomputable def errV (words : List Nat) (e : Nat) (lg : List HV) : HV := .list [.str (litS (Str.ofString "ValueError")), .str words, .list lg, .int (e : Nat)]
noncomputable def finV (ends : List Nat) (vs lg : List HV) (u : Nat) : HV := .list [.str (litS (Str.ofString "done")), .list vs, .list lg, .int ((ends.getD u 0 : Nat) : Int)]
noncomputable def dueV (items : List (List Nat)) (e turns : Nat) (begins : Bool) : HV :=
 let c := cutF e items 0
 let T := items.take c.1.length
 if begins then runF (finV (0 :: c.1)) (errV c.2 e) turns T 0 [.str (litS (Str.ofString "begin"))] []
 else if turns = 0 then .list [.str (litS (Str.ofString "TypeError")), .str (litS (Str.ofString "reduce() of empty iterable with no initial value")), .list [], .int 0]
 else match T with
  | [] => .none
  | t :: r => runF (finV (0 :: c.1)) (errV c.2 e) (turns - 1) r 1 [.str t] []
noncomputable def spDue : Spec := fun hs σ K => ∃ (items : List (List Nat)) (e turns : Nat) (begins : Bool), hs = [.list (items.map HV.str), .int (e : Nat), .int (turns : Nat), .bool begins] /\ items.length <= 10 /\ (∀ t ∈ items, t.length <= 3) /\ turns <= 4 /\ e <= 100 /\
 (items.take (cutF e items 0).1.length ≠ []) /\ K (dueV items e turns begins) σ
theorem cut_len (e : Nat) : ∀ (items : List (List Nat)) (p : Nat), (cutF e items p).1.length <= items.length := by
 intro xs0
 induction xs0 with
 | nil =>
  exact @fun p => by simp [cutF]
 | cons t r ih =>
  exact @fun p => by
   have hc : cutF e (t :: r) p = if p + 1 + t.length <= e then ((p + t.length + 1) :: (cutF e r (p + t.length + 1)).1, (cutF e r (p + t.length + 1)).2) else ([], if p + 1 <= e then w1 t.length (e - (p + 1)) else w0) := rfl
   refine hc ▸ ?_
   refine ie rfl (fun _ => ?_) fun _ => ?_
   · simp; exact (ih (p + t.length + 1))
   · simp
theorem due_walk {Γ : Spx} {gt : Loc} {am : Addr} (g1 : gt (Str.ofString "len") = some (.val (.builtin "len"))) (g2 : gt (Str.ofString "_law_meant") = some (.val (.ref am))) (g3 : gt (Str.ofString "str") = some (.val (.type "str"))) (g4 : gt (Str.ofString "range") = some (.val (.type "range"))) (hΓ : Γ (.ref am) = some (spMeant 4))
 {hs : List HV} {σ : St} {K : KV} (H : spDue hs σ K) : specOf muDue Γ (scopeOf (stm 23)) gt [Str.ofString "items", Str.ofString "end", Str.ofString "turns", Str.ofString "begins"] (bodyOf (stm 23)) hs σ K := by
 obtain ⟨items, e, turns, begins, rfl, hil, hit, htu, he, hne, hK⟩ := H
 have ln := line_is
 refine spec_introK rfl fun KF hKF => ?_
 conv => arg 3; whnf
 conv => arg 5; arg 1; whnf
 simp only [bind_c, bind_n]
 repeat' walk_at "ev"
 intro ae hae
 repeat' walk_at "ev"
 refine due_cut (ae := ae) g1 g3 he items [] 0 _ _ _ ?_ ?_ ?_ ?_ ?_ ?_ hit (by simp; exact ar155 hil) (ar154) fun ρ1 σ1 q1 q2 q3 q4 => ?_
 · rw [put_self]; rfl
 · walk_at "nm"
 · walk_at "nm"
 · have : w0 = litS (Str.ofString "not enough data in stream to read uint1") := rfl
   rw [this]; walk_at "nm"
 · walk_at "nm"
 · walk_at "nm"
 have o : ∀ x, x ≠ Str.ofString "words" -> x ≠ Str.ofString "left" -> x ≠ Str.ofString "item" -> ρ1 x = _ := q4
 have r1 : ρ1 (Str.ofString "ends") = some (.obj ae) := by rw [o _ (ofS_ne (by decide +kernel)) (ofS_ne (by decide +kernel)) (ofS_ne (by decide +kernel))]; walk_at "nm"
 have r2 : ρ1 (Str.ofString "items") = some (.list (items.map HV.str)) := by rw [o _ (ofS_ne (by decide +kernel)) (ofS_ne (by decide +kernel)) (ofS_ne (by decide +kernel))]; walk_at "nm"
 have r3 : ρ1 (Str.ofString "end") = some (.int (e : Nat)) := by rw [o _ (ofS_ne (by decide +kernel)) (ofS_ne (by decide +kernel)) (ofS_ne (by decide +kernel))]; walk_at "nm"
 have r4 : ρ1 (Str.ofString "turns") = some (.int (turns : Nat)) := by rw [o _ (ofS_ne (by decide +kernel)) (ofS_ne (by decide +kernel)) (ofS_ne (by decide +kernel))]; walk_at "nm"
 have r5 : ρ1 (Str.ofString "begins") = some (.bool begins) := by rw [o _ (ofS_ne (by decide +kernel)) (ofS_ne (by decide +kernel)) (ofS_ne (by decide +kernel))]; walk_at "nm"
 have r6 : ρ1 (Str.ofString "len") = none := by rw [o _ (ofS_ne (by decide +kernel)) (ofS_ne (by decide +kernel)) (ofS_ne (by decide +kernel))]; walk_at "nm"
 have r7 : ρ1 (Str.ofString "_law_meant") = none := by rw [o _ (ofS_ne (by decide +kernel)) (ofS_ne (by decide +kernel)) (ofS_ne (by decide +kernel))]; walk_at "nm"
 have r8 : ρ1 (Str.ofString "range") = none := by rw [o _ (ofS_ne (by decide +kernel)) (ofS_ne (by decide +kernel)) (ofS_ne (by decide +kernel))]; walk_at "nm"
 clear o q4
 have hcl := cut_len e items 0
 have ag1 : Ag σ σ1 := fun x hx => by
  have : x ≠ ae := fun q => by subst q; rw [hae] at hx; cases hx
  rw [q2 x this, put_ne this]
 have hK' := hK
 dsimp only [dueV] at hK'
 revert q1 q3 hcl hne hK'
 generalize (cutF e items 0).1 = C
 generalize (cutF e items 0).2 = words
 intro hne q1 q3 hcl hK'
 have q1' : σ1 ae = some ((0 :: C).map fun (n : Nat) => HV.int (n : Int)) := by rw [q1]; rfl
 dsimp only
 repeat' walk_at "ev"
 have hsl : slc (items.map HV.str) none (some ((((0 :: C).map fun (n : Nat) => HV.int (n : Int)).length : Nat) - 1 : Int)) = (items.take C.length).map HV.str := by
  have : ((((0 :: C).map fun (n : Nat) => HV.int (n : Int)).length : Nat) - 1 : Int) = ((C.length : Nat) : Int) := by simp
  rw [this, slc_to, List.map_take]
 rw [hsl]
 have hT3 : ∀ t ∈ items.take C.length, t.length <= 3 := fun t ht => hit t (List.mem_of_mem_take ht)
 have hTn : (items.take C.length).length <= C.length /\ (items.take C.length).length <= 10 := by rw [List.length_take]; exact ar153 hil
 revert hne hK' hT3 hTn
 generalize items.take C.length = T
 intro hne hK' hT3 hTn
 intro al hal
 have hala : al ≠ ae := fun q => by subst q; rw [q1'] at hal; cases hal
 have hal0 : σ al = none := by
  cases q : σ al with
  | none => rfl
  | some l => have := ag1 al (by rw [q]; rfl); rw [hal, q] at this; contradiction
 repeat' walk_at "ev"
 have agf : ∀ σ2 : St, (∀ x, x ≠ al -> σ2 x = (σ1.put al []) x) -> within σ σ2 = σ := fun σ2 h => by
  refine Ag.within fun x hx => ?_
  have : x ≠ al := fun q => by subst q; rw [hal0] at hx; exact no_ft hx
  rw [h x this, put_ne this, ag1 x hx]
 have herr : ∀ (lg : List HV) (σ2 : St), σ2 al = some lg -> (∀ x, x ≠ al -> σ2 x = (σ1.put al []) x) -> K (errV words e lg) σ ->
  ∃ h h', Fl.rt (.list [.str (litS (Str.ofString "ValueError")), .str words, .obj al, .int (e : Nat)]) = .rt h /\ frz σ σ2 h = some h' /\ K h' (within σ σ2) := fun lg σ2 h1 h2 h3 => by
  refine ⟨_, _, rfl, ?_, by rw [agf σ2 h2]; exact h3⟩
  simp only [frz, frzL, hal0, h1]; rfl
 induction begins with
 | true =>
   rw [if_pos rfl] at hK'
   rw [Bool.not_true]
   repeat' walk_at "ev"
   refine k_range1 (ar361 htu) ?_
   repeat' walk_at "ev"
   refine due_turns (al := al) (words := words) (e := e) (T := T) g1 g2 hΓ hT3 (ar51 hTn) _ T [] [.str (litS (Str.ofString "begin"))] [] _ _ _ rfl ?_ ?_ ?_ ?_ ?_ ?_ ?_ ?_ ?_ (by simp; exact ar152 hTn) (by simp; exact ar151 htu) ?_
   · show _ = some (HV.int 0)
     walk_at "nm"
   · walk_at "nm"
   · walk_at "nm"
   · walk_at "nm"
   · walk_at "nm"
   · walk_at "nm"
   · walk_at "nm"
   · walk_at "nm"
   · exact put_self
   · rw [runF_map (fun h => K h σ)] at hK'
     have hln : ((List.range (((turns : Nat) : Int) - 0).toNat).map fun (k : Nat) => HV.int (0 + (k : Int))).length = turns := by simp
     rw [hln]
     refine runF_mono (fun a b c hP ρ2 σ2 y1 y0 y2 y3 y4 y5 => ?_) (fun a hE ρ2 σ2 y4 y5 => hKF _ _ _ (herr a σ2 y4 y5 hE)) _ _ _ _ _ (runF_inv _ _ _ _ _ (by simp [simpH]) hK')
     refine o_a hP fun hav hP => ?_
     have v1 : ρ2 (Str.ofString "log") = some (.obj al) := by rw [y3 _ (by simp [ofS_inj])]; walk_at "nm"
     have v2 : ρ2 (Str.ofString "ends") = some (.obj ae) := by rw [y3 _ (by simp [ofS_inj])]; walk_at "nm"
     have v3 : σ2 ae = some ((0 :: C).map fun (n : Nat) => HV.int (n : Int)) := by rw [y5 _ (Ne.symm hala), put_ne (Ne.symm hala)]; exact q1'
     obtain ⟨z, hz⟩ : ∃ z, (0 :: C)[c]? = some z := ⟨_, List.getElem?_eq_getElem (by simp; exact ar50 hTn y0)⟩
     dsimp only
     repeat' walk_at "ev"
     refine s_obj (c := .int (z : Int)) (ar349 hTn y0) v3 (by rw [at_nat, List.getElem?_map, hz]; rfl) ?_
     repeat' walk_at "ev"
     refine ⟨_, finV (0 :: C) a b c, rfl, ?_, by rw [agf σ2 y5]; exact hP⟩
     have hg : (0 :: C).getD c 0 = z := by rw [List.getD_eq_getElem?_getD, hz]; rfl
     simp only [frz, frzL, hal0, y4, frz_simp hav, finV, hg]; rfl
 | false =>
   rw [if_neg (by decide)] at hK'
   rw [Bool.not_false]
   repeat' walk_at "ev"
   by_cases h0 : turns = 0
   · rw [if_pos h0] at hK'
     rw [if_pos (by simp [h0])]
     repeat' walk_at "ev"
     refine ⟨_, _, rfl, ?_, by rw [agf _ (fun _ _ => rfl)]; exact hK'⟩
     simp only [frz, frzL, hal0, put_self]; rfl
   · rw [if_neg h0] at hK'
     rw [if_neg (by simp [h0])]
     repeat' walk_at "ev"
     obtain ⟨t, r, rfl⟩ : ∃ t r, T = t :: r := by induction T using List.casesOn with | nil => exact absurd rfl hne | cons t r => exact ⟨t, r, rfl⟩
     refine s_list (c := .str t) (by decide) rfl ?_
     repeat' walk_at "ev"
     have hti : ((turns : Nat) : Int) - 1 = ((turns - 1 : Nat) : Int) := by lia
     rw [hti]
     refine k_range1 (by lia) ?_
     repeat' walk_at "ev"
     refine due_turns (al := al) (words := words) (e := e) (T := t :: r) g1 g2 hΓ hT3 (ar51 hTn) _ r [t] [.str t] [] _ _ _ rfl ?_ ?_ ?_ ?_ ?_ ?_ ?_ ?_ ?_ (by simp only [List.length_cons] at hTn; simp; exact ar149 hTn) (by simp; exact ar148 htu) ?_
     · show _ = some (HV.int 1)
       walk_at "nm"
     · walk_at "nm"
     · walk_at "nm"
     · walk_at "nm"
     · walk_at "nm"
     · walk_at "nm"
     · walk_at "nm"
     · walk_at "nm"
     · exact put_self
     · rw [runF_map (fun h => K h σ)] at hK'
       have hln : ((List.range (((turns - 1 : Nat) : Int) - 0).toNat).map fun (k : Nat) => HV.int (0 + (k : Int))).length = turns - 1 := by simp
       rw [hln]
       refine runF_mono (fun a b c hP ρ2 σ2 y1 y0 y2 y3 y4 y5 => ?_) (fun a hE ρ2 σ2 y4 y5 => hKF _ _ _ (herr a σ2 y4 y5 hE)) _ _ _ _ _ (runF_inv _ _ _ _ _ (by simp [simpH]) hK')
       refine o_a hP fun hav hP => ?_
       have v1 : ρ2 (Str.ofString "log") = some (.obj al) := by rw [y3 _ (by simp [ofS_inj])]; walk_at "nm"
       have v2 : ρ2 (Str.ofString "ends") = some (.obj ae) := by rw [y3 _ (by simp [ofS_inj])]; walk_at "nm"
       have v3 : σ2 ae = some ((0 :: C).map fun (n : Nat) => HV.int (n : Int)) := by rw [y5 _ (Ne.symm hala), put_ne (Ne.symm hala)]; exact q1'
       obtain ⟨z, hz⟩ : ∃ z, (0 :: C)[c]? = some z := ⟨_, List.getElem?_eq_getElem (by simp; exact ar50 hTn y0)⟩
       dsimp only
       repeat' walk_at "ev"
       refine s_obj (c := .int (z : Int)) (ar349 hTn y0) v3 (by rw [at_nat, List.getElem?_map, hz]; rfl) ?_
       repeat' walk_at "ev"
       refine ⟨_, finV (0 :: C) a b c, rfl, ?_, by rw [agf σ2 y5]; exact hP⟩
       have hg : (0 :: C).getD c 0 = z := by rw [List.getD_eq_getElem?_getD, hz]; rfl
       simp only [frz, frzL, hal0, y4, frz_simp hav, finV, hg]; rfl
end
section
noncomputable def specials : List Nat := [40, 41, 91, 93, 123, 125, 63, 42, 43, 45, 124, 94, 36, 92, 46, 38, 126, 35, 32, 9, 10, 13, 11, 12]
noncomputable def escF (c : Nat) : List Nat := if specials.contains c then [92, c] else [c]
noncomputable def prH (star : Addr) : Option (List Nat) -> HV
 | none => .val (.ref star)
 | some s => .str s
noncomputable def trStep (acc : List (Option (List Nat))) (c : Nat) : List (Option (List Nat)) :=
 if c = 42 then (if acc.getLast? = some none then acc else acc ++ [none]) else if c = 63 then acc ++ [some [46]] else acc ++ [some (escF c)]
noncomputable def partsF (p : List Nat) : List (Option (List Nat)) := p.foldl trStep []
noncomputable def spEsc : Spec := fun hs σ K => ∃ c, hs = [.str [c]] /\ c < 256 /\ K (.str (escF c)) σ
noncomputable def spTr : Spec := fun hs σ K => ∃ p star, hs = [.str p, .val (.ref star), .str [46]] /\ p.length <= 100 /\ (∀ c ∈ p, c < 256 /\ c ≠ 91) /\ K (.list ((partsF p).map (prH star))) σ
theorem lit_br : litS (Str.ofString "[") = [91] := by kernel_rfl
noncomputable def trW : Expr × List Stmt := loopOf (kid (stm 11) 3)
theorem tr_loop {Γ : Spx} {gt : Loc} {ax ar star : Addr} {p : List Nat} (g1 : gt (Str.ofString "escape") = some (.val (.ref ax))) (hΓ : Γ (.ref ax) = some spEsc) (hp : p.length <= 100) (hpc : ∀ c ∈ p, c < 256 /\ c ≠ 91) :
 ∀ (r pre : List Nat) (acc : List (Option (List Nat))) (ρ : Loc) (σ : St) (n : Nat) (KF : KS), p = pre ++ r -> ρ (Str.ofString "pat") = some (.str p) -> ρ (Str.ofString "i") = some (.int (pre.length : Nat)) -> ρ (Str.ofString "n") = some (.int (p.length : Nat)) ->
  ρ (Str.ofString "STAR") = some (.val (.ref star)) -> ρ (Str.ofString "QUESTION_MARK") = some (.str [46]) -> ρ (Str.ofString "res") = some (.obj ar) -> ρ (Str.ofString "add") = some (.bm ar) -> ρ (Str.ofString "escape") = none -> σ ar = some (acc.map (prH star)) ->
  r.length < n -> acc.length + r.length <= 200 ->
  (∀ ρ' σ', ρ' (Str.ofString "i") = some (.int (p.length : Nat)) -> ρ' (Str.ofString "n") = some (.int (p.length : Nat)) -> ρ' (Str.ofString "res") = some (.obj ar) -> σ' ar = some ((r.foldl trStep acc).map (prH star)) -> (∀ x, x ≠ ar -> σ' x = σ x) -> KF .nx ρ' σ') ->
  whL (fun ρ σ K => evT (fun _ => true) Γ trW.1 ρ (GofDef (scopeOf (stm 11)) gt) σ K) (fun ρ σ K => evB (fun _ => true) Γ trW.2 ρ (GofDef (scopeOf (stm 11)) gt) σ K) n ρ σ KF := by
 have ln := line_is
 intro r
 induction r with
 | nil =>
   intro pre acc ρ σ n KF hu e1 e2 e3 e4 e5 e6 e7 e8 hl hn hz hK
   obtain ⟨n, rfl⟩ : ∃ m, n = m + 1 := ⟨n - 1, ar8 hn⟩
   refine q_wh ?_
   conv => arg 3; whnf
   conv => arg 5; arg 1; whnf
   repeat' walk_at "ev"
   have hpl : pre.length = p.length := by rw [hu]; simp
   rw [if_neg (by rw [hpl]; simp)]
   repeat' walk_at "ev"
   exact hK ρ σ (by rw [← hpl]; exact e2) e3 e6 (by simpa using hl) fun _ _ => rfl
 | cons c r ih =>
   intro pre acc ρ σ n KF hu e1 e2 e3 e4 e5 e6 e7 e8 hl hn hz hK
   simp only [List.length_cons] at hn hz
   obtain ⟨n, rfl⟩ : ∃ m, n = m + 1 := ⟨n - 1, ar7 hn⟩
   obtain ⟨hc1, hc2⟩ := hpc c (by rw [hu]; simp)
   have hlen : p.length = pre.length + (r.length + 1) := by rw [hu]; simp
   have hat : at? p (pre.length : Int) = some c := by rw [hu]; exact at_pre pre c r
   have hpe : (((pre ++ [c]).length : Nat) : Int) = (pre.length : Int) + 1 := by rw [List.length_append, List.length_singleton]; exact ar2
   have go : ∀ (ρ2 : Loc) (σ2 : St), ρ2 (Str.ofString "pat") = some (.str p) -> ρ2 (Str.ofString "i") = some (.int ((pre.length : Int) + 1)) -> ρ2 (Str.ofString "n") = some (.int (p.length : Nat)) -> ρ2 (Str.ofString "STAR") = some (.val (.ref star)) -> ρ2 (Str.ofString "QUESTION_MARK") = some (.str [46]) ->
    ρ2 (Str.ofString "res") = some (.obj ar) -> ρ2 (Str.ofString "add") = some (.bm ar) -> ρ2 (Str.ofString "escape") = none -> σ2 ar = some ((trStep acc c).map (prH star)) -> (∀ x, x ≠ ar -> σ2 x = σ x) ->
    whL (fun ρ σ K => evT (fun _ => true) Γ trW.1 ρ (GofDef (scopeOf (stm 11)) gt) σ K) (fun ρ σ K => evB (fun _ => true) Γ trW.2 ρ (GofDef (scopeOf (stm 11)) gt) σ K) n ρ2 σ2 KF := fun ρ2 σ2 f1 f2 f3 f4 f5 f6 f7 f8 f9 f10 => by
    refine ih (pre ++ [c]) (trStep acc c) ρ2 σ2 n KF (by rw [hu]; simp) f1 (by rw [hpe]; exact f2) f3 f4 f5 f6 f7 f8 f9 (ar0 hn) ?_ fun ρ' σ' q1 q2 q3 q4 q5 => hK ρ' σ' q1 q2 q3 q4 fun x hx => by rw [q5 x hx, f10 x hx]
    have : (trStep acc c).length <= acc.length + 1 := by unfold trStep; split <;> (try split) <;> simp
    exact ar157 hz this
   refine q_wh ?_
   conv => arg 3; whnf
   conv => arg 5; arg 1; whnf
   repeat' walk_at "ev"
   rw [if_pos (by simp; exact ar12 hlen)]
   refine gen_K fun KF' hKF' => ?_
   conv => arg 3; whnf
   conv => arg 5; arg 1; whnf
   repeat' walk_at "ev"
   refine s_str (ar342 hlen hp) hat ?_
   repeat' walk_at "ev"
   rw [lit_star]
   by_cases hs : c = 42
   · subst hs
     rw [if_pos (by rfl)]
     repeat' walk_at "ev"
     rcases List.eq_nil_or_concat acc with rfl | ⟨acc', x, hax⟩
     · rw [if_pos (by rfl)]
       repeat' walk_at "ev"
       refine k_bm hl (by simp; exact ar156 ln) ?_
       repeat' walk_at "ev"
       refine go _ _ ?_ ?_ ?_ ?_ ?_ ?_ ?_ ?_ ?_ ?_
       all_goals first | walk_at "nm" | skip
       · rw [put_self]; simp [trStep, prH]
       · intro x hx; rw [put_ne hx]
     · rw [List.concat_eq_append] at hax
       subst hax
       rw [if_neg (by simp)]
       repeat' walk_at "ev"
       have hla : at? ((acc' ++ [x]).map (prH star)) (-1) = some (prH star x) := by rw [List.map_append]; exact at_last _ _
       refine s_obj (by decide) hl hla ?_
       repeat' walk_at "ev"
       induction x with
       | none =>
         refine c_isn_ref rfl ?_
         repeat' walk_at "ev"
         refine go _ _ ?_ ?_ ?_ ?_ ?_ ?_ ?_ ?_ ?_ ?_
         all_goals first | walk_at "nm" | skip
         · rw [hl]; simp [trStep]
         · intro x _; rfl
       | some s =>
         refine c_isn_str ?_
         repeat' walk_at "ev"
         refine k_bm hl (by rw [List.length_map]; exact ar22 hz ln) ?_
         repeat' walk_at "ev"
         refine go _ _ ?_ ?_ ?_ ?_ ?_ ?_ ?_ ?_ ?_ ?_
         all_goals first | walk_at "nm" | skip
         · rw [put_self]; simp [trStep, prH]
         · intro x hx; rw [put_ne hx]
   · rw [if_neg (by simp [hs])]
     repeat' walk_at "ev"
     rw [lit_q]
     by_cases hq : c = 63
     · subst hq
       rw [if_pos (by rfl)]
       repeat' walk_at "ev"
       refine k_bm hl (by simp; lia) ?_
       repeat' walk_at "ev"
       refine go _ _ ?_ ?_ ?_ ?_ ?_ ?_ ?_ ?_ ?_ ?_
       all_goals first | walk_at "nm" | skip
       · rw [put_self]; simp [trStep, prH]
       · intro x hx; rw [put_ne hx]
     · rw [if_neg (by simp [hq])]
       repeat' walk_at "ev"
       (refine rr lit_br ?_; refine rr (if_neg (by simp [hc2])) ?_)
       repeat' walk_at "ev"
       refine q_fn hΓ ⟨c, rfl, hc1, ?_⟩
       repeat' walk_at "ev"
       refine k_bm hl (by simp; lia) ?_
       repeat' walk_at "ev"
       refine go _ _ ?_ ?_ ?_ ?_ ?_ ?_ ?_ ?_ ?_ ?_
       all_goals first | walk_at "nm" | skip
       · refine rr put_self ?_; simp [trStep, prH, hs, hq]
       · intro x hx; exact rr (put_ne hx) rfl
theorem tr_walk {Γ : Spx} {gt : Loc} {ax : Addr} (g1 : gt (Str.ofString "escape") = some (.val (.ref ax))) (g2 : gt (Str.ofString "len") = some (.val (.builtin "len"))) (hΓ : Γ (.ref ax) = some spEsc)
 {hs : List HV} {σ : St} {K : KV} (H : spTr hs σ K) : specOf (fun _ => true) Γ (scopeOf (stm 11)) gt [Str.ofString "pat", Str.ofString "STAR", Str.ofString "QUESTION_MARK"] (bodyOf (stm 11)) hs σ K := by
 (refine o_eeaaa H fun p star z755 hp hpc hK => ?_; clear H; subst z755)
 have ln := line_is
 refine spec_introK rfl fun KF hKF => ?_
 conv => arg 3; whnf
 conv => arg 5; arg 1; whnf
 simp only [bind_c, bind_n]
 repeat' walk_at "ev"
 intro ar har
 repeat' walk_at "ev"
 refine ⟨ar, rfl, by refine rr put_self ?_; rfl, ?_⟩
 repeat' walk_at "ev"
 refine ⟨p.length + 1, ?_⟩
 refine tr_loop (ar := ar) (star := star) g1 hΓ hp hpc p [] [] _ _ _ _ rfl ?_ ?_ ?_ ?_ ?_ ?_ ?_ ?_ ?_ (Nat.lt_succ_self _) (by simp; exact ar158 hp) fun ρ' σ' q1 q2 q3 q4 q5 => ?_
 · walk_at "nm"
 · show _ = some (HV.int 0)
   walk_at "nm"
 · walk_at "nm"
 · walk_at "nm"
 · walk_at "nm"
 · walk_at "nm"
 · walk_at "nm"
 · walk_at "nm"
 · refine rr put_self ?_; rfl
 dsimp only
 repeat' walk_at "ev"
 refine ⟨by simp, ?_⟩
 repeat' walk_at "ev"
 have hw : within σ σ' = σ := Ag.within fun x hx => by
  have hxa : x ≠ ar := fun q => by subst q; rw [har] at hx; exact no_ft hx
  (refine rr (q5 x hxa) ?_; exact rr (put_ne hxa) rfl)
 refine ⟨.obj ar, .list ((partsF p).map (prH star)), rfl, ?_, by refine rr hw ?_; exact hK⟩
 simp only [frz, har, q4]; rfl
end
section
noncomputable abbrev Part := Option (List Nat)
noncomputable def strsF : List Part -> List (List Nat)
 | some s :: r => s :: strsF r
 | _ => []
noncomputable def restF : List Part -> List Part
 | some _ :: r => restF r
 | l => l
noncomputable def joW1 : Expr × List Stmt := loopOf (kid (stm 12) 3)
theorem at_part (star : Addr) (pre : List Part) (x : Part) (r : List Part) : at? ((pre ++ x :: r).map (prH star)) (pre.length : Int) = some (prH star x) := by refine rr at_nat ?_; simp
theorem join_loop1 {Γ : Spx} {gt : Loc} {ar star : Addr} {P : List Part} (hP : P.length <= 100) :
 ∀ (r pre : List Part) (acc : List (List Nat)) (ρ : Loc) (σ : St) (n : Nat) (KF : KS), P = pre ++ r -> ρ (Str.ofString "inp") = some (.list (P.map (prH star))) -> ρ (Str.ofString "i") = some (.int (pre.length : Nat)) -> ρ (Str.ofString "n") = some (.int (P.length : Nat)) ->
  ρ (Str.ofString "STAR") = some (.val (.ref star)) -> ρ (Str.ofString "add") = some (.bm ar) -> σ ar = some (acc.map HV.str) -> r.length < n -> acc.length + r.length <= 1000 ->
  (∀ ρ' σ', ρ' (Str.ofString "i") = some (.int ((pre.length + (strsF r).length : Nat) : Int)) -> σ' ar = some ((acc ++ strsF r).map HV.str) -> (∀ x, x ≠ ar -> σ' x = σ x) -> (∀ x, x ≠ Str.ofString "i" -> ρ' x = ρ x) -> KF .nx ρ' σ') ->
  whL (fun ρ σ K => evT (fun _ => true) Γ joW1.1 ρ (GofDef (scopeOf (stm 12)) gt) σ K) (fun ρ σ K => evB (fun _ => true) Γ joW1.2 ρ (GofDef (scopeOf (stm 12)) gt) σ K) n ρ σ KF := by
 have ln := line_is
 intro r
 induction r with
 | nil =>
   intro pre acc ρ σ n KF hu e1 e2 e3 e4 e5 hl hn hz hK
   obtain ⟨n, rfl⟩ : ∃ m, n = m + 1 := ⟨n - 1, ar8 hn⟩
   refine q_wh ?_
   conv => arg 3; whnf
   conv => arg 5; arg 1; whnf
   repeat' walk_at "ev"
   have hpl : pre.length = P.length := by rw [hu]; simp
   rw [if_neg (by rw [hpl]; simp)]
   repeat' walk_at "ev"
   exact hK ρ σ (by simpa [strsF] using e2) (by simpa [strsF] using hl) (fun _ _ => rfl) fun _ _ => rfl
 | cons x r ih =>
   intro pre acc ρ σ n KF hu e1 e2 e3 e4 e5 hl hn hz hK
   simp only [List.length_cons] at hn hz
   obtain ⟨n, rfl⟩ : ∃ m, n = m + 1 := ⟨n - 1, ar7 hn⟩
   have hlen : P.length = pre.length + (r.length + 1) := by rw [hu]; simp
   have hat : at? (P.map (prH star)) (pre.length : Int) = some (prH star x) := by rw [hu]; exact at_part star pre x r
   refine q_wh ?_
   conv => arg 3; whnf
   conv => arg 5; arg 1; whnf
   repeat' walk_at "ev"
   rw [if_pos (by simp; exact ar12 hlen)]
   repeat' walk_at "ev"
   refine s_list (by lia) hat ?_
   repeat' walk_at "ev"
   induction x with
   | none =>
     refine c_isn_ref rfl ?_
     repeat' walk_at "ev"
     exact hK ρ σ (by simpa [strsF] using e2) (by simpa [strsF] using hl) (fun _ _ => rfl) fun _ _ => rfl
   | some s =>
     refine c_isn_str ?_
     repeat' walk_at "ev"
     conv => arg 3; whnf
     conv => arg 5; arg 1; whnf
     repeat' walk_at "ev"
     refine s_list (by lia) hat ?_
     repeat' walk_at "ev"
     refine k_bm hl (by simp; exact ar11 hz ln) ?_
     repeat' walk_at "ev"
     refine ih (pre ++ [some s]) (acc ++ [s]) _ _ n KF (by rw [hu]; simp) ?_ ?_ ?_ ?_ ?_ ?_ (ar0 hn) (by simp; exact ar4 hz) fun ρ' σ' q1 q2 q3 q4 => hK ρ' σ' ?_ ?_ ?_ ?_
     · walk_at "nm"
     · have e : (((pre ++ [some s]).length : Nat) : Int) = (pre.length : Int) + 1 := by rw [List.length_append, List.length_singleton]; exact ar2
       rw [e]; walk_at "nm"
     · walk_at "nm"
     · walk_at "nm"
     · walk_at "nm"
     · refine rr put_self ?_; simp [prH]
     · refine rr q1 ?_; simp [strsF]; exact ar10
     · refine rr q2 ?_; simp [strsF]
     · intro y hy; (refine rr (q3 y hy) ?_; exact rr (put_ne hy) rfl)
     · intro y hy; (refine rr (q4 y hy) ?_; exact rr (upd_ne hy rfl) rfl)
end
section
noncomputable def joW2 : Expr × List Stmt := loopOf (kid (kid (stm 12) 4) 5)
theorem join_loop2 {Γ : Spx} {gt : Loc} {ar star : Addr} {P : List Part} (hP : P.length <= 100) :
 ∀ (r pre : List Part) (acc : List (List Nat)) (ρ : Loc) (σ : St) (n : Nat) (KF : KS), P = pre ++ r -> ρ (Str.ofString "inp") = some (.list (P.map (prH star))) -> ρ (Str.ofString "i") = some (.int (pre.length : Nat)) -> ρ (Str.ofString "n") = some (.int (P.length : Nat)) ->
  ρ (Str.ofString "STAR") = some (.val (.ref star)) -> ρ (Str.ofString "fixed") = some (.obj ar) -> σ ar = some (acc.map HV.str) -> r.length < n -> acc.length + r.length <= 1000 ->
  (∀ ρ' σ', ρ' (Str.ofString "i") = some (.int ((pre.length + (strsF r).length : Nat) : Int)) -> σ' ar = some ((acc ++ strsF r).map HV.str) -> (∀ x, x ≠ ar -> σ' x = σ x) -> (∀ x, x ≠ Str.ofString "i" -> ρ' x = ρ x) -> KF .nx ρ' σ') ->
  whL (fun ρ σ K => evT (fun _ => true) Γ joW2.1 ρ (GofDef (scopeOf (stm 12)) gt) σ K) (fun ρ σ K => evB (fun _ => true) Γ joW2.2 ρ (GofDef (scopeOf (stm 12)) gt) σ K) n ρ σ KF := by
 have ln := line_is
 intro r
 induction r with
 | nil =>
   intro pre acc ρ σ n KF hu e1 e2 e3 e4 e5 hl hn hz hK
   obtain ⟨n, rfl⟩ : ∃ m, n = m + 1 := ⟨n - 1, ar8 hn⟩
   refine q_wh ?_
   conv => arg 3; whnf
   conv => arg 5; arg 1; whnf
   repeat' walk_at "ev"
   have hpl : pre.length = P.length := by rw [hu]; simp
   rw [if_neg (by rw [hpl]; simp)]
   repeat' walk_at "ev"
   exact hK ρ σ (by simpa [strsF] using e2) (by simpa [strsF] using hl) (fun _ _ => rfl) fun _ _ => rfl
 | cons x r ih =>
   intro pre acc ρ σ n KF hu e1 e2 e3 e4 e5 hl hn hz hK
   simp only [List.length_cons] at hn hz
   obtain ⟨n, rfl⟩ : ∃ m, n = m + 1 := ⟨n - 1, ar7 hn⟩
   have hlen : P.length = pre.length + (r.length + 1) := by rw [hu]; simp
   have hat : at? (P.map (prH star)) (pre.length : Int) = some (prH star x) := by rw [hu]; exact at_part star pre x r
   refine q_wh ?_
   conv => arg 3; whnf
   conv => arg 5; arg 1; whnf
   repeat' walk_at "ev"
   rw [if_pos (by simp; exact ar12 hlen)]
   repeat' walk_at "ev"
   refine s_list (by lia) hat ?_
   repeat' walk_at "ev"
   induction x with
   | none =>
     refine c_isn_ref rfl ?_
     repeat' walk_at "ev"
     exact hK ρ σ (by simpa [strsF] using e2) (by simpa [strsF] using hl) (fun _ _ => rfl) fun _ _ => rfl
   | some s =>
     refine c_isn_str ?_
     repeat' walk_at "ev"
     conv => arg 3; whnf
     conv => arg 5; arg 1; whnf
     repeat' walk_at "ev"
     refine s_list (by lia) hat ?_
     repeat' walk_at "ev"
     refine m_append hl (by simp; exact ar11 hz ln) ?_
     repeat' walk_at "ev"
     refine ih (pre ++ [some s]) (acc ++ [s]) _ _ n KF (by rw [hu]; simp) ?_ ?_ ?_ ?_ ?_ ?_ (ar0 hn) (by simp; exact ar4 hz) fun ρ' σ' q1 q2 q3 q4 => hK ρ' σ' ?_ ?_ ?_ ?_
     · walk_at "nm"
     · have e : (((pre ++ [some s]).length : Nat) : Int) = (pre.length : Int) + 1 := by rw [List.length_append, List.length_singleton]; exact ar2
       rw [e]; walk_at "nm"
     · walk_at "nm"
     · walk_at "nm"
     · walk_at "nm"
     · rw [put_self]; simp [prH]
     · refine rr q1 ?_; simp [strsF]; exact ar10
     · refine rr q2 ?_; simp [strsF]
     · intro y hy; (refine rr (q3 y hy) ?_; exact rr (put_ne hy) rfl)
     · intro y hy; (refine rr (q4 y hy) ?_; exact rr (upd_ne hy rfl) rfl)
end
section
theorem strs_rest : ∀ r : List Part, r = (strsF r).map some ++ restF r
 | [] => rfl
 | none :: _ => rfl
 | some s :: r => by simp only [strsF, restF, List.map_cons, List.cons_append]; exact rl (strs_rest r) rfl
theorem rest_head : ∀ r : List Part, restF r = [] ∨ ∃ q, restF r = none :: q
 | [] => .inl rfl
 | none :: q => .inr ⟨q, rfl⟩
 | some _ :: r => rest_head r
noncomputable def jnF : Nat -> List Part -> List (List Nat)
 | 0, _ => []
 | n + 1, none :: r => if r = [] then [[46, 42]] else if restF r = [] then [[46, 42], (strsF r).flatten] else (([40, 63, 62, 46, 42, 63] ++ (strsF r).flatten) ++ [41]) :: jnF n (restF r)
 | _ + 1, _ => []
noncomputable def joinF (P : List Part) : List Nat := ([40, 63, 115, 58] ++ (strsF P ++ jnF P.length (restF P)).flatten) ++ [41, 92, 90]
noncomputable def apart : List Part -> Bool
 | none :: none :: _ => false
 | _ :: r => apart r
 | [] => true
theorem lit_opn' : litS (Str.ofString "(?>.*?") = [40, 63, 62, 46, 42, 63] := lit_opn
noncomputable def joW3 : Expr × List Stmt := loopOf (kid (stm 12) 4)
end
section
theorem rest_len : ∀ r : List Part, (strsF r).length + (restF r).length = r.length
 | [] => rfl
 | none :: r => by simp [strsF, restF]
 | some s :: r => by have := rest_len r; simp only [strsF, restF, List.length_cons]; exact ar164 this
theorem strs_mem : ∀ (r : List Part) (s : List Nat), s ∈ strsF r -> some s ∈ r
 | [], s, h => by simp [strsF] at h
 | none :: r, s, h => by simp [strsF] at h
 | some t :: r, s, h => by
  rw [strsF, List.mem_cons] at h
  rcases h with rfl | h
  · exact .head _
  · exact .tail _ (strs_mem r s h)
theorem rest_mem : ∀ (r : List Part) (x : Part), x ∈ restF r -> x ∈ r
 | [], s, h => by simp [restF] at h
 | none :: r, s, h => by exact h
 | some t :: r, s, h => by
  simp only [restF] at h
  exact .tail _ (rest_mem r s h)
theorem apart_rest : ∀ r : List Part, apart r = true -> apart (restF r) = true
 | [], h => h
 | none :: r, h => h
 | some t :: r, h => by
  exact apart_rest r (by exact h)
theorem flat_len {B : Nat} : ∀ (l : List (List Nat)), (∀ s ∈ l, s.length <= B) -> l.flatten.length <= B * l.length := by
 intro xs0
 induction xs0 with
 | nil =>
  exact @fun _ => by simp
 | cons x l ih =>
  exact @fun h => by
   have h1 := h x (.head _)
   have h2 := ih fun s hs => h s (.tail _ hs)
   simp only [List.flatten_cons, List.length_append, List.length_cons, Nat.mul_succ]
   exact ar165 h1 h2
theorem allTxt_map : ∀ l : List (List Nat), allTxt (l.map HV.str) = some l := by
 intro xs0
 induction xs0 with
 | nil =>
  exact rfl
 | cons x l ih =>
  exact by simp [allTxt, ih]
theorem inter_nil : ∀ l : List (List Nat), List.intercalate [] l = l.flatten
 | [] => rfl
 | [x] => by rfl
 | x :: y :: r => by
  simp only [(show List.intercalate [] (x :: y :: r) = x ++ List.intercalate [] (y :: r) from by rfl), (inter_nil (y :: r))]; rfl
theorem sum_len {B : Nat} : ∀ l : List (List Nat), (∀ s ∈ l, s.length <= B) -> (l.map fun t => t.length + ([] : List Nat).length).sum <= B * l.length := by
 intro xs0
 induction xs0 with
 | nil =>
  exact @fun _ => by simp
 | cons x l ih =>
  exact @fun h => by
   have h1 := h x (.head _)
   have h2 := ih fun s hs => h s (.tail _ hs)
   simp only [List.map_cons, List.sum_cons, List.length_cons, List.length_nil, Nat.mul_succ] at h2 ⊢
   exact ar166 h1 h2
theorem lit_empty : litS (Str.ofString "") = [] := by kernel_rfl
theorem jn_any : ∀ (n m : Nat) (r : List Part), r.length <= n -> r.length <= m -> jnF n r = jnF m r
 | 0, 0, _, _, _ => rfl
 | 0, m + 1, r, h, _ => by
  have : r = [] := List.eq_nil_of_length_eq_zero (by lia)
  refine rr this ?_; rfl
 | n + 1, 0, r, _, h => by
  have : r = [] := List.eq_nil_of_length_eq_zero (by lia)
  refine rr this ?_; rfl
 | n + 1, m + 1, [], _, _ => rfl
 | n + 1, m + 1, some s :: r, _, _ => rfl
 | n + 1, m + 1, none :: r, h1, h2 => by
  have := rest_len r
  simp only [List.length_cons] at h1 h2
  dsimp only [jnF]
  exact rr (jn_any n m (restF r) (by lia) (by lia)) rfl
theorem join_loop3 {Γ : Spx} {gt : Loc} {ar star : Addr} {P : List Part} (hP : P.length <= 100) (hB : ∀ s, some s ∈ P -> s.length <= 100) :
 ∀ (n : Nat) (r pre : List Part) (acc : List (List Nat)) (ρ : Loc) (σ : St) (KF : KS), P = pre ++ r -> (r = [] ∨ ∃ q, r = none :: q) -> apart r = true -> ρ (Str.ofString "inp") = some (.list (P.map (prH star))) -> ρ (Str.ofString "i") = some (.int (pre.length : Nat)) -> ρ (Str.ofString "n") = some (.int (P.length : Nat)) ->
  ρ (Str.ofString "STAR") = some (.val (.ref star)) -> ρ (Str.ofString "add") = some (.bm ar) -> ρ (Str.ofString "res") = some (.obj ar) -> σ ar = some (acc.map HV.str) -> r.length < n -> acc.length + 2 * r.length <= 1000 ->
  (∀ ρ' σ', ρ' (Str.ofString "i") = some (.int (P.length : Nat)) -> ρ' (Str.ofString "n") = some (.int (P.length : Nat)) -> ρ' (Str.ofString "res") = some (.obj ar) -> σ' ar = some ((acc ++ jnF r.length r).map HV.str) -> (∀ x, (σ x).isSome = true -> x ≠ ar -> σ' x = σ x) -> KF .nx ρ' σ') ->
  whL (fun ρ σ K => evT (fun _ => true) Γ joW3.1 ρ (GofDef (scopeOf (stm 12)) gt) σ K) (fun ρ σ K => evB (fun _ => true) Γ joW3.2 ρ (GofDef (scopeOf (stm 12)) gt) σ K) n ρ σ KF := by
 have ln := line_is
 intro n
 induction n with
 | zero => intro r pre acc ρ σ KF _ _ _ _ _ _ _ _ _ _ hn; exact absurd hn (Nat.not_lt_zero _)
 | succ n ih =>
   intro r pre acc ρ σ KF hu hh hap e1 e2 e3 e4 e5 e6 hl hn hz hK
   rcases hh with rfl | ⟨q, rfl⟩
   · refine q_wh ?_
     conv => arg 3; whnf
     conv => arg 5; arg 1; whnf
     repeat' walk_at "ev"
     have hpl : pre.length = P.length := by rw [hu]; simp
     rw [if_neg (by rw [hpl]; simp)]
     repeat' walk_at "ev"
     exact hK ρ σ (by rw [← hpl]; exact e2) e3 e6 (by simpa [jnF] using hl) (fun _ _ _ => rfl)
   · simp only [List.length_cons] at hn hz
     have hlen : P.length = pre.length + (q.length + 1) := by rw [hu]; simp
     have hat : at? (P.map (prH star)) (pre.length : Int) = some (prH star none) := by rw [hu]; exact at_part star pre none q
     have hpe : (((pre ++ [none] : List Part).length : Nat) : Int) = (pre.length : Int) + 1 := by rw [List.length_append, List.length_singleton]; lia
     refine q_wh ?_
     conv => arg 3; whnf
     conv => arg 5; arg 1; whnf
     repeat' walk_at "ev"
     rw [if_pos (by simp; exact ar12 hlen)]
     refine gen_K fun KF' hKF' => ?_
     conv => arg 3; whnf
     conv => arg 5; arg 1; whnf
     repeat' walk_at "ev"
     refine s_list (ar342 hlen hP) hat ?_
     repeat' walk_at "ev"
     refine c_is_ref rfl ?_
     repeat' walk_at "ev"
     refine And.intro rfl ?_
     repeat' walk_at "ev"
     cases q with
     | nil =>
       rw [if_pos (by simp; simp at hlen; exact ar184 hlen)]
       repeat' walk_at "ev"
       refine k_bm hl (by simp; exact ar183 hz ln) ?_
       repeat' walk_at "ev"
       refine hK _ _ ?_ ?_ ?_ ?_ ?_
       · have e : ((P.length : Nat) : Int) = (pre.length : Int) + 1 := by simp at hlen; exact ar182 hlen
         rw [e]; walk_at "nm"
       · walk_at "nm"
       · walk_at "nm"
       · rw [put_self]; simp [jnF, lit_dst]
       · intro x _ hx; rw [put_ne hx]
     | cons x q =>
       obtain ⟨s, rfl⟩ : ∃ s, x = some s := by
        cases x with
        | none => simp [apart] at hap
        | some s => exact ⟨s, rfl⟩
       simp only [List.length_cons] at hn hz hlen
       rw [if_neg (by simp; exact ar181 hlen)]
       repeat' walk_at "ev"
       have hat2 : at? (P.map (prH star)) ((pre.length : Int) + 1) = some (prH star (some s)) := by
        have e : P = (pre ++ [none]) ++ some s :: q := by rw [hu]; simp
        rw [← hpe, e]; exact at_part star (pre ++ [none]) (some s) q
       refine s_list (ar365 hlen hP) hat2 ?_
       repeat' walk_at "ev"
       refine c_isn_str ?_
       repeat' walk_at "ev"
       refine And.intro rfl ?_
       repeat' walk_at "ev"
       intro af haf
       have hne : af ≠ ar := fun q => by subst q; rw [haf] at hl; exact no_ns hl
       have hne' : ar ≠ af := fun q => hne q.symm
       repeat' walk_at "ev"
       have hrl := rest_len q
       have hlen2 : ((pre ++ [none] : List Part).length + (strsF (some s :: q)).length : Nat) + (restF q).length = P.length := by simp only [List.length_append, strsF, List.length_cons, List.length_nil]; lia
       have hu2 : P = ((pre ++ [none]) ++ (strsF (some s :: q)).map some) ++ restF q := by
        rw [hu]
        have := strs_rest (some s :: q)
        simp only [restF] at this
        rw [List.append_assoc, ← this]; simp
       have hbs : ∀ t ∈ strsF (some s :: q), t.length <= 100 := fun t ht => hB t (by rw [hu]; have := strs_mem _ _ ht; simp only [List.mem_append, List.mem_cons] at this ⊢; exact .inr (.inr this))
       have hfl := flat_len _ hbs
       have hsl := sum_len _ hbs
       have hsn : (strsF (some s :: q)).length <= 100 := ar180 hlen2 hP
       have hfb : (strsF (some s :: q)).flatten.length <= 100 * 100 := Nat.le_trans hfl (Nat.mul_le_mul_left _ hsn)
       have hsb : ((strsF (some s :: q)).map fun t => t.length + ([] : List Nat).length).sum <= 100 * 100 := Nat.le_trans hsl (Nat.mul_le_mul_left _ hsn)
       refine ⟨q.length + 2, ?_⟩
       refine join_loop2 (ar := af) (star := star) hP (some s :: q) (pre ++ [none]) [] _ _ _ _ (by rw [hu]; simp) ?_ ?_ ?_ ?_ ?_ ?_ (by simp) (by simp; exact ar179 hz) fun ρ' σ' q1 q2 q3 q4 => ?_
       · walk_at "nm"
       · rw [hpe]; walk_at "nm"
       · walk_at "nm"
       · walk_at "nm"
       · walk_at "nm"
       · rw [put_self]; rfl
       have r1 : ρ' (Str.ofString "inp") = some (.list (P.map (prH star))) := by rw [q4 _ (ofS_ne (by decide +kernel))]; walk_at "nm"
       have r3 : ρ' (Str.ofString "n") = some (.int (P.length : Nat)) := by rw [q4 _ (ofS_ne (by decide +kernel))]; walk_at "nm"
       have r4 : ρ' (Str.ofString "STAR") = some (.val (.ref star)) := by rw [q4 _ (ofS_ne (by decide +kernel))]; walk_at "nm"
       have r5 : ρ' (Str.ofString "add") = some (.bm ar) := by rw [q4 _ (ofS_ne (by decide +kernel))]; walk_at "nm"
       have r6 : ρ' (Str.ofString "res") = some (.obj ar) := by rw [q4 _ (ofS_ne (by decide +kernel))]; walk_at "nm"
       have r7 : ρ' (Str.ofString "fixed") = some (.obj af) := by rw [q4 _ (ofS_ne (by decide +kernel))]; walk_at "nm"
       have r8 : σ' ar = some (acc.map HV.str) := by rw [q3 _ hne', put_ne hne']; exact hl
       rw [List.nil_append] at q2
       dsimp only
       repeat' walk_at "ev"
       refine m_join (ys := (strsF (some s :: q)).map HV.str) (ts := strsF (some s :: q)) q2 (allTxt_map _) (by rw [lit_empty]; exact Nat.le_trans hsb (ar178 ln)) ?_
       rw [lit_empty, inter_nil]
       repeat' walk_at "ev"
       by_cases hend : restF q = []
       · have hpn : (((pre ++ [none] : List Part).length + (strsF (some s :: q)).length : Nat) : Int) = (P.length : Int) := by rw [hend] at hlen2; simp at hlen2 ⊢; exact ar177 hlen2
         rw [if_pos (by rw [hpn]; simp)]
         repeat' walk_at "ev"
         refine k_bm r8 (by simp; lia) ?_
         repeat' walk_at "ev"
         refine k_bm (l := (acc ++ [[46, 42]]).map HV.str) (by rw [put_self, lit_dst]; simp) (by simp; exact ar176 hz ln) ?_
         repeat' walk_at "ev"
         obtain ⟨n, rfl⟩ : ∃ m, n = m + 1 := ⟨n - 1, ar175 hn⟩
         refine ih [] P (acc ++ [[46, 42], (strsF (some s :: q)).flatten]) _ _ KF (by simp) (.inl rfl) rfl ?_ ?_ ?_ ?_ ?_ ?_ ?_ (by simp) ?_ fun ρ9 σ9 p1 p2 p3 p4 p5 => hK ρ9 σ9 p1 p2 p3 ?_ ?_
         · walk_at "nm"
         · rw [hpn] at q1; walk_at "nm"
         · walk_at "nm"
         · walk_at "nm"
         · walk_at "nm"
         · walk_at "nm"
         · rw [put_self]; simp
         · simp; exact ar174 hz
         · rw [p4]; simp [jnF, hend, restF]
         · intro x hx hxa
           have hxf : x ≠ af := fun q => by subst q; rw [haf] at hx; exact no_ft hx
           have hx' : σ' x = σ x := by rw [q3 x hxf, put_ne hxf]
           rw [p5 x (by rw [put_ne hxa, put_ne hxa, hx']; exact hx) hxa, put_ne hxa, put_ne hxa, hx']
       · have hpos : 0 < (restF q).length := List.length_pos_iff.mpr hend
         rw [if_neg (by simp only [beq_iff_eq]; lia)]
         repeat' walk_at "ev"
         refine q_jc (by rw [lit_opn]; simp only [List.length_append, List.length_cons, List.length_nil]; exact ar172 ln) ?_
         repeat' walk_at "ev"
         refine j_str (by rw [lit_opn]; simp only [List.length_append, List.length_cons, List.length_nil]; exact ar171 hlen2 hP ln hfl) ?_
         refine q_jc (by rw [lit_opn, lit_cl]; simp only [List.length_append, List.length_cons, List.length_nil]; exact ar170 hlen2 hP ln hfl) ?_
         repeat' walk_at "ev"
         refine k_bm r8 (by simp; lia) ?_
         repeat' walk_at "ev"
         have hcat : (List.nil ++ (strsF (some s :: q)).map some).length = 0 + (strsF (some s :: q)).length := by simp
         refine ih (restF q) ((pre ++ [none]) ++ (strsF (some s :: q)).map some) (acc ++ [([40, 63, 62, 46, 42, 63] ++ (strsF (some s :: q)).flatten) ++ [41]]) _ _ KF hu2 ?_ (apart_rest q (by simpa [apart] using hap)) ?_ ?_ ?_ ?_ ?_ ?_ ?_ (ar169 hn hrl) ?_ fun ρ9 σ9 p1 p2 p3 p4 p5 => hK ρ9 σ9 p1 p2 p3 ?_ ?_
         · exact (rest_head q).imp id id
         · walk_at "nm"
         · have e : ((((pre ++ [none]) ++ (strsF (some s :: q)).map some : List Part).length : Nat) : Int) = (((pre ++ [none] : List Part).length + (strsF (some s :: q)).length : Nat) : Int) := by rw [List.length_append, List.length_map]
           rw [e]; walk_at "nm"
         · walk_at "nm"
         · walk_at "nm"
         · walk_at "nm"
         · walk_at "nm"
         · rw [put_self, lit_opn, lit_cl]; simp
         · simp; exact ar168 hz hrl
         · rw [p4]
           have e : jnF (none :: some s :: q).length (none :: some s :: q) = (([40, 63, 62, 46, 42, 63] ++ (strsF (some s :: q)).flatten) ++ [41]) :: jnF (restF q).length (restF q) := by
            simp only [List.length_cons, jnF, restF, hend, if_false, reduceCtorEq]
            rw [jn_any (q.length + 1) (restF q).length (restF q) (ar167 hlen2 hpe hlen) (Nat.le_refl _)]
           rw [e]; simp
         · intro x hx hxa
           have hxf : x ≠ af := fun q => by subst q; rw [haf] at hx; exact no_ft hx
           have hx' : σ' x = σ x := by rw [q3 x hxf, put_ne hxf]
           rw [p5 x (by rw [put_ne hxa, hx']; exact hx) hxa, put_ne hxa, hx']
end
section
noncomputable def spJoin : Spec := fun hs σ K => ∃ P star, hs = [.list (P.map (prH star)), .val (.ref star)] /\ P.length <= 100 /\ (∀ s, some s ∈ P -> s.length <= 100) /\ apart P = true /\ K (.str (joinF P)) σ
theorem jn_bound {B : Nat} : ∀ (n : Nat) (r : List Part), (∀ s, some s ∈ r -> s.length <= B) -> (jnF n r).flatten.length <= B * r.length + 7 * r.length
 | 0, r, _ => by simp [jnF]
 | n + 1, [], _ => by simp [jnF]
 | n + 1, some s :: r, _ => by simp [jnF]
 | n + 1, none :: r, h => by
   have h1 := flat_len (B := B) (strsF r) fun s hs => h s (.tail _ (strs_mem r s hs))
   have h2 := jn_bound (B := B) n (restF r) fun s hs => h s (.tail _ (rest_mem r _ hs))
   have h3 := rest_len r
   have h4 : B * (strsF r).length + B * (restF r).length = B * r.length := by (refine rl (Nat.mul_add ..) ?_; exact rr h3 rfl)
   simp only [jnF, List.length_cons]
   by_cases e1 : r = []
   · refine rr (if_pos e1) ?_; simp only [List.flatten_cons, List.flatten_nil, List.length_append, List.length_cons, List.length_nil]; exact Nat.le_add_left _ _
   · refine rr (if_neg e1) ?_
     by_cases e2 : restF r = []
     · rw [if_pos e2]; simp only [List.flatten_cons, List.flatten_nil, List.length_append, List.length_cons, List.length_nil]; lia
     · rw [if_neg e2]
       simp only [List.flatten_cons, List.length_append, List.length_cons, List.length_nil]
       lia
theorem sum_flat : ∀ l : List (List Nat), (l.map fun t => t.length + ([] : List Nat).length).sum = l.flatten.length := by
 intro xs0
 induction xs0 with
 | nil =>
  exact rfl
 | cons x l ih =>
  exact by
   simp only [List.map_cons, List.sum_cons, List.flatten_cons, List.length_append, List.length_nil] at ih ⊢
   exact ar188 ih
theorem join_walk {Γ : Spx} {gt : Loc} (g2 : gt (Str.ofString "len") = some (.val (.builtin "len")))
 {hs : List HV} {σ : St} {K : KV} (H : spJoin hs σ K) : specOf (fun _ => true) Γ (scopeOf (stm 12)) gt [Str.ofString "inp", Str.ofString "STAR"] (bodyOf (stm 12)) hs σ K := by
 (refine o_eeaaaa H fun P star z623 hP hB hap hK => ?_; clear H; subst z623)
 have ln := line_is
 refine spec_introK rfl fun KF hKF => ?_
 conv => arg 3; whnf
 conv => arg 5; arg 1; whnf
 simp only [bind_c, bind_n]
 repeat' walk_at "ev"
 intro ar har
 repeat' walk_at "ev"
 refine ⟨ar, rfl, by rw [put_self]; rfl, ?_⟩
 repeat' walk_at "ev"
 refine ⟨P.length + 1, ?_⟩
 refine join_loop1 (ar := ar) (star := star) hP P [] [] _ _ _ _ rfl ?_ ?_ ?_ ?_ ?_ ?_ (Nat.lt_succ_self _) (by simp; exact ar195 hP) fun ρ' σ' q1 q2 q3 q4 => ?_
 · walk_at "nm"
 · show _ = some (HV.int 0)
   walk_at "nm"
 · have e : ((P.length : Nat) : Int) = (((P.map (prH star)).length : Nat) : Int) := by rw [List.length_map]
   rw [e]; walk_at "nm"
 · walk_at "nm"
 · walk_at "nm"
 · rw [put_self]; rfl
 have hrl := rest_len P
 have r1 : ρ' (Str.ofString "inp") = some (.list (P.map (prH star))) := by rw [q4 _ (ofS_ne (by decide +kernel))]; walk_at "nm"
 have r3 : ρ' (Str.ofString "n") = some (.int (P.length : Nat)) := by
  have e : ((P.length : Nat) : Int) = (((P.map (prH star)).length : Nat) : Int) := by rw [List.length_map]
  rw [q4 _ (ofS_ne (by decide +kernel)), e]; walk_at "nm"
 have r4 : ρ' (Str.ofString "STAR") = some (.val (.ref star)) := by rw [q4 _ (ofS_ne (by decide +kernel))]; walk_at "nm"
 have r5 : ρ' (Str.ofString "add") = some (.bm ar) := by rw [q4 _ (ofS_ne (by decide +kernel))]; walk_at "nm"
 have r6 : ρ' (Str.ofString "res") = some (.obj ar) := by rw [q4 _ (ofS_ne (by decide +kernel))]; walk_at "nm"
 dsimp only
 repeat' walk_at "ev"
 refine ⟨(restF P).length + 1, ?_⟩
 rw [List.nil_append] at q2
 refine join_loop3 (ar := ar) (star := star) hP hB ((restF P).length + 1) (restF P) ((strsF P).map some) (strsF P) _ _ _ (strs_rest P) (rest_head P) (apart_rest P hap) r1 ?_ r3 r4 r5 r6 q2 (Nat.lt_succ_self _) (ar194 hrl hP) fun ρ9 σ9 p1 p2 p3 p4 p5 => ?_
 · rw [q1]; simp
 dsimp only
 repeat' walk_at "ev"
 refine And.intro (by simp) ?_
 repeat' walk_at "ev"
 have hbs : ∀ t ∈ strsF P, t.length <= 100 := fun t ht => hB t (strs_mem _ _ ht)
 have hf1 := flat_len _ hbs
 have hf2 := jn_bound (B := 100) (restF P).length (restF P) fun s hs => hB s (rest_mem P _ hs)
 have hf3 : (strsF P ++ jnF (restF P).length (restF P)).flatten.length <= 100000 := by
  rw [List.flatten_append, List.length_append]; exact ar193 hrl hP hf2 hf1
 refine m_join p4 (allTxt_map _) (by rw [lit_empty, sum_flat]; exact ar192 ln hf3) ?_
 rw [lit_empty, inter_nil]
 repeat' walk_at "ev"
 refine q_jc (by rw [lit_pre]; simp only [List.length_append, List.length_cons, List.length_nil]; exact ar191 ln) ?_
 repeat' walk_at "ev"
 refine j_str (by rw [lit_pre]; simp only [List.length_append, List.length_cons, List.length_nil]; exact ar190 ln hf3) ?_
 refine q_jc (by rw [lit_pre, lit_end]; simp only [List.length_append, List.length_cons, List.length_nil]; exact ar189 ln hf3) ?_
 repeat' walk_at "ev"
 have hw : within σ σ9 = σ := Ag.within fun x hx => by
  have hxa : x ≠ ar := fun q => by subst q; rw [har] at hx; exact no_ft hx
  rw [p5 x (by (refine rr (q3 x hxa) ?_; refine rr (put_ne hxa) ?_); exact hx) hxa, q3 x hxa, put_ne hxa]
 (refine rr hw ?_; refine rr lit_pre ?_; refine rr lit_end ?_)
 have e : joinF P = ([] ++ [40, 63, 115, 58] ++ (strsF P ++ jnF (restF P).length (restF P)).flatten) ++ [41, 92, 90] := by
  unfold joinF
  refine rr (jn_any P.length (restF P).length (restF P) (ar53 hrl) (Nat.le_refl _)) ?_; rfl
 refine rl e ?_; exact hK
end
section
theorem apart_cons2 (a b : Part) (r : List Part) : apart (a :: b :: r) = ((a.isSome || b.isSome) && apart (b :: r)) := by
 cases a <;> cases b <;> rfl
theorem apart_snoc : ∀ (l : List Part) (x : Part), apart l = true -> (l.getLast? = some none -> x ≠ none) -> apart (l ++ [x]) = true
 | [], x, _, _ => by cases x <;> rfl
 | [a], x, _, h => by
  refine rr (apart_cons2 ..) ?_
  have : apart [x] = true := by clear h; cases x <;> rfl
  (refine rr this ?_; refine rr (Bool.and_true ..) ?_)
  induction a using Option.casesOn with
  | some s => rfl
  | none =>
   induction x using Option.casesOn with
   | some s => rfl
   | none => exact absurd rfl (h rfl)
 | a :: b :: r, x, h1, h2 => by
  show apart (a :: b :: (r ++ [x])) = true
  rw [apart_cons2] at h1 ⊢
  simp only [Bool.and_eq_true] at h1 ⊢
  refine ⟨h1.1, ?_⟩
  exact apart_snoc (b :: r) x h1.2 (by exact h2)
theorem tr_step_ok (acc : List Part) (c : Nat) (h1 : apart acc = true) (h2 : ∀ s, some s ∈ acc -> s.length <= 2) : apart (trStep acc c) = true /\ (∀ s, some s ∈ trStep acc c -> s.length <= 2) /\ (trStep acc c).length <= acc.length + 1 := by
 have add : ∀ x : Part, (acc.getLast? = some none -> x ≠ none) -> (∀ s, x = some s -> s.length <= 2) -> apart (acc ++ [x]) = true /\ (∀ s, some s ∈ acc ++ [x] -> s.length <= 2) /\ (acc ++ [x]).length <= acc.length + 1 := fun x hx hs =>
  (i_aa (apart_snoc acc x h1 hx) (fun s hm => by
   refine Or.elim (List.mem_append.mp hm) (fun q => ?_) fun q => ?_
   · exact h2 s q
   · exact hs s (by simpa using (List.mem_singleton.mp q).symm)) (by simp))
 unfold trStep
 refine ie rfl (fun _ => ?_) fun _ => ?_
 · refine ie rfl (fun _ => ?_) fun _ => ?_
   · exact (i_aa h1 h2 (Nat.le_succ _))
   · rename_i hl
     exact add none (fun q => absurd q hl) (fun s q => by exact no_ns q)
 · refine ie rfl (fun _ => ?_) fun _ => ?_
   · exact add _ (fun _ q => by exact no_sn q) (fun s q => by (replace q := Option.some.inj q; subst q); simp)
   · exact add _ (fun _ q => by exact no_sn q) (fun s q => by (replace q := Option.some.inj q; subst q); exact (show (escF c).length <= 2 from by unfold escF; refine ie rfl (fun _ => ?_) fun _ => ?_ <;> simp))
theorem parts_ok : ∀ (p : List Nat) (acc : List Part), apart acc = true -> (∀ s, some s ∈ acc -> s.length <= 2) ->
 apart (p.foldl trStep acc) = true /\ (∀ s, some s ∈ p.foldl trStep acc -> s.length <= 2) /\ (p.foldl trStep acc).length <= acc.length + p.length := by
 intro xs0
 induction xs0 with
 | nil =>
  exact @fun acc h1 h2 => (i_aa h1 h2 (Nat.le_refl _))
 | cons c p ih =>
  exact @fun acc h1 h2 => by
   refine o_aa (tr_step_ok acc c h1 h2) fun a b d => ?_
   refine o_aa (ih (trStep acc c) a b) fun x y z => ?_
   exact (i_aa x y (by simp only [List.foldl_cons, List.length_cons]; lia))
noncomputable def txF (p : List Nat) : List Nat := joinF (partsF p)
noncomputable def spTx : Spec := fun hs σ K => ∃ p, hs = [.str p] /\ p.length <= 100 /\ (∀ c ∈ p, c < 256 /\ c ≠ 91) /\ K (.str (txF p)) σ
theorem tx_walk {Γ : Spx} {gt : Loc} {at' aj : Addr} (g1 : gt (Str.ofString "_translate") = some (.val (.ref at'))) (g2 : gt (Str.ofString "_join_translated_parts") = some (.val (.ref aj))) (g3 : gt (Str.ofString "object") = some (.val (.type "object")))
 (hΓ1 : Γ (.ref at') = some spTr) (hΓ2 : Γ (.ref aj) = some spJoin)
 {hs : List HV} {σ : St} {K : KV} (H : spTx hs σ K) : specOf (fun _ => true) Γ (scopeOf (stm 6)) gt [Str.ofString "pat"] (bodyOf (stm 6)) hs σ K := by
 (refine o_eaaa H fun p z769 hp hpc hK => ?_; clear H; refine rr z769 ?_)
 refine o_aa (parts_ok p [] rfl (fun s h => by contradiction)) fun h1 h2 h3 => ?_
 refine spec_introK rfl fun KF hKF => ?_
 conv => arg 3; whnf
 conv => arg 5; arg 1; whnf
 simp only [bind_c, bind_n]
 repeat' walk_at "ev"
 refine k_obj fun star => ?_
 repeat' walk_at "ev"
 refine q_fn hΓ1 (i_eeaaa p star (by exact rr (show litS (Str.ofString ".") = [46] from lit_dot) rfl) hp hpc ?_)
 repeat' walk_at "ev"
 refine q_fn hΓ2 (i_eeaaaa (partsF p) star rfl (by simp at h3; exact Nat.le_trans h3 hp) (fun s hs => Nat.le_trans (h2 s hs) (by decide)) h1 ?_)
 repeat' walk_at "ev"
 refine rr within_self ?_; exact hK
end
section
noncomputable def partTk : List Nat -> Tk
 | [_, c] => .esc c
 | [c] => if c = 46 then .any else .lit c
 | _ => .any
noncomputable def partRow : List Nat -> Option Nat
 | [_, c] => some c
 | [c] => if c = 46 then none else some c
 | _ => none
noncomputable def gPart (s : List Nat) : Prop := s = [46] ∨ (∃ c, s = [92, c]) ∨ ∃ c, s = [c] /\ c ≠ 40 /\ c ≠ 46 /\ c ≠ 92 /\ c ≠ 41 /\ c ≠ 42
noncomputable def gTk : Tk -> Prop
 | .lit c => c ≠ 40 /\ c ≠ 46 /\ c ≠ 92 /\ c ≠ 41 /\ c ≠ 42
 | _ => True
theorem partTk_lit {c : Nat} (h : c ≠ 46) : partTk [c] = .lit c := by
 exact if_neg h
theorem partRow_lit {c : Nat} (h : c ≠ 46) : partRow [c] = some c := by
 exact if_neg h
theorem gPart_txt {s : List Nat} (h : gPart s) : (partTk s).txt = s /\ gTk (partTk s) /\ ∀ (d : List Row) (c : Row), (partTk s).step d c = (d, c ++ [partRow s]) := by
 rcases h with rfl | ⟨c, rfl⟩ | ⟨c, rfl, h1, h2, h3, h4, h5⟩
 · exact (i_aa rfl trivial (fun _ _ => rfl))
 · exact (i_aa rfl trivial (fun _ _ => rfl))
 · (refine rr (partTk_lit h2) ?_; refine rr (partRow_lit h2) ?_)
   exact (i_aa rfl ((i_aaaa h1 h2 h3 h4 h5)) (fun _ _ => rfl))
theorem gTk_head {t : Tk} (h : gTk t) : ∃ c r, t.txt = c :: r /\ c ≠ 42 := by
 induction t using Tk.casesOn with
 | lit c => exact (i_eea c ([]) rfl h.2.2.2.2)
 | opn => exact (i_eea _ _ rfl (by decide))
 | star => exact (i_eea _ _ rfl (by decide))
 | clos => exact (i_eea _ _ rfl (by decide))
 | any => exact (i_eea _ _ rfl (by decide))
 | esc c => exact (i_eea _ _ rfl (by decide))
theorem okTks_of : ∀ l : List Tk, (∀ t ∈ l, gTk t) -> okTks l /\ (flat' l).head? ≠ some 42 := by
 intro xs0
 induction xs0 with
 | nil =>
  exact @fun _ => ⟨trivial, by trivial⟩
 | cons t r ih =>
  exact @fun h => by
   refine o_a (ih fun x hx => h x (.tail _ hx)) fun h1 h2 => ?_
   have ht := h t (.head _)
   refine o_eea (gTk_head ht) fun c q e hc => ?_
   refine ⟨⟨?_, h1⟩, ?_⟩
   · clear e h; induction t using Tk.casesOn with
     | lit c => exact (i_aaa ht.1 ht.2.1 ht.2.2.1 ht.2.2.2.1)
     | any => exact h2
     | _ => trivial
   · simp [flat', e, hc]
theorem flat_app : ∀ a b : List Tk, flat' (a ++ b) = flat' a ++ flat' b := by
 intro xs0
 induction xs0 with
 | nil =>
  exact @fun _ => rfl
 | cons t a ih =>
  exact @fun b => by simp [flat', ih b]
noncomputable def toks (l : List (List Nat)) : List Tk := l.map partTk
theorem toks_flat : ∀ l : List (List Nat), (∀ s ∈ l, gPart s) -> flat' (toks l) = l.flatten /\ ∀ t ∈ toks l, gTk t := by
 intro xs0
 induction xs0 with
 | nil =>
  exact @fun _ => ⟨rfl, fun _ h => by contradiction⟩
 | cons s l ih =>
  exact @fun h => by
   refine o_a (ih fun x hx => h x (.tail _ hx)) fun a b => ?_
   refine ⟨?_, fun t ht => ?_⟩
   · show (partTk s).txt ++ flat' (toks l) = _
     (refine rr (gPart_txt (h s (.head _))).1 ?_; refine rr a ?_); rfl
   · rcases List.mem_cons.mp ht with rfl | ht
     · exact (gPart_txt (h s (.head _))).2.1
     · exact b t ht
noncomputable def full (t : List Tk) (d : List Row) (c : Row) : List Row := (stepAll t d c).1 ++ [(stepAll t d c).2]
theorem full_toks : ∀ (l : List (List Nat)) (r : List Tk) (d : List Row) (c : Row), (∀ s ∈ l, gPart s) -> full (toks l ++ r) d c = full r d (c ++ l.map partRow) := by
 intro xs0
 induction xs0 with
 | nil =>
  exact @fun r d c _ => by simp [toks]
 | cons s l ih =>
  exact @fun r d c h => by
   have : full (partTk s :: (toks l ++ r)) d c = full (toks l ++ r) ((partTk s).step d c).1 ((partTk s).step d c).2 := rfl
   (refine rr this ?_; refine rr ((gPart_txt (h s (.head _))).2.2 ..) ?_; refine rr (ih r d (c ++ [partRow s]) fun x hx => h x (.tail _ hx)) ?_)
   simp
noncomputable def jnT : Nat -> List Part -> List Tk
 | 0, _ => []
 | n + 1, none :: r => if r = [] then [.star] else if restF r = [] then .star :: toks (strsF r) else .opn :: (toks (strsF r) ++ .clos :: jnT n (restF r))
 | _ + 1, _ => []
noncomputable def grp : Nat -> List Part -> List Row
 | 0, _ => []
 | n + 1, none :: r => (strsF r).map partRow :: grp n (restF r)
 | _ + 1, _ => []
noncomputable def gParts (P : List Part) : Prop := ∀ s, some s ∈ P -> gPart s
theorem gParts.strs {P : List Part} (h : gParts P) : ∀ s ∈ strsF P, gPart s := fun s hs => h s (strs_mem _ _ hs)
theorem gParts.rest {P : List Part} (h : gParts P) : gParts (restF P) := fun s hs => h s (rest_mem _ _ hs)
theorem gParts.tail {P : List Part} {x : Part} (h : gParts (x :: P)) : gParts P := fun s hs => h s (.tail _ hs)
theorem grp_nil (n : Nat) : grp n [] = [] := by cases n <;> rfl
theorem jnT_ok : ∀ (n : Nat) (r : List Part), gParts r -> flat' (jnT n r) = (jnF n r).flatten /\ (∀ t ∈ jnT n r, gTk t) /\ ((r = [] ∨ ∃ q, r = none :: q) -> r.length <= n -> ∀ d c, full (jnT n r) d c = d ++ c :: grp n r)
 | 0, r, _ => by
   refine (i_aa rfl (fun _ h => (by cases h)) (fun _ hn d c => ?_))
   rfl
 | n + 1, [], _ => (i_aa rfl (fun _ h => (by cases h)) (fun _ _ d c => by rfl))
 | n + 1, some s :: r, _ => (i_aa rfl (fun _ h => (by cases h)) (fun h => by rcases h with h | ⟨q, h⟩ <;> cases h))
 | n + 1, none :: r, h => by
   obtain ⟨a1, a2⟩ := toks_flat (strsF r) h.tail.strs
   refine o_aa (jnT_ok n (restF r) h.tail.rest) fun b1 b2 b3 => ?_
   have hrl := rest_len r
   by_cases e1 : r = []
   · refine rr e1 ?_
     refine (i_aa (by exact rfl) (fun t ht => ?_) (fun _ _ d c => ?_))
     · simp [jnT] at ht; subst ht; trivial
     · simp [jnT, full, stepAll, Tk.step, grp, strsF, restF, grp_nil]
   · by_cases e2 : restF r = []
     · have ej : jnT (n + 1) (none :: r) = .star :: toks (strsF r) := by simp only [jnT]; (refine rr (if_neg e1) ?_; exact rr (if_pos e2) rfl)
       have ef : jnF (n + 1) (none :: r) = [[46, 42], (strsF r).flatten] := by simp only [jnF]; (refine rr (if_neg e1) ?_; exact rr (if_pos e2) rfl)
       (refine rr ej ?_; refine rr ef ?_)
       refine (i_aa (by simp [flat', Tk.txt, a1]) (fun t ht => ?_) (fun _ _ d c => ?_))
       · rcases List.mem_cons.mp ht with rfl | ht
         · trivial
         · exact a2 t ht
       · have s1 : full (.star :: toks (strsF r)) d c = full (toks (strsF r) ++ []) (d ++ [c]) [] := by refine rr (List.append_nil ..) ?_; rfl
         (refine rr s1 ?_; refine rr (full_toks _ _ _ _ h.tail.strs) ?_)
         simp [full, stepAll, grp, e2, grp_nil]
     · have ej : jnT (n + 1) (none :: r) = .opn :: (toks (strsF r) ++ .clos :: jnT n (restF r)) := by simp only [jnT]; (refine rr (if_neg e1) ?_; exact rr (if_neg e2) rfl)
       have ef : jnF (n + 1) (none :: r) = (([40, 63, 62, 46, 42, 63] ++ (strsF r).flatten) ++ [41]) :: jnF n (restF r) := by simp only [jnF]; (refine rr (if_neg e1) ?_; exact rr (if_neg e2) rfl)
       (refine rr ej ?_; refine rr ef ?_)
       refine (i_aa (by simp [flat', flat_app, Tk.txt, a1, b1]) (fun t ht => ?_) (fun _ hn d c => ?_))
       · simp only [List.mem_cons, List.mem_append] at ht
         rcases ht with rfl | ht | rfl | ht
         · trivial
         · exact a2 t ht
         · trivial
         · exact b2 t ht
       · have s1 : full (.opn :: (toks (strsF r) ++ .clos :: jnT n (restF r))) d c = full (toks (strsF r) ++ .clos :: jnT n (restF r)) (d ++ [c]) [] := rfl
         (refine rr s1 ?_; refine rr (full_toks _ _ _ _ h.tail.strs) ?_)
         have s2 : ∀ d c, full (.clos :: jnT n (restF r)) d c = full (jnT n (restF r)) d c := fun _ _ => rfl
         simp only [List.length_cons] at hn
         simp only [s2, b3 (rest_head r) (ar23 hn hrl)]
         simp [grp]
noncomputable def txT (P : List Part) : List Tk := toks (strsF P) ++ jnT P.length (restF P)
theorem txT_ok {P : List Part} (h : gParts P) : joinF P = ([40, 63, 115, 58] ++ flat' (txT P)) ++ [41, 92, 90] /\ okTks (txT P) /\ full (txT P) [] [] = (strsF P).map partRow :: grp P.length (restF P) := by
 refine o_a (toks_flat (strsF P) h.strs) fun a1 a2 => ?_
 refine o_aa (jnT_ok P.length (restF P) h.rest) fun b1 b2 b3 => ?_
 have hrl := rest_len P
 refine (i_aa ?_ ?_ ?_)
 · unfold joinF txT
   (refine rr (flat_app ..) ?_; refine rr a1 ?_; refine rr b1 ?_; exact rr List.flatten_append rfl)
 · refine (okTks_of _ fun t ht => ?_).1
   rcases List.mem_append.mp ht with q | q
   · exact a2 t q
   · exact b2 t q
 · unfold txT
   rw [full_toks _ _ _ _ h.strs, b3 (rest_head P) (ar53 hrl)]
   rfl
end
section
noncomputable def mP : List (Option (Option Nat)) -> List Nat -> Bool
 | [], nm => nm.isEmpty
 | none :: q, nm => (List.range (nm.length + 1)).any fun k => mP q (nm.drop k)
 | some _ :: _, [] => false
 | some x :: q, d :: r => (x == none || x == some d) && mP q r
noncomputable def pe (c : Nat) : Option (Option Nat) := if c = 42 then none else if c = 63 then some none else some (some c)
theorem mP_meant : ∀ (p nm : List Nat), mP (p.map pe) nm = meant p nm := by
 intro xs0
 induction xs0 with
 | nil =>
  exact @fun nm => by rfl
 | cons c p ih =>
  exact @fun nm => by
   by_cases h : c = 42
   · refine rr h ?_
     show mP (none :: p.map pe) nm = _
     simp only [mP]
     congr 1; funext k; exact ih (nm.drop k)
   · induction nm using List.casesOn with
     | nil =>
       simp only [meant_no h]
       have : pe c = some (if c = 63 then none else some c) := by unfold pe; refine rr (if_neg h) ?_; split <;> rfl
       (refine rr List.map_cons ?_; refine rr this ?_); rfl
     | cons d r =>
       (rw [meant_one h]; refine rr List.map_cons ?_)
       have : pe c = some (if c = 63 then none else some c) := by unfold pe; refine rr (if_neg h) ?_; split <;> rfl
       refine rr this ?_
       simp only [mP]
       refine rr (ih r) ?_
       congr 1
       by_cases h3 : c = 63
       · refine rl h3 ?_; simp
       · refine rr (if_neg h3) ?_
         (refine rr (show (c == 63) = false from by simp [h3]) ?_; refine rr (Bool.false_or ..) ?_)
         by_cases h5 : c = d
         · simp
         · simp [h5]
theorem mP_star {q : List (Option (Option Nat))} {nm : List Nat} : mP (none :: q) nm = true ↔ ∃ k, k <= nm.length /\ mP q (nm.drop k) = true := by
 simp only [mP, List.any_eq_true, List.mem_range]
 constructor
 · rintro ⟨k, h1, h2⟩; exact (i_ea k (by exact Nat.le_of_lt_succ ‹_›) h2)
 · rintro ⟨k, h1, h2⟩; exact (i_ea k (ar196 h1) h2)
theorem mP_ss (q : List (Option (Option Nat))) (nm : List Nat) : mP (none :: none :: q) nm = mP (none :: q) nm := by
 rw [Bool.eq_iff_iff, mP_star, mP_star]
 constructor
 · rintro ⟨k, h1, h2⟩
   refine o_ea (mP_star.mp h2) fun j h3 h4 => ?_
   rw [List.drop_drop] at h4
   simp only [List.length_drop] at h3
   exact (i_ea (k + j) (ar25 h3 h1) h4)
 · rintro ⟨k, h1, h2⟩
   exact (i_ea k h1 (mP_star.mpr (i_ea 0 (by exact Nat.le_add_left _ _) (by exact h2))))
theorem mP_cong {q q' : List (Option (Option Nat))} (h : ∀ nm, mP q nm = mP q' nm) : ∀ (a : List (Option (Option Nat))) (nm : List Nat), mP (a ++ q) nm = mP (a ++ q') nm
 | [], nm => h nm
 | none :: a, nm => by
  dsimp only [List.cons_append, mP]
  congr 1; funext k; exact mP_cong h a _
 | some x :: a, [] => rfl
 | some x :: a, d :: r => by
  dsimp only [List.cons_append, mP]
  exact rr (mP_cong h a r) rfl
noncomputable def ph (x : Part) : Option (Option Nat) := x.map partRow
theorem esc_row {c : Nat} (h : c < 256) : partRow (escF c) = some c /\ gPart (escF c) := by
 unfold escF
 refine ie rfl (fun _ => ?_) fun _ => ?_
 · refine ⟨rfl, .inr (.inl ⟨c, rfl⟩)⟩
 · rename_i hs
   have e : ∀ k ∈ specials, c ≠ k := fun k hk q => hs (by refine rr q ?_; simpa using hk)
   exact ⟨partRow_lit (e 46 (by decide)), .inr (.inr (i_eaaaa c rfl (e 40 (by decide)) ((e 46 (by decide))) (e 92 (by decide)) ⟨e 41 (by decide), e 42 (by decide)⟩))⟩
theorem step_mP {acc : List Part} {c : Nat} (hc : c < 256) (q : List (Option (Option Nat))) (nm : List Nat) : mP ((trStep acc c).map ph ++ q) nm = mP (acc.map ph ++ pe c :: q) nm := by
 unfold trStep
 by_cases h : c = 42
 · refine rr (if_pos h) ?_
   refine rr (show pe c = none from by unfold pe; exact rr (if_pos h) rfl) ?_
   by_cases hl : acc.getLast? = some none
   · refine rr (if_pos hl) ?_
     obtain ⟨a', rfl⟩ : ∃ a', acc = a' ++ [none] := by
      refine Or.elim (List.eq_nil_or_concat acc) (fun z57 => ?_) fun z58 => ?_
      · subst z57; simp at hl
      · (refine o_ee z58 fun a' x hax => ?_; clear z58); simp only [List.concat_eq_append] at hax; subst hax
        simp at hl; refine rr hl ?_; exact ⟨a', rfl⟩
     (refine rr List.map_append ?_; refine rr (List.append_assoc ..) ?_; refine rr (List.append_assoc ..) ?_)
     exact mP_cong (fun nm => (mP_ss q nm).symm) _ nm
   · refine rr (if_neg hl) ?_; simp [ph]
 · refine rr (if_neg h) ?_
   by_cases h2 : c = 63
   · refine rr (if_pos h2) ?_
     refine rr (show pe c = some none from by unfold pe; (refine rr (if_neg h) ?_; exact rr (if_pos h2) rfl)) ?_; simp [ph, partRow]
   · refine rr (if_neg h2) ?_
     refine rr (show pe c = some (some c) from by unfold pe; (refine rr (if_neg h) ?_; exact rr (if_neg h2) rfl)) ?_
     simp [ph, (esc_row hc).1]
theorem parts_mP : ∀ (p : List Nat) (acc : List Part) (nm : List Nat), (∀ c ∈ p, c < 256) -> mP ((p.foldl trStep acc).map ph) nm = mP (acc.map ph ++ p.map pe) nm := by
 intro xs0
 induction xs0 with
 | nil =>
  exact @fun acc nm _ => by simp
 | cons c p ih =>
  exact @fun acc nm h => by
   simp only [List.foldl_cons, ih _ nm fun x hx => h x (.tail _ hx), step_mP (h c (.head _))]; rfl
theorem parts_g : ∀ (p : List Nat) (acc : List Part), (∀ c ∈ p, c < 256) -> gParts acc -> gParts (p.foldl trStep acc) := by
 intro xs0
 induction xs0 with
 | nil =>
  exact @fun acc _ h => h
 | cons c p ih =>
  exact @fun acc hc h => by
   refine ih _ (fun x hx => hc x (.tail _ hx)) ?_
   have add : ∀ x : Part, (∀ s, x = some s -> gPart s) -> gParts (acc ++ [x]) := fun x hx s hm => by
    rcases List.mem_append.mp hm with q | q
    · exact h s q
    · exact hx s (by simpa using (List.mem_singleton.mp q).symm)
   unfold trStep
   refine ie rfl (fun _ => ?_) fun _ => ?_
   · refine ie rfl (fun _ => ?_) fun _ => ?_
     · exact h
     · exact add _ fun s q => by exact no_ns q
   · refine ie rfl (fun _ => ?_) fun _ => ?_
     · exact add _ fun s q => by (replace q := Option.some.inj q; subst q); exact .inl rfl
     · exact add _ fun s q => by (replace q := Option.some.inj q; subst q); exact (esc_row (hc c (.head _))).2
theorem fits_nil (nm : List Nat) (p : Nat) : fitsF [] nm p = true ↔ p <= nm.length := by simp [fitsF]
theorem fits_le {r : Row} {nm : List Nat} {p : Nat} (h : fitsF r nm p = true) : p + r.length <= nm.length := by
 unfold fitsF at h; simp only [Bool.and_eq_true, decide_eq_true_eq] at h; exact h.1
theorem fits_cons (x : Option Nat) (r : Row) (nm : List Nat) (p : Nat) : fitsF (x :: r) nm p = true ↔ (∃ d, nm[p]? = some d /\ (x = none ∨ x = some d)) /\ fitsF r nm (p + 1) = true := by
 unfold fitsF
 simp only [Bool.and_eq_true, decide_eq_true_eq, List.all_eq_true, List.mem_range, List.length_cons]
 constructor
 · rintro ⟨h1, h2⟩
   refine (i_aa ?_ (ar35 h1) (fun k hk => ?_))
   · have := h2 0 (by exact Nat.le_add_left _ _)
     have hp : p < nm.length := ar36 h1
     refine (i_ea (nm[p]) (List.getElem?_eq_getElem hp) ?_)
     unfold fitB at this
     simp only [List.getElem?_cons_zero, Nat.add_zero, List.getElem?_eq_getElem hp] at this
     clear h2; induction x using Option.casesOn with
     | none => exact .inl rfl
     | some c => right; have this : (c == nm[p]) = true := this; simpa using this
   · have := h2 (k + 1) (ar199 hk)
     unfold fitB at this ⊢
     simp only [List.getElem?_cons_succ] at this
     refine rr (show p + 1 + k = p + (k + 1) by exact ar26) ?_
     exact this
 · rintro ⟨⟨d, h0, hx⟩, h1, h2⟩
   refine ⟨ar198 h1, fun k hk => ?_⟩
   induction k using Nat.casesOn with
   | zero =>
     unfold fitB
     simp only [List.getElem?_cons_zero, Nat.add_zero, h0]
     induction x using Option.casesOn with
     | none => rfl
     | some c =>
       rcases hx with hx | hx
       · exact no_sn hx
       · cases hx; exact beq_self_eq_true d
   | succ k =>
     have := h2 k (by exact Nat.le_of_lt_succ ‹_›)
     unfold fitB at this ⊢
     refine rr (show p + (k + 1) = p + 1 + k by exact ar197) ?_
     exact this
theorem row_mP (q : List (Option (Option Nat))) (nm : List Nat) : ∀ (r : Row) (p : Nat), p <= nm.length -> (mP (r.map some ++ q) (nm.drop p) = true ↔ fitsF r nm p = true /\ mP q (nm.drop (p + r.length)) = true) := by
 intro xs0
 induction xs0 with
 | nil =>
  exact @fun p hp => by simp [fits_nil, hp]
 | cons x r ih =>
  exact @fun p hp => by
   by_cases h : p < nm.length
   · refine rr (List.drop_eq_getElem_cons h) ?_
     simp only [List.map_cons, List.cons_append, mP, Bool.and_eq_true]
     (rw [(ih (p + 1) (by assumption))]; rw [fits_cons]; refine rr List.length_cons ?_; refine rr (show p + 1 + r.length = p + (r.length + 1) by exact ar26) ?_)
     rw [(show ((x == none || x == some nm[p]) = true) ↔ ∃ d, nm[p]? = some d /\ (x = none ∨ x = some d) from by
      refine rr (List.getElem?_eq_getElem h) ?_
      constructor
      · intro q; exact ⟨_, rfl, by simpa using q⟩
      · rintro ⟨d, e1, e2⟩; refine Option.some.inj e1 ▸ ?_; simpa using e2)]
     exact ⟨fun ⟨a, b, c⟩ => ⟨⟨a, b⟩, c⟩, fun ⟨⟨a, b⟩, c⟩ => (i_aa a b c)⟩
   · refine rr (List.drop_eq_nil_of_le (ar201 h)) ?_
     simp only [List.map_cons, List.cons_append, mP, Bool.false_eq_true, false_iff]
     rintro ⟨h1, _⟩
     have := fits_le h1
     simp only [List.length_cons] at this
     exact ar200 this h
theorem seek_ok (r : Row) (nm : List Nat) : ∀ (n p : Nat), nm.length + 1 <= n + p -> (∀ k, p <= k -> fitsF r nm k = true -> seekF r nm n p <= k /\ fitsF r nm (seekF r nm n p) = true) /\ (seekF r nm n p <= nm.length -> fitsF r nm (seekF r nm n p) = true) /\ p <= seekF r nm n p := by
 intro xs0
 induction xs0 with
 | zero =>
  exact @fun p hn => (i_aa (fun k hk hf => by have := fits_le hf; lia) (fun h => by dsimp only [seekF] at h; lia) (Nat.le_refl _))
 | succ n ih =>
  exact @fun p hn => by
   have ih := ih (p + 1) (ar46 hn)
   dsimp only [seekF]
   by_cases hc : (decide (p <= nm.length) && !fitsF r nm p) = true
   · rw [if_pos hc]
     simp only [Bool.and_eq_true, decide_eq_true_eq, Bool.not_eq_true'] at hc
     refine (i_aa (fun k hk hf => ?_) ih.2.1 (by lia))
     have hne : k ≠ p := fun q => by cases q; rw [hc.2] at hf; exact no_ft hf
     exact ih.1 k (ar203 hk hne) hf
   · rw [if_neg hc]
     simp only [Bool.and_eq_true, decide_eq_true_eq, Bool.not_eq_true', not_and, Bool.not_eq_false] at hc
     exact (i_aa (fun k hk hf => ⟨hk, hc (by have := fits_le hf; exact ar202 this hk)⟩) (fun h => hc h) (Nat.le_refl _))
noncomputable def tailM (gs : List Row) (nm : List Nat) (p : Nat) : Prop := midsF nm gs.dropLast p + (gs.getLastD []).length <= nm.length /\ fitsF (gs.getLastD []) nm (nm.length - (gs.getLastD []).length) = true
theorem mids_ge (nm : List Nat) : ∀ (gs : List Row) (p : Nat), p <= midsF nm gs p /\ (nm.length < p -> nm.length < midsF nm gs p) := by
 intro xs0
 induction xs0 with
 | nil =>
  exact @fun p => ⟨Nat.le_refl _, id⟩
 | cons r gs ih =>
  exact @fun p => by
   have h := ih (seekF r nm (nm.length + 1) p + r.length)
   have h2 := (seek_ok r nm (nm.length + 1) p (by exact Nat.le_add_right _ _)).2.2
   dsimp only [midsF]
   exact ⟨ar205 h h2, fun q => (ar204 h q h2)⟩
theorem tail_mP (nm : List Nat) : ∀ (n : Nat) (q : List Part) (p : Nat), q.length <= n -> p <= nm.length -> (mP ((none :: q).map ph) (nm.drop p) = true ↔ tailM (grp (n + 1) (none :: q)) nm p)
 | n, q, p, hn, hp => by
   have hrl := rest_len q
   have hq : (q.map ph : List (Option (Option Nat))) = ((strsF q).map partRow).map some ++ (restF q).map ph := by
    have := congrArg (List.map ph) (strs_rest q)
    (refine rr this ?_; refine rr List.map_append ?_; refine rr List.map_map ?_; refine rr List.map_map ?_)
    rfl
   simp only [(show mP ((none :: q).map ph) (nm.drop p) = true ↔ ∃ k, p <= k /\ k <= nm.length /\ fitsF ((strsF q).map partRow) nm k = true /\ mP ((restF q).map ph) (nm.drop (k + ((strsF q).map partRow).length)) = true from by
    show mP (none :: q.map ph) (nm.drop p) = true ↔ _
    (rw [mP_star]; refine rr List.length_drop ?_)
    constructor
    · rintro ⟨k, h1, h2⟩
      rw [List.drop_drop, hq, row_mP _ nm _ (p + k) (by lia)] at h2
      exact (i_eaa (p + k) (by exact Nat.le_add_right _ _) (by lia) h2)
    · rintro ⟨k, h1, h2, h3⟩
      refine (i_ea (k - p) (ar218 h2) ?_)
      (refine rr List.drop_drop ?_; refine rr hq ?_; rw [row_mP _ nm _ (p + (k - p)) (ar217 hp h2)]; refine rr (show p + (k - p) = k by exact ar216 h1) ?_)
      exact h3)]
   simp only [grp]
   generalize (strsF q).map partRow = row at *
   rcases rest_head q with e | ⟨q', e⟩
   · (refine rr e ?_; refine rr (grp_nil ..) ?_)
     simp only [tailM, List.dropLast_singleton, midsF, List.getLastD_cons, List.getLastD_nil, List.map_nil, mP, List.isEmpty_iff]
     constructor
     · rintro ⟨k, h1, h2, h3, h4⟩
       have h5 := fits_le h3
       have h6 := List.drop_eq_nil_iff.mp h4
       refine rr (show nm.length - row.length = k from (ar215 h5 h6)) ?_; exact ⟨ar214 h5 h1, h3⟩
     · rintro ⟨h1, h2⟩
       exact (i_eaaa (nm.length - row.length) (ar213 h1) (ar212) h2 (List.drop_eq_nil_of_le (ar211)))
   · rw [e] at hrl ⊢
     simp only [List.length_cons] at hrl
     obtain ⟨m, rfl⟩ : ∃ m, n = m + 1 := ⟨n - 1, ar210 hrl hn⟩
     have ih := fun p hp => tail_mP nm m q' p (ar209 hrl hn) hp
     have hg : ∃ g gs, grp (m + 1) (none :: q') = g :: gs := (i_ee _ _ rfl)
     obtain ⟨g, gs, hg⟩ := hg
     simp only [(show tailM (row :: grp (m + 1) (none :: q')) nm p ↔ tailM (grp (m + 1) (none :: q')) nm (seekF row nm (nm.length + 1) p + row.length) from by
      refine rr hg ?_; rfl)]
     have sk := seek_ok row nm (nm.length + 1) p (by exact Nat.le_add_right _ _)
     constructor
     · rintro ⟨k, h1, h2, h3, h4⟩
       refine o_a (sk.1 k h1 h3) fun s1 s2 => ?_
       have s4 := fits_le h3
       simp only [← ih _ (fits_le s2)]
       refine o_ea (mP_star.mp h4) fun j j1 j2 => ?_
       refine mP_star.mpr ⟨k - seekF row nm (nm.length + 1) p + j, ?_, ?_⟩
       · simp only [List.length_drop] at j1 ⊢; exact ar208 s4 j1 s1
       · rw [List.drop_drop] at j2 ⊢
         refine rr (show seekF row nm (nm.length + 1) p + row.length + (k - seekF row nm (nm.length + 1) p + j) = k + row.length + j by exact ar207 s1) ?_
         exact j2
     · intro hm
       have hle : seekF row nm (nm.length + 1) p + row.length <= nm.length := by
        apply Nat.le_of_not_lt
        intro q
        have := (mids_ge nm (grp (m + 1) (none :: q')).dropLast _).2 q
        have := hm.1
        exact ar206 this (by assumption)
       exact (i_eaaa _ sk.2.2 (by lia) ((sk.2.1 (by lia))) ((ih _ hle).mpr hm))
theorem taken_is {P : List Part} (nm : List Nat) : takenF ((strsF P).map partRow :: grp P.length (restF P)) nm = mP (P.map ph) nm := by
 have hrl := rest_len P
 have h0 := row_mP ((restF P).map ph) nm ((strsF P).map partRow) 0 (by exact Nat.le_add_left _ _)
 rw [List.drop_zero, ← (show (P.map ph : List (Option (Option Nat))) = ((strsF P).map partRow).map some ++ (restF P).map ph from by
  have := congrArg (List.map ph) (strs_rest P)
  (refine rr this ?_; refine rr List.map_append ?_; refine rr List.map_map ?_; refine rr List.map_map ?_)
  rfl), Nat.zero_add] at h0
 generalize (strsF P).map partRow = row at *
 rw [Bool.eq_iff_iff, h0]
 rw [takenF]
 by_cases hf : fitsF row nm 0 = true
 · have hle := fits_le hf
   refine rr (if_neg (by refine rr hf ?_; decide)) ?_
   refine Or.elim (rest_head P) (fun e => ?_) fun z247 => ?_
   · (refine rr e ?_; refine rr (grp_nil ..) ?_; refine rr (if_pos (show ([] : List Row).isEmpty = true from rfl)) ?_)
     (refine rr List.map_nil ?_; rw [mP, List.isEmpty_iff, beq_iff_eq])
     rw [List.drop_eq_nil_iff]
     exact ⟨fun q => ⟨hf, ar225 q⟩, fun q => by lia⟩
   · (refine o_e z247 fun q e => ?_; clear z247); rw [e] at hrl ⊢
     simp only [List.length_cons] at hrl
     obtain ⟨m, hm⟩ : ∃ m, P.length = m + 1 := ⟨P.length - 1, ar224 hrl⟩
     (refine rr hm ?_; rw [tail_mP nm m q row.length (ar220 hrl hm) (ar219 hle)])
     have hg : ∃ g gs, grp (m + 1) (none :: q) = g :: gs := (i_ee _ _ rfl)
     refine o_ee hg fun g gs hg => ?_
     (refine rr hg ?_; refine rr (if_neg (by simp)) ?_)
     simp only [tailM, Bool.and_eq_true, decide_eq_true_eq]
     exact ⟨fun q => ⟨hf, q⟩, fun q => q.2⟩
 · have hf := (Bool.not_eq_true ..) ▸ hf
   (refine rr (if_pos (by refine rr hf ?_; rfl)) ?_; refine rr hf ?_)
   simp
theorem plain_taken {p nm : List Nat} (h : ∀ c ∈ p, c < 256) : takenF (full (txT (partsF p)) [] []) nm = meant p nm := by
 (refine rr ((txT_ok (parts_g p [] h (fun s q => by contradiction))).2.2) ?_; refine rr (taken_is ..) ?_)
 refine rr (parts_mP p [] nm h) ?_
 exact mP_meant p nm
theorem jnT_len : ∀ (n : Nat) (r : List Part), (jnT n r).length <= 2 * r.length
 | 0, r => by simp [jnT]
 | n + 1, [] => by simp [jnT]
 | n + 1, some s :: r => by simp [jnT]
 | n + 1, none :: r => by
   have ih := jnT_len n (restF r)
   have hrl := rest_len r
   simp only [jnT, List.length_cons]
   refine ie rfl (fun _ => ?_) fun _ => ?_
   · exact Nat.le_add_left _ _
   · refine ie rfl (fun _ => ?_) fun _ => ?_
     · simp [toks]; exact ar227 hrl
     · simp [toks]; exact ar226 hrl ih
theorem txT_len (P : List Part) : (txT P).length <= 2 * P.length := by
 have h1 := jnT_len P.length (restF P)
 have h2 := rest_len P
 unfold txT
 simp [toks]; exact ar228 h2 h1
end
set_option maxRecDepth 4000
section
structure Stk (ω : Own) (A : Around) (l : List Env) : Prop where
 frames : A.frames = some l
 ok : ∀ env ∈ l, env.scope.kind ≠ .module /\ ∃ L m, env.frame = some L /\ ω L = some (.ns m)
noncomputable abbrev frs (l : List Env) : List Addr := l.filterMap (·.frame)
theorem Stk.mono {ω ω' : Own} {A : Around} {l : List Env} (K : Stk ω A l) (x : LeW ω ω') : Stk ω' A l :=
 ⟨K.frames, fun env h => by refine o_aeea (K.ok env h) fun k L m h1 h2 => ?_; exact (i_aeea k L m h1 (x _ _ h2 rfl))⟩
theorem Stk.at {ω : Own} {A : Around} {l : List Env} (K : Stk ω A l) {b : Addr} (h : b ∈ frs l) : ∃ m, ω b = some (.ns m) := by
 refine o_ea (List.mem_filterMap.mp h) fun env h1 h2 => ?_
 refine o_aeea (K.ok env h1) fun _ L m h3 h4 => ?_
 rw [h3] at h2; refine Option.some.inj h2 ▸ ?_; exact ⟨m, h4⟩
section
variable {B0 : Heap} {os : OsState} {gs : Array GenState} {ω : Own} {s : Shared}
theorem ns_not_fields {h : Heap} {a : Addr} {m : Str -> Option Value} (n : h.Ns a m) : ∃ o, h.get? a = some o /\ ∀ vs, o.data ≠ .fields vs := by
 refine o_eeeaa n fun o es ep h1 h2 _ => ?_
 exact (i_ea o h1 (fun vs q => by rw [h2] at q; contradiction))
theorem fun_frames (S : MS B0 os ω gs s) {as : List Addr} : ∀ {l : List Env}, (∀ env ∈ l, env.scope.kind ≠ .module /\ ∃ L m, env.frame = some L /\ ω L = some (.ns m)) -> (∀ b ∈ frs l, b ∈ as) -> s.heap.FunFrames (hideAll s.heap as) l := by
 intro xs0
 induction xs0 with
 | nil =>
  exact @fun _ _ => trivial
 | cons env r ih =>
  exact @fun hk ha => by
   refine o_aeea (hk env (.head _)) fun k L m h1 h2 => ?_
   refine o_ea (ns_not_fields (S.hold _ _ h2)) fun o h3 h4 => ?_
   refine (i_aa k ((i_eeaaa L o h1 (hideAll_none _ (ha L (List.mem_filterMap.mpr (i_ea env (.head _) h1)))) h3 h4)) (ih (fun e he => hk e (.tail _ he)) fun b hb => ha b ?_))
   refine o_ea (List.mem_filterMap.mp hb) fun e he hf => ?_
   exact List.mem_filterMap.mpr (i_ea e (.tail _ he) hf)
theorem old_none (S : MS B0 os ω gs s) {b : Addr} (h : s.heap.get? b = none) : B0.get? b = none := by
 induction q : B0.get? b with
 | none => rfl
 | some o => refine o_e (S.old.there b o q) fun o' h' => ?_; rw [h] at h'; exact no_ns h'
theorem ns_new (S : MS B0 os ω gs s) {b : Addr} {m : Str -> Option Value} (h : ω b = some (.ns m)) : B0.get? b = none := Heap.get?_none_of_le (S.lo _ _ h rfl)
theorem MS.apart (S : MS B0 os ω gs s) {as : List Addr} {h' : Heap} (hst : (hideAll s.heap as).StaysIn h') (hup : s.heap.UpToSlots h') (has : ∀ b ∈ as, ω b = none ∨ ∃ m, ω b = some (.ns m)) (hlo : ∀ b ∈ as, B0.get? b = none) (t : Nat) :
 MS B0 os ω gs { s with heap := h', toks := t } := by
 have keep : ∀ b o, b ∉ as -> s.heap.get? b = some o -> h'.get? b = some o := fun b o hb x => hst b o (hideAll_get _ x hb)
 refine { S with hold := fun a m e => ?_, old := ?_ }
 · by_cases ha : a ∈ as
   · rcases has a ha with q | ⟨m', q⟩
     · rw [q] at e; exact no_ns e
     · rw [q] at e; (replace e := Option.some.inj e; subst e)
       exact hup.ns (S.hold _ _ q)
   · exact (S.hold a m e).keep fun ob x => keep a ob ha x
 · have ne : ∀ b o, B0.get? b = some o -> b ∉ as := fun b o e q => by rw [hlo b q] at e; exact no_ns e
   refine ⟨fun b o e => ?_, fun b o e => let ⟨o', ho'⟩ := S.old.there b o e; ⟨o', keep b o' (ne b o e) ho'⟩⟩
   rcases S.old.old b o e with x | ⟨t, hc, vs, more, hv, x⟩ | ⟨rfl, hc, ⟨o', es, n, ho', r⟩, z⟩
   · exact .inl (keep b _ (ne b o e) x)
   · exact .inr (.inl ⟨t, hc, vs, more, hv, keep b _ (ne b o e) x⟩)
   · exact .inr (.inr (i_aaa rfl hc ((i_eeea o' es n ((keep _ _ (ne _ o e) ho')) r)) (fun key => by refine rr (OldK.staticOf_congr ((keep _ _ (ne _ o e) ho').trans ho'.symm) key) ?_; exact z key)))
inductive Fly (B0 : Heap) (ω : Own) (h : Heap) (e : Addr) (cls : String) (t : Addr) (fl : Value) : Prop
 | mk : ∀ oe vs T oT ts, (h.get? e = some oe) -> ((oe.cls = .type cls /\ vs[0]? = some (.ref t))) -> (oe.data = .fields vs) -> (vs[1]? = some (.ref T)) -> (T ≠ e) -> (h.get? T = some oT) -> (oT.data = .fields ts) -> (ts[3]? = some fl) -> (ω e = none) -> (ω T = none) -> (B0.get? e = none) -> (B0.get? T = none) -> Fly B0 ω h e cls t fl
theorem Fly.flying {A : Around} {l : List Env} (S : MS B0 os ω gs s) (K : Stk ω A l) {e t : Addr} {cls : String} {fl : Value} (F : Fly B0 ω s.heap e cls t fl) :
 ∃ as, (hideAll s.heap as).StaysIn s.heap /\ (hideAll s.heap as).get? e = none /\ s.heap.FunFrames (hideAll s.heap as) l /\ s.heap.TracedAtW (hideAll s.heap as) e (.type cls) (.ref t) fl /\
  (∀ b ∈ as, ω b = none ∨ ∃ m, ω b = some (.ns m)) /\ (∀ b ∈ as, B0.get? b = none) := by
 obtain ⟨oe, vs, T, oT, ts, h1, h2, h3, h4, h5, h6, h7, h8, h9, h10, h11, h12⟩ := F
 refine (i_eaaaa (e :: T :: frs l) (fun b o q => of_hideAll _ q) (hideAll_none _ (.head _)) (fun_frames S K.ok fun b hb => .tail _ (.tail _ hb)) ((i_eeee oe vs T oT (i_eaaaa ts h1 h2 h3 h4 ⟨hideAll_none _ (.tail _ (.head _)), h5, h6, h7, h8⟩))) ⟨fun b hb => ?_, fun b hb => ?_⟩)
 · refine Or.elim (List.mem_cons.mp hb) (fun z291 => ?_) fun hb => ?_
   · refine rr z291 ?_; exact .inl h9
   · rcases List.mem_cons.mp hb with rfl | hb
     · exact .inl h10
     · exact .inr (K.at hb)
 · refine Or.elim (List.mem_cons.mp hb) (fun z173 => ?_) fun hb => ?_
   · refine rr z173 ?_; exact h11
   · rcases List.mem_cons.mp hb with rfl | hb
     · exact h12
     · refine o_e (K.at hb) fun m hm => ?_
       exact ns_new S hm
theorem Fly.back {as : List Addr} {h' : Heap} (S : MS B0 os ω gs s) (hst : (hideAll s.heap as).StaysIn h') (hup : s.heap.UpToSlots h') (has : ∀ b ∈ as, ω b = none ∨ ∃ m, ω b = some (.ns m)) (hlo : ∀ b ∈ as, B0.get? b = none)
 {e t : Addr} {cls : String} {fl : Value} (he : (hideAll s.heap as).get? e = none) (hoe : ω e = none) (hBe : B0.get? e = none) (T : h'.TracedAtW (hideAll s.heap as) e (.type cls) (.ref t) fl) : Fly B0 ω h' e cls t fl := by
 (refine o_eeeee T fun oe vs T oT ts z329 => ?_; refine o_aaaaaa z329 fun h1 h2 h3 h4 h5 h6 z330 => ?_; refine o_aa z330 fun h7 h8 h9 => ?_)
 have gone : ∀ b o, (hideAll s.heap as).get? b = none -> s.heap.get? b = some o -> b ∈ as := fun b o q x => by
  apply Classical.byContradiction
  intro hb
  rw [hideAll_get _ x hb] at q; exact no_sn q
 have hTB : B0.get? T = none := by
  induction q : B0.get? T using Option.casesOn with
  | none => rfl
  | some o =>
    obtain ⟨o', ho'⟩ := S.old.there T o q
    rw [hlo T (gone T o' h5 ho')] at q; exact no_ns q
 have hTo : ω T = none := by
  induction q : ω T using Option.casesOn with
  | none => rfl
  | some m =>
    exfalso
    have hh := S.hold _ _ q
    induction g : s.heap.get? T using Option.casesOn with
    | none =>
      have : ∃ o, s.heap.get? T = some o := by
       clear q; induction m using OM.casesOn with
       | fz o => exact ⟨o, hh⟩
       | lst vs => obtain ⟨n, ho⟩ := hh; exact ⟨_, ho⟩
       | hid vs => obtain ⟨n, ho⟩ := hh; exact ⟨_, ho⟩
       | ns m => refine o_eeea hh fun o es ep ho _ => ?_; exact ⟨_, ho⟩
       | cell v => refine o_ea hh fun o ho _ => ?_; exact ⟨_, ho⟩
       | tab qs ps => exact ⟨_, hh⟩
       | ex o => exact ⟨_, hh⟩
       | it k => refine o_ea (ItK.Holds.obj hh) fun o ho _ => ?_; exact ⟨_, ho⟩
      obtain ⟨o, ho⟩ := this
      rw [g] at ho; exact no_ns ho
    | some o =>
      rcases has T (gone T o h5 g) with x | ⟨m', x⟩
      · rw [x] at q; exact no_ns q
      · rw [x] at q; refine o_ea (ns_not_fields (hup.ns (S.hold _ _ x))) fun o2 g2 d2 => ?_
        rw [h7] at g2; (replace g2 := Option.some.inj g2; subst g2)
        exact d2 _ h8
 exact ⟨oe, vs, T, oT, ts, h1, h2, h3, h4, h6, h7, h8, h9, hoe, hTo, hBe, hTB⟩
theorem Fly.parts {h : Heap} {e t : Addr} {cls : String} {fl : Value} (F : Fly B0 ω h e cls t fl) : ω e = none /\ B0.get? e = none := by
 obtain ⟨_, _, _, _, _, _, _, _, _, _, _, _, _, h1, _, h2, _⟩ := F
 exact ⟨h1, h2⟩
section
variable {M : Model} {A : Around} {E : Value -> Shared -> Prop} {env : Env} {outer l : List Env} {L e t : Addr} {cls : String} {fl : Value} {Q : Unit -> Shared -> Prop}
theorem leave_on (S : MS B0 os ω gs s) (K : Stk ω A (env :: outer)) (hf : env.frame = some L) (F : Fly B0 ω s.heap e cls t .none)
 (H : ∀ h', MS B0 os ω gs { s with heap := h' } -> Fly B0 ω h' e cls t .none -> Q () { s with heap := h' }) : wpAny M A (leaving env (.ref e)) Q E s := by
 refine o_eaaaaa (F.flying S K) fun as h1 h2 h3 h4 h5 h6 => ?_
 exact wpAny_leaves_onW K.frames hf (i_aaa h1 h2 h3 h4) fun h' x1 x2 => H h' (S.apart x1.1 x2 h5 h6 s.toks) (Fly.back S x1.1 x2 h5 h6 h2 F.parts.1 F.parts.2 x1.2.2.2.at)
theorem note_on (S : MS B0 os ω gs s) (K : Stk ω A (env :: outer)) (hf : env.frame = some L) (F : Fly B0 ω s.heap e cls t .none)
 (H : ∀ h', MS B0 os ω gs { s with heap := h' } -> Fly B0 ω h' e cls t (rawInt L) -> Q () { s with heap := h' }) : wpAny M A (noteFrame (.ref e) env) Q E s := by
 refine o_eaaaaa (F.flying S K) fun as h1 h2 h3 h4 h5 h6 => ?_
 exact wpAny_looks_onW K.frames hf (i_aaa h1 h2 h3 h4) fun h' x1 x2 => H h' (S.apart x1.1 x2 h5 h6 s.toks) (Fly.back S x1.1 x2 h5 h6 h2 F.parts.1 F.parts.2 x1.2.2.2)
theorem flight_off (S : MS B0 os ω gs s) (K : Stk ω A l) (F : Fly B0 ω s.heap e cls t fl)
 (H : ∀ h', MS B0 os ω gs { s with heap := h' } -> Fly B0 ω h' e cls t .none -> Q () { s with heap := h' }) : wpAny M A (setFlight (.ref e) none) Q E s := by
 refine o_eaaaaa (F.flying S K) fun as h1 h2 h3 h4 h5 h6 => ?_
 exact wpAny_setFlight_noneW h1 h3 h4 fun h' x1 x2 x3 x4 => by
  exact H h' (S.apart x1 (fun b o hb hn => ⟨o.slots, x4 b o hb hn⟩) h5 h6 s.toks) (Fly.back S x1 (fun b o hb hn => ⟨o.slots, x4 b o hb hn⟩) h5 h6 h2 F.parts.1 F.parts.2 x3.at)
theorem leave_held (S : MS B0 os ω gs s) (K : Stk ω A l) (hf : env.frame = some L) (F : Fly B0 ω s.heap e cls t (rawInt L))
 (H : ∀ h', MS B0 os ω gs { s with heap := h' } -> Fly B0 ω h' e cls t .none -> Q () { s with heap := h' }) : wpAny M A (leaving env (.ref e)) Q E s := by
 refine o_eaaaaa (F.flying S K) fun as h1 h2 h3 h4 h5 h6 => ?_
 exact wpAny_bind (wpAny_noteFrame_againW hf h4 (flight_off S K F H))
theorem came_back (S : MS B0 os ω gs s) (hf : env.frame = some L) (F : Fly B0 ω s.heap e cls t fl)
 (H : ∀ h', MS B0 os ω gs { s with heap := h' } -> Fly B0 ω h' e cls t (rawInt L) -> E (.ref e) { s with heap := h' }) : cameBackBy M A env E (.ref e) s := by
 obtain ⟨oe, vs, T, oT, ts, h1, h2, h3, h4, h5, h6, h7, h8, h9, h10, h11, h12⟩ := F
 dsimp only [cameBackBy]
 refine wpAny_bind (wpAny_field h1 h3 h4 ?_)
 refine wpAny_bind (wpAny_field h1 h3 h4 ?_)
 (refine rr (if_pos (show (Value.ref T != Value.none) = true from by rfl)) ?_; refine rr hf ?_)
 have other : ∀ b, b ≠ T -> (s.heap.update T (Obj.mapFields (·.setIfInBounds 3 ((some L : Option Addr).elim Value.none fun f => rawInt f)))).get? b = s.heap.get? b := fun b hb => Heap.get?_update_other _ _ (Ne.symm hb)
 refine wpAny_setField h6 h7 ((Array.getElem?_eq_some_iff.mp h8).1) (H _ (S.apart (fun b o q => by
  by_cases hb : b = T
  · clear other h12 h10 h6 h5 h4; subst hb; rw [hideAll_none _ (.head _)] at q; exact no_ns q
  · refine rr (other b hb) ?_; exact of_hideAll _ q : (hideAll s.heap [T]).StaysIn (s.heap.update T (Obj.mapFields (·.setIfInBounds 3 ((some L : Option Addr).elim Value.none fun f => rawInt f))))) (fun b o hb hn => by
  refine ⟨o.slots, ?_⟩
  refine rr (other b (fun q => by clear other h12 h10 h5 h4; subst q; rw [h6] at hb; (replace hb := Option.some.inj hb; subst hb); exact hn _ h7)) ?_; exact hb) (fun b hb => by refine rr (List.mem_singleton.mp hb) ?_; exact .inl h10) (fun b hb => by refine rr (List.mem_singleton.mp hb) ?_; exact h12) s.toks) ?_)
 exact ⟨oe, vs, T, _, _, (other e (Ne.symm h5)).trans h1, h2, h3, h4, h5, Heap.get?_update_self _ h6 (Obj.isFreed_of_fields (Obj.data_mapFields h7 _)), Obj.data_mapFields h7 _, by simp [((Array.getElem?_eq_some_iff.mp h8).1)], h9, h10, h11, h12⟩
theorem made_args {h h' : Heap} {cls : Value} {vs : List Value} (x : Heap.MadeExcOf h h' e cls vs) : ∃ t, h'.get? t = some { cls := .type "tuple", data := .seq vs.toArray } /\ h.get? t = none /\ h'.get? e = some { cls := cls, data := .fields #[.ref t, .none, .none, .none, .bool false, .none] } := by
 refine o_eaa x.there fun t a b c => ?_; exact (i_eaa t c b a)
theorem leave_made {h : Heap} {vs : List Value} (S : MS B0 os ω gs { s with heap := h }) (K : Stk ω A (env :: outer)) (hf : env.frame = some L) (hx : Heap.MadeExcOf h s.heap e (.type cls) vs)
    (H : ∀ h' t o n, ω t = none -> o.cls = .type "tuple" -> o.data = .seq vs.toArray n -> MS B0 os (ω.set t (.fz o)) gs { s with heap := h' } -> Fly B0 (ω.set t (.fz o)) h' e cls t .none -> Q () { s with heap := h' }) : wpAny M A (leaving env (.ref e)) Q E s := by
  have hff := fun_frames S (as := frs (env :: outer)) K.ok fun b hb => hb
  have has : ∀ b ∈ frs (env :: outer), ω b = none ∨ ∃ m, ω b = some (.ns m) := fun b hb => .inr (K.at hb)
  have hlo : ∀ b ∈ frs (env :: outer), B0.get? b = none := fun b hb => by refine o_e (K.at hb) fun m hm => ?_; exact ns_new S hm
  refine wpAny_leaves_madeW K.frames hf (fun b o q => of_hideAll _ q : (hideAll h (frs (env :: outer))).StaysIn h) hff hx fun h' t x1 x2 x3 x4 => ?_
  (refine o_eeaa x2 fun o n ht hc hd => ?_; clear x2)
  have hup : h.UpToSlots h' := (Heap.UpToSlots.of_keeps hx.keeps).trans x4
  have S1 : MS B0 os ω gs { s with heap := h' } := S.apart (s := { s with heap := h }) x1.1 hup has hlo s.toks
  have hto : ω t = none := by
    induction q : ω t using Option.casesOn with
    | none => rfl
    | some m =>
      exfalso
      by_cases hb : t ∈ frs (env :: outer)
      · refine o_e (K.at hb) fun m' hm' => ?_
        refine o_eeeaa (S1.hold _ _ hm') fun o2 es ep g2 d2 _ => ?_
        rw [ht] at g2; (replace g2 := Option.some.inj g2; subst g2)
        rw [hd] at d2; contradiction
      · have : ∃ o, h.get? t = some o := by
          have hh := S.hold _ _ q
          induction m using OM.casesOn with
          | fz o => exact ⟨o, hh⟩
          | lst vs => obtain ⟨n, ho⟩ := hh; exact ⟨_, ho⟩
          | hid vs => obtain ⟨n, ho⟩ := hh; exact ⟨_, ho⟩
          | ns m => refine o_eeea hh fun o es ep ho _ => ?_; exact ⟨_, ho⟩
          | cell v => refine o_ea hh fun o ho _ => ?_; exact ⟨_, ho⟩
          | tab qs ps => exact ⟨_, hh⟩
          | ex o => exact ⟨_, hh⟩
          | it k => refine o_ea (ItK.Holds.obj hh) fun o ho _ => ?_; exact ⟨_, ho⟩
        obtain ⟨o2, ho2⟩ := this
        rw [(fun b o hb x => hideAll_get _ x hb) t o2 hb ho2] at x3; contradiction
  have F1 : Fly B0 ω h' e cls t .none := Fly.back (s := { s with heap := h }) S x1.1 hup has hlo x1.2.1 (show ω e = none from by
    induction q : ω e using Option.casesOn with
    | none => rfl
    | some m =>
      exfalso
      have : ∃ o, h.get? e = some o := by
        have hh := S.hold _ _ q
        induction m using OM.casesOn with
        | fz o => exact ⟨o, hh⟩
        | lst vs => obtain ⟨n, ho⟩ := hh; exact ⟨_, ho⟩
        | hid vs => obtain ⟨n, ho⟩ := hh; exact ⟨_, ho⟩
        | ns m => refine o_eeea hh fun o es ep ho _ => ?_; exact ⟨_, ho⟩
        | cell v => refine o_ea hh fun o ho _ => ?_; exact ⟨_, ho⟩
        | tab qs ps => exact ⟨_, hh⟩
        | ex o => exact ⟨_, hh⟩
        | it k => refine o_ea (ItK.Holds.obj hh) fun o ho _ => ?_; exact ⟨_, ho⟩
      obtain ⟨o, ho⟩ := this
      rw [hx.new] at ho; exact no_ns ho) (old_none S hx.new) x1.2.2.2.at
  have hte : t ≠ e := fun q => by
    obtain ⟨oe, vs, _, _, _, g1, _, g3, _⟩ := F1
    rw [q, g1] at ht; (replace ht := Option.some.inj ht; clear hc; subst ht); rw [hd] at g3; contradiction
  have S2 : MS B0 os (ω.set t (.fz o)) gs { s with heap := h' } := by
    refine { S1 with hold := fun b m e => ?_, lo := fun b m e hf => ?_, tabs := S1.tabs_set (fun o q => by rw [hto] at q; exact no_ns q) rfl }
    · unfold Own.set at e
      (revert e; refine ie rfl (fun _ e => ?_) fun _ e => ?_)
      · rename_i q; refine rr q ?_; (replace e := Option.some.inj e; subst e); exact ht
      · exact S1.hold _ _ e
    · unfold Own.set at e
      (revert e; refine ie rfl (fun _ e => ?_) fun _ e => ?_)
      · (replace e := Option.some.inj e; subst e); exact no_tf hf
      · exact S1.lo _ _ e hf
  refine H h' t o n hto hc hd S2 ?_
  obtain ⟨oe, vs, T, oT, ts, h1, h2, h3, h4, h5, h6, h7, h8, h9, h10, h11, h12⟩ := F1
  exact ⟨oe, vs, T, oT, ts, h1, h2, h3, h4, h5, h6, h7, h8, by refine rr (Own.set_ne _ _ (Ne.symm hte)) ?_; exact h9, by refine rr (Own.set_ne _ _ (fun q => by cases q; rw [h6] at ht; (replace ht := Option.some.inj ht; clear S2 hc; subst ht); rw [hd] at h7; contradiction)) ?_; exact h10, h11, h12⟩
end
end
end
set_option maxRecDepth 4000
section
noncomputable def Keeps (ω ω' : Own) : Prop := ∀ a m, ω a = some m -> (∀ vs, m ≠ .hid vs) -> ω' a = some m
theorem Keeps.refl (ω : Own) : Keeps ω ω := fun _ _ e _ => e
theorem Keeps.trans {ω1 ω2 ω3 : Own} (x : Keeps ω1 ω2) (y : Keeps ω2 ω3) : Keeps ω1 ω3 := fun a m e h => y a m (x a m e h) h
theorem Keeps.new {ω : Own} {a : Addr} (m : OM) (h : ω a = none) : Keeps ω (ω.set a m) := fun b o e _ => by
 refine rr (Own.set_ne _ _ (fun q => by subst q; rw [h] at e; exact no_ns e)) ?_; exact e
theorem Keeps.f {ω ω' : Own} (x : Keeps ω ω') : LeF ω ω' := fun a o e => x a _ e (fun _ q => by contradiction)
theorem Keeps.rel {ω ω' : Own} (x : Keeps ω ω') {σ : St} (R : RelS ω σ) : RelS ω' σ := fun a xs e => by
 refine o_aea (R a xs e) fun hz vs h1 h2 => ?_
 exact (i_aea hz vs (x _ _ h1 (fun _ q => by contradiction)) (h2.monoF x.f))
noncomputable abbrev KG := HV -> Own -> St -> Array GenState -> Prop
noncomputable abbrev KXG := String -> List Nat -> Own -> St -> Array GenState -> Prop
inductive ArgsAt (ω : Own) (t : Addr) (msg : List Nat) : Prop
 | mk : (msg.length <= sizeLine) -> ∀ o n tk, (ω t = some (.fz o)) -> (o.cls = .type "tuple") -> (o.data = .seq #[.str ⟨msg.toArray⟩ tk] n) -> ArgsAt ω t msg
theorem ArgsAt.monoF {ω ω' : Own} (x : LeF ω ω') {t : Addr} {msg : List Nat} (A : ArgsAt ω t msg) : ArgsAt ω' t msg := by
 obtain ⟨hz, o, n, tk, h1, h2, h3⟩ := A; exact ⟨hz, o, n, tk, x _ _ h1, h2, h3⟩
section
variable (B0 : Heap) (os : OsState)
inductive PostG (ω : Own) (K : KG) (v : Value) (s' : Shared) : Prop
 | mk : ∀ h ω' σ' gs', (Le ω ω') -> (MS B0 os ω' gs' s') -> (RelS ω' σ') -> (Rd ω' h v) -> (K h ω' σ' gs') -> PostG ω K v s'
inductive RaisG (ω : Own) (KX : KXG) (e : Value) (s' : Shared) : Prop
 | mk : ∀ a ω' σ' gs' cls msg t, (e = .ref a) -> (Le ω ω') -> (MS B0 os ω' gs' s') -> (RelS ω' σ') -> (Fly B0 ω' s'.heap a cls t .none) -> (ArgsAt ω' t msg) -> (KX cls msg ω' σ' gs') -> RaisG ω KX e s'
inductive PostF (env : Env) (ω : Own) (K : KG) (f : Flow) (s' : Shared) : Prop
 | mk : ∀ v h ω' σ' gs', (f = .ret v) -> (LeS env.locals ω ω') -> (MS B0 os ω' gs' s') -> (RelS ω' σ') -> (Rd ω' h v) -> (K h ω' σ' gs') -> PostF env ω K f s'
inductive ThrG (env : Env) (ω : Own) (KX : KXG) (e : Value) (s' : Shared) : Prop
 | mk : ∀ a ω' σ' gs' cls msg, (e = .ref a) -> (LeS env.locals ω ω') -> ((∃ m, ω' env.locals = some (.ns m))) -> (RelS ω' σ') -> (KX cls msg ω' σ' gs') -> (((MS B0 os ω' gs' s' /\ ∃ t fl, (fl = .none ∨ fl = rawInt env.locals) /\ Fly B0 ω' s'.heap a cls t fl /\ ArgsAt ω' t msg) ∨ (∃ h tk, MS B0 os ω' gs' { s' with heap := h } /\ Heap.MadeExcOf h s'.heap a (.type cls) [.str ⟨msg.toArray⟩ tk] /\ msg.length <= sizeLine))) -> ThrG env ω KX e s'
end
noncomputable def KStable (K : KG) : Prop := ∀ h ω ω' σ gs, Keeps ω ω' -> K h ω σ gs -> K h ω' σ gs
noncomputable def KXStable (K : KXG) : Prop := ∀ c m ω ω' σ gs, Keeps ω ω' -> K c m ω σ gs -> K c m ω' σ gs
section
variable {B0 : Heap} {os : OsState} {s s' : Shared}
theorem PostG.up {ω ω1 : Own} {K : KG} {v : Value} (p : PostG B0 os ω1 K v s) (l : Le ω ω1) : PostG B0 os ω K v s := by
 obtain ⟨h, ω', σ', gs', l', a, b, c, d⟩ := p; exact ⟨h, ω', σ', gs', l.trans l', a, b, c, d⟩
theorem RaisG.up {ω ω1 : Own} {K : KXG} {v : Value} (p : RaisG B0 os ω1 K v s) (l : Le ω ω1) : RaisG B0 os ω K v s := by
 obtain ⟨a, ω', σ', gs', c, m, t, e, l', r1, r2, r3, r4, r5⟩ := p; exact ⟨a, ω', σ', gs', c, m, t, e, l.trans l', r1, r2, r3, r4, r5⟩
theorem PostF.up {env : Env} {ω ω1 : Own} {K : KG} {f : Flow} (p : PostF B0 os env ω1 K f s) (l : LeS env.locals ω ω1) : PostF B0 os env ω K f s := by
 obtain ⟨v, h, ω', σ', gs', e, l', a, b, c, d⟩ := p; exact ⟨v, h, ω', σ', gs', e, l.trans l', a, b, c, d⟩
theorem ThrG.up {env : Env} {ω ω1 : Own} {K : KXG} {f : Value} (p : ThrG B0 os env ω1 K f s) (l : LeS env.locals ω ω1) : ThrG B0 os env ω K f s := by
 obtain ⟨a, ω', σ', gs', c, m, e, l', r1, r2, r3, r4⟩ := p; exact ⟨a, ω', σ', gs', c, m, e, l.trans l', r1, r2, r3, r4⟩
theorem RaisG.thr {env : Env} {ω : Own} {K : KXG} {e : Value} {m₀ : Str -> Option Value} (p : RaisG B0 os ω K e s) (hL : ω env.locals = some (.ns m₀)) : ThrG B0 os env ω K e s := by
 obtain ⟨a, ω', σ', gs', c, m, t, e, l', S, R, F, A, k⟩ := p
 exact ⟨a, ω', σ', gs', c, m, e, l'.s _, ⟨m₀, l' _ _ hL⟩, R, k, .inl (i_aeea S t .none (.inl rfl) ⟨F, A⟩)⟩
theorem Stk.deep {ω ω' : Own} {A : Around} {env : Env} {l : List Env} {L : Addr} (K : Stk ω A l) (x : LeS L ω ω') (hf : env.frame = some L) (hk : env.scope.kind ≠ .module) {m : Str -> Option Value} (h : ω' L = some (.ns m)) : Stk ω' (A.deeper env) (env :: l) := by
 refine ⟨Around.frames_deeper K.frames, fun e he => ?_⟩
 rcases List.mem_cons.mp he with rfl | he
 · exact (i_aeea hk L m hf h)
 · refine o_aeea (K.ok e he) fun k L' m' h1 h2 => ?_
   by_cases q : L' = L
   · exact ⟨k, L', m, h1, by refine rr q ?_; exact h⟩
   · exact ⟨k, L', m', h1, x _ _ q h2⟩
theorem Stk.step {ω ω' : Own} {A : Around} {l : List Env} {L : Addr} (K : Stk ω A l) (x : LeS L ω ω') {m : Str -> Option Value} (h : ω' L = some (.ns m)) : Stk ω' A l := by
 refine ⟨K.frames, fun e he => ?_⟩
 refine o_aeea (K.ok e he) fun k L' m' h1 h2 => ?_
 by_cases q : L' = L
 · exact ⟨k, L', m, h1, by refine rr q ?_; exact h⟩
 · exact ⟨k, L', m', h1, x _ _ q h2⟩
theorem leave_thrown {M : Model} {A : Around} {env : Env} {outer : List Env} {ω : Own} {KX : KXG} {e : Value} {Q : Unit -> Shared -> Prop} {E : Value -> Shared -> Prop} (hX : KXStable KX) (K : Stk ω A (env :: outer)) (hf : env.frame = some env.locals) (H : ThrG B0 os env ω KX e s)
 (hQ : ∀ s' a ω' σ' gs' cls msg t, e = .ref a -> LeS env.locals ω ω' -> MS B0 os ω' gs' s' -> RelS ω' σ' -> Fly B0 ω' s'.heap a cls t .none -> ArgsAt ω' t msg -> KX cls msg ω' σ' gs' -> Q () s') : wpAny M A (leaving env e) Q E s := by
 obtain ⟨a, ω', σ', gs', cls, msg, rfl, l, ⟨m, hm⟩, R, k, H⟩ := H
 have K' := K.step l hm
 rcases H with ⟨S, t, fl, hfl, F, hA⟩ | ⟨h, tk, S, hx, hz⟩
 · rcases hfl with rfl | rfl
   · exact leave_on S K' hf F fun h' S' F' => hQ _ a ω' σ' gs' cls msg t rfl l S' R F' hA k
   · exact leave_held S K' hf F fun h' S' F' => hQ _ a ω' σ' gs' cls msg t rfl l S' R F' hA k
 · refine leave_made S K' hf hx fun h' t o n hto hc hd S' F' => hQ _ a _ σ' gs' cls msg t rfl ?_ S' ((Keeps.new (.fz o) hto).rel R) F' ⟨hz, o, n, tk, Own.set_self .., hc, hd⟩ (hX _ _ _ _ _ _ (Keeps.new (.fz o) hto) k)
   exact l.trans ((Le.new _ hto).s _)
noncomputable def backO (σ : St) (ω ω' : Own) : Own := fun a => match ω a with
 | some (.lst vs) => if (σ a).isSome then ω' a else some (.lst vs)
 | _ => ω' a
variable {ω ω' : Own} {σ σ' : St} {gs gs' : Array GenState}
set_option tactic.hygienic true in
theorem back_keeps (l : Le (hideO σ ω) ω') : Keeps ω' (backO σ ω ω') := fun a m e h => by
 unfold backO
 split
 · rename_i vs hw
   refine ie rfl (fun _ => ?_) fun _ => ?_
   · exact e
   · rename_i hn
     have e1 := hide_lst (σ := σ) hw
     rw [if_neg hn] at e1
     have := l a _ e1
     simp only [e] at this
     (replace this := Option.some.inj this; clear e; subst this)
     exact absurd rfl (h _)
 · exact e
theorem back_le (l : Le (hideO σ ω) ω') : Le ω (backO σ ω ω') := fun a o e => by
 unfold backO
 refine e ▸ ?_
 induction o using OM.casesOn with
 | lst vs =>
   dsimp only
   refine ie rfl (fun _ => ?_) fun _ => ?_
   · rename_i hs
     have e1 := hide_lst (σ := σ) e
     rw [if_pos hs] at e1
     exact l a _ e1
   · exact ⟨vs, rfl⟩
 | _ => exact l a _ (by (refine rr (hide_else (by refine rr e ?_; intro us q2; cases q2)) ?_; exact rr e rfl))
set_option tactic.hygienic true in
theorem MS.backS (S : MS B0 os ω gs s) (l : Le (hideO σ ω) ω') (S' : MS B0 os ω' gs' s') : MS B0 os (backO σ ω ω') gs' s' := by
 refine { S' with hold := fun a o e => ?_, lo := fun a o e hf => ?_, tabs := fun P qs ps e => (S'.tabs P qs ps (by
  unfold backO at e
  split at e
  · (revert e; refine ie rfl (fun _ e => ?_) fun _ e => ?_)
    · exact e
    · exact absurd e nofun
  · exact e)).monoF (back_keeps l).f }
 · unfold backO at e
   split at e
   · rename_i vs hw
     (revert e; refine ie rfl (fun _ e => ?_) fun _ e => ?_)
     · exact S'.hold _ _ e
     · rename_i hn
       (replace e := Option.some.inj e; subst e)
       have e1 := hide_lst (σ := σ) hw
       rw [if_neg hn] at e1
       exact (S'.hold _ _ (l a _ e1) : (OM.hid vs).Holds s'.heap a)
   · exact S'.hold _ _ e
 · unfold backO at e
   split at e
   · rename_i vs hw
     (revert e; refine ie rfl (fun _ e => ?_) fun _ e => ?_)
     · exact S'.lo _ _ e hf
     · exact S.lo _ _ hw rfl
   · exact S'.lo _ _ e hf
set_option tactic.hygienic true in
theorem back_none (l : Le (hideO σ ω) ω') {a : Addr} (h : ω' a = none) : backO σ ω ω' a = none := by
 unfold backO
 split
 · rename_i vs hw
   refine ie rfl (fun _ => ?_) fun _ => ?_
   · exact h
   · rename_i hn
     have e1 := hide_lst (σ := σ) hw
     rw [if_neg hn] at e1
     have := l a _ e1
     simp only [h] at this
     exact no_ns this
 · exact h
theorem Fly.backF (l : Le (hideO σ ω) ω') {h : Heap} {e t : Addr} {cls : String} {fl : Value} (F : Fly B0 ω' h e cls t fl) : Fly B0 (backO σ ω ω') h e cls t fl := by
 obtain ⟨oe, vs, T, oT, ts, h1, h2, h3, h4, h5, h6, h7, h8, h9, h10, h11, h12⟩ := F
 exact ⟨oe, vs, T, oT, ts, h1, h2, h3, h4, h5, h6, h7, h8, back_none l h9, back_none l h10, h11, h12⟩
end
theorem stay_on {L : Addr} {ω ω1 ω2 : Own} (hnew : ω L = none) (other : ∀ b m, ω b = some m -> (∀ vs, m ≠ .lst vs) -> ω1 b = some m) (l : LeS L ω1 ω2) : LeW ω ω2 := fun b m e h => by
 have := l b m (fun q => by clear l; subst q; rw [hnew] at e; exact no_ns e) (other b m e (fun vs q => by clear e; subst q; exact no_ft h))
 clear e; cases m <;> first | exact this | (exact Bool.noConfusion (show false = true from h))
noncomputable def bindHF (ρf : Loc) : List Str -> List HV -> Loc
 | x :: xs, h :: hs => upd (bindHF ρf xs hs) x h
 | _, _ => ρf
theorem bindHF_at (ρf : Loc) : ∀ (ps : List Str) (hs : List HV) (x : Str), bindHF ρf ps hs x = match (ps.zip hs).lookup x with
    | some h => some h
    | none => ρf x
  | [], _, x => by rfl
  | _ :: _, [], x => by rfl
  | y :: ps, h :: hs, x => by
    (refine rr List.zip_cons_cons ?_; refine rr List.lookup_cons ?_)
    show upd (bindHF ρf ps hs) y h x = _
    unfold upd
    by_cases e : x = y
    · subst e; simp
    · have : (x == y) = false := beq_eq_false_iff_ne.mpr e
      (refine rr this ?_; refine rr (if_neg e) ?_; exact rr (bindHF_at ρf ps hs x) rfl)
structure DefOkX (fd : FuncData) (ps : List Str) (body : List Stmt) : Prop where
 body : fd.body = .stmts body
 glob : fd.globals = mainGlobals
 blt : fd.builtins = builtinsNs
 kind : fd.scope.kind = .function
 co : fd.scope.isCoroutine = false
 gen : fd.scope.isGenerator = false
 nd : ps.Nodup
 cells : ∀ x ∈ fd.scope.names, x.2 ≠ .cell
 kinds : ∀ x ∈ ps, fd.scope.names.lookup x = some .local
 dbg : ("__debug__" : Str) ∉ ps /\ fd.scope.names.lookup ("__debug__" : Str) ≠ some .globalImplicit /\ ("__classdict__" : Str) ∉ ps /\ fd.scope.names.lookup ("__debug__" : Str) ≠ some .free /\ fd.scope.names.lookup ("__classdict__" : Str) ≠ some .free
noncomputable def FreeOk (ω : Own) (sc : Scope) (cl : List (Str × Addr)) (ρf : Loc) : Prop := ∀ x h, ρf x = some h -> sc.names.lookup x = some .free /\ ∃ c v, cl.lookup x = some c /\ ω c = some (.cell (some v)) /\ Rd ω h v
theorem FreeOk.none (ω : Own) (sc : Scope) (cl : List (Str × Addr)) : FreeOk ω sc cl (fun _ => .none) := fun _ _ e => by exact no_ns e
section
variable {prog : Program} {w : World} {B0 : Heap} {os : OsState} {gs : Array GenState} {mg mb : Str -> Option Value} {n : Nat}
theorem lookup_mem_nd {x : Str} {v : Value} : ∀ {cs : List (Str × Value)}, (cs.map (·.1)).Nodup -> (x, v) ∈ cs -> cs.lookup x = some v
  | (y, u) :: cs, hnd, hm => by
    rw [List.map_cons, List.nodup_cons] at hnd
    refine rr List.lookup_cons ?_
    rcases List.mem_cons.mp hm with e | hm2
    · (injection e with e h9; refine rl e ?_; refine rr h9 ?_); simp
    · have : (x == y) = false := by
        rw [beq_eq_false_iff_ne]; intro q
        exact hnd.1 (List.mem_map.mpr (i_ea ((x, v)) hm2 q))
      refine rr this ?_
      exact lookup_mem_nd hnd.2 hm2
theorem rev_lookup {x : Str} {v : Value} : ∀ {l : List (Str × Value)}, (l.map (·.1)).Nodup -> l.lookup x = some v -> l.reverse.lookup x = some v := by
 intro l hn h
 exact lookup_mem_nd (show (l.reverse.map (·.1)).Nodup from by refine rr List.map_reverse ?_; exact hn.perm (List.reverse_perm _).symm) (List.mem_reverse.mpr (mem_of_lookup h))
theorem zip_keys : ∀ (ps : List Str) (vs : List Value), ps.Nodup -> ((ps.zip vs).map (·.1)).Nodup
 | [], _, _ => by trivial
 | _ :: _, [], _ => by simp
 | p :: ps, v :: vs, h => by
  refine o_a (List.nodup_cons.mp h) fun h1 h2 => ?_
  (refine rr List.zip_cons_cons ?_; refine rr List.map_cons ?_; rw [List.nodup_cons])
  refine ⟨fun q => h1 ?_, zip_keys ps vs h2⟩
  refine o_ea (List.mem_map.mp q) fun y hy e => ?_
  refine o_a (List.of_mem_zip (a := y.1) (b := y.2) hy) fun hy1 _ => ?_
  simp only [e] at hy1; exact hy1
theorem zip_rd {ω : Own} {x : Str} {h : HV} : ∀ {ps : List Str} {hs : List HV} {vs : List Value}, RdL ω hs vs -> (ps.zip hs).lookup x = some h -> ∃ v, (ps.zip vs).lookup x = some v /\ Rd ω h v
 | [], _, _, _, e => by simp only [List.zip_nil_left] at e; exact no_ns e
 | _ :: _, [], _, _, e => by exact no_ns e
 | y :: ps, k :: ks, vs, r, e => by
  simp only [RdL] at r
  (refine o_eeaa r fun v q z82 h1 h2 => ?_; clear r; refine rr z82 ?_)
  simp only [List.zip_cons_cons, List.lookup_cons] at e ⊢
  split at e
  · (replace e := Option.some.inj e; subst e); exact (i_ea v rfl h1)
  · exact zip_rd h2 e
set_option tactic.hygienic true in
theorem defX_env {ω : Own} {fd : FuncData} {ps : List Str} {body : List Stmt} {gt ρf : Loc} {L a : Addr} {hs : List HV} {vs : List Value} (D : DefOkX fd ps body) (hg : GtOk mg mb gt) (r : RdL ω hs vs) (hf : FreeOk ω fd.scope fd.closure ρf)
 (hL : ω L = some (.ns fun x => (ps.zip vs).reverse.lookup x)) : EnvOk mg mb (callEnv fd L a) ω (bindHF ρf ps hs) (GofDef fd.scope gt) := by
 have kd : ∀ x, (callEnv fd L a).kindOf x = fd.scope.names.lookup x := fun _ => rfl
 have un : ∀ x h, bindHF ρf ps hs x = some h -> (x ∈ ps /\ (ps.zip hs).lookup x = some h) ∨ (ρf x = some h) := fun x h e => by
  rw [bindHF_at] at e
  split at e
  · rename_i h' q; (replace e := Option.some.inj e; subst e); exact .inl ⟨(List.of_mem_zip (mem_of_lookup q)).1, q⟩
  · exact .inr e
 refine ⟨D.kind, D.glob, D.blt, (i_ea _ hL (fun x h e k => ?_)), fun x h e k => ?_, fun x h e => ?_, fun x h e => ?_, fun x h e => ?_, fun x e => ?_, fun x e => ?_, (i_aa ?_ ?_ ?_), fun x h e => ?_, by unfold GofDef; dsimp only; exact if_pos rfl⟩
 · refine Or.elim (un x h e) (fun z105 => ?_) fun q => ?_
   · refine o_ea (zip_rd r z105.2) fun v h1 h2 => ?_
     exact (i_ea v (rev_lookup (zip_keys ps vs D.nd) h1) h2)
   · have := (hf x h q).1
     rw [kd, this] at k; contradiction
 · rcases un x h e with ⟨hp, q⟩ | q
   · rw [kd, D.kinds x hp] at k; rcases k with k | k <;> contradiction
   · refine o_aeeaa (hf x h q) fun _ c v h1 h2 h3 => ?_
     exact (i_eeaa c v h1 h2 h3)
 · rcases un x h e with ⟨hp, q⟩ | q
   · exact .inl (D.kinds x hp)
   · exact .inr (.inr (hf x h q).1)
 · unfold GofDef at e; dsimp only at e
   (revert e; refine ie rfl (fun _ e => ?_) fun _ e => ?_)
   · rename_i q; exact q
   · exact no_ns e
 · unfold GofDef at e; dsimp only at e
   (revert e; refine ie rfl (fun _ e => ?_) fun _ e => ?_)
   · exact hg x h e
   · exact no_ns e
 · have q : fd.scope.names.lookup x = some .cell := by simpa [GofDef] using e
   exact absurd rfl (D.cells _ (mem_of_lookup q))
 · have q : fd.scope.names.lookup x = some .local := by simpa [GofDef] using e
   exact q
 · cases q : bindHF ρf ps hs ("__debug__" : Str) with
   | none => rfl
   | some h =>
     rcases un _ h q with ⟨hp, _⟩ | q
     · exact absurd hp D.dbg.1
     · exact absurd (hf _ h q).1 D.dbg.2.2.2.1
 · exact if_neg D.dbg.2.1
 · cases q : bindHF ρf ps hs ("__classdict__" : Str) with
   | none => rfl
   | some h =>
     rcases un _ h q with ⟨hp, _⟩ | q
     · exact absurd hp D.dbg.2.2.1
     · exact absurd (hf _ h q).1 D.dbg.2.2.2.2
 · unfold GofDef at e; dsimp only at e
   (revert e; refine ie rfl (fun _ e => ?_) fun _ e => ?_)
   · exact no_ns e
   · exact hg x h e
theorem call_x (T : TopB B0 mg mb) {fd : FuncData} {ps : List Str} {body : List Stmt} {gt ρf : Loc} {a : Addr} {o : Obj} (D : DefOkX fd ps body) (hg : GtOk mg mb gt) {A : Around} {l : List Env} {ω : Own} {s : Shared} {σ : St} {K : KG} {KX : KXG} {hs : List HV} {vs args : List Value}
 (hX : KXStable KX) (hK : KStable K) (Rm : Room (n + 1) A) (Ks : Stk ω A l) (S : MS B0 os ω gs s) (R : RelS ω σ) (r : RdL ω hs vs) (hlen : hs.length = ps.length) (hbind : BindsTo s fd ⟨args, []⟩ (ps.zip vs)) (ho : s.heap.get? a = some o) (hd : o.data = .func fd) (hcd : s.heap.CodeRec fd.code fd.qualname) (hfr : FreeOk ω fd.scope fd.closure ρf)
 (H : ∀ (env : Env) (A' : Around) (ω1 : Own) (s₁ : Shared), env.frame = some env.locals -> EnvOk mg mb env ω1 (bindHF ρf ps hs) (GofDef fd.scope gt) -> Room n A' -> Stk ω1 A' (env :: l) -> MS B0 os ω1 gs s₁ -> RelS ω1 σ -> ω env.locals = none -> (∀ b m, ω b = some m -> (∀ vs, m ≠ .lst vs) -> ω1 b = some m) ->
  wpAny (model prog w) A' (execs body env) (PostF B0 os env ω1 K) (ThrG B0 os env ω1 KX) s₁) :
 wpAny (model prog w) A (call (.ref a) args []) (PostG B0 os ω K) (RaisG B0 os ω KX) s := by
 refine wpAny_call (codeAny_call_def Rm.lim ho hd (T.lim S) hcd D.body hbind D.cells ?_ ?_ D.co D.gen D.kind)
 · intro x hx
   exact D.kinds x.1 (List.of_mem_zip (a := x.1) (b := x.2) hx).1
 · intro h₀ hns hk
   have S1 : MS B0 os ω gs { s with heap := h₀, toks := s.toks + (ps.zip vs).length } := S.keeps hk _
   have hun : hideO σ ω s.heap.objs.size = none := by
    rw [hide_none]
    induction q : ω s.heap.objs.size with
    | none => rfl
    | some m => exact absurd (S.hold _ _ q).lt (Nat.lt_irrefl _)
   have S₃ := (S1.hide σ).adopt (a := s.heap.objs.size) (m := .ns _) hns S.size (fun o q => by rw [hun] at q; exact no_ns q)
   have l₃ : Le (hideO σ ω) ((hideO σ ω).set s.heap.objs.size (.ns fun x => (ps.zip vs).reverse.lookup x)) := Le.new _ hun
   have R₃ := R.hide.new (m := .ns fun x => (ps.zip vs).reverse.lookup x) hun
   have fl : LeF ω ((hideO σ ω).set s.heap.objs.size (.ns fun x => (ps.zip vs).reverse.lookup x)) := hide_f.trans l₃.f
   have other : ∀ b m, ω b = some m -> (∀ vs, m ≠ .lst vs) -> ((hideO σ ω).set s.heap.objs.size (.ns fun x => (ps.zip vs).reverse.lookup x)) b = some m := fun b m e hm => by
    (refine rr (Own.set_ne _ _ (fun q => by subst q; have := hide_none.mp hun; rw [this] at e; exact no_ns e)) ?_; refine rr (hide_else (fun us q => by rw [e] at q; (replace q := Option.some.inj q; clear e; subst q); exact hm us rfl)) ?_; exact rr e rfl)
   have O := defX_env (L := s.heap.objs.size) (a := a) D hg (r.monoF fl) (fun x h e => by
    refine o_aeeaa (hfr x h e) fun k c v h1 h2 h3 => ?_
    exact (i_aeea k c v h1 ⟨other _ _ h2 (fun _ q => by contradiction), h3.monoF fl⟩)) (Own.set_self ..)
   have Ks' : Stk ((hideO σ ω).set s.heap.objs.size (.ns fun x => (ps.zip vs).reverse.lookup x)) (A.deeper (callEnv fd s.heap.objs.size a)) (callEnv fd s.heap.objs.size a :: l) := by
    refine ⟨Around.frames_deeper Ks.frames, fun e he => ?_⟩
    rcases List.mem_cons.mp he with rfl | he
    · exact (i_aeea (by refine rr O.kind ?_; decide) _ _ rfl (Own.set_self ..))
    · refine o_aeea (Ks.ok e he) fun k L' m' h1 h2 => ?_
      exact (i_aeea k L' m' h1 (other _ _ h2 (fun _ q => by contradiction)))
   refine wpAny_mono (H (callEnv fd s.heap.objs.size a) _ _ _ rfl O Rm.deeper Ks' S₃ R₃ (hide_none.mp hun) other) (fun f s' q => ?_) fun e s' q => ?_
   · obtain ⟨v, h, ω', σ', gs', rfl, l', S', R', rv, k⟩ := q
     have l6 : Le (hideO σ ω) ω' := ((l₃.s s.heap.objs.size).trans l').le hun
     exact ⟨h, backO σ ω ω', σ', gs', back_le l6, S.backS l6 S', (back_keeps l6).rel R', rv.monoF (back_keeps l6).f, hK _ _ _ _ _ (back_keeps l6) k⟩
   · refine leave_thrown hX Ks' rfl q fun s'' x ω' σ' gs' cls msg t e' l' S' R' F hA k => ?_
     have l6 : Le (hideO σ ω) ω' := ((l₃.s s.heap.objs.size).trans l').le hun
     exact ⟨x, backO σ ω ω', σ', gs', cls, msg, t, e', back_le l6, S.backS l6 S', (back_keeps l6).rel R', F.backF l6, hA.monoF (back_keeps l6).f, hX _ _ _ _ _ _ (back_keeps l6) k⟩
end
end
set_option maxRecDepth 8000
section
theorem fn_slot_get : Slot "function" "__getattribute__" "object.__getattribute__" :=
 .of (owner := "object") (n := "__getattribute__") (by kernel_rfl) (by decide +kernel) (by decide +kernel) (by decide +kernel)
  (by first | exact .inl (by decide +kernel) | exact .inr (by decide +kernel)) (by kernel_rfl)
theorem fn_entry_get : entryFor table "object.__getattribute__" = some Builtin.«object.__getattribute__» := entryFor_of_tree (by kernel_rfl)
theorem fn_args_get (a b : Value) : argsOk "object.__getattribute__" ⟨[a, b], []⟩ := by kernel_rfl
theorem fn_no_getattr : typeLookup (.type "function") "__getattr__" = pure none := by kernel_rfl
theorem fn_no_read : typeLookup (.type "function") "read" = pure none := by kernel_rfl
theorem fn_no_place : typeLookup (.type "function") "place" = pure none := by kernel_rfl
section
variable {prog : Program} {w : World} {A : Around} {E : Value -> Shared -> Prop} {s : Shared}
set_option maxHeartbeats 2000000 in
theorem fn_getAttr {a D : Addr} {fd : FuncData} {sl : Array (Option Value)} {m : Str -> Option Value} {name : Str} {v : Addr} {b : Bool} {Q : Value -> Shared -> Prop} (hx : s.heap.get? a = some { cls := .type "function", dict := some D, data := .func fd, slots := sl })
 (hD : s.heap.Ns D m) (hm : m name = some (.ref v)) (hmiss : typeLookup (.type "function") name = pure none) (h : ∀ tk, Q (.ref v) { s with toks := tk }) : wpAny (model prog w) A (getAttr (.ref a) name b) Q E s := by
 obtain ⟨hp, g, d, tk, os⟩ := s
 have hT : ∀ tk', (⟨hp, g, d, tk', os⟩ : Shared).TypeIs (.ref a) "function" := fun _ => ⟨_, hx, rfl⟩
 have f3 := fn_slot_get.lookup
 have f4 := fn_slot_get.bind (.ref a)
 have f5 := fn_no_getattr
 have ns : ∀ {tk'} {A : Around} {E} {Q : Option Value -> Shared -> Prop}, Q (some (.ref v)) ⟨hp, g, d, tk', os⟩ -> wpAny (model prog w) A (nsGet D name) Q E ⟨hp, g, d, tk', os⟩ := fun hq => wpAny_nsGet hD (hm ▸ hq)
 unfold getAttr getAttrBy
 repeat (any_goals (first | assumption | exact hT _ | refine ns ?_ | ((with_reducible show wpAny _ _ (call (Value.builtin "object.__getattribute__") _ _) _ _ _); refine wpAny_call_entry fn_slot_get (hT _) fn_entry_get ?kk (fn_args_get _ _)) | wp_step))
 rw [if_neg (by cases b <;> decide)]
 repeat (any_goals (first | assumption | exact hT _ | refine ns ?_ | ((with_reducible show wpAny _ _ (call (Value.builtin "object.__getattribute__") _ _) _ _ _); refine wpAny_call_entry fn_slot_get (hT _) fn_entry_get ?kk (fn_args_get _ _)) | wp_step))
 exact ⟨_, rfl, wpAny_pure (h _)⟩
end
end
set_option maxRecDepth 8000
section
section
variable {prog : Program} {w : World} {A : Around} {E : Value -> Shared -> Prop} {s : Shared}
theorem can_get : (Manifest.canonical "object.__getattribute__" != "object.__getattribute__") = false := by decide +kernel
theorem fn_getMethod {a D : Addr} {fd : FuncData} {sl : Array (Option Value)} {m : Str -> Option Value} {name : Str} {v : Addr} {pl : Sem Bool} {Q : Value × List Value -> Shared -> Prop} (hx : s.heap.get? a = some { cls := .type "function", dict := some D, data := .func fd, slots := sl })
 (hD : s.heap.Ns D m) (hm : m name = some (.ref v)) (hmiss : typeLookup (.type "function") name = pure none) (h : ∀ tk, Q (.ref v, []) { s with toks := tk }) : wpAny (model prog w) A (getMethod (.ref a) name pl) Q E s := by
 have hT : s.TypeIs (.ref a) "function" := ⟨_, hx, rfl⟩
 unfold getMethod
 refine wpAny_bind (wpAny_specialOf hT fn_slot_get.lookup ?_)
 refine wpAny_bind (wpAny_specialOf hT fn_no_getattr ?_)
 refine wpAny_bind (wpAny_specialOf hT hmiss ?_)
 try dsimp only
 exact wpAny_bind (fn_getAttr hx hD hm hmiss fun tk => wpAny_pure (h tk))
noncomputable def NsZ (h : Heap) (a : Addr) (m : Str -> Option Value) (k : Nat) : Prop := ∃ o es ep, h.get? a = some o /\ o.data = .dict es ep /\ StrKeys es /\ (∀ name, nsFind es name = m name) /\ es.size <= k /\ o.cls = .type "dict"
theorem NsZ.ns {h : Heap} {a : Addr} {m : Str -> Option Value} {k : Nat} (x : NsZ h a m k) : h.Ns a m := by
 (refine o_eeeaaa x fun o es ep h1 h2 h3 z466 => ?_; refine o_a z466 fun h4 _ => ?_); exact (i_eeeaaa o es ep h1 h2 h3 h4)
theorem nsSetZ {M : Model} {a : Addr} {m : Str -> Option Value} {k : Nat} {name : Str} {v : Value} {Q : Unit -> Shared -> Prop} (hn : NsZ s.heap a m k)
 (hQ : ∀ h', NsZ h' a (fun x => if x = name then some v else m x) (k + 1) -> Heap.SameBut a s.heap h' -> Q () { s with heap := h', toks := s.toks + 1 }) : wpAny M A (nsSet a name v) Q E s := fun Γ p _ => by
 refine o_eeeaaaaa hn fun o es ep ho hd hk hm hz hc => ?_
 show Sem.wp M Γ (nsSet a name v) _ _ p s
 simp -iota only [nsSet, strHash, Sem.wp_bind', Sem.wp_cmd_ask, Sem.wp_pure', Sem.wp_cmd_mkText]
 rw [Sem.wp_loadPart_of M Γ _ p { s with toks := s.toks + 1 } (o := o) _ ho]
 simp only [hd, aRefKeyMayBeTheName_eq, aRefKeyMayBeTheNameByArray, (show es.any (·.refKey) = false from by
  rw [Array.any_eq_false']; intro e he; refine o_ee (hk e he) fun n t h => ?_; simp [DictEntry.refKey, h]), Bool.and_false, Bool.false_eq_true, if_false, Sem.wp_cmd_updatePart]
 refine ⟨by refine rr ho ?_; rfl, hQ _ ?_ (Heap.SameBut.update ..)⟩
 obtain ⟨c, d, dt, sl⟩ := o
 subst hd
 induction hi : es.findIdx? (·.key.isStr name) with
 | some i =>
   refine (i_eeeaaaaa _ _ ep (Heap.get?_update_self _ ho (by simp only [Obj.putName_eq, Obj.putNameByArray, hi]; rfl)) (by simp only [Obj.putName_eq, Obj.putNameByArray, hi]; rfl) (hk.modify _ _) (fun x => ?_) (by refine rr Array.size_modify ?_; exact Nat.le_succ_of_le ‹_›) (by simp only [Obj.putName_eq, Obj.putNameByArray, hi]; exact hc))
   show _ = if x = name then some v else m x
   refine rl (hm ..) ?_; exact findBy_modify (fun n v => v.isStr n) Value.isStr_inj es name x v i hi
 | none =>
   refine (i_eeeaaaaa _ _ (ep + 1) (Heap.get?_update_self _ ho (by simp only [Obj.putName_eq, Obj.putNameByArray, hi]; rfl)) (by simp only [Obj.putName_eq, Obj.putNameByArray, hi]; rfl) (hk.push _ _ _ _) (fun x => ?_) (by refine rr (Array.size_push ..) ?_; exact ar284 hz) (by simp only [Obj.putName_eq, Obj.putNameByArray, hi]; exact hc))
   show _ = if x = name then some v else m x
   refine rl (hm ..) ?_
   exact findBy_push (fun n v => v.isStr n) es name x _ _ v (fun y => by
    show (name == y) = decide (y = name)
    by_cases h : y = name
    · refine rr h ?_; rfl
    · have : ¬ name = y := fun e => h e.symm
      simp [h, this]) hi
end
end
set_option maxRecDepth 8000
section
theorem fn_slot_set : Slot "function" "__setattr__" "object.__setattr__" :=
 .of (owner := "object") (n := "__setattr__") (by kernel_rfl) (by decide +kernel) (by decide +kernel) (by decide +kernel)
  (by first | exact .inl (by decide +kernel) | exact .inr (by decide +kernel)) (by kernel_rfl)
theorem fn_entry_set : entryFor table "object.__setattr__" = some Builtin.«object.__setattr__» := entryFor_of_tree (by kernel_rfl)
theorem fn_args_set (a b c : Value) : argsOk "object.__setattr__" ⟨[a, b, c], []⟩ := by kernel_rfl
theorem fn_has_dict : typeHasDict (.type "function") = true := by decide +kernel
theorem fn_mro : mroOf (.type "function") = pure [.type "function", .type "object"] := by kernel_rfl
section
variable {prog : Program} {w : World} {A : Around} {E : Value -> Shared -> Prop} {s : Shared}
set_option maxHeartbeats 2000000 in
theorem fn_refuse {a : Addr} {Q : Unit -> Shared -> Prop} (hT : s.TypeIs (.ref a) "function") (h : Q () s) : wpAny (model prog w) A (Builtin.ObjectAttr.refuseIfOverridden (.ref a) "__setattr__") Q E s := by
 have f1 := fn_mro
 dsimp only [Builtin.ObjectAttr.refuseIfOverridden]
 repeat (any_goals (first | assumption | wp_step))
end
end
set_option maxRecDepth 8000
section
section
variable {prog : Program} {w : World} {A : Around} {E : Value -> Shared -> Prop} {s : Shared}
theorem fn_final : finalisedInACycleAlone "function" = false := by decide +kernel
set_option maxHeartbeats 2000000 in
theorem fn_setAttr_new {a : Addr} {fd : FuncData} {sl : Array (Option Value)} {name : Str} {v : Value} {Q : Unit -> Shared -> Prop} (hx : s.heap.get? a = some { cls := .type "function", dict := none, data := .func fd, slots := sl })
 (hmiss : typeLookup (.type "function") name = pure none)
 (h : ∀ h' tk, h'.get? a = some { cls := .type "function", dict := some s.heap.objs.size, data := .func fd, slots := sl } -> NsZ h' s.heap.objs.size (fun x => if x = name then some v else none) 1 -> (∀ b o, b ≠ a -> s.heap.get? b = some o -> h'.get? b = some o) -> Q () { s with heap := h', toks := tk }) :
 wpAny (model prog w) A (setAttr (.ref a) name v) Q E s := by
 obtain ⟨hp, g, d, tk, os⟩ := s
 have hT : ∀ tk', (⟨hp, g, d, tk', os⟩ : Shared).TypeIs (.ref a) "function" := fun _ => ⟨_, hx, rfl⟩
 have f3 := fn_slot_set.lookup
 have f4 := fn_slot_set.bind (.ref a)
 have f5 := fn_final
 have f6 := fn_has_dict
 have hax : a < hp.objs.size := Heap.lt_size hx
 have z : NsZ ((hp.push { cls := .type "dict", data := .dict #[] }).update a fun o => { o with dict := some hp.objs.size }) hp.objs.size (fun _ => none) 0 := by
  refine ⟨_, #[], 0, (Heap.get?_update_other _ _ (Nat.ne_of_lt hax)).trans (Heap.get?_push_size _ rfl), rfl, fun e he => by simp at he, fun _ => rfl, Nat.le_refl _, rfl⟩
 have hx2 : ((hp.push { cls := .type "dict", data := .dict #[] }).update a fun o => { o with dict := some hp.objs.size }).get? a = some { cls := .type "function", dict := some hp.objs.size, data := .func fd, slots := sl } := Heap.get?_update_self _ (Heap.get?_push_of_some _ hx) rfl
 unfold setAttr
 repeat (any_goals (first | assumption | exact hT _ | refine fn_refuse (hT _) ?_ | ((with_reducible show wpAny _ _ (call (Value.builtin "object.__setattr__") _ _) _ _ _); refine wpAny_call_entry fn_slot_set (hT _) fn_entry_set ?kk (fn_args_set _ _ _)) | ((with_reducible show wpAny _ _ (nsSet _ _ _) _ _ _); refine nsSetZ z (fun h' hn hs => ?kset)) | wp_step))
 have z2 := hn.ns
 refine o_eeeaaaaa (id hn) fun o es ep g1 g2 g3 g4 g5 g6 => ?_
 refine wpAny_loadPart (o := o) g1 ?_
 rw [g2, pastItsLine_dict (by have := line_is; exact ar286 g5)]
 repeat (any_goals (first | assumption | wp_step))
 refine ⟨_, rfl, ?_⟩
 repeat (any_goals (first | assumption | wp_step))
 refine h h' _ ((hs.2 a (Nat.ne_of_lt hax)).trans hx2) hn fun b o hb e => ?_
 have hbs : b ≠ hp.objs.size := Nat.ne_of_lt (Heap.lt_size e)
 (refine rr (hs.2 b hbs) ?_; refine rr (Heap.get?_update_other _ _ (Ne.symm hb)) ?_)
 exact Heap.get?_push_of_some _ e
end
end
set_option maxRecDepth 8000
section
section
variable {prog : Program} {w : World} {A : Around} {E : Value -> Shared -> Prop} {s : Shared}
set_option maxHeartbeats 2000000 in
theorem fn_setAttr_old {a D : Addr} {fd : FuncData} {sl : Array (Option Value)} {name : Str} {v : Value} {m : Str -> Option Value} {k : Nat} {Q : Unit -> Shared -> Prop} (hx : s.heap.get? a = some { cls := .type "function", dict := some D, data := .func fd, slots := sl })
 (hD : NsZ s.heap D m k) (hk : k <= 1000) (hmiss : typeLookup (.type "function") name = pure none)
 (h : ∀ h' tk, NsZ h' D (fun x => if x = name then some v else m x) (k + 1) -> Heap.SameBut D s.heap h' -> Q () { s with heap := h', toks := tk }) :
 wpAny (model prog w) A (setAttr (.ref a) name v) Q E s := by
 obtain ⟨hp, g, d, tk, os⟩ := s
 have hT : ∀ tk', (⟨hp, g, d, tk', os⟩ : Shared).TypeIs (.ref a) "function" := fun _ => ⟨_, hx, rfl⟩
 have f3 := fn_slot_set.lookup
 have f4 := fn_slot_set.bind (.ref a)
 have f5 := fn_final
 have f6 := fn_has_dict
 unfold setAttr
 repeat (any_goals (first | assumption | exact hT _ | refine fn_refuse (hT _) ?_ | ((with_reducible show wpAny _ _ (call (Value.builtin "object.__setattr__") _ _) _ _ _); refine wpAny_call_entry fn_slot_set (hT _) fn_entry_set ?kk (fn_args_set _ _ _)) | ((with_reducible show wpAny _ _ (nsSet _ _ _) _ _ _); refine nsSetZ hD (fun h' hn hs => ?kset)) | wp_step))
 refine o_eeeaaaaa (id hn) fun o es ep g1 g2 g3 g4 g5 g6 => ?_
 refine wpAny_loadPart (o := o) g1 ?_
 (refine rr g2 ?_; refine rr (pastItsLine_dict (by have := line_is; exact ar287 this g5 hk)) ?_)
 repeat (any_goals (first | assumption | wp_step))
 refine ⟨_, rfl, ?_⟩
 repeat (any_goals (first | assumption | wp_step))
 exact h h' _ hn hs
end
end
section
open PyProof.Rows
section
variable {prog : Program} {w : World} {A : Around} {E : Value -> Shared -> Prop} {s : Shared}
set_option maxHeartbeats 2000000 in
theorem mod_meets {b : Addr} {n m : Int} {t u v : Tok} (hn0 : 0 <= n) (hn1 : n < 10 ^ 10) (hm0 : 0 <= m) (hm1 : m < 10 ^ 10) : Meets (Builtin.«str.__mod__» ⟨[.str (⟨#[101, 120, 112, 101, 99, 116, 101, 100, 32, 37, 100, 32, 98, 121, 116, 101, 115, 32, 105, 110, 32, 97, 32, 115, 116, 114, 105, 110, 103, 49, 44, 32, 98, 117, 116, 32, 111, 110, 108, 121, 32, 37, 100, 32, 114, 101, 109, 97, 105, 110]⟩ : Str) t, .ref b], []⟩) (fun _ R s => IsTup s.heap b #[.int n u, .int m v] /\ ∀ t' k, R (.ok (.ret (.str ((((Str.ofString "expected " ++ Str.ofString (toString n)) ++ Str.ofString " bytes in a string1, but only ") ++ Str.ofString (toString m)) ++ Str.ofString " remain") t'))) { s with toks := k }) := by
 apply KPt.meets_tup
 intro _ _ _ _ _ _ kptH _
 obtain ⟨kptO, kptG, kptC, kptN, kptD⟩ := kptH
 rw [KPt.entry_is_r]
 unfold Builtin.Str.percentFormat
 refine wpAny_bind (wpAny_isInstance (T := "tuple") ⟨kptO, kptG, kptC⟩ KPt.sub_tt ?_)
 refine wpAny_bind (KPt.asStr_ref kptG kptD ?_)
 refine wpAny_bind (KPt.fills_ref ⟨kptO, kptG, kptC⟩ ?_)
 intro _
 kpc_if
 refine wpAny_bind (wpAny_seqItems kptG kptD ?_)
 refine wpAny_bind (wpAny_pure ?_)
 refine wpAny_bind ?_
 rw [KPc.range_list]
 refine KPc.start fun _ _ => ?_
 repeat (refine KPc.turn ?_; kpc_check; first
  | (refine wpAny_pure ?_; kpt_piece)
  | (with_unfolding_all refine wpAny_pure ?_; kpt_piece)
  | ((repeat kpc_if); refine wpAny_pure ?_; kpt_piece)
  | (refine wpAny_bind ?_; refine wpAny_holding ?_; (repeat kpc_if); kpt_conv; refine wpAny_pure ?_; refine wpAny_pure ?_; kpt_piece)
  | ((repeat kpc_if); refine wpAny_bind ?_; refine wpAny_holding ?_; (repeat kpc_if); kpt_conv; refine wpAny_pure ?_; refine wpAny_pure ?_; kpt_piece)
  | ((repeat kpc_if); kpc_close))
theorem fmt_eq : Str.ofString "expected %d bytes in a string1, but only %d remain" = (⟨#[101, 120, 112, 101, 99, 116, 101, 100, 32, 37, 100, 32, 98, 121, 116, 101, 115, 32, 105, 110, 32, 97, 32, 115, 116, 114, 105, 110, 103, 49, 44, 32, 98, 117, 116, 32, 111, 110, 108, 121, 32, 37, 100, 32, 114, 101, 109, 97, 105, 110]⟩ : Str) := by decide +kernel
theorem mod_two {b : Addr} {n m : Int} {t u v : Tok} {Q : Value -> Shared -> Prop} (hn0 : 0 <= n) (hn1 : n < 10 ^ 10) (hm0 : 0 <= m) (hm1 : m < 10 ^ 10) (ht : IsTup s.heap b #[.int n u, .int m v])
 (h : ∀ t' k, Q (.str ((((Str.ofString "expected " ++ Str.ofString (toString n)) ++ Str.ofString " bytes in a string1, but only ") ++ Str.ofString (toString m)) ++ Str.ofString " remain") t') { s with toks := k }) :
 wpAny (model prog w) A (binaryOp .Mod (.str (Str.ofString "expected %d bytes in a string1, but only %d remain") t) (.ref b)) Q E s := by
 have hT : s.TypeIs (.ref b) "tuple" := by
  refine o_eaa ht fun o ho hc _ => ?_
  exact (i_ea o ho hc)
 exact KPt.bin_left (T := "str") (U := "tuple") (op := .Mod) (by decide) (typeIs_str s _ t) hT F.fills_str_mod KPt.fills_tuple F.slot_str_mod
  (call_meets F.slot_str_mod (typeIs_str s _ t) F.entry_str_mod (F.args_str_mod_2 _ _) (mod_meets hn0 hn1 hm0 hm1) ⟨ht, fun t' k => ⟨(fun e => nomatch e), h t' k⟩⟩)
end
end
section
open PyProof.Rows
theorem latin_loop (b : Array UInt8) (h : b.size <= sizeLine) (f : Nat -> Nat × Array Nat × Builtin._codecs.Faults -> Sem (ForInStep (Nat × Array Nat × Builtin._codecs.Faults)))
 (hf : ∀ x p (out : Array Nat) st, out.size <= sizeLine -> p < b.size -> f x (p, out, st) = pure (ForInStep.yield (p + 1, out ++ #[(b.getD p 0).toNat], st))) :
 ∀ (m k p : Nat) (out : Array Nat) (st : Builtin._codecs.Faults), p + m = b.size -> out.toList = (b.toList.map (·.toNat)).take p -> forIn (List.range' k m) (p, out, st) f = pure (b.size, b.map (·.toNat), st)
 | 0, k, p, out, st, hp, ho => by
  (refine rr (show out = b.map (·.toNat) from by
   rw [List.take_of_length_le (by simp; exact ar292 hp)] at ho
   apply Array.ext'
   refine rr ho ?_; simp) ?_; exact rr (show p = b.size by assumption) rfl)
 | m + 1, k, p, out, st, hp, ho => by
  have hl : out.size = p := by
   have := congrArg List.length ho
   simp at this; exact ar290 hp this
  (refine rr List.range'_succ ?_; refine rr (List.forIn_cons ..) ?_; refine rr (hf _ _ _ _ (ar289 hp h hl) (by lia)) ?_; refine rr (pure_bind ..) ?_)
  refine latin_loop b h f hf m _ (p + 1) _ st (ar288 hp) ?_
  simp only [List.take_add_one, Array.toList_append, ho]
  congr 1
  simp [(show p < b.size from by lia)]
theorem run_latin (id : String) (b : Array UInt8) (h : b.size <= sizeLine) : Builtin._codecs.runDecoder id Builtin._codecs.latin1Decoder none true b 0 [] = pure (b.map (·.toNat), b.size) := by
 dsimp only [Builtin._codecs.runDecoder]
 simp only [KPc.range_list, Builtin._codecs.latin1Decoder, Builtin._codecs.Found.char]
 rw [latin_loop b h _ (fun x p out st h1 h2 => ?_) b.size 0 0 #[] {} (ar294) (by rfl)]
 · rfl
 · (refine rr (if_neg (by lia)) ?_; exact rr (if_neg (by lia)) rfl)
section
variable {prog : Program} {w : World} {A : Around} {E : Value -> Shared -> Prop} {s : Shared} {b : Array UInt8} {t u : Tok}
theorem latin_road {id : String} : Builtin._codecs.decodeRoad id b (Str.ofString "latin-1") none [] = (Builtin._codecs.runDecoder id Builtin._codecs.latin1Decoder none true b 0 [] >>= fun r => mkStr ⟨r.1⟩) := by kernel_rfl
theorem latin_text (hz : b.size <= sizeLine) {t1 t2 : Tok} {d : Str} :
 Meets (Builtin.«_codecs.decode.text» ⟨[.bytes b t, .str (Str.ofString "latin-1") t1, .none, .str d t2], []⟩) (fun _ R s => R (.ok (.ret (.str ⟨b.map (·.toNat)⟩ s.toks))) { s with toks := s.toks + 1 }) := by
 refine .of_wp fun prog w A R s h => ?_
 show wpAny _ _ (Builtin.Bytes.bytesLike _ (.bytes b t) >>= fun r => _) _ _ s
 refine wpAny_bind (wpAny_of_eq KBd.like_eq ?_)
 refine wpAny_bind (wpAny_of_eq KBd.held_eq ?_)
 (refine rr latin_road ?_; refine rr (run_latin _ b hz) ?_)
 refine wpAny_bind (wpAny_bind (wpAny_pure ?_))
 exact wpAny_mkStr (wpAny_pure ⟨_, rfl, h⟩) (by simpa [Str.length] using hz)
theorem latin_entry {c : UInt8} {cs : List UInt8} : Builtin.«bytes.decode» ⟨[.bytes (c :: cs).toArray t, .str (Str.ofString "latin-1") u], []⟩ = (mkStr (Str.ofString "utf-8") >>= fun _ => mkStr (Str.ofString "latin-1") >>= fun e => mkStr (Str.ofString "bytes.decode") >>= fun d =>
 call (.builtin "_codecs.decode.text") [.bytes (c :: cs).toArray t, e, .none, d] >>= fun v => ret v) := by kernel_rfl
theorem latin_none : Builtin.«bytes.decode» ⟨[.bytes #[] t, .str (Str.ofString "latin-1") u], []⟩ = (rule "bytes.decode.empty" >>= fun _ => retStr Str.empty) := by kernel_rfl
theorem latin_meets {l : List UInt8} (hz : l.length <= sizeLine) : Meets (Builtin.«bytes.decode» ⟨[.bytes l.toArray t, .str (Str.ofString "latin-1") u], []⟩) (fun _ R s => ∀ t' k, R (.ok (.ret (.str ⟨(l.map (·.toNat)).toArray⟩ t'))) { s with toks := k }) := by
 refine .of_wp fun prog w A R s h => ?_
 induction l using List.casesOn with
 | nil =>
  refine rr latin_none ?_
  refine wpAny_bind (wpAny_rule ?_)
  exact wpAny_bind (wpAny_mkStr (wpAny_pure (i_ea _ rfl (h _ _))) (by decide))
 | cons c cs =>
  refine rr latin_entry ?_
  refine wpAny_bind (wpAny_mkStr ?_ (by decide))
  refine wpAny_bind (wpAny_mkStr ?_ (by decide))
  refine wpAny_bind (wpAny_mkStr ?_ (by decide))
  refine wpAny_bind (call_function_meets KBd.kind_text KBd.plain_text KBd.entry_text (KBd.args_text _ _ _ _) (latin_text (by exact hz)) (wpAny_pure (i_ea _ rfl ?_)))
  refine rr List.map_toArray ?_
  exact h _ _
theorem latin_decode {l : List UInt8} {Q : Value -> Shared -> Prop} (hz : l.length <= sizeLine) (h : ∀ t' k, Q (.str ⟨(l.map (·.toNat)).toArray⟩ t') { s with toks := k }) :
 wpAny (model prog w) A (call (.builtin "bytes.decode") [.bytes l.toArray t, .str (Str.ofString "latin-1") u]) Q E s :=
 call_meets FB.slot_bytes_decode (typeIs_bytes _ _ _) FB.entry_bytes_decode (by kernel_rfl) (latin_meets hz) h
end
end
set_option maxRecDepth 8000
section
theorem among_snoc {pos : Pos} {a b : Int} {c : Value} (l : List Value) (h : TriplesOk l) : codeAmong pos (l ++ [rawInt a, rawInt b, c]) = match codeAmong pos l with
 | some x => some x
 | none => if a = pos.line /\ b = pos.col then some c else none := by
 fun_induction TriplesOk l with
 | case1 =>
   dsimp only [List.nil_append, codeAmong, rawInt]
   by_cases h1 : a = pos.line /\ b = pos.col
   · simp
   · refine rr (if_neg h1) ?_
     have : (a == (pos.line : Int) && b == (pos.col : Int)) = false := by
      rw [Bool.and_eq_false_iff]
      by_cases ha : a = pos.line
      · right; simp; exact fun q => h1 ⟨ha, q⟩
      · left; simpa using ha
     refine rr this ?_; rfl
 | case2 i t j u c' rest ih =>
   dsimp only [List.cons_append, codeAmong]
   split
   · rfl
   · exact ih h
 | case3 => exact h.elim
theorem triples_snoc {a b : Int} {c : Value} (l : List Value) (h : TriplesOk l) : TriplesOk (l ++ [rawInt a, rawInt b, c]) := by
 fun_induction TriplesOk l with
 | case1 => assumption
 | case2 i t j u c' rest ih => exact ih h
 | case3 => exact h.elim
noncomputable def TabI (ω : Own) (P : Addr) (qs : List (Pos × Str)) : Prop := ∃ ps, ω P = some (.tab qs ps)
noncomputable def apartQ (qs : List (Pos × Str)) : Prop := ∀ q ∈ qs, ∀ r ∈ qs, q.1.line = r.1.line -> q.1.col = r.1.col -> q.2 = r.2
structure TopM (B0 : Heap) (mg : Str -> Option Value) : Prop where
 bmain : ∃ bm ob, mg "__builtins__" = some (.ref bm) /\ bm ≠ builtinsNs /\ B0.get? bm = some ob /\ ob.cls = .type "module" /\ ob.dict = some builtinsNs /\ ob.data = .plain
section
variable {B0 : Heap} {os : OsState} {gs : Array GenState} {ω : Own} {s : Shared} {mg mb : Str -> Option Value}
theorem code_now (S : MS B0 os ω gs s) {c P : Addr} (C : CodeHd B0 c P) : CodeHd s.heap c P := by
 (refine o_eeeee C fun o vs file tf flags z262 => ?_; refine o_eeee z262 fun tg inF text tt z263 => ?_; refine o_aa z263 fun e hc r => ?_)
 exact (i_eeee o vs file tf (i_eeee flags tg inF text ⟨tt, S.top e (by refine rr hc ?_; decide), hc, r⟩))
theorem MS.table (S : MS B0 os ω gs s) {c P : Addr} {qs : List (Pos × Str)} {ps0 ps more : Array Value} {h' : Heap} (C : CodeHd B0 c P) (t₀ : B0.get? P = some (tabObj ps0)) (eP : ω P = some (.tab qs ps)) (hx : Heap.ExtBut P s.heap h') (hP : h'.get? P = some (tabObj (ps ++ more))) (hs : P ≠ cStatics) {oc : Obj} {c' : Addr} (hcn : ω c' = none) (hoc : h'.get? c' = some oc) (hg : TabGood (ω.set c' (.fz oc)) qs (ps ++ more)) (t : Nat) :
    MS B0 os ((ω.set P (.tab qs (ps ++ more))).set c' (.fz oc)) gs { s with heap := h', toks := t } := by
  have C' := code_now S C
  have C2 : CodeHd h' c P := by
    (refine o_eeeee C' fun o vs file tf flags z432 => ?_; refine o_eeee z432 fun tg inF text tt z433 => ?_; refine o_a z433 fun e r => ?_)
    exact (i_eeee o vs file tf (i_eeee flags tg inF text ⟨tt, hx _ _ (show c ≠ P from by (refine o_eeeee C fun _ _ _ _ _ z436 => ?_; refine o_eeeeaaaaa z436 fun _ _ _ _ _ _ _ _ _ z437 => ?_; refine o_aaaa z437 fun _ _ _ _ h => ?_); exact h) e, r⟩))
  refine { S with hold := fun b m e => ?_, old := S.old.step_table (C.tab t₀) (C'.tab (S.hold _ _ eP)) (C2.tab hP) hx hs, lo := fun b m e hf => ?_, tabs := fun P' qs' ps' e => ?_ }
  · unfold Own.set at e
    (revert e; refine ie rfl (fun _ e => ?_) fun _ e => ?_)
    · rename_i q; refine rr q ?_; (replace e := Option.some.inj e; subst e); exact hoc
    · (revert e; refine ie rfl (fun _ e => ?_) fun _ e => ?_)
      · rename_i q; refine q ▸ ?_; (replace e := Option.some.inj e; subst e); exact hP
      · rename_i q
        exact (S.hold b m e).keep fun ob x => hx b ob q x
  · unfold Own.set at e
    (revert e; refine ie rfl (fun _ e => ?_) fun _ e => ?_)
    · (injection e with e; subst e); exact no_tf hf
    · (revert e; refine ie rfl (fun _ e => ?_) fun _ e => ?_)
      · (injection e with e; subst e); exact no_tf hf
      · exact S.lo b m e hf
  · have f : LeF (ω.set c' (.fz oc)) ((ω.set P (.tab qs (ps ++ more))).set c' (.fz oc)) := fun b o eb => by
      by_cases q : b = c'
      · cases q; rw [Own.set_self] at eb ⊢; exact eb
      · rw [Own.set_ne _ _ q] at eb ⊢
        have hbP : b ≠ P := fun z => by rw [z, eP] at eb; exact absurd eb nofun
        refine rr (Own.set_ne _ _ hbP) ?_; exact eb
    unfold Own.set at e
    (revert e; refine ie rfl (fun _ e => ?_) fun _ e => ?_)
    · cases e
    · (revert e; refine ie rfl (fun _ e => ?_) fun _ e => ?_)
      · cases e; exact hg.monoF f
      · exact ((S.tabs P' qs' ps' e).monoF (LeF.set' _ (fun o q => by rw [hcn] at q; exact no_ns q))).monoF f
theorem Le.tab {ω : Own} {a : Addr} {qs : List (Pos × Str)} {ps more : Array Value} (h : ω a = some (.tab qs ps)) : Le ω (ω.set a (.tab qs (ps ++ more))) := fun b ob e => by
 by_cases q : b = a
 · subst q; rw [h] at e; (replace e := Option.some.inj e; subst e); simp only [Own.set_self]; exact ⟨more, rfl⟩
 · rw [Own.set_ne _ _ q, e]; exact LeO.refl _
theorem built_at (T : TopB B0 mg mb) (TM : TopM B0 mg) (S : MS B0 os ω gs s) {P : Addr} {ps : Array Value} (eP : s.heap.get? P = some (tabObj ps)) : s.heap.BuiltinsAt mg P /\ mainGlobals ≠ P := by
 (refine o_eeaaaa TM.bmain fun bm ob b1 b2 b3 b4 z481 => ?_; refine o_a z481 fun b5 b6 => ?_)
 have hgs := T.g.now S
 have hgP : mainGlobals ≠ P := fun q => by
  refine o_eeeaa hgs fun o es ep e hd _ => ?_
  rw [q, eP] at e; (replace e := Option.some.inj e; subst e); contradiction
 have e3 : s.heap.get? bm = some ob := S.top b3 (by refine rr b4 ?_; decide)
 exact ⟨(i_eeaaaa bm ob b1 b2 ((fun q => by
  refine o_eeeaa hgs fun o es ep e hd _ => ?_
  rw [q, e] at e3; (replace e3 := Option.some.inj e3; clear b5 z481 b4 b3; subst e3); rw [hd] at b6; contradiction)) ((fun q => by
  rw [q, eP] at e3; (replace e3 := Option.some.inj e3; clear z481 b4 b3; subst e3); contradiction)) (i_aaa e3 b4 b5 b6)), hgP⟩
structure NewFn (B0 : Heap) (os : OsState) (gs : Array GenState) (ω : Own) (P : Addr) (qs : List (Pos × Str)) (ω' : Own) (s' : Shared) (f : Addr) (fo : Obj) : Prop where
 le : Le ω ω'
 other : ∀ a m, ω a = some m -> a ≠ P -> ω' a = some m
 ms : MS B0 os ω' gs s'
 tab : TabI ω' P qs
 new : ω f = none
 at' : ω' f = some (.ex fo)
theorem NewFn.rel {P : Addr} {qs : List (Pos × Str)} {ω' : Own} {s' : Shared} {f : Addr} {fo : Obj} (N : NewFn B0 os gs ω P qs ω' s' f fo) (hP : ∀ vs, ω P ≠ some (.lst vs)) {σ : St} (R : RelS ω σ) : RelS ω' σ :=
 R.keep N.le fun a vs e => N.other a _ e fun q => by clear N; subst q; exact hP vs e
theorem tab_grow {ω ω' : Own} {qs : List (Pos × Str)} {ps : Array Value} {pos : Pos} {c : Value} {qual : Str} (hq : apartQ qs) (hin : (pos, qual) ∈ qs) (l : LeF ω ω') (h : TabGood ω qs ps) (hc : CodeOk ω' c qual) : TabGood ω' qs (ps ++ #[rawInt pos.line, rawInt pos.col, c]) := by
 have e : (ps ++ #[rawInt pos.line, rawInt pos.col, c]).toList = ps.toList ++ [rawInt pos.line, rawInt pos.col, c] := by simp
 refine ⟨by refine rr e ?_; exact triples_snoc _ h.1, fun q hq' => ?_⟩
 (refine rr e ?_; refine rr (among_snoc _ h.1) ?_)
 rcases h.2 q hq' with x | ⟨cv, x, y⟩
 · refine rr x ?_
   dsimp only
   by_cases hp : (pos.line : Int) = q.1.line /\ (pos.col : Int) = q.1.col
   · refine rr (if_pos hp) ?_
     have := hq _ hin q hq' (by dsimp only; exact ar253 hp) (by dsimp only; exact ar252 hp)
     exact .inr ⟨c, rfl, by refine rl this ?_; exact hc⟩
   · refine rr (if_neg hp) ?_; exact .inl rfl
 · refine rr x ?_; exact .inr ⟨cv, rfl, y.monoF l⟩
variable {M : Model} {A : Around} {E : Value -> Shared -> Prop} {Q : Value -> Shared -> Prop} {env : Env} {c P : Addr} {ps0 : Array Value} {pos : Pos} {firstLine : Nat} {clos : List (Str × Addr)} {name qual : Str} {params : Arguments} {scope : Scope} {qs : List (Pos × Str)}
theorem new_fn (S : MS B0 os ω gs s) (C : CodeHd B0 c P) (t₀ : B0.get? P = some (tabObj ps0)) (hs : P ≠ cStatics) (hq : apartQ qs) (hin : (pos, qual) ∈ qs) {ps : Array Value} (eP : ω P = some (.tab qs ps)) {c' : Addr} {h' : Heap} {tk : Nat} (hx : Heap.ExtBut P s.heap h') (hge : s.heap.objs.size <= c') (hlt : c' < h'.objs.size) (hrec : h'.CodeRec (.ref c') qual)
 (htb : h'.get? P = some (tabObj (ps ++ #[rawInt pos.line, rawInt pos.col, .ref c']))) (fo : Obj) (hfo : fo.isFreed = false) :
 ∃ ω', NewFn B0 os gs ω P qs ω' { s with heap := h'.push fo, toks := tk } h'.objs.size fo /\ CodeOk ω' (.ref c') qual := by
 refine o_eeeeaaa hrec fun c₂ oc vs t e2 hoc hd hv => ?_
 (injection e2 with e2; subst e2)
 have hcn : ω c' = none := by
  induction q : ω c' using Option.casesOn with
  | none => rfl
  | some m => exact absurd (S.hold _ _ q).lt (Nat.not_lt.mpr hge)
 have hcP : c' ≠ P := fun q => by clear htb hx t₀ C; subst q; rw [hcn] at eP; exact no_ns eP
 have hgood : TabGood (ω.set c' (.fz oc)) qs (ps ++ #[rawInt pos.line, rawInt pos.col, .ref c']) := tab_grow hq hin (LeF.set' _ (fun o q => by rw [hcn] at q; exact no_ns q)) (S.tabs P qs ps eP) (i_eeeeaaa c' oc vs t rfl (Own.set_self ..) hd hv)
 have S₃ := (S.table C t₀ eP hx htb hs hcn hoc hgood tk).push fo (m := .ex fo) (Heap.get?_push_size _ hfo)
 have hfn : ω h'.objs.size = none := by
  induction q : ω h'.objs.size using Option.casesOn with
  | none => rfl
  | some m => exact absurd (S.hold _ _ q).lt (Nat.not_lt.mpr (Nat.le_of_lt (Nat.lt_of_le_of_lt hge hlt)))
 refine (i_ea _ ⟨(((Le.tab eP).trans (Le.new (.fz oc) (show (ω.set P (.tab qs (ps ++ #[rawInt pos.line, rawInt pos.col, .ref c']))) c' = none from by refine rr (Own.set_ne _ _ hcP) ?_; exact hcn))).trans (Le.new (.ex fo) (S.table C t₀ eP hx htb hs hcn hoc hgood tk).unused)), fun a m e hp => ?_, S₃, ⟨ps ++ #[rawInt pos.line, rawInt pos.col, .ref c'], ?_⟩, hfn, Own.set_self ..⟩ ((i_eeeeaaa c' oc vs t rfl (by refine rr (Own.set_ne _ _ (Nat.ne_of_lt hlt)) ?_; exact Own.set_self ..) hd hv)))
 · (refine rr (Own.set_ne _ _ (fun q => by rw [q, hfn] at e; exact no_ns e)) ?_; refine rr (Own.set_ne _ _ (fun q => by rw [q, hcn] at e; exact no_ns e)) ?_; refine rr (Own.set_ne _ _ hp) ?_); exact e
 · (refine rr (Own.set_ne _ _ (fun q => by rw [q, hfn] at eP; exact no_ns eP : P ≠ h'.objs.size)) ?_; refine rr (Own.set_ne _ _ (Ne.symm hcP)) ?_); exact Own.set_self ..
theorem hit_fn (S : MS B0 os ω gs s) {ps : Array Value} (eP : ω P = some (.tab qs ps)) {h' : Heap} {tk : Nat} (hk : ∀ b o, s.heap.get? b = some o -> h'.get? b = some o) (hsz : s.heap.objs.size <= h'.objs.size) (fo : Obj) (hfo : fo.isFreed = false) :
 ∃ ω', NewFn B0 os gs ω P qs ω' { s with heap := h'.push fo, toks := tk } h'.objs.size fo /\ LeF ω ω' := by
 have S2 := (S.keeps hk tk).push fo (m := .ex fo) (Heap.get?_push_size _ hfo)
 have hun := (S.keeps hk tk).unused
 have hfn : ω h'.objs.size = none := hun
 refine (i_ea _ ⟨(Le.new (OM.ex fo) hun), fun a m e hp => ?_, S2, ⟨ps, ?_⟩, hfn, Own.set_self ..⟩ ((Le.new (OM.ex fo) hun).f))
 · refine rr (Own.set_ne _ _ (fun q => by simp only [q, hfn] at e; exact no_ns e)) ?_; exact e
 · refine rr (Own.set_ne _ _ (fun q => by simp only [q, hfn] at eP; exact no_ns eP)) ?_; exact eP
theorem mk_def {body : List Stmt} (T : TopB B0 mg mb) (TM : TopM B0 mg) (S : MS B0 os ω gs s) (C : CodeHd B0 c P) (t₀ : B0.get? P = some (tabObj ps0)) (hs : P ≠ cStatics) (hq : apartQ qs) (hin : (pos, qual) ∈ qs) (I : TabI ω P qs)
 (hcl : closureFor scope env = pure clos) (hge0 : env.globals = mainGlobals) (hcode : env.code = .ref c)
 (H : ∀ f ctv doc pm cv ω' s', NewFn B0 os gs ω P qs ω' s' f { cls := .type "function", data := .func (fnX name qual params body scope clos .none .none doc pm none cv ctv) } -> CodeOk ω' cv qual -> Q (.ref f) s') :
 wpAny M A (makeFunction name qual params (.stmts body) scope env [] [] [] pos firstLine) Q E s := by
 refine o_e I fun ps eP => ?_
 refine o_a (S.tabs _ _ _ eP) fun ht hI => ?_
 have hp := S.hold _ _ eP
 refine o_a (built_at T TM S hp) fun hb hg => ?_
 rcases hI _ hin with hnf | ⟨cv, hf, hcv⟩
 · refine makeFunction_K hcl hge0 (T.g.now S) hcode (code_now S C) hp ht hnf hg hb fun c' ctv doc h' tk hx hge hlt hrec htb => ?_
   refine o_ea (new_fn (tk := tk) S C t₀ hs hq hin eP hx hge hlt hrec htb (fnMade name qual params body scope clos doc ((mg "__name__").getD .none) c' ctv) rfl) fun ω' N hc => ?_
   exact H _ _ _ _ _ ω' _ N hc
 · refine makeFunction_hit hcl hge0 (T.g.now S) hcode (code_now S C) hp ht hf hb fun ctv doc h' tk hk hsz => ?_
   refine o_ea (hit_fn (tk := tk) (qs := qs) S eP hk hsz { cls := .type "function", data := .func (fnX name qual params body scope clos .none .none doc ((mg "__name__").getD .none) none cv ctv) } rfl) fun ω' N l => ?_
   exact H _ _ _ _ _ ω' _ N (hcv.monoF l)
theorem mk_lam {body : Expr} (T : TopB B0 mg mb) (TM : TopM B0 mg) (S : MS B0 os ω gs s) (C : CodeHd B0 c P) (t₀ : B0.get? P = some (tabObj ps0)) (hs : P ≠ cStatics) (hq : apartQ qs) (hin : (pos, qual) ∈ qs) (I : TabI ω P qs)
 (hcl : closureFor scope env = pure clos) (hge0 : env.globals = mainGlobals) (hcode : env.code = .ref c)
 (H : ∀ f ctv pm cv ω' s', NewFn B0 os gs ω P qs ω' s' f { cls := .type "function", data := .func (kla_fn name qual params body scope clos pm cv ctv) } -> CodeOk ω' cv qual -> Q (.ref f) s') :
 wpAny M A (makeFunction name qual params (.expr body) scope env [] [] [] pos firstLine) Q E s := by
 refine o_e I fun ps eP => ?_
 refine o_a (S.tabs _ _ _ eP) fun ht hI => ?_
 have hp := S.hold _ _ eP
 refine o_a (built_at T TM S hp) fun hb hg => ?_
 rcases hI _ hin with hnf | ⟨cv, hf, hcv⟩
 · refine kla_makeFunction hcl hge0 (T.g.now S) hcode (code_now S C) hp ht hnf hg hb fun c' ctv h' tk hx hge hlt hrec htb => ?_
   refine o_ea (new_fn (tk := tk) S C t₀ hs hq hin eP hx hge hlt hrec htb (kla_obj name qual params body scope clos ((mg "__name__").getD .none) c' ctv) rfl) fun ω' N hc => ?_
   exact H _ _ _ _ ω' _ N hc
 · refine kla_makeFunctionHit hcl hge0 (T.g.now S) hcode (code_now S C) hp ht hf hb fun ctv h' tk hk hsz => ?_
   refine o_ea (hit_fn (tk := tk) (qs := qs) S eP hk hsz { cls := .type "function", data := .func (kla_fn name qual params body scope clos ((mg "__name__").getD .none) cv ctv) } rfl) fun ω' N l => ?_
   exact H _ _ _ _ ω' _ N (hcv.monoF l)
end
end
set_option maxRecDepth 8000
section
noncomputable def CellsOk (env : Env) (ω : Own) : Prop := (∀ x c, env.cells.lookup x = some c -> ∃ v, ω c = some (.cell v)) /\ ∀ x y c, env.cells.lookup x = some c -> env.cells.lookup y = some c -> x = y
theorem CellsOk.monoW {env : Env} {ω ω' : Own} (x : LeW ω ω') (h : CellsOk env ω) : CellsOk env ω' :=
 ⟨fun y c e => by refine o_e (h.1 y c e) fun v h1 => ?_; exact ⟨v, x _ _ h1 rfl⟩, h.2⟩
theorem LeS.w {L : Addr} {ω ω' : Own} (x : LeS L ω ω') {a : Addr} {m : OM} (h : ω a = some m) (hs : m.stay = true) (hn : ∀ n, m ≠ .ns n) {n0 : Str -> Option Value} (hL : ω L = some (.ns n0)) : ω' a = some m := by
 have := x a m (fun q => by clear x; subst q; rw [hL] at h; (replace h := Option.some.inj h; clear hs; subst h); exact hn _ rfl) h
 clear hn h; cases m <;> first | exact this | (exact Bool.noConfusion (show false = true from hs))
theorem CellsOk.step {env : Env} {ω ω' : Own} (x : LeS env.locals ω ω') {n0 : Str -> Option Value} (hL : ω env.locals = some (.ns n0)) (h : CellsOk env ω) : CellsOk env ω' :=
 ⟨fun y c e => by refine o_e (h.1 y c e) fun v h1 => ?_; exact ⟨v, x.w h1 rfl (fun _ q => by contradiction) hL⟩, h.2⟩
section
variable {prog : Program} {w : World} {B0 : Heap} {os : OsState} {gs : Array GenState} {mg mb : Str -> Option Value} {n : Nat}
theorem leave_thrown2 {M : Model} {A : Around} {env : Env} {outer : List Env} {ω : Own} {KX : KXG} {e : Value} {Q : Unit -> Shared -> Prop} {E : Value -> Shared -> Prop} {s : Shared} (hX : KXStable KX) (hfr : A.frames = some (env :: outer)) (hk : env.scope.kind ≠ .module) (K : ∀ e ∈ outer, e.scope.kind ≠ .module /\ ∃ L m, e.frame = some L /\ ω L = some (.ns m)) (hf : env.frame = some env.locals) (H : ThrG B0 os env ω KX e s)
 (hQ : ∀ s' a ω' σ' gs' cls msg t, e = .ref a -> LeS env.locals ω ω' -> MS B0 os ω' gs' s' -> RelS ω' σ' -> Fly B0 ω' s'.heap a cls t .none -> ArgsAt ω' t msg -> KX cls msg ω' σ' gs' -> Q () s') : wpAny M A (leaving env e) Q E s := by
 obtain ⟨a, ω', σ', gs', cls, msg, rfl, l, ⟨m, hm⟩, R, k, H⟩ := H
 have K' : Stk ω' A (env :: outer) := by
  refine ⟨hfr, fun e he => ?_⟩
  rcases List.mem_cons.mp he with rfl | he
  · exact (i_aeea hk _ m hf hm)
  · refine o_aeea (K e he) fun k L' m' h1 h2 => ?_
    by_cases q : L' = env.locals
    · exact ⟨k, L', m, h1, by refine rr q ?_; exact hm⟩
    · exact ⟨k, L', m', h1, l _ _ q h2⟩
 rcases H with ⟨S, t, fl, hfl, F, hA⟩ | ⟨h, tk, S, hx, hz⟩
 · rcases hfl with rfl | rfl
   · exact leave_on S K' hf F fun h' S' F' => hQ _ a ω' σ' gs' cls msg t rfl l S' R F' hA k
   · exact leave_held S K' hf F fun h' S' F' => hQ _ a ω' σ' gs' cls msg t rfl l S' R F' hA k
 · refine leave_made S K' hf hx fun h' t o n hto hc hd S' F' => hQ _ a _ σ' gs' cls msg t rfl ?_ S' ((Keeps.new (.fz o) hto).rel R) F' ⟨hz, o, n, tk, Own.set_self .., hc, hd⟩ (hX _ _ _ _ _ _ (Keeps.new (.fz o) hto) k)
   exact l.trans ((Le.new _ hto).s _)
theorem call_c (T : TopB B0 mg mb) {fd : FuncData} {ps : List Str} {body : List Stmt} {gt : Loc} {a : Addr} (D : DefOk fd ps body) (F : FnAt B0 a fd) (hg : GtOk mg mb gt) {A : Around} {l : List Env} {ω : Own} {s : Shared} {σ : St} {K : KG} {KX : KXG} {hs : List HV} {vs : List Value}
 (hX : KXStable KX) (hK : KStable K) (Rm : Room (n + 1) A) (Ks : Stk ω A l) (S : MS B0 os ω gs s) (R : RelS ω σ) (r : RdL ω hs vs) (hlen : hs.length = ps.length)
 (H : ∀ (env : Env) (A' : Around) (ωb ω1 : Own) (s₁ : Shared), env.frame = some env.locals -> env.scope = fd.scope -> env.code = fd.code -> env.qual = fd.qualname ++ ".<locals>." -> EnvOk mg mb env ω1 (fun x => (ps.zip hs).lookup x) (GofDef fd.scope gt) -> CellsOk env ω1 -> Room n A' -> Stk ω1 A' (env :: l) -> MS B0 os ω1 gs s₁ -> RelS ω1 σ -> LeS env.locals ωb ω1 ->
  ωb env.locals = none -> (∀ x c, env.cells.lookup x = some c -> ωb c = none /\ c ≠ env.locals) -> (∀ b m, ω b = some m -> (∀ vs, m ≠ .lst vs) -> ωb b = some m) -> (∀ b m, ω b = some m -> (∀ vs, m ≠ .lst vs) -> ω1 b = some m) ->
  wpAny (model prog w) A' (execs body env) (PostF B0 os env ωb K) (ThrG B0 os env ωb KX) s₁) :
 wpAny (model prog w) A (call (.ref a) vs []) (PostG B0 os ω K) (RaisG B0 os ω KX) s := by
 refine o_eaa F.at' fun o ho hcls hdata => ?_
 (refine o_eeeeaaa F.code fun c oc cvs t hcode hoc hccls z561 => ?_; refine o_a z561 fun hcd hq => ?_)
 have hvs := r.length
 refine wpAny_call (codeAny_call_cells Rm.lim (S.top ho hcls) hdata (T.lim S) (i_eeeeaaa c oc cvs t hcode (S.top hoc hccls) hcd hq) D.body (D.bind vs (ar34 hvs hlen)) D.clo ?_ ?_ D.co D.gen D.kind)
 · intro x hx
   refine o_a (List.of_mem_zip hx) fun h1 _ => ?_
   rcases D.kinds x.1 h1 with q | q
   · exact .inl q
   · exact .inr ⟨q, cells_some _ _ _ (.inl (lookup_mem q))⟩
 · intro s₁ C
   have hsz := S.size
   refine o_ee C.toInCall.same fun h' tk hsame => ?_
   have hun : ∀ b, s.heap.objs.size <= b -> hideO σ ω b = none := fun b hb => by
    rw [hide_none]
    induction q : ω b with
    | none => rfl
    | some m => exact absurd (S.hold _ _ q).lt (Nat.not_lt.mpr hb)
   have S₃ := ((show MS B0 os ω gs s₁ from by
    refine rr hsame ?_
    have := S.keeps (h' := h') (fun b ob e => by have := C.toInCall.keep b ob e; rw [hsame] at this; exact this) tk
    exact this).hide σ).adopt (a := s.heap.objs.size) (m := .ns _) C.toInCall.ns hsz (fun o q => by rw [hun _ (Nat.le_refl _)] at q; contradiction)
   have S4 := S₃.cells (cm := bindC (callEnvC fd s.heap.objs.size a).kindOf (ps.zip vs) fun _ => none) C.cell (fun m c hm => Nat.le_trans hsz (Nat.le_of_lt (C.above m c hm))) (fun m c hm o q => by
    have : s.heap.objs.size < c := C.above m c hm
    rw [Own.set_ne _ _ (Nat.ne_of_gt this), hun c (Nat.le_of_lt this)] at q; contradiction)
   have hcl : ∀ m c, (m, c) ∈ (callEnvC fd s.heap.objs.size a).cells -> s.heap.objs.size < c := fun m c hm => C.above m c hm
   have l4 : Le (hideO σ ω) (cellO ((hideO σ ω).set s.heap.objs.size (.ns (bindL (callEnvC fd s.heap.objs.size a).kindOf (ps.zip vs) fun _ => none))) (callEnvC fd s.heap.objs.size a).cells (bindC (callEnvC fd s.heap.objs.size a).kindOf (ps.zip vs) fun _ => none)) := fun b ob e => by
    have hb : b < s.heap.objs.size := by
     apply Nat.lt_of_not_le
     intro q
     rw [hun b q] at e; contradiction
    (refine rr (cellO_else (fun m q => Nat.lt_irrefl _ (Nat.lt_trans hb (hcl m b q)))) ?_; refine rr (Own.set_ne _ _ (Nat.ne_of_lt hb)) ?_; refine rr e ?_)
    exact LeO.refl _
   have same4 : ∀ b m, hideO σ ω b = some m -> (cellO ((hideO σ ω).set s.heap.objs.size (.ns (bindL (callEnvC fd s.heap.objs.size a).kindOf (ps.zip vs) fun _ => none))) (callEnvC fd s.heap.objs.size a).cells (bindC (callEnvC fd s.heap.objs.size a).kindOf (ps.zip vs) fun _ => none)) b = some m := fun b ob e => by
    have hb : b < s.heap.objs.size := by
     apply Nat.lt_of_not_le
     intro q
     rw [hun b q] at e; contradiction
    (refine rr (cellO_else (fun m q => Nat.lt_irrefl _ (Nat.lt_trans hb (hcl m b q)))) ?_; refine rr (Own.set_ne _ _ (Nat.ne_of_lt hb)) ?_; exact rr e rfl)
   have hL : cellO ((hideO σ ω).set s.heap.objs.size (.ns (bindL (callEnvC fd s.heap.objs.size a).kindOf (ps.zip vs) fun _ => none))) (callEnvC fd s.heap.objs.size a).cells (bindC (callEnvC fd s.heap.objs.size a).kindOf (ps.zip vs) fun _ => none) s.heap.objs.size = some (.ns (bindL (callEnvC fd s.heap.objs.size a).kindOf (ps.zip vs) fun _ => none)) := by
    refine rr (cellO_else (fun m q => Nat.lt_irrefl _ (hcl m _ q))) ?_; exact Own.set_self ..
   have hce : ∀ x c, (callEnvC fd s.heap.objs.size a).cells.lookup x = some c -> cellO ((hideO σ ω).set s.heap.objs.size (.ns (bindL (callEnvC fd s.heap.objs.size a).kindOf (ps.zip vs) fun _ => none))) (callEnvC fd s.heap.objs.size a).cells (bindC (callEnvC fd s.heap.objs.size a).kindOf (ps.zip vs) fun _ => none) c = some (.cell (bindC (callEnvC fd s.heap.objs.size a).kindOf (ps.zip vs) (fun _ => none) x)) :=
    fun x c e => cellO_at C.apart e
   have hap : ∀ x y c, (callEnvC fd s.heap.objs.size a).cells.lookup x = some c -> (callEnvC fd s.heap.objs.size a).cells.lookup y = some c -> x = y := fun x y c h1 h2 => name_of_addr C.apart (mem_of_lookup h1) (mem_of_lookup h2)
   revert S4 l4 hL hce same4
   generalize cellO ((hideO σ ω).set s.heap.objs.size (.ns (bindL (callEnvC fd s.heap.objs.size a).kindOf (ps.zip vs) fun _ => none))) (callEnvC fd s.heap.objs.size a).cells (bindC (callEnvC fd s.heap.objs.size a).kindOf (ps.zip vs) fun _ => none) = ω4
   intro S4 l4 same4 hL hce
   have O := def_env (a := a) D hg ((r.monoF hide_f).monoF l4.f) hL hce
   have hother : ∀ b m, ω b = some m -> (∀ vs, m ≠ .lst vs) -> hideO σ ω b = some m := fun b m e hm => by
    (refine rr (hide_else (fun us q => by rw [e] at q; (replace q := Option.some.inj q; clear e; subst q); exact hm us rfl)) ?_; exact rr e rfl)
   have Ks' : Stk ω4 (A.deeper (callEnvC fd s.heap.objs.size a)) (callEnvC fd s.heap.objs.size a :: l) := by
    refine ⟨Around.frames_deeper Ks.frames, fun e he => ?_⟩
    rcases List.mem_cons.mp he with rfl | he
    · exact (i_aeea (by rw [O.kind]; decide) _ _ rfl hL)
    · refine o_aeea (Ks.ok e he) fun k L' m' h1 h2 => ?_
      exact (i_aeea k L' m' h1 (same4 _ _ (hother _ _ h2 (fun _ q => by contradiction))))
   refine wpAny_mono (H (callEnvC fd s.heap.objs.size a) _ (hideO σ ω) ω4 s₁ rfl rfl rfl rfl O ⟨fun x c e => ⟨_, hce x c e⟩, hap⟩ Rm.deeper Ks' S4 (R.hide.keepF l4.f fun b us e => same4 b _ e) (l4.s _) (hun _ (Nat.le_refl _)) (fun x c e => by
    have := hcl x c (mem_of_lookup e)
    exact ⟨hun c (Nat.le_of_lt this), Nat.ne_of_gt this⟩ : ∀ x c, (callEnvC fd s.heap.objs.size a).cells.lookup x = some c -> hideO σ ω c = none /\ c ≠ s.heap.objs.size) hother fun b m e h => same4 b m (hother b m e h)) (fun f s' q => ?_) fun e s' q => ?_
   · obtain ⟨v, h, ω', σ', gs', rfl, l', S', R', rv, k⟩ := q
     have l6 : Le (hideO σ ω) ω' := LeS.le l' (hun _ (Nat.le_refl _))
     exact ⟨h, backO σ ω ω', σ', gs', back_le l6, S.backS l6 S', (back_keeps l6).rel R', rv.monoF (back_keeps l6).f, hK _ _ _ _ _ (back_keeps l6) k⟩
   · refine leave_thrown2 hX (ω := hideO σ ω) (env := callEnvC fd s.heap.objs.size a) (outer := l) (Around.frames_deeper Ks.frames) (by rw [O.kind]; decide) (fun e he => ?_) rfl q fun s'' x ω' σ' gs' cls msg t e' l' S' R' F hA k => ?_
     · refine o_aeea (Ks.ok e he) fun k L' m' h1 h2 => ?_
       exact (i_aeea k L' m' h1 (hother _ _ h2 (fun _ q => by contradiction)))
     · have l6 : Le (hideO σ ω) ω' := LeS.le l' (hun _ (Nat.le_refl _))
       exact ⟨x, backO σ ω ω', σ', gs', cls, msg, t, e', back_le l6, S.backS l6 S', (back_keeps l6).rel R', F.backF l6, hA.monoF (back_keeps l6).f, hX _ _ _ _ _ _ (back_keeps l6) k⟩
end
end
set_option maxRecDepth 8000
section
section
variable {prog : Program} {w : World} {B0 : Heap} {os : OsState} {gs : Array GenState} {mg mb : Str -> Option Value} {mu : Pos -> Bool} {Γ : Spx} {n : Nat}
theorem s_pure {A : Around} {E : Value -> Shared -> Prop} {Q : Flow -> Shared -> Prop} {st : Stmt} {rest : List Stmt} {env : Env} {ω : Own} {s : Shared} {σ : St} {ρ : Loc} {G : GC} {N : Loc -> St -> Prop} (T : TopB B0 mg mb) (X : SpxOk prog w B0 os gs Γ n) (Rm : Room n A) (O : EnvOk mg mb env ω ρ G) (S : MS B0 os ω gs s) (R : RelS ω σ)
 (h : evS mu Γ st ρ G σ fun fl ρ' σ' => fl = .nx /\ N ρ' σ')
 (H : ∀ ω' s' ρ' σ', LeS env.locals ω ω' -> EnvOk mg mb env ω' ρ' G -> MS B0 os ω' gs s' -> RelS ω' σ' -> N ρ' σ' -> wpAny (model prog w) A (execs rest env) Q E s') : wpAny (model prog w) A (execs (st :: rest) env) Q E s := by
 refine wpAny_execs_cons (wpAny_mono (okS T X st A E ω s σ _ env ρ G Rm O S R h) (fun f s' q => ?_) fun _ _ x => x)
 obtain ⟨fl, ω', σ', ρ', l, O', S', R', hf, rfl, hn⟩ := q
 cases hf
 exact H ω' s' ρ' σ' l O' S' R' hn
theorem s_ret {A : Around} {E : Value -> Shared -> Prop} {Q : Flow -> Shared -> Prop} {e : Expr} {p : Pos} {rest : List Stmt} {env : Env} {ω : Own} {s : Shared} {σ : St} {ρ : Loc} {G : GC} {N : HV -> St -> Prop} (T : TopB B0 mg mb) (X : SpxOk prog w B0 os gs Γ n) (Rm : Room n A) (O : EnvOk mg mb env ω ρ G) (S : MS B0 os ω gs s) (R : RelS ω σ)
 (h : evE mu Γ e ρ G σ N)
 (H : ∀ ω' s' v h σ', Le ω ω' -> MS B0 os ω' gs s' -> RelS ω' σ' -> Rd ω' h v -> N h σ' -> Q (.ret v) s') : wpAny (model prog w) A (execs (.Return (some e) p :: rest) env) Q E s := by
 refine wpAny_execs_cons (wpAny_Return_some (next_v (okE T X e A E ω s σ N env ρ G Rm O S R h) fun h ω' σ' v s' l S' R' r k => ?_))
 exact H ω' s' v h σ' l S' R' r k
theorem gen_Q {α : Type} {M : Model} {A : Around} {X : Sem α} {Q0 : α -> Shared -> Prop} {E : Value -> Shared -> Prop} {s : Shared} (h : ∀ Q : α -> Shared -> Prop, (∀ f s, Q0 f s -> Q f s) -> wpAny M A X Q E s) : wpAny M A X Q0 E s := h Q0 fun _ _ h => h
theorem cons_next {M : Model} {A : Around} {E : Value -> Shared -> Prop} {s : Shared} {env : Env} {Q : Flow -> Shared -> Prop} {st : Stmt} {rest : List Stmt} (h : ∀ Q₁ : Flow -> Shared -> Prop, (∀ s', wpAny M A (execs rest env) Q E s' -> Q₁ .next s') -> wpAny M A (exec st env) Q₁ E s) : wpAny M A (execs (st :: rest) env) Q E s := wpAny_execs_cons (h _ fun _ h => h)
theorem gen_QE {α : Type} {M : Model} {A : Around} {X : Sem α} {Q0 : α -> Shared -> Prop} {E0 : Value -> Shared -> Prop} {s : Shared}
 (h : ∀ (Q : α -> Shared -> Prop) (E : Value -> Shared -> Prop), (∀ f s, Q0 f s -> Q f s) -> (∀ e s, E0 e s -> E e s) -> wpAny M A X Q E s) : wpAny M A X Q0 E0 s := h Q0 E0 (fun _ _ h => h) fun _ _ h => h
section
variable {A : Around} {E : Value -> Shared -> Prop} {env : Env} {ω : Own} {s : Shared} {σ t : St} {ρ : Loc} {G : GC}
theorem s_at {Q : Flow -> Shared -> Prop} {st : Stmt} {rest : List Stmt} {r : Loc} (T : TopB B0 mg mb) (X : SpxOk prog w B0 os gs Γ n) (Rm : Room n A) (O : EnvOk mg mb env ω ρ G) (S : MS B0 os ω gs s) (R : RelS ω σ)
 (h : ∀ K : KS, K .nx r t -> evS mu Γ st ρ G σ K) (H : ∀ ω' s', LeS env.locals ω ω' -> EnvOk mg mb env ω' r G -> MS B0 os ω' gs s' -> RelS ω' t -> wpAny (model prog w) A (execs rest env) Q E s') :
 wpAny (model prog w) A (execs (st :: rest) env) Q E s :=
 s_pure (N := fun ρ' σ' => ρ' = r /\ σ' = t) T X Rm O S R (h _ (i_aa rfl rfl rfl)) fun ω' s' _ _ l O' S' R' q => H ω' s' l (q.1 ▸ O') S' (q.2 ▸ R')
theorem r_at {Q : Flow -> Shared -> Prop} {e : Expr} {p : Pos} {rest : List Stmt} {x : HV} (T : TopB B0 mg mb) (X : SpxOk prog w B0 os gs Γ n) (Rm : Room n A) (O : EnvOk mg mb env ω ρ G) (S : MS B0 os ω gs s) (R : RelS ω σ)
 (h : ∀ K : KV, K x t -> evE mu Γ e ρ G σ K) (H : ∀ ω' s' v, Le ω ω' -> MS B0 os ω' gs s' -> RelS ω' t -> Rd ω' x v -> Q (.ret v) s') : wpAny (model prog w) A (execs (.Return (some e) p :: rest) env) Q E s :=
 s_ret (N := fun h σ' => h = x /\ σ' = t) T X Rm O S R (h _ ⟨rfl, rfl⟩) fun ω' s' v _ _ l S' R' r q => H ω' s' v l S' (q.2 ▸ R') (q.1 ▸ r)
theorem e_at {Q : Value -> Shared -> Prop} {e : Expr} {x : HV} (T : TopB B0 mg mb) (X : SpxOk prog w B0 os gs Γ n) (Rm : Room n A) (O : EnvOk mg mb env ω ρ G) (S : MS B0 os ω gs s) (R : RelS ω σ)
 (h : ∀ K : KV, K x t -> evE mu Γ e ρ G σ K) (H : ∀ ω' v s', Le ω ω' -> MS B0 os ω' gs s' -> RelS ω' t -> Rd ω' x v -> Q v s') : wpAny (model prog w) A (eval e env) Q E s :=
 next_v (okE T X e A E ω s σ _ env ρ G Rm O S R (h (fun h σ' => h = x /\ σ' = t) ⟨rfl, rfl⟩)) fun _ ω' _ v s' l S' R' r q => H ω' v s' l S' (q.2 ▸ R') (q.1 ▸ r)
theorem b_at {Q : Bool -> Shared -> Prop} {e : Expr} {x : Bool} (T : TopB B0 mg mb) (X : SpxOk prog w B0 os gs Γ n) (Rm : Room n A) (O : EnvOk mg mb env ω ρ G) (S : MS B0 os ω gs s) (R : RelS ω σ)
 (h : ∀ K : Bool -> St -> Prop, K x t -> evT mu Γ e ρ G σ K) (H : ∀ ω' s', Le ω ω' -> MS B0 os ω' gs s' -> RelS ω' t -> Q x s') : wpAny (model prog w) A (isTrue e env (eval e env)) Q E s :=
 next_b (okT T X e A E ω s σ _ env ρ G Rm O S R (h (fun h σ' => h = x /\ σ' = t) ⟨rfl, rfl⟩)) fun _ ω' _ s' l S' R' q => q.1 ▸ H ω' s' l S' (q.2 ▸ R')
end
theorem spx_none : SpxOk prog w B0 os gs (fun _ => none) n := fun v sp e => by exact no_ns e
theorem store_cell_ok {A : Around} {E : Value -> Shared -> Prop} {ω : Own} {s : Shared} {σ : St} {env : Env} {ρ : Loc} {G : GC} {x : Str} {c : Addr} {h : HV} {v : Value} {Q : Unit -> Shared -> Prop} (O : EnvOk mg mb env ω ρ G) (CO : CellsOk env ω) (S : MS B0 os ω gs s) (R : RelS ω σ)
 (hk : env.kindOf x = some .cell) (hc : env.cells.lookup x = some c) (hd : x ≠ ("__debug__" : Str) /\ x ≠ ("__classdict__" : Str)) (r : Rd ω h v)
 (H : ∀ s' v0, ω c = some (.cell v0) -> LeF ω (ω.set c (.cell (some v))) -> EnvOk mg mb env (ω.set c (.cell (some v))) (upd ρ x h) G -> CellsOk env (ω.set c (.cell (some v))) -> MS B0 os (ω.set c (.cell (some v))) gs s' -> RelS (ω.set c (.cell (some v))) σ -> Q () s') : wpAny (model prog w) A (storeName env x v) Q E s := by
 refine o_e (CO.1 x c hc) fun v0 h0 => ?_
 have f : LeF ω (ω.set c (.cell (some v))) := LeF.set _ h0 (fun _ q => by contradiction)
 have un : ∀ y h', upd ρ x h y = some h' -> (y = x /\ h' = h) ∨ (y ≠ x /\ ρ y = some h') := fun y h' e => by
  unfold upd at e
  (revert e; refine ie rfl (fun _ e => ?_) fun _ e => ?_)
  · rename_i q; refine Option.some.inj e ▸ ?_; exact .inl ⟨q, rfl⟩
  · rename_i q; exact .inr ⟨q, e⟩
 refine wpAny_storeName_cell O.kind hk hc (S.hold _ _ h0) fun h' hv hs => ?_
 refine o_ea O.loc fun m₀ h1 h2 => ?_
 refine H _ v0 h0 f { O with loc := (i_ea m₀ (by refine rr (Own.set_ne _ _ (fun q => by rw [q, h0] at h1; exact absurd h1 nofun)) ?_; exact h1) (fun y h' e k => ?_)), cel := fun y h' e k => ?_, dom := fun y h' e => ?_, dbg := ?_ } ⟨fun y d e => ?_, CO.2⟩ (S.same h0 rfl hs (m := .cell (some v)) hv s.toks) (R.set _ h0 (fun _ q => by contradiction) (fun _ q => by contradiction))
 · refine Or.elim (un y h' e) (fun z259 => ?_) fun z260 => ?_
   · (refine o_a z259 fun z271 z272 => ?_; clear z259; subst z271; clear r H un e; subst z272); rw [hk] at k; contradiction
   · refine o_ea (h2 y h' z260.2 k) fun u h3 h4 => ?_
     exact (i_ea u h3 (h4.monoF f))
 · rcases un y h' e with ⟨rfl, rfl⟩ | ⟨q, q2⟩
   · exact (i_eeaa c v hc (Own.set_self ..) (r.monoF f))
   · refine o_eeaa (O.cel y h' q2 k) fun d u h3 h4 h5 => ?_
     refine (i_eeaa d u h3 ?_ (h5.monoF f))
     refine rr (Own.set_ne _ _ (fun z => q (by cases z; exact CO.2 _ _ _ h3 hc))) ?_; exact h4
 · refine Or.elim (un y h' e) (fun z255 => ?_) fun z256 => ?_
   · (refine o_a z255 fun z261 z262 => ?_; subst z261; clear r H un e z255; subst z262); exact .inr (.inl hk)
   · exact O.dom y h' z256.2
 · refine (i_aa ?_ O.dbg.2.1 ?_)
   · unfold upd; refine rr (if_neg (fun q => hd.1 q.symm)) ?_; exact O.dbg.1
   · unfold upd; refine rr (if_neg (fun q => hd.2 q.symm)) ?_; exact O.dbg.2.2
 · by_cases q : d = c
   · refine rr q ?_; exact ⟨_, Own.set_self ..⟩
   · refine o_e (CO.1 y d e) fun u h3 => ?_
     exact ⟨u, by refine rr (Own.set_ne _ _ q) ?_; exact h3⟩
theorem setItem_exact {A : Around} {E : Value -> Shared -> Prop} {s : Shared} {l : Addr} {items : Array Value} {n : Nat} {k : Int} {t : Tok} {v : Value} {Q : Unit -> Shared -> Prop} (ho : s.heap.get? l = some { cls := .type "list", data := .seq items n })
 (h0 : 0 <= k) (hfit : k < 2 ^ 63) (hn : k < items.size)
 (hQ : ∀ h' n', h'.get? l = some { cls := .type "list", data := .seq (items.setIfInBounds k.toNat v) n' } -> Heap.SameBut l s.heap h' -> Q () { s with heap := h' }) :
 wpAny (model prog w) A (setItem (.ref l) (.int k t) v) Q E s := by
 have hl : s.heap.IsList l items := ⟨_, ho, rfl, n, rfl⟩
 unfold setItem
 try with_reducible refine wpAny_holding ?_
 first | refine wpAny_bind (wpAny_pure ?_) | skip
 refine wpAny_bind (wpAny_sequenceKey hl.typeIs (by decide) ?_)
 refine wpAny_bind (wpAny_callSpecial?_slot (name := Str.ofString "__setitem__") hl.typeIs slot_list_setitem
  (wpAny_call_entry slot_list_setitem hl.typeIs entry_list_setitem ?_ (args_list_setitem _ _ _)))
 show wpAny _ _ (Builtin.List.listSubscript? (.int k t) >>= _) _ _ s
 refine wpAny_bind (wpAny_listSubscript_int (fitsIndex_of h0 hfit) ?_)
 clear hfit
 obtain ⟨j, rfl⟩ := Int.eq_ofNat_of_zero_le h0
 refine wpAny_bind (wpAny_bind (wpAny_seqItemAt ho rfl (wpAny_pure ?_)))
 refine rr (Array.getElem?_eq_getElem (show j < items.size from (ar254 hn))) ?_
 have hfin : ∃ n', (s.heap.update l (Obj.mapSeq (·.setIfInBounds j v))).get? l = some { cls := .type "list", data := .seq (items.setIfInBounds j v) n' } := by
  refine rr (Heap.get?_update_self (Obj.mapSeq (·.setIfInBounds j v)) ho rfl) ?_
  exact ⟨_, rfl⟩
 obtain ⟨n', hfin⟩ := hfin
 refine wpAny_bind (wpAny_setSeqItemAt ho rfl ?_)
 first
  | exact wpAny_bind (wpAny_pure (wpAny_pure ⟨.none, rfl, wpAny_pure (hQ _ _ hfin (Heap.SameBut.update ..))⟩))
  | exact wpAny_pure ⟨.none, rfl, wpAny_pure (hQ _ _ hfin (Heap.SameBut.update ..))⟩
theorem RdL.set {ω : Own} : ∀ {xs : List HV} {vs : List Value} {j : Nat} {h : HV} {v : Value}, RdL ω xs vs -> Rd ω h v -> RdL ω (xs.set j h) (vs.set j v)
 | [], vs, j, h, v, r, _ => by simp only [RdL] at r; subst r; exact rfl
 | x :: xs, vs, 0, h, v, r, q => by
  simp only [RdL] at r
  (refine o_eeaa r fun y l z310 h1 h2 => ?_; clear r; subst z310)
  exact (i_eeaa v l rfl q h2)
 | x :: xs, vs, j + 1, h, v, r, q => by
  simp only [RdL] at r
  (refine o_eeaa r fun y l z304 h1 h2 => ?_; clear r; subst z304)
  exact (i_eeaa y _ rfl h1 (RdL.set h2 q))
theorem set_item {A : Around} {E : Value -> Shared -> Prop} {ω : Own} {s : Shared} {σ : St} {a : Addr} {l : List HV} {i : Int} {u : Tok} {h : HV} {v : Value} {Q : Unit -> Shared -> Prop} (S : MS B0 os ω gs s) (R : RelS ω σ) (e : σ a = some l) (hi : 0 <= i) (hl : i.toNat < l.length) (r : Rd ω h v)
 (H : ∀ ω' s', Le ω ω' -> MS B0 os ω' gs s' -> RelS ω' (σ.put a (l.set i.toNat h)) -> Q () s') : wpAny (model prog w) A (setItem (.ref a) (.int i u) v) Q E s := by
 refine o_aea (R a l e) fun hz vs h1 r2 => ?_
 refine o_e (S.hold _ _ h1) fun n ho => ?_
 have hlen := r2.length
 have ln := line_is
 refine setItem_exact ho hi (by lia) (by refine rr List.size_toArray ?_; exact ar255 hlen hl) fun h' n' hg hs => ?_
 rw [(show vs.toArray.setIfInBounds i.toNat v = (vs.set i.toNat v).toArray from by simp)] at hg
 exact H _ _ (Le.lst h1) (S.same h1 rfl hs (m := .lst (vs.set i.toNat v)) ⟨n', hg⟩ s.toks) (R.put h1 (by refine rr List.length_set ?_; exact hz) (r2.set r))
end
end
section
noncomputable def argsOf : Stmt -> Arguments
 | .FunctionDef _ a _ _ _ _ _ _ _ _ => a
 | _ => default
noncomputable def posOf : Stmt -> Pos
 | .FunctionDef _ _ _ _ _ _ _ _ _ p => p
 | _ => default
noncomputable def takeS : Stmt := (bodyOf (stm 17)).getD 1 (.Pass ⟨0, 0, 0, 0⟩)
noncomputable def tN (s : String) : Str := Str.ofString s
structure TapeAt (ω : Own) (T P K : Addr) (octets : List UInt8) (fo : FuncData) (ρf : Loc) : Prop where
 len : octets.length <= 1000
 shape : ∃ qual doc pm cv ctv cl, fo = fnX "take" qual (argsOf takeS) (bodyOf takeS) (scopeOf takeS) cl .none .none doc pm none cv ctv
 fn : ω K = some (.fz { cls := .type "function", data := .func fo })
 code : CodeOk ω fo.code fo.qualname
 free : FreeOk ω fo.scope fo.closure ρf
 roct : ρf (tN "octets") = some (.bytes octets)
 rpl : ρf (tN "place") = some (.obj P)
 rn : ρf (tN "min") = none /\ ρf (tN "len") = none
 tape : ∃ D m fd sl, ω T = some (.fz { cls := .type "function", dict := some D, data := .func fd, slots := sl }) /\ ω D = some (.ns m) /\ m "read" = some (.ref K) /\ m "place" = some (.ref P)
theorem FreeOk.keeps {ω ω' : Own} {sc : Scope} {cl : List (Str × Addr)} {ρf : Loc} (x : ∀ b m, ω b = some m -> m.stay = true -> ω' b = some m) (f : LeF ω ω') (h : FreeOk ω sc cl ρf) : FreeOk ω' sc cl ρf := fun y k e => by
 refine o_aeeaa (h y k e) fun h1 c v h2 h3 h4 => ?_
 exact (i_aeea h1 c v h2 ⟨x _ _ h3 rfl, h4.monoF f⟩)
theorem TapeAt.stay {ω ω' : Own} {T P K : Addr} {octets : List UInt8} {fo : FuncData} {ρf : Loc} (x : ∀ b m, ω b = some m -> m.stay = true -> ω' b = some m) (h : TapeAt ω T P K octets fo ρf) : TapeAt ω' T P K octets fo ρf := by
 refine ⟨h.len, h.shape, x _ _ h.fn rfl, h.code.monoF (fun a o e => x a _ e rfl), h.free.keeps x (fun a o e => x a _ e rfl), h.roct, h.rpl, h.rn, ?_⟩
 (refine o_eeee h.tape fun D m fd sl z452 => ?_; refine o_aa z452 fun h1 h2 h3 => ?_)
 exact (i_eeeeaa D m fd sl (x _ _ h1 rfl) (x _ _ h2 rfl) h3)
theorem TapeAt.monoW {ω ω' : Own} {T P K : Addr} {octets : List UInt8} {fo : FuncData} {ρf : Loc} (l : LeW ω ω') (h : TapeAt ω T P K octets fo ρf) : TapeAt ω' T P K octets fo ρf := h.stay l
noncomputable def cutO (o : List UInt8) (p c : Nat) : List UInt8 := (o.take (min o.length (p + c))).drop p
section
variable {prog : Program} {w : World} {B0 : Heap} {os : OsState} {gs : Array GenState} {mg mb : Str -> Option Value} {n : Nat} {gt : Loc}
theorem takeD {fo : FuncData} {qual : Str} {doc pm cv ctv : Value} {cl : List (Str × Addr)} (e : fo = fnX "take" qual (argsOf takeS) (bodyOf takeS) (scopeOf takeS) cl .none .none doc pm none cv ctv) : DefOkX fo [tN "count"] (bodyOf takeS) := by
 subst e
 refine ⟨rfl, rfl, rfl, rfl, rfl, rfl, by trivial, ?_, ?_, ?_⟩
 · show ∀ x ∈ (scopeOf takeS).names, x.2 ≠ .cell
   decide +kernel
 · show ∀ x ∈ [tN "count"], (scopeOf takeS).names.lookup x = some .local
   decide +kernel
 · refine (i_aaaa (by decide +kernel) ?_ (by decide +kernel) ?_ ?_)
   · show (scopeOf takeS).names.lookup ("__debug__" : Str) ≠ some .globalImplicit
     decide +kernel
   · show (scopeOf takeS).names.lookup ("__debug__" : Str) ≠ some .free
     decide +kernel
   · show (scopeOf takeS).names.lookup ("__classdict__" : Str) ≠ some .free
     decide +kernel
theorem keeps_stay {ω ω' : Own} (other : ∀ b m, ω b = some m -> (∀ vs, m ≠ .lst vs) -> ω' b = some m) : ∀ b m, ω b = some m -> m.stay = true -> ω' b = some m := fun b m e h => other b m e (fun vs q => by clear e; subst q; exact no_ft h)
theorem take_ok (TB : TopB B0 mg mb) (hg : GtOk mg mb gt) (g1 : gt (tN "min") = some (.val (.builtin "min"))) (g2 : gt (tN "len") = some (.val (.builtin "len"))) {A : Around} {l : List Env} {ω : Own} {s : Shared} {σ : St} {T P K : Addr} {octets : List UInt8} {fo : FuncData} {ρf : Loc} {p c : Nat} {t : Tok}
 (Rm : Room (n + 1) A) (Ks : Stk ω A l) (S : MS B0 os ω gs s) (R : RelS ω σ) (H : TapeAt ω T P K octets fo ρf) (hp : σ P = some [.int (p : Nat)]) (hpl : p <= octets.length) (hc : c <= 1000) :
 wpAny (model prog w) A (call (.ref K) [.int (c : Nat) t] []) (PostG B0 os ω fun h _ σ' gs' => h = .bytes (cutO octets p c) /\ σ' = σ.put P [.int (min octets.length (p + c) : Nat)] /\ gs' = gs) (RaisG B0 os ω fun _ _ _ _ _ => False) s := by
 have hlen := H.len
 have ln := line_is
 obtain ⟨qual, doc, pm, cv, ctv, cl, rfl⟩ := H.shape
 refine o_eeeeaaa H.code fun c₁ oc ovs ot hcv hc1 hc2 hc3 => ?_
 refine call_x (n := n) (ps := [tN "count"]) (hs := [.int (c : Nat)]) (vs := [.int (c : Nat) t]) (ρf := ρf) TB (takeD rfl) hg (fun _ _ _ _ _ _ _ q => q) (fun _ _ _ _ _ _ q => q) Rm Ks S R (by simp only [RdL, Rd]; exact ⟨_, [], rfl, ⟨t, rfl⟩, rfl⟩) rfl (BindsTo.of_eq (by with_unfolding_all rfl)) (S.hold _ _ H.fn) rfl ⟨c₁, oc, ovs, ot, hcv, S.hold _ _ hc1, hc2, hc3⟩ H.free ?_
 intro env A' ω1 s₁ hfr O Rm' Ks' S1 R1 hnew other
 have n1 : bindHF ρf [tN "count"] [.int (c : Nat)] = upd ρf (tN "count") (.int (c : Nat)) := rfl
 rw [n1] at O
 replace O : EnvOk mg mb env ω1 _ (GofDef (scopeOf takeS) gt) := O
 have e1 := H.roct
 have e2 := H.rpl
 have e3 := H.rn.1
 have e4 := H.rn.2
 unfold tN at *
 conv => arg 3; arg 1; whnf
 refine s_pure (mu := fun _ => false) (N := fun ρ' σ' => ρ' = upd (upd ρf (Str.ofString "count") (.int (c : Nat))) (Str.ofString "here") (.int (p : Nat)) /\ σ' = σ) TB (spx_none (n := n)) Rm' O S1 R1 ?_ ?_
 · repeat' walk_at "ev"
   refine s_obj (by decide) hp rfl ?_
   exact ⟨rfl, rfl, rfl⟩
 intro ω2 s₂ ρ2 σ2 l2 O2 S2 R₂ hN
 obtain ⟨rfl, rfl⟩ := hN
 conv => arg 3; arg 1; whnf
 refine wpAny_execs_cons (wpAny_Assign_Subscript ?_)
 refine next_v (okE (mu := fun _ => false) TB (spx_none (n := n)) _ A' _ ω2 s₂ σ2 (fun h σ' => h = .int (min octets.length (p + c) : Nat) /\ σ' = σ2) env _ _ Rm' O2 S2 R₂ ?_) fun h₃ ω3 σ3 v₃ s₃ l₃ S₃ R₃ r₃ k₃ => ?_
 · repeat' walk_at "ev"
   exact ⟨by congr 1; lia, rfl⟩
 (refine o_a k₃ fun z231 z232 => ?_; clear k₃; subst z231; subst z232)
 refine next_v (okE (mu := fun _ => false) TB (spx_none (n := n)) _ A' _ ω3 s₃ σ3 (fun h σ' => h = .obj P /\ σ' = σ3) env _ _ Rm' (O2.mono l₃) S₃ R₃ ?_) fun h₄ ω4 σ4 v4 s₄ l4 S4 R4 r₄ k₄ => ?_
 · repeat' walk_at "ev"
   exact ⟨rfl, rfl⟩
 obtain ⟨rfl, rfl⟩ := k₄
 refine next_v (okE (mu := fun _ => false) TB (spx_none (n := n)) _ A' _ ω4 s₄ σ4 (fun h σ' => h = .int 0 /\ σ' = σ4) env _ _ Rm' (O2.mono (l₃.trans l4)) S4 R4 ?_) fun h₅ ω5 σ5 v5 s5 l5 S5 R5 r₅ k₅ => ?_
 · repeat' walk_at "ev"
   exact ⟨rfl, rfl⟩
 obtain ⟨rfl, rfl⟩ := k₅
 simp only [Rd] at r₄ r₅
 subst r₄
 obtain ⟨t₅, rfl⟩ := r₅
 refine set_item S5 R5 hp (by decide) (by simp) (r₃.mono (l4.trans l5)) fun ω6 s6 l₆ S6 R6 => ?_
 have l26 := l₃.trans (l4.trans (l5.trans l₆))
 show wpAny _ _ (execs _ _) _ _ _
 conv => arg 3; arg 1; whnf
 refine s_ret (mu := fun _ => false) (N := fun h σ' => h = .bytes (cutO octets p c) /\ σ' = σ5.put P [.int (min octets.length (p + c) : Nat)]) TB (spx_none (n := n)) Rm' (O2.mono l26) S6 R6 ?_ ?_
 · repeat' walk_at "ev"
   refine s_obj (by decide) (put_self) rfl ?_
   repeat' walk_at "ev"
   refine ⟨?_, rfl⟩
   refine rr (slc_mid ..) ?_; rfl
 · intro ω7 s7 v h σ' l7 S7 R7 r₇ hN
   exact ⟨v, h, ω7, σ', gs, rfl, l2.trans ((l26.trans l7).s _), S7, R7, r₇, hN.1, hN.2, rfl⟩
end
end
section
section
variable {prog : Program} {w : World} {B0 : Heap} {os : OsState} {gs : Array GenState} {mg mb : Str -> Option Value} {mu : Pos -> Bool} {Γ : Spx} {n : Nat}
theorem call_attr_fn {A : Around} {E : Value -> Shared -> Prop} {s : Shared} {env : Env} {o : Expr} {name : Str} {ap pos : Pos} {args : List Expr} {Q : Value -> Shared -> Prop} (hc : notCall o = true) (hp : args.all notStar = true) (hlen : args.length <= 20) (hln : ap.endLine = pos.line) (hmiss : typeLookup (.type "function") name = pure none)
 (h : wpAny (model prog w) A (eval o env) (fun ov s₁ => ∃ a D fd sl m v, ov = .ref a /\ s₁.heap.get? a = some { cls := .type "function", dict := some D, data := .func fd, slots := sl } /\ s₁.heap.Ns D m /\ m name = some (.ref v) /\
  ∀ tk, wpAny (model prog w) A (callWith pos (.ref v) [] (backTo pos (starEach args env)) (backToKw pos (keywordEach [] env))) Q E { s₁ with toks := tk }) E s) : wpAny (model prog w) A (eval (.Call (.Attribute o name ap) args [] pos) env) Q E s := by
 (refine rr (arm_eval_Call ..) ?_; refine rr (base_plain hc) ?_)
 refine wpAny_bind (wpAny_mono h (fun ov s₁ h₁ => ?_) fun _ _ e => e)
 (refine o_eeeee h₁ fun a D fd sl m z473 => ?_; clear h₁; refine o_eaaa z473 fun v z474 h1 h2 z475 => ?_; refine rr z474 ?_; refine o_a z475 fun h3 h4 => ?_)
 refine wpAny_bind (wpAny_standAt ?_)
 have hform : methodCallForm (args.length + ([] : List Keyword).length) (backTo pos (starEach args env)) (backToKw pos (keywordEach [] env)) = true := few_ok args env hp hlen pos
 have hpos : methodCallPos true o env ap pos = pure pos := by unfold methodCallPos; simp [hln]
 dsimp only [methodCall]
 refine rr hform ?_
 refine wpAny_bind (wpAny_holding ?_)
 refine fn_getMethod h1 h2 h3 hmiss fun tk => ?_
 exact wpAny_bind (wpAny_of_eq hpos (h4 tk))
theorem raise_x (T : TopB B0 mg mb) (X : SpxOk prog w B0 os gs Γ n) {cls newId initId : String} (F : ExcCallFacts cls newId initId) (FR : ExcRaiseFacts cls) {A : Around} {env : Env} {ωb ω : Own} {s : Shared} {σ : St} {ρ : Loc} {G : GC} {x : Str} {np cpos pos : Pos} {e : Expr} {rest : List Stmt} {Q : Flow -> Shared -> Prop} {KX : KXG} {N : List Nat -> St -> Prop} {E : Value -> Shared -> Prop} (hE : ∀ e s, ThrG B0 os env ωb KX e s -> E e s)
 (Rm : Room n A) (O : EnvOk mg mb env ω ρ G) (S : MS B0 os ω gs s) (R : RelS ω σ) (hs : [e].all notStar = true) (hx : ρ x = none) (hg : G.g x = some (.val (.type cls))) (h : evEs mu Γ [e] ρ G σ fun hs σ' => ∃ msg, hs = [.str msg] /\ N msg σ')
 (l : LeS env.locals ωb ω) (H : ∀ ω' σ' msg, Le ω ω' -> RelS ω' σ' -> N msg σ' -> KX cls msg ω' σ' gs) : wpAny (model prog w) A (execs (.Raise (some (.Call (.Name x np) [e] [] cpos)) none pos :: rest) env) Q E s := by
 have ln := line_is
 refine o_ea O.loc fun m₀ hL _ => ?_
 refine wpAny_execs_cons (wpAny_Raise_call F FR Rm.handled (by refine rr (plain_back cpos [e] env hs) ?_; exact plain_any [e] env) ?_)
 refine gname_ok T O S hg fun v hv => ?_
 (injection hv with hv; subst hv)
 refine ⟨rfl, ?_⟩
 refine rr (plain_back cpos [e] env hs) ?_
 have ev := okEs_cons (okE (mu := mu) T X e) okEs_nil A E ω s σ _ env ρ G Rm O S R h
 refine args_any (plain_any [e] env) (next_l ev fun xs ω1 σ1 vs s₁ l1 S1 R1 r₁ hn H₁ => ?_)
 (refine o_ea H₁ fun msg z491 hN => ?_; clear H₁; clear hn; subst z491)
 (refine o_ea r₁.one fun u z488 ru => ?_; refine rr z488 ?_)
 simp only [Rd] at ru
 (refine o_ae ru fun hz tk z485 => ?_; clear ru; refine rr z485 ?_)
 refine (i_aa rfl (by simp; exact Nat.le_add_left _ _) (fun h' ea hm => ?_))
 refine hE _ _ ⟨ea, ω1, σ1, gs, cls, msg, rfl, l.trans (l1.s _), ⟨m₀, l1 _ _ hL⟩, R1, H _ _ _ l1 R1 hN, .inr (i_eeaa s₁.heap tk S1 hm.of hz)⟩
end
end
section
structure FnK (B0 : Heap) (a : Addr) (st : Stmt) (fd : FuncData) (dV : Value) : Prop where
 at' : FnAt B0 a fd
 body : fd.body = .stmts (bodyOf st)
 scope : fd.scope = scopeOf st
 params : fd.params = argsOf st
 clo : fd.closure = []
 glob : fd.globals = mainGlobals
 blt : fd.builtins = builtinsNs
 dflt : fd.defaults = dV
 kdflt : fd.kwdefaults = .none
noncomputable def plainSc (st : Stmt) (ps : List Str) : Bool :=
 (scopeOf st).kind == .function && !(scopeOf st).isCoroutine && !(scopeOf st).isGenerator && (scopeOf st).names.all (fun x => x.2 != .cell) && ps.all (fun x => (scopeOf st).names.lookup x == some .local) &&
  !(ps.contains ("__debug__" : Str)) && (scopeOf st).names.lookup ("__debug__" : Str) != some .globalImplicit && !(ps.contains ("__classdict__" : Str)) && (scopeOf st).names.lookup ("__debug__" : Str) != some .free && (scopeOf st).names.lookup ("__classdict__" : Str) != some .free
theorem plainD {fd : FuncData} {st : Stmt} {ps : List Str} (h1 : fd.body = .stmts (bodyOf st)) (h2 : fd.scope = scopeOf st) (h3 : fd.globals = mainGlobals) (h4 : fd.builtins = builtinsNs) (hn : ps.Nodup) (h : plainSc st ps = true) : DefOkX fd ps (bodyOf st) := by
 unfold plainSc at h
 simp only [Bool.and_eq_true, Bool.not_eq_true', bne_iff_ne, beq_iff_eq, List.all_eq_true, List.contains_eq_mem, decide_eq_false_iff_not] at h
 (refine o_a h fun z270 a10 => ?_; (refine o_a z270 fun z272 a9 => ?_; (refine o_a z272 fun z155 a8 => ?_; (refine o_a z155 fun z157 a7 => ?_; obtain ⟨⟨⟨⟨⟨a1, a2⟩, a3⟩, a4⟩, a5⟩, a6⟩ := z157))))
 refine ⟨h1, h3, h4, by refine rr h2 ?_; exact a1, by refine rr h2 ?_; exact a2, by refine rr h2 ?_; exact a3, hn, by refine rr h2 ?_; exact a4, by refine rr h2 ?_; exact a5, a6, by refine rr h2 ?_; exact a7, a8, by refine rr h2 ?_; exact a9, by refine rr h2 ?_; exact a10⟩
theorem p14 : plainSc (stm 14) [tN "f"] = true := by decide +kernel
theorem p15 : plainSc (stm 15) [tN "f"] = true := by decide +kernel
theorem b14 (fd : FuncData) (v : Value) (hp : fd.params = argsOf (stm 14)) (h1 : fd.kwdefaults = .none) (h2 : fd.defaults = .none) : bindArgs fd ⟨[v], []⟩ = pure [(tN "f", v)] := by
 cases fd
 simp only at hp h1 h2
 subst hp h1 h2
 with_unfolding_all rfl
theorem FnAt.now {B0 : Heap} {os : OsState} {gs : Array GenState} {ω : Own} {s : Shared} {a : Addr} {fd : FuncData} (F : Mine.FnAt B0 a fd) (S : MS B0 os ω gs s) : ∃ o, s.heap.get? a = some o /\ o.data = .func fd /\ s.heap.CodeRec fd.code fd.qualname := by
 refine o_eaa F.at' fun o h1 h2 h3 => ?_
 (refine o_eeeeaaa F.code fun c oc vs t e1 e2 e3 z276 => ?_; refine o_a z276 fun e4 e5 => ?_)
 exact (i_eaa o (S.top h1 h2) h3 (i_eeeeaaa c oc vs t e1 (S.top e2 e3) e4 e5))
section
variable {prog : Program} {w : World} {B0 : Heap} {os : OsState} {gs : Array GenState} {mg mb : Str -> Option Value} {n : Nat} {gt : Loc}
theorem call_then {A : Around} {env : Env} {ωb ω : Own} {s : Shared} {f : Value} {vs : List Value} {K : KG} {KX0 KX : KXG} {Q : Value -> Shared -> Prop} {m₀ : Str -> Option Value} {E : Value -> Shared -> Prop} (hE : ∀ e s, ThrG B0 os env ωb KX e s -> E e s) (h : wpAny (model prog w) A (call f vs []) (PostG B0 os ω K) (RaisG B0 os ω KX0) s) (hL : ω env.locals = some (.ns m₀)) (lb : LeS env.locals ωb ω)
 (H : ∀ v h ω' σ' gs' s', Le ω ω' -> MS B0 os ω' gs' s' -> RelS ω' σ' -> Rd ω' h v -> K h ω' σ' gs' -> Q v s') (HX : ∀ cls msg ω' σ' gs', Le ω ω' -> KX0 cls msg ω' σ' gs' -> KX cls msg ω' σ' gs') : wpAny (model prog w) A (call f vs []) Q E s := by
 refine wpAny_mono h (fun v s' q => ?_) fun e s' q => ?_
 · obtain ⟨h, ω', σ', gs', l, S, R, r, k⟩ := q
   exact H v h ω' σ' gs' s' l S R r k
 · obtain ⟨a, ω', σ', gs', cls, msg, t, e, l', S, R, F, hA, k⟩ := q
   exact hE _ _ ⟨a, ω', σ', gs', cls, msg, e, lb.trans (l'.s _), ⟨m₀, l' _ _ hL⟩, R, HX _ _ _ _ _ l' k, .inl (i_aeea S t .none (.inl rfl) ⟨F, hA⟩)⟩
theorem with_fn {mu : Pos -> Bool} {Γ : Spx} {A : Around} {E : Value -> Shared -> Prop} {env : Env} {ω : Own} {s : Shared} {σ : St} {ρ : Loc} {G : GC} {pos : Pos} {f : Addr} {args : List Expr} {Q : Value -> Shared -> Prop} {N : List HV -> St -> Prop} {o : Obj} {fd : FuncData} (Rm : Room n A) (O : EnvOk mg mb env ω ρ G) (S : MS B0 os ω gs s) (R : RelS ω σ)
 (hp : args.all notStar = true) (hs : OkEs prog w B0 os gs mg mb mu Γ n args) (h : evEs mu Γ args ρ G σ N)
 (H : ∀ hs ω' σ' vs s', Le ω ω' -> MS B0 os ω' gs s' -> RelS ω' σ' -> RdL ω' hs vs -> N hs σ' -> (s'.heap.get? f = some o /\ o.data = .func fd) /\ wpAny (model prog w) A (call (.ref f) vs []) Q E s') :
 wpAny (model prog w) A (callWith pos (.ref f) [] (backTo pos (starEach args env)) (backToKw pos (keywordEach [] env))) Q E s := by
 refine rr (plain_back pos args env hp) ?_
 exact callWith_function (args_any (plain_any args env) (next_l (hs A E ω s σ _ env ρ G Rm O S R h) fun xs ω1 σ1 vs s₁ l1 S1 R1 r₁ hn H₁ => H xs ω1 σ1 vs s₁ l1 S1 R1 r₁ H₁))
theorem with_fn_at {mu : Pos -> Bool} {Γ : Spx} {A : Around} {E : Value -> Shared -> Prop} {env : Env} {ω : Own} {s : Shared} {σ t : St} {ρ : Loc} {G : GC} {pos : Pos} {f : Addr} {args : List Expr} {Q : Value -> Shared -> Prop} {xs : List HV} {o : Obj} {fd : FuncData} (Rm : Room n A) (O : EnvOk mg mb env ω ρ G) (S : MS B0 os ω gs s) (R : RelS ω σ)
 (hp : args.all notStar = true) (hs : OkEs prog w B0 os gs mg mb mu Γ n args) (h : ∀ K : List HV -> St -> Prop, K xs t -> evEs mu Γ args ρ G σ K)
 (H : ∀ ω' vs s', Le ω ω' -> MS B0 os ω' gs s' -> RelS ω' t -> RdL ω' xs vs -> (s'.heap.get? f = some o /\ o.data = .func fd) /\ wpAny (model prog w) A (call (.ref f) vs []) Q E s') :
 wpAny (model prog w) A (callWith pos (.ref f) [] (backTo pos (starEach args env)) (backToKw pos (keywordEach [] env))) Q E s :=
 with_fn Rm O S R hp hs (h (fun hs σ' => hs = xs /\ σ' = t) ⟨rfl, rfl⟩) fun _ ω' _ vs s' l S' R' r q => H ω' vs s' l S' (q.2 ▸ R') (q.1 ▸ r)
theorem cut_one {o : List UInt8} {p : Nat} {b : UInt8} (h : o[p]? = some b) : cutO o p 1 = [b] /\ min o.length (p + 1) = p + 1 := by
 refine o_e (List.getElem?_eq_some_iff.mp h) fun hp hb => ?_
 unfold cutO
 have e : min o.length (p + 1) = p + 1 := ar259 hp
 refine ⟨?_, e⟩
 simp only [e, List.drop_take, show p + 1 - p = 1 by exact ar258, List.drop_eq_getElem_cons hp, hb]
 rfl
theorem cut_none {o : List UInt8} {p c : Nat} (h : o[p]? = none) : cutO o p c = [] /\ min o.length (p + c) = o.length := by
 have hp : o.length <= p := by simpa using h
 exact ⟨List.drop_eq_nil_of_le (by refine rr List.length_take ?_; exact ar261 hp), ar260 hp⟩
structure GtTape (gt : Loc) : Prop where
 ok : True
 min : gt (tN "min") = some (.val (.builtin "min"))
 len : gt (tN "len") = some (.val (.builtin "len"))
 verr : gt (tN "ValueError") = some (.val (.type "ValueError"))
theorem uint1_ok (TB : TopB B0 mg mb) (hg : GtOk mg mb gt) (gT : GtTape gt) {a : Addr} {fd : FuncData} (F : FnK B0 a (stm 14) fd .none) {A : Around} {l : List Env} {ω : Own} {s : Shared} {σ : St} {T P K : Addr} {octets : List UInt8} {fo : FuncData} {ρf : Loc} {p : Nat}
 (Rm : Room (n + 1 + 1) A) (Ks : Stk ω A l) (S : MS B0 os ω gs s) (R : RelS ω σ) (H : TapeAt ω T P K octets fo ρf) (hp : σ P = some [.int (p : Nat)]) (hpl : p <= octets.length) :
 wpAny (model prog w) A (call (.ref a) [.ref T] []) (PostG B0 os ω fun h _ σ' gs' => ∃ b, octets[p]? = some b /\ h = .int b.toNat /\ σ' = σ.put P [.int ((p + 1 : Nat) : Int)] /\ gs' = gs)
  (RaisG B0 os ω fun cls msg _ σ' gs' => octets[p]? = none /\ cls = "ValueError" /\ msg = w0 /\ σ' = σ.put P [.int (octets.length : Nat)] /\ gs' = gs) s := by
 have hlen := H.len
 have ln := line_is
 refine o_eaa (F.at'.now S) fun o ho hd hcd => ?_
 refine call_x (n := n + 1) (ps := [tN "f"]) (hs := [.val (.ref T)]) (vs := [.ref T]) (ρf := fun _ => none) TB (plainD F.body F.scope F.glob F.blt (by simp) p14) hg (fun _ _ _ _ _ _ _ q => q) (fun _ _ _ _ _ _ q => q) Rm Ks S R (by simp only [RdL, Rd]; exact ⟨_, [], rfl, rfl, rfl⟩) rfl (BindsTo.of_eq (b14 fd _ F.params F.kdflt F.dflt)) ho hd hcd (FreeOk.none _ _ _) ?_
 intro env A' ω1 s₁ hfr O Rm' Ks' S1 R1 hnew other
 rw [F.scope] at O
 have n1 : bindHF (fun _ => none) [tN "f"] [.val (.ref T)] = upd (fun _ => none) (tN "f") (.val (.ref T)) := rfl
 rw [n1] at O
 have g1 := gT.verr
 unfold tN at O g1
 refine gen_QE fun Q E hQ hE => ?_
 conv => arg 3; arg 1; whnf
 refine cons_next fun Q₁ n₁ => (wpAny_Assign_Name ?_ (swaps_plain rfl))
 refine call_attr_fn rfl rfl (by decide) rfl fn_no_read ?_
 refine e_at (mu := fun _ => false) (Γ := fun _ => none) (x := .val (.ref T)) (t := σ) TB (spx_none (n := n + 1)) Rm' O S1 R1 ?_ fun ω2 v₂ s₂ l2 S2 R₂ r₂ => ?_
 · intro K hK
   repeat' walk_at "ev"
   exact hK
 simp only [Rd] at r₂
 subst r₂
 have H₂ := H.monoW (stay_on hnew other (l2.s _))
 refine o_eeeeaaa H₂.tape fun D m fdT sl t1 t2 t3 t4 => ?_
 refine ⟨T, D, fdT, sl, m, K, rfl, S2.hold _ _ t1, S2.hold _ _ t2, t3, fun tk => ?_⟩
 refine with_fn_at (mu := fun _ => false) (Γ := fun _ => none) (xs := [.int 1]) (t := σ) (n := n + 1) (o := { cls := .type "function", data := .func fo }) (fd := fo) Rm' (O.mono l2) (S2.toks tk) R₂ rfl (okEs_cons (okE TB (spx_none (n := n + 1)) _) okEs_nil) ?_ ?_
 · intro K hK
   repeat' walk_at "ev"
   exact hK
 intro ω3 vs s₃ l₃ S₃ R₃ r₃
 (refine o_ea r₃.one fun u z209 ru => ?_; subst z209)
 simp only [Rd] at ru
 obtain ⟨t₃, rfl⟩ := ru
 have H3 := H₂.monoW l₃.w
 refine o_ea O.loc fun m₀ hL _ => ?_
 refine ⟨⟨S₃.hold _ _ H3.fn, rfl⟩, call_then hE (take_ok (n := n) TB hg gT.min gT.len (c := 1) Rm' ((Ks'.mono l2.w).mono l₃.w) S₃ R₃ H3 hp hpl (by decide)) ((l2.trans l₃) _ _ hL) ((l2.trans l₃).s _) ?_ (fun _ _ _ _ _ _ h => h.elim)⟩
 intro v h ω4 σ4 gs4 s₄ l4 S4 R4 r₄ k₄
 (refine o_aa k₄ fun z182 z183 z184 => ?_; clear k₄; subst z182; subst z183; subst z184)
 have l14 := l2.trans (l₃.trans l4)
 refine store_ok (O.mono l14) S4 R4 (by kernel_rfl) r₄ fun ω5 s5 l5 _ O5 S5 R5 => ?_
 have l15 := (l14.s env.locals).trans l5
 have hL5 : ∃ m, ω5 env.locals = some (.ns m) := by refine o_ea O5.loc fun m h _ => ?_; exact ⟨m, h⟩
 refine n₁ _ ?_
 conv => arg 3; arg 1; whnf
 induction hb : octets[p]? with
 | some b =>
   refine o_a (cut_one hb) fun hcut hmin => ?_
   rw [hcut] at O5
   rw [hmin] at R5 R4
   refine wpAny_execs_cons (wpAny_mono (okS (mu := fun _ => false) (Γ := fun _ => none) TB (spx_none (n := n + 1)) _ A' _ ω5 s5 _ (fun fl ρ' σ' => fl = .rt (.int b.toNat) /\ σ' = σ.put P [.int ((p + 1 : Nat) : Int)]) env _ _ Rm' O5 S5 R5 ?_) (fun f s6 q => ?_) fun _ _ x => x)
   · repeat' walk_at "ev"
     refine ⟨true, rfl, ?_⟩
     repeat' walk_at "ev"
     refine s_bytes (by decide) rfl ?_
     repeat' walk_at "ev"
     exact ⟨rfl, rfl⟩
   · obtain ⟨fl, ω6, σ6, ρ6, l₆, O6, S6, R6, hf, rfl, rfl⟩ := q
     cases hf with
     | rt rv => exact hQ _ _ ⟨_, _, ω6, _, gs4, rfl, l15.trans l₆, S6, R6, rv, b, hb, rfl, rfl, rfl⟩
 | none =>
   refine o_a (cut_none (c := 1) hb) fun hcut hmin => ?_
   have O5 := hcut ▸ O5
   rw [hmin] at R5 R4
   refine s_at (mu := fun _ => false) (Γ := fun _ => none) (r := upd (upd (fun _ => none) (Str.ofString "f") (.val (.ref T))) (Str.ofString "data") (.bytes [])) (t := σ.put P [.int (octets.length : Nat)]) TB (spx_none (n := n + 1)) Rm' O5 S5 R5 ?_ ?_
   · intro K hK
     repeat' walk_at "ev"
     refine ⟨false, rfl, ?_⟩
     repeat' walk_at "ev"
     exact hK
   intro ω6 s6 l₆ O6 S6 R6
   conv => arg 3; arg 1; whnf
   refine raise_x (mu := fun _ => false) (Γ := fun _ => none) (cls := "ValueError") (N := fun msg σ' => msg = w0 /\ σ' = σ.put P [.int (octets.length : Nat)]) TB (spx_none (n := n + 1)) PySem.F.excCall_ValueError PySem.F.excRaise_ValueError hE Rm' O6 S6 R6 rfl ?_ ?_ ?_ (l15.trans l₆) ?_
   · walk_at "nm"
   · walk_at "nm"
   · repeat' walk_at "ev"
     exact ⟨_, rfl, rfl, rfl⟩
   · intro ω' σ' msg _ _ hN
     exact ⟨hb, rfl, hN.1, hN.2, rfl⟩
end
end
section
noncomputable def rdF (o : List UInt8) (p : Nat) : Option (List Nat × Nat) := match o[p]? with
 | none => none
 | some b => if p + 1 + b.toNat <= o.length then some (((o.drop (p + 1)).take b.toNat).map (·.toNat), p + 1 + b.toNat) else none
noncomputable def rdW (o : List UInt8) (p : Nat) : List Nat := match o[p]? with
 | none => w0
 | some b => w1 b.toNat (o.length - (p + 1))
theorem b15 (fd : FuncData) (v : Value) (hp : fd.params = argsOf (stm 15)) (h1 : fd.kwdefaults = .none) (h2 : fd.defaults = .none) : bindArgs fd ⟨[v], []⟩ = pure [(tN "f", v)] := by
 cases fd
 simp only at hp h1 h2
 subst hp h1 h2
 with_unfolding_all rfl
section
variable {prog : Program} {w : World} {B0 : Heap} {os : OsState} {gs : Array GenState} {mg mb : Str -> Option Value} {n : Nat} {gt : Loc}
theorem raise_y (T : TopB B0 mg mb) {cls newId initId : String} (F : ExcCallFacts cls newId initId) (FR : ExcRaiseFacts cls) {A : Around} {env : Env} {ωb ω : Own} {s : Shared} {ρ : Loc} {G : GC} {x : Str} {np cpos pos : Pos} {e : Expr} {rest : List Stmt} {Q : Flow -> Shared -> Prop} {KX : KXG} {E : Value -> Shared -> Prop} (hE : ∀ e s, ThrG B0 os env ωb KX e s -> E e s)
 (Rm : Room n A) (O : EnvOk mg mb env ω ρ G) (S : MS B0 os ω gs s) (hs : [e].all notStar = true) (hg : G.g x = some (.val (.type cls))) (l : LeS env.locals ωb ω)
 (h : wpAny (model prog w) A (eval e env) (fun v s' => ∃ msg tk ω' σ', v = .str ⟨List.toArray msg⟩ tk /\ Le ω ω' /\ MS B0 os ω' gs s' /\ RelS ω' σ' /\ msg.length <= sizeLine /\ KX cls msg ω' σ' gs) E s) :
 wpAny (model prog w) A (execs (.Raise (some (.Call (.Name x np) [e] [] cpos)) none pos :: rest) env) Q E s := by
 refine o_ea O.loc fun m₀ hL _ => ?_
 refine wpAny_execs_cons (wpAny_Raise_call F FR Rm.handled (by refine rr (plain_back cpos [e] env hs) ?_; exact plain_any [e] env) ?_)
 refine gname_ok T O S hg fun v hv => ?_
 (injection hv with hv; subst hv)
 refine ⟨rfl, ?_⟩
 refine rr (plain_back cpos [e] env hs) ?_
 refine args_any (plain_any [e] env) (spliced_cons (wpAny_mono h (fun v s₁ q => ?_) fun _ _ x => x))
 (refine o_eeeeaaaaa q fun msg tk ω1 σ1 z6 l1 S1 R1 hz k => ?_; clear q; refine rr z6 ?_)
 refine spliced_nil (i_aa rfl (by exact Nat.succ_pos _) (fun h' ea hm => ?_))
 exact hE _ _ ⟨ea, ω1, σ1, gs, cls, msg, rfl, l.trans (l1.s _), ⟨m₀, l1 _ _ hL⟩, R1, k, .inr (i_eeaa s₁.heap tk S1 hm.of hz)⟩
theorem call_name {mu : Pos -> Bool} {Γ : Spx} {A : Around} {E : Value -> Shared -> Prop} {env : Env} {ω : Own} {s : Shared} {σ : St} {ρ : Loc} {G : GC} {f : Str} {q pos : Pos} {fa : Addr} {args : List Expr} {Q : Value -> Shared -> Prop} {N : List HV -> St -> Prop} {o : Obj} {fd : FuncData} (T : TopB B0 mg mb) (Rm : Room n A) (O : EnvOk mg mb env ω ρ G) (S : MS B0 os ω gs s) (R : RelS ω σ)
 (hg : G.g f = some (.val (.ref fa))) (hp : args.all notStar = true) (hs : OkEs prog w B0 os gs mg mb mu Γ n args) (h : evEs mu Γ args ρ G σ N)
 (H : ∀ hs ω' σ' vs s', Le ω ω' -> MS B0 os ω' gs s' -> RelS ω' σ' -> RdL ω' hs vs -> N hs σ' -> (s'.heap.get? fa = some o /\ o.data = .func fd) /\ wpAny (model prog w) A (call (.ref fa) vs []) Q E s') :
 wpAny (model prog w) A (eval (.Call (.Name f q) args [] pos) env) Q E s := by
 refine wpAny_Call_ofName (gname_ok T O S hg fun v hv => ?_)
 (injection hv with hv; subst hv)
 exact with_fn (mu := mu) (Γ := Γ) (N := N) (n := n) (o := o) (fd := fd) Rm O S R hp hs h H
theorem call_name_at {mu : Pos -> Bool} {Γ : Spx} {A : Around} {E : Value -> Shared -> Prop} {env : Env} {ω : Own} {s : Shared} {σ t : St} {ρ : Loc} {G : GC} {f : Str} {q pos : Pos} {fa : Addr} {args : List Expr} {Q : Value -> Shared -> Prop} {xs : List HV} {o : Obj} {fd : FuncData} (T : TopB B0 mg mb) (Rm : Room n A) (O : EnvOk mg mb env ω ρ G) (S : MS B0 os ω gs s) (R : RelS ω σ)
 (hg : G.g f = some (.val (.ref fa))) (hp : args.all notStar = true) (hs : OkEs prog w B0 os gs mg mb mu Γ n args) (h : ∀ K : List HV -> St -> Prop, K xs t -> evEs mu Γ args ρ G σ K)
 (H : ∀ ω' vs s', Le ω ω' -> MS B0 os ω' gs s' -> RelS ω' t -> RdL ω' xs vs -> (s'.heap.get? fa = some o /\ o.data = .func fd) /\ wpAny (model prog w) A (call (.ref fa) vs []) Q E s') :
 wpAny (model prog w) A (eval (.Call (.Name f q) args [] pos) env) Q E s :=
 call_name T Rm O S R hg hp hs (h (fun hs σ' => hs = xs /\ σ' = t) ⟨rfl, rfl⟩) fun _ ω' _ vs s' l S' R' r q => H ω' vs s' l S' (q.2 ▸ R') (q.1 ▸ r)
theorem str1_ok (TB : TopB B0 mg mb) (hg : GtOk mg mb gt) (gT : GtTape gt) {a a14 : Addr} {fd fd14 : FuncData} (F : FnK B0 a (stm 15) fd .none) (F14 : FnK B0 a14 (stm 14) fd14 .none) (g14 : gt (tN "read_uint1") = some (.val (.ref a14))) {A : Around} {l : List Env} {ω : Own} {s : Shared} {σ : St} {T P K : Addr} {octets : List UInt8} {fo : FuncData} {ρf : Loc} {p : Nat}
 (Rm : Room (n + 1 + 1 + 1) A) (Ks : Stk ω A l) (S : MS B0 os ω gs s) (R : RelS ω σ) (H : TapeAt ω T P K octets fo ρf) (hp : σ P = some [.int (p : Nat)]) (hpl : p <= octets.length) :
 wpAny (model prog w) A (call (.ref a) [.ref T] []) (PostG B0 os ω fun h _ σ' gs' => ∃ t p', rdF octets p = some (t, p') /\ h = .str t /\ σ' = σ.put P [.int (p' : Nat)] /\ gs' = gs)
  (RaisG B0 os ω fun cls msg _ σ' gs' => rdF octets p = none /\ cls = "ValueError" /\ msg = rdW octets p /\ σ' = σ.put P [.int (octets.length : Nat)] /\ gs' = gs) s := by
 have hlen := H.len
 have ln := line_is
 refine o_eaa (F.at'.now S) fun o ho hd hcd => ?_
 refine call_x (n := n + 1 + 1) (ps := [tN "f"]) (hs := [.val (.ref T)]) (vs := [.ref T]) (ρf := fun _ => none) TB (plainD F.body F.scope F.glob F.blt (by simp) p15) hg (fun _ _ _ _ _ _ _ q => q) (fun _ _ _ _ _ _ q => q) Rm Ks S R (by simp only [RdL, Rd]; exact (i_eeaa _ ([]) rfl rfl rfl)) rfl (BindsTo.of_eq (b15 fd _ F.params F.kdflt F.dflt)) ho hd hcd (FreeOk.none _ _ _) ?_
 intro env A' ω1 s₁ hfr O Rm' Ks' S1 R1 hnew other
 have O := F.scope ▸ O
 have n1 : bindHF (fun _ => none) [tN "f"] [.val (.ref T)] = upd (fun _ => none) (tN "f") (.val (.ref T)) := rfl
 have O := n1 ▸ O
 have g1 := gT.verr
 have g2 := gT.len
 unfold tN at O g1 g14 g2
 refine gen_QE fun Q E hQ hE => ?_
 conv => arg 3; arg 1; whnf
 refine cons_next fun Q₁ n₁ => (wpAny_Assign_Name ?_ (swaps_plain rfl))
 refine o_eaa F14.at'.at' fun o14 ho14 hd14 hcd14 => ?_
 refine call_name_at (mu := fun _ => false) (Γ := fun _ => none) (n := n + 1 + 1) (xs := [.val (.ref T)]) (t := σ) (o := o14) (fd := fd14) TB Rm' O S1 R1 (fa := a14) ?_ rfl (okEs_cons (okE TB (spx_none (n := n + 1 + 1)) _) okEs_nil) ?_ ?_
 · walk_at "nm"
 · intro K hK
   repeat' walk_at "ev"
   exact hK
 intro ω2 vs s₂ l2 S2 R₂ r₂
 (refine o_ea r₂.one fun u z1 ru => ?_; clear r₂; subst z1)
 simp only [Rd] at ru
 refine rr ru ?_
 have H₂ := H.monoW (stay_on hnew other (l2.s _))
 refine o_ea O.loc fun m₀ hL _ => ?_
 refine ⟨⟨S2.top ho14 hd14, hcd14⟩, call_then hE (uint1_ok (n := n) TB hg gT F14 Rm' (Ks'.mono l2.w) S2 R₂ H₂ hp hpl) (l2 _ _ hL) (l2.s _) ?_ (fun cls msg ω' σ' gs' _ ⟨h1, h2, h3, h4, h5⟩ => ⟨by unfold rdF; exact rr h1 rfl, h2, by unfold rdW; refine rr h1 ?_; exact h3, h4, h5⟩)⟩
 intro v h ω3 σ3 gs3 s₃ l₃ S₃ R₃ r₃ k₃
 (refine o_eaaa k₃ fun b hb z6 z7 z8 => ?_; clear k₃; subst z6; subst z7; cases z8)
 have l13 := l2.trans l₃
 refine store_ok (O.mono l13) S₃ R₃ (by kernel_rfl) r₃ fun ω4 s₄ l4 _ O4 S4 R4 => ?_
 have l14 := (l13.s env.locals).trans l4
 refine n₁ _ ?_
 conv => arg 3; arg 1; whnf
 have hpb := (List.getElem?_eq_some_iff.mp hb).1
 have hbl : b.toNat < 256 := b.toNat_lt
 refine s_at (mu := fun _ => false) (Γ := fun _ => none) (r := upd (upd (fun _ => none) (Str.ofString "f") (.val (.ref T))) (Str.ofString "n") (.int b.toNat)) (t := σ.put P [.int ((p + 1 : Nat) : Int)]) TB (spx_none (n := n + 1 + 1)) Rm' O4 S4 R4 ?_ ?_
 · intro K hK
   repeat' walk_at "ev"
   refine ⟨by simp, ?_⟩
   exact hK
 intro ω5 s5 l5 O5 S5 R5
 have l15 := l14.trans l5
 conv => arg 3; arg 1; whnf
 refine cons_next fun Q₁ n₁ => (wpAny_Assign_Name ?_ (swaps_plain rfl))
 refine call_attr_fn rfl rfl (by decide) rfl fn_no_read ?_
 refine e_at (mu := fun _ => false) (Γ := fun _ => none) (x := .val (.ref T)) (t := σ.put P [.int ((p + 1 : Nat) : Int)]) TB (spx_none (n := n + 1 + 1)) Rm' O5 S5 R5 ?_ fun ω6 v6 s6 l₆ S6 R6 r₆ => ?_
 · intro K hK
   repeat' walk_at "ev"
   exact hK
 simp only [Rd] at r₆
 subst r₆
 have l16 := l15.trans (l₆.s _)
 have H6 := H.monoW (stay_on hnew other l16)
 refine o_eeeeaaa H6.tape fun D m fdT sl t1 t2 t3 t4 => ?_
 refine (i_eeee T D fdT sl ⟨m, K, rfl, S6.hold _ _ t1, S6.hold _ _ t2, t3, fun tk => ?_⟩)
 refine with_fn_at (mu := fun _ => false) (Γ := fun _ => none) (xs := [.int b.toNat]) (t := σ.put P [.int ((p + 1 : Nat) : Int)]) (n := n + 1 + 1) (o := { cls := .type "function", data := .func fo }) (fd := fo) Rm' (O5.mono l₆) (S6.toks tk) R6 rfl (okEs_cons (okE TB (spx_none (n := n + 1 + 1)) _) okEs_nil) ?_ ?_
 · intro K hK
   repeat' walk_at "ev"
   exact hK
 intro ω7 vs s7 l7 S7 R7 r₇
 (refine o_ea r₇.one fun u z17 ru => ?_; clear r₇; subst z17)
 simp only [Rd] at ru
 obtain ⟨t₇, rfl⟩ := ru
 have l17 := l16.trans (l7.s _)
 have H7 := H6.monoW l7.w
 have O7 := (O5.mono l₆).mono l7
 refine o_ea O7.loc fun m₇ hL7 _ => ?_
 refine ⟨⟨S7.hold _ _ H7.fn, rfl⟩, call_then hE (take_ok (n := n + 1) TB hg gT.min gT.len (p := p + 1) (c := b.toNat) Rm' (Ks'.step l17 hL7) S7 R7 H7 (put_self) (ar32 hpb) (by lia)) hL7 l17 ?_ (fun _ _ _ _ _ _ h => h.elim)⟩
 intro v h ω8 σ8 gs8 s8 l8 S8 R8 r₈ k8
 (refine o_aa k8 fun z647 z648 z649 => ?_; clear k8; subst z647; subst z648; clear S₃; subst z649)
 refine store_ok (O7.mono l8) S8 R8 (by kernel_rfl) r₈ fun ω9 s9 l9 _ O9 S9 R9 => ?_
 have l19 := (l17.trans (l8.s _)).trans l9
 refine n₁ _ ?_
 conv => arg 3; arg 1; whnf
 have hput : ((σ.put P [.int ((p + 1 : Nat) : Int)]).put P [.int (min octets.length (p + 1 + b.toNat) : Nat)]) = σ.put P [.int (min octets.length (p + 1 + b.toNat) : Nat)] := by
  funext x
  by_cases q : x = P
  · refine rr q ?_; (refine rr put_self ?_; exact rr put_self rfl)
  · (refine rr (put_ne q) ?_; refine rr (put_ne q) ?_; exact rr (put_ne q) rfl)
 simp only [hput] at R9
 have hclen : (cutO octets (p + 1) b.toNat).length = min octets.length (p + 1 + b.toNat) - (p + 1) := by unfold cutO; (refine rr List.length_drop ?_; refine rr List.length_take ?_); exact ar267
 by_cases hfit : p + 1 + b.toNat <= octets.length
 · have hmin : min octets.length (p + 1 + b.toNat) = p + 1 + b.toNat := ar266 hfit
   rw [hmin] at R9 hclen
   refine wpAny_execs_cons (wpAny_If (b_at (mu := fun _ => false) (Γ := fun _ => none) (x := true) (t := σ.put P [.int ((p + 1 + b.toNat : Nat) : Int)]) TB (spx_none (n := n + 1 + 1)) Rm' O9 S9 R9 ?_ fun ω10 s10 l10 S10 R10 => ?_))
   · intro K hK
     repeat' walk_at "ev"
     refine rr (show (((cutO octets (p + 1) b.toNat).length : Int) == (b.toNat : Int)) = true by rw [hclen]; simp) ?_
     exact hK
   refine rr (if_pos rfl) ?_
   conv => arg 3; arg 1; whnf
   refine wpAny_execs_cons (wpAny_Return_some ?_)
   refine wpAny_Call_method (T := "bytes") (id := "bytes.decode") (base_plain rfl) (few_ok _ env rfl (by decide) _) (by decide) FB.plainAttrs_bytes FB.slot_bytes_decode FB.type_bytes_decode ?_
   refine e_at (mu := fun _ => false) (Γ := fun _ => none) (x := .bytes (cutO octets (p + 1) b.toNat)) (t := σ.put P [.int ((p + 1 + b.toNat : Nat) : Int)]) TB (spx_none (n := n + 1 + 1)) Rm' (O9.mono l10) S10 R10 ?_ fun ω11 v11 s11 l11 S11 R11 r11 => ?_
   · intro K hK
     repeat' walk_at "ev"
     exact hK
   simp only [Rd] at r11
   (refine o_ae r11 fun hz11 t11 z641 => ?_; clear r11; subst z641)
   refine (i_aa (typeIs_bytes _ _ _) (fun a e => (by contradiction)) ?_)
   refine rr (plain_back _ _ env rfl) ?_
   refine callWith_builtin (plain_any _ env) (args_any (plain_any _ env) (next_l (okEs_cons (okE (mu := fun _ => false) (Γ := fun _ => none) TB (spx_none (n := n + 1 + 1)) _) okEs_nil A' _ ω11 s11 _ (fun hs σ' => hs = [.str (litS (Str.ofString "latin-1"))] /\ σ' = σ.put P [.int ((p + 1 + b.toNat : Nat) : Int)]) env _ _ Rm' ((O9.mono l10).mono l11) S11 R11 ?_) fun hs ω12 σ12 vs s12 l12 S12 R12 r12 hn12 k12 => ?_))
   · repeat' walk_at "ev"
     exact ⟨rfl, rfl⟩
   (refine o_a k12 fun z632 z633 => ?_; clear k12; subst z632; subst z633)
   (refine o_ea r12.one fun u z628 ru => ?_; subst z628)
   simp only [Rd] at ru
   (refine o_ae ru fun _ t12 z619 => ?_; clear ru; subst z619)
   refine rr (show (⟨(litS (Str.ofString "latin-1")).toArray⟩ : Str) = Str.ofString "latin-1" from str_mk _) ?_
   refine latin_decode hz11 fun t' k => ?_
   refine hQ _ _ ⟨_, .str ((cutO octets (p + 1) b.toNat).map (·.toNat)), ω12, _, gs8, rfl, l19.trans ((l10.trans (l11.trans l12)).s _), S12.toks k, R12, ?_, (cutO octets (p + 1) b.toNat).map (·.toNat), p + 1 + b.toNat, ?_, rfl, rfl, rfl⟩
   · exact ⟨by refine rr (List.length_map ..) ?_; exact hz11, _, rfl⟩
   · unfold rdF
     refine rr hb ?_
     dsimp only
     refine rr (if_pos hfit) ?_
     unfold cutO
     (refine rr hmin ?_; refine rr List.drop_take ?_; exact rr (show p + 1 + b.toNat - (p + 1) = b.toNat by exact ar265) rfl)
 · have hmin : min octets.length (p + 1 + b.toNat) = octets.length := ar264 hfit
   rw [hmin] at R9 hclen
   refine s_at (mu := fun _ => false) (Γ := fun _ => none) (r := upd (upd (upd (fun _ => none) (Str.ofString "f") (.val (.ref T))) (Str.ofString "n") (.int b.toNat)) (Str.ofString "data") (.bytes (cutO octets (p + 1) b.toNat))) (t := σ.put P [.int (octets.length : Nat)]) TB (spx_none (n := n + 1 + 1)) Rm' O9 S9 R9 ?_ ?_
   · intro K hK
     repeat' walk_at "ev"
     (refine rr hclen ?_; refine rr (if_neg (by simp; lia)) ?_)
     repeat' walk_at "ev"
     exact hK
   intro ω10 s10 l10 O10 S10 R10
   conv => arg 3; arg 1; whnf
   refine raise_y (n := n + 1 + 1) TB PySem.F.excCall_ValueError PySem.F.excRaise_ValueError hE Rm' O10 S10 rfl ?_ (l19.trans l10) ?_
   · walk_at "nm"
   refine wpAny_BinOp (e_at (mu := fun _ => false) (Γ := fun _ => none) (x := .str (litS (Str.ofString "expected %d bytes in a string1, but only %d remain"))) (t := σ.put P [.int (octets.length : Nat)]) TB (spx_none (n := n + 1 + 1)) Rm' O10 S10 R10 ?_ fun ω11 v11 s11 l11 S11 R11 r11 => ?_)
   · intro K hK
     repeat' walk_at "ev"
     exact hK
   refine e_at (mu := fun _ => false) (Γ := fun _ => none) (x := .tup [.int b.toNat, .int ((octets.length - (p + 1) : Nat) : Int)]) (t := σ.put P [.int (octets.length : Nat)]) TB (spx_none (n := n + 1 + 1)) Rm' (O10.mono l11) S11 R11 ?_ fun ω12 v12 s12 l12 S12 R12 r12 => ?_
   · intro K hK
     repeat' walk_at "ev"
     refine rr hclen ?_
     exact hK
   simp only [Rd] at r11
   (refine o_ae r11 fun _ t11 z615 => ?_; clear r11; subst z615)
   (refine o_aeeaa (tup_in S12 r12) fun _ ta tvs z611 htup tr => ?_; subst z611)
   (refine o_eeaa tr.two fun x1 x2 z604 q1 q2 => ?_; subst z604)
   simp only [Rd] at q1 q2
   obtain ⟨u1, rfl⟩ := q1
   obtain ⟨u2, rfl⟩ := q2
   rw [show (⟨(litS (Str.ofString "expected %d bytes in a string1, but only %d remain")).toArray⟩ : Str) = Str.ofString "expected %d bytes in a string1, but only %d remain" from str_mk _]
   refine mod_two (by simp) (by lia) (by simp) (by lia) htup fun t' k => ?_
   have hw : (Str.ofString "expected " ++ Str.ofString (toString (b.toNat : Int)) ++ Str.ofString " bytes in a string1, but only " ++ Str.ofString (toString ((octets.length - (p + 1) : Nat) : Int)) ++ Str.ofString " remain") = ⟨(w1 b.toNat (octets.length - (p + 1))).toArray⟩ := by
    unfold w1 sI
    (refine rl (str_app ..) ?_; refine rl (str_app ..) ?_; refine rl (str_app ..) ?_; refine rl (str_app ..) ?_)
    dsimp only [litS, str_mk]
   refine rr hw ?_
   refine (i_eeeeaaaaa (w1 b.toNat (octets.length - (p + 1))) t' ω12 _ rfl (l11.trans l12) (S12.toks k) R12 ?_ ?_)
   · have z1 := sI_len b.toNat (by lia)
     have z2 := sI_len (octets.length - (p + 1)) (ar262 hlen)
     have z3 : (litS (Str.ofString "expected ")).length = 9 := by kernel_rfl
     have z4 : (litS (Str.ofString " bytes in a string1, but only ")).length = 30 := by kernel_rfl
     have z5 : (litS (Str.ofString " remain")).length = 7 := by kernel_rfl
     unfold w1
     simp only [List.length_append]
     exact ar49 ln z1 z2 z3 z4 z5
   · refine (i_aaaa ?_ rfl ?_ rfl rfl)
     · unfold rdF; refine rr hb ?_; dsimp only; exact rr (if_neg hfit) rfl
     · unfold rdW; exact rr hb rfl
end
end
section
noncomputable def lamS : Stmt := (bodyOf (stm 17)).getD 2 (.Pass ⟨0, 0, 0, 0⟩)
noncomputable def lamPos : Pos := (testOf lamS).pos
noncomputable def tapeQs (q : Str) : List (Pos × Str) := [(posOf takeS, (q ++ ".<locals>.") ++ "take"), (lamPos, (q ++ ".<locals>.") ++ "<lambda>")]
theorem tape_apart (q : Str) : apartQ (tapeQs q) := by
 have h : (posOf takeS).line ≠ lamPos.line := by decide +kernel
 intro a ha b hb hl _
 simp only [tapeQs, List.mem_cons, List.not_mem_nil, or_false] at ha hb
 rcases ha with rfl | rfl <;> rcases hb with rfl | rfl
 · rfl
 · exact absurd hl h
 · exact absurd hl.symm h
 · rfl
theorem lenS {l : List Value} {n : Nat} (h : l.length = n + 1) : ∃ a r, l = a :: r /\ r.length = n := by
 induction l using List.casesOn with
 | nil => contradiction
 | cons a r => exact (i_eea a r rfl (Nat.succ.inj h))
theorem len1 {l : List Value} (h : l.length = 1) : ∃ a, l = [a] := by
 (refine o_eea (lenS h) fun a r z539 q => ?_; refine rr z539 ?_)
 exact ⟨a, by exact rr (List.eq_nil_of_length_eq_zero q) rfl⟩
theorem len2 {l : List Value} (h : l.length = 2) : ∃ a b, l = [a, b] := by
 (refine o_eea (lenS h) fun a r z543 q => ?_; subst z543)
 (refine o_e (len1 q) fun b z545 => ?_; clear q h; subst z545)
 exact (i_ee a b rfl)
theorem len3 {l : List Value} (h : l.length = 3) : ∃ a b c, l = [a, b, c] := by
 (refine o_eea (lenS h) fun a r z549 q => ?_; refine rr z549 ?_)
 (refine o_ee (len2 q) fun b c z547 => ?_; refine rr z547 ?_)
 exact (i_eee a b c rfl)
theorem len4 {l : List Value} (h : l.length = 4) : ∃ a b c d, l = [a, b, c, d] := by
 (refine o_eea (lenS h) fun a r z553 q => ?_; refine rr z553 ?_)
 (refine o_eee (len3 q) fun b c d z551 => ?_; refine rr z551 ?_)
 exact (i_eeee a b c d rfl)
theorem fd_with {fd : FuncData} {P : Arguments} (hp : fd.params = P) (h1 : fd.kwdefaults = .none) (h2 : fd.defaults = .none) : fd = { fd with params := P, kwdefaults := .none, defaults := .none } := by
 cases fd; subst hp; subst h1; subst h2; rfl
theorem mod17 : ∀ (vals : List Value), vals.length = 2 -> ∀ fd : FuncData, fd.params = argsOf (stm 17) -> fd.kwdefaults = .none -> fd.defaults = .none -> bindArgs fd ⟨vals, []⟩ = pure ([tN "octets", tN "start"].zip vals) := fun vals hl fd hp h1 h2 => by
 (refine o_ee (len2 hl) fun a b z555 => ?_; refine rr z555 ?_)
 refine rr (fd_with hp h1 h2) ?_
 with_unfolding_all rfl
noncomputable def cellSc (st : Stmt) (ps : List Str) : Bool :=
 (scopeOf st).kind == .function && !(scopeOf st).isCoroutine && !(scopeOf st).isGenerator && ps.all (fun x => (scopeOf st).names.lookup x == some .local || (scopeOf st).names.lookup x == some .cell) &&
  !(ps.contains ("__debug__" : Str)) && (scopeOf st).names.lookup ("__debug__" : Str) != some .globalImplicit && !(ps.contains ("__classdict__" : Str))
theorem cellD {fd : FuncData} {st : Stmt} {ps : List Str} (h1 : fd.body = .stmts (bodyOf st)) (h2 : fd.scope = scopeOf st) (h3 : fd.globals = mainGlobals) (h4 : fd.builtins = builtinsNs) (h5 : fd.closure = []) (hn : ps.Nodup) (hb : ∀ vals : List Value, vals.length = ps.length -> bindArgs fd ⟨vals, []⟩ = pure (ps.zip vals)) (h : cellSc st ps = true) : DefOk fd ps (bodyOf st) := by
 unfold cellSc at h
 simp only [Bool.and_eq_true, Bool.not_eq_true', bne_iff_ne, beq_iff_eq, List.all_eq_true, List.contains_eq_mem, decide_eq_false_iff_not, Bool.or_eq_true] at h
 (refine o_a h fun z557 a8 => ?_; (refine o_a z557 fun z559 a7 => ?_; obtain ⟨⟨⟨⟨a1, a2⟩, a3⟩, a5⟩, a6⟩ := z559))
 exact ⟨h1, h5, h3, h4, by refine rr h2 ?_; exact a1, by refine rr h2 ?_; exact a2, by refine rr h2 ?_; exact a3, hn, by refine rr h2 ?_; exact a5, hb, a6, by refine rr h2 ?_; exact a7, a8⟩
theorem p17 : cellSc (stm 17) [tN "octets", tN "start"] = true := by decide +kernel
theorem Keeps.stay {ω ω' : Own} (x : Keeps ω ω') : LeW ω ω' := fun b m e h => x b m e (fun vs q => by clear e; subst q; exact no_ft h)
theorem TabI.keeps {ω ω' : Own} (x : Keeps ω ω') {P : Addr} {qs : List (Pos × Str)} (h : TabI ω P qs) : TabI ω' P qs := by
 refine o_e h fun ps h1 => ?_
 exact ⟨ps, x _ _ h1 (fun _ q => by contradiction)⟩
theorem TabI.le {ω ω' : Own} (x : Le ω ω') {P : Addr} {qs : List (Pos × Str)} (h : TabI ω P qs) : TabI ω' P qs := by
 refine o_e h fun ps h1 => ?_
 refine o_e (x _ _ h1) fun more h2 => ?_
 exact ⟨_, h2⟩
theorem TabI.leS {L : Addr} {ω ω' : Own} (x : LeS L ω ω') {P : Addr} {qs : List (Pos × Str)} (h : TabI ω P qs) {m : Str -> Option Value} (hL : ω L = some (.ns m)) : TabI ω' P qs := by
 refine o_e h fun ps h1 => ?_
 refine o_e (x _ _ (fun q => by rw [q, hL] at h1; exact absurd h1 nofun) h1) fun more h2 => ?_
 exact ⟨_, h2⟩
theorem take_names : (scopeOf takeS).names = [(Str.ofString "count", .local), (Str.ofString "here", .local), (Str.ofString "octets", .free), (Str.ofString "place", .free), (Str.ofString "min", .globalImplicit), (Str.ofString "len", .globalImplicit)] := by with_unfolding_all rfl
theorem clos_take {env : Env} {c1 c2 : Addr} (h1 : env.cells.lookup (Str.ofString "octets") = some c1) (h2 : env.cells.lookup (Str.ofString "place") = some c2) : closureFor (scopeOf takeS) env = pure [(Str.ofString "place", c2), (Str.ofString "octets", c1)] := by
 have e1 : cellOf env (Str.ofString "octets") = pure c1 := by unfold cellOf; exact rr h1 rfl
 have e2 : cellOf env (Str.ofString "place") = pure c2 := by unfold cellOf; exact rr h2 rfl
 dsimp only [closureFor]
 refine rr take_names ?_
 simp [e1, e2]
end
section
structure CodeB (B0 : Heap) (fd : FuncData) (c P : Addr) : Prop where
 code : fd.code = .ref c
 hd : CodeHd B0 c P
 tab : ∃ ps, B0.get? P = some (tabObj ps)
 ne : P ≠ cStatics
section
variable {prog : Program} {w : World} {B0 : Heap} {os : OsState} {gs : Array GenState} {mg mb : Str -> Option Value} {n : Nat} {gt : Loc}
theorem NewFn.env {ω ω' : Own} {s' : Shared} {P f : Addr} {qs : List (Pos × Str)} {fo : Obj} (N : NewFn B0 os gs ω P qs ω' s' f fo) {env : Env} {ρ : Loc} {G : GC} (O : EnvOk mg mb env ω ρ G) : EnvOk mg mb env ω' ρ G := O.mono N.le
theorem LeS.none_of {L : Addr} {ω ω' : Own} (l : LeS L ω ω') (hL : ω L = none) {a : Addr} (h : ω' a = none) : ω a = none := by
 induction q : ω a with
 | none => rfl
 | some mm =>
   exfalso
   by_cases e : a = L
   · rw [e, hL] at q; exact no_ns q
   · have := l a mm e q
     replace this := h ▸ this
     clear q; cases mm <;> first | (obtain ⟨_, z⟩ := this; exact no_ns z) | exact no_ns this
noncomputable def DictIs (od : Obj) (m : Str -> Option Value) (k : Nat) : Prop := ∃ es ep, od.data = .dict es ep /\ StrKeys es /\ (∀ name, nsFind es name = m name) /\ es.size <= k /\ od.cls = .type "dict"
theorem NsZ.is {h : Heap} {D : Addr} {m : Str -> Option Value} {k : Nat} (z : NsZ h D m k) : ∃ od, h.get? D = some od /\ DictIs od m k := by
 refine o_eeea z fun o es ep g1 g2 => ?_
 exact (i_ea o g1 (i_ee es ep g2))
theorem DictIs.z {h : Heap} {D : Addr} {od : Obj} {m : Str -> Option Value} {k : Nat} (g : h.get? D = some od) (x : DictIs od m k) : NsZ h D m k := by
 refine o_ee x fun es ep g2 => ?_
 exact (i_eeea od es ep g g2)
theorem fn_attr_first {A : Around} {E : Value -> Shared -> Prop} {ω : Own} {s : Shared} {σ : St} {T : Addr} {fo : FuncData} {sl : Array (Option Value)} {name : Str} {v : Value} {Q : Unit -> Shared -> Prop} (S : MS B0 os ω gs s) (R : RelS ω σ) (eT : ω T = some (.ex { cls := .type "function", dict := none, data := .func fo, slots := sl }))
 (hmiss : typeLookup (.type "function") name = pure none)
 (H : ∀ D od ω' s', ω D = none -> D ≠ T -> ω' = (ω.set T (.ex { cls := .type "function", dict := some D, data := .func fo, slots := sl })).set D (.ex od) -> DictIs od (fun x => if x = name then some v else none) 1 -> Le ω ω' -> MS B0 os ω' gs s' -> RelS ω' σ -> Q () s') : wpAny (model prog w) A (setAttr (.ref T) name v) Q E s := by
 refine fn_setAttr_new (S.hold _ _ eT) hmiss fun h' tk g1 g2 g3 => ?_
 refine o_ea g2.is fun od hod hdi => ?_
 have hDn : ω s.heap.objs.size = none := S.unused
 have hDT : s.heap.objs.size ≠ T := fun q => by simp only [← q, hDn] at eT; contradiction
 have S1 : MS B0 os (ω.del T) gs { s with heap := h', toks := tk } := S.ext eT rfl (fun b o q e => g3 b o q e) tk
 have hd1 : (ω.del T).set T (.ex { cls := .type "function", dict := some s.heap.objs.size, data := .func fo, slots := sl }) = ω.set T (.ex { cls := .type "function", dict := some s.heap.objs.size, data := .func fo, slots := sl }) := by
  funext b; unfold Own.set Own.del; split <;> rfl
 have S2 := S1.adopt (a := T) (m := .ex { cls := .type "function", dict := some s.heap.objs.size, data := .func fo, slots := sl }) g1 (S.lo _ _ eT rfl) (fun o q => by simp [Own.del] at q)
 rw [hd1] at S2
 have S₃ := S2.adopt (a := s.heap.objs.size) (m := .ex od) hod S.size (fun o q => by rw [Own.set_ne _ _ hDT, hDn] at q; contradiction)
 have l1 : Le ω (ω.set T (.ex { cls := .type "function", dict := some s.heap.objs.size, data := .func fo, slots := sl })) := fun b o e => by
  by_cases q : b = T
  · cases q; rw [eT] at e; refine Option.some.inj e ▸ ?_; refine rr (Own.set_self ..) ?_; exact ⟨_, rfl⟩
  · (refine rr (Own.set_ne _ _ q) ?_; refine rr e ?_); exact LeO.refl _
 exact H _ od _ _ hDn hDT rfl hdi (l1.setNew _ hDn) S₃ ((R.set _ eT (fun _ q => by contradiction) (fun _ q => by contradiction)).new (by refine rr (Own.set_ne _ _ hDT) ?_; exact hDn))
theorem fn_attr_more {A : Around} {E : Value -> Shared -> Prop} {ω : Own} {s : Shared} {σ : St} {T D : Addr} {od : Obj} {m : Str -> Option Value} {k : Nat} {fo : FuncData} {sl : Array (Option Value)} {name : Str} {v : Value} {Q : Unit -> Shared -> Prop} (S : MS B0 os ω gs s) (R : RelS ω σ) (eT : ω T = some (.ex { cls := .type "function", dict := some D, data := .func fo, slots := sl })) (eD : ω D = some (.ex od)) (hd : DictIs od m k) (hk : k <= 1000)
 (hmiss : typeLookup (.type "function") name = pure none)
 (H : ∀ od' s', DictIs od' (fun x => if x = name then some v else m x) (k + 1) -> MS B0 os (ω.set D (.ex od')) gs s' -> RelS (ω.set D (.ex od')) σ -> Q () s') : wpAny (model prog w) A (setAttr (.ref T) name v) Q E s := by
 refine fn_setAttr_old (S.hold _ _ eT) (hd.z (S.hold _ _ eD)) hk hmiss fun h' tk g1 g2 => ?_
 refine o_ea g1.is fun od' hod hdi => ?_
 exact H od' _ hdi (S.same eD rfl g2 (m := .ex od') hod tk) (R.set _ eD (fun _ q => by contradiction) (fun _ q => by contradiction))
theorem store_ok' {A : Around} {E : Value -> Shared -> Prop} {ω : Own} {s : Shared} {σ : St} {env : Env} {ρ : Loc} {G : GC} {x : Str} {h : HV} {v : Value} {Q : Unit -> Shared -> Prop} (O : EnvOk mg mb env ω ρ G) (S : MS B0 os ω gs s) (R : RelS ω σ)
 (hx : nmB G x = true) (r : Rd ω h v) (H : ∀ ω' s', (∃ m, ω' = ω.set env.locals (.ns m)) -> LeS env.locals ω ω' -> LeF ω ω' -> EnvOk mg mb env ω' (upd ρ x h) G -> MS B0 os ω' gs s' -> RelS ω' σ -> Q () s') : wpAny (model prog w) A (storeName env x v) Q E s := by
 refine o_ea O.loc fun m h1 h2 => ?_
 have hl : G.l x = true := by unfold nmB at hx; simp only [Bool.and_eq_true] at hx; exact hx.1.1
 refine wpAny_storeName_local (O.lc x hl) (S.hold _ _ h1) (fun h' hn hs => ?_) (by refine rr O.kind ?_; rfl)
 exact H _ _ ⟨_, rfl⟩ (LeS.set _) (LeF.set _ h1 (fun _ q => by contradiction)) (env_set O hx h1 r) (S.same h1 rfl hs (m := .ns _) hn (s.toks + 1)) (R.set _ h1 (fun _ q => by contradiction) (fun _ q => by contradiction))
theorem free_take {ω : Own} {c1 c2 P : Addr} {vo : Value} {octets : List UInt8} (hvo : ω c1 = some (.cell (some vo))) (hpl : ω c2 = some (.cell (some (.ref P)))) (r : Rd ω (.bytes octets) vo) : FreeOk ω (scopeOf takeS) [(Str.ofString "place", c2), (Str.ofString "octets", c1)] (upd (upd (fun _ => none) (Str.ofString "octets") (.bytes octets)) (Str.ofString "place") (.obj P)) := by
 intro x h e
 by_cases q : x = Str.ofString "place"
 · subst q
   refine rr (show h = .obj P from by
    (replace e := Option.some.inj e; subst e); rfl) ?_
   refine (i_aeea ?_ c2 (.ref P) ?_ ⟨hpl, by dsimp only [Rd]⟩)
   · decide +kernel
   · rfl
 · by_cases q2 : x = Str.ofString "octets"
   · clear q; subst q2
     refine rr (show h = .bytes octets from by
      (replace e := Option.some.inj e; subst e); rfl) ?_
     refine (i_aeea ?_ c1 vo ?_ ⟨hvo, r⟩)
     · decide +kernel
     · rfl
   · exfalso
     simp [upd, q, q2] at e
theorem NewFn.abs {ω ω' : Own} {s' : Shared} {P f : Addr} {qs : List (Pos × Str)} {fo : FuncData} (N : NewFn B0 os gs ω P qs ω' s' f { cls := .type "function", data := .func fo }) : ∃ fo', fo' = fo /\ NewFn B0 os gs ω P qs ω' s' f { cls := .type "function", data := .func fo' } := (i_ea fo rfl N)
noncomputable def TapeD (ω ω' : Own) (T P K : Addr) : Prop := ∃ D m fd sl, (∀ m0, ω D ≠ some (.ns m0)) /\ ω' T = some (.fz { cls := .type "function", dict := some D, data := .func fd, slots := sl }) /\ ω' D = some (.ns m) /\ m "read" = some (.ref K) /\ m "place" = some (.ref P)
theorem TapeD.keeps {ω ω' ω'' : Own} {T P K : Addr} (h : TapeD ω ω' T P K) (x : Keeps ω' ω'') : TapeD ω ω'' T P K := by
 refine o_eeeeaaa h fun D m fd sl h1 h2 h3 h4 => ?_
 exact (i_eeeeaaa D m fd sl h1 (x _ _ h2 (fun _ q => by contradiction)) (x _ _ h3 (fun _ q => by contradiction)) h4)
theorem tape_ok (TB : TopB B0 mg mb) (TM : TopM B0 mg) (hg : GtOk mg mb gt) (gT : GtTape gt) {a c P17 : Addr} {fd : FuncData} (F : FnK B0 a (stm 17) fd .none) (CB : CodeB B0 fd c P17) {A : Around} {l : List Env} {ω : Own} {s : Shared} {σ : St} {octets : List UInt8} {v : Value}
 (Rm : Room (n + 1) A) (Ks : Stk ω A l) (S : MS B0 os ω gs s) (R : RelS ω σ) (hI : TabI ω P17 (tapeQs fd.qualname)) (hlen : octets.length <= 1000) (rv : Rd ω (.bytes octets) v) {t : Tok} {k : Nat} :
 wpAny (model prog w) A (call (.ref a) [v, .int (k : Nat) t] []) (PostG B0 os ω fun h ω' σ' gs' => ∃ T P K fo ρf, h = .val (.ref T) /\ TapeAt ω' T P K octets fo ρf /\ σ P = none /\ σ' = σ.put P [.int (k : Nat)] /\ TabI ω' P17 (tapeQs fd.qualname) /\ gs' = gs /\ TapeD ω ω' T P K /\ ∀ x c v, fo.closure.lookup x = some c -> ω c ≠ some (.cell v)) (RaisG B0 os ω fun _ _ _ _ _ => False) s := by
 have ln := line_is
 refine call_c (n := n) (ps := [tN "octets", tN "start"]) (hs := [.bytes octets, .int (k : Nat)]) TB (cellD F.body F.scope F.glob F.blt F.clo (by decide +kernel) (fun vals hv => mod17 vals hv fd F.params F.kdflt F.dflt) p17) F.at' hg (fun _ _ _ _ _ _ _ q => q) ?_ Rm Ks S R (by
  exact (i_eeaa v _ rfl rv ⟨.int (k : Nat) t, [], rfl, by simp only [Rd]; exact ⟨t, rfl⟩, rfl⟩)) rfl ?_
 · rintro h ω1 ω2 σ' gs' x ⟨T, P, K, fo, ρf, h1, h2, h3, h4, h5, h6, h7, h8⟩
   exact (i_eeee T P K fo ⟨ρf, h1, h2.monoW x.stay, h3, h4, h5.keeps x, h6, h7.keeps x, h8⟩)
 intro env A' ωb ω1 s₁ hfr hsc hcode hqual O CO Rm' Ks' S1 R1 l1 hbL hbc other other1
 have O := F.scope ▸ O
 rw [bindH_eq] at O
 have n1 : bindH [tN "octets", tN "start"] [.bytes octets, .int (k : Nat)] = upd (upd (fun _ => none) (tN "start") (.int (k : Nat))) (tN "octets") (.bytes octets) := rfl
 have O := n1 ▸ O
 obtain ⟨cps, hcps⟩ := CB.tab
 obtain ⟨ips, hips⟩ := hI
 have hI1 : TabI ω1 P17 (tapeQs fd.qualname) := ⟨ips, other1 _ _ hips (fun _ q => by first | exact no_ns q | exact no_sn q | exact no_tf q | exact no_ft q | contradiction | subst q)⟩
 have kpl : env.kindOf (Str.ofString "place") = some .cell := by
  show env.scope.names.lookup _ = _
  (refine rr hsc ?_; refine rr F.scope ?_); decide +kernel
 have koc : env.kindOf (Str.ofString "octets") = some .cell := by
  show env.scope.names.lookup _ = _
  (refine rr hsc ?_; refine rr F.scope ?_); decide +kernel
 have ktk : env.kindOf (Str.ofString "take") = some .local := by
  show env.scope.names.lookup _ = _
  (refine rr hsc ?_; refine rr F.scope ?_); decide +kernel
 refine o_ae (O.cl (Str.ofString "place") (by kernel_rfl)) fun _ c2 hc2 => ?_
 refine o_ae (O.cl (Str.ofString "octets") (by kernel_rfl)) fun _ c1 hc1 => ?_
 refine o_eeaa (O.cel (Str.ofString "octets") (.bytes octets) (by unfold tN; walk_at "nm") (.inl koc)) fun c1' vo hc1' hvo rvo => ?_
 replace hc1' := hc1 ▸ hc1'
 cases hc1'
 have hne12 : c1 ≠ c2 := fun q => by
  subst q
  exact absurd (CO.2 _ _ _ hc1 hc2) (ofS_ne (by decide +kernel))
 have g1 := gT.min
 unfold tN at *
 refine gen_QE fun Q E hQ hE => ?_
 conv => arg 3; arg 1; whnf
 refine cons_next fun Q₁ n₁ => (wpAny_Assign_Name ?_ (swaps_plain rfl))
 refine next_v (okE (mu := fun _ => true) (Γ := fun _ => none) TB (spx_none (n := n)) _ A' _ ω1 s₁ σ (fun h σ' => ∃ P, σ P = none /\ h = .obj P /\ σ' = σ.put P [.int (k : Nat)]) env _ _ Rm' O S1 R1 ?_) fun h₂ ω2 σ2 v₂ s₂ l2 S2 R₂ r₂ k₂ => ?_
 · repeat' walk_at "ev"
   intro P hP
   exact (i_eaa P hP rfl rfl)
 (refine o_eaa k₂ fun P hP z11 z12 => ?_; clear k₂; subst z11; subst z12)
 have hvo2 : ω2 c1 = some (.cell (some vo)) := l2 _ _ hvo
 have rvo2 := rvo.monoF l2.f
 have r2' := r₂
 simp only [Rd] at r2'
 subst r2'
 refine store_cell_ok (O.mono l2) (CO.monoW l2.w) S2 R₂ kpl hc2 ⟨ofS_ne (by decide +kernel), ofS_ne (by decide +kernel)⟩ r₂ fun s₃ v0 hv0 f₃ O3 CO3 S₃ R₃ => ?_
 have l₃ : LeS env.locals ωb (ω2.set c2 (.cell (some (.ref P)))) := (l1.trans (l2.s _)).setNew _ (hbc _ _ hc2).1
 obtain ⟨ps2, hps2⟩ := hI1.le l2
 have hI3 : TabI (ω2.set c2 (.cell (some (.ref P)))) P17 (tapeQs fd.qualname) := ⟨ps2, by rw [Own.set_ne _ _ (fun q => by simp only [q, hv0] at hps2; cases hps2)]; exact hps2⟩
 have hvo3 : (ω2.set c2 (.cell (some (.ref P)))) c1 = some (.cell (some vo)) := by refine rr (Own.set_ne _ _ hne12) ?_; exact hvo2
 have hpl3 : (ω2.set c2 (.cell (some (.ref P)))) c2 = some (.cell (some (.ref P))) := Own.set_self ..
 have rvo3 := rvo2.monoF f₃
 revert O3 CO3 S₃ R₃ l₃ hI3 hvo3 hpl3 rvo3
 generalize ω2.set c2 (.cell (some (.ref P))) = ω3
 intro O3 CO3 S₃ R₃ l₃ hI3 hvo3 hpl3 rvo3
 refine n₁ _ ?_
 conv => arg 3; arg 1; whnf
 have hqn : qualnameIn env (Str.ofString "take") (Str.ofString "take") = (fd.qualname ++ ".<locals>.") ++ "take" := by
  unfold qualnameIn
  (refine rr ktk ?_; refine rr hqual ?_); rfl
 refine wpAny_execs_cons (nestDef_K rfl rfl rfl ?_)
 refine mk_def TB TM S₃ CB.hd hcps CB.ne (tape_apart fd.qualname) (by refine rr hqn ?_; exact .head _) hI3 (clos_take hc1 hc2) O3.glob (hcode.trans CB.code) fun f ctv doc pm cv ω4 s₄ N4 hcv => ?_
 refine o_ea N4.abs fun fo hfo N4 => ?_
 have hsh : ∃ qual doc pm cv ctv cl, fo = fnX "take" qual (argsOf takeS) (bodyOf takeS) (scopeOf takeS) cl .none .none doc pm none cv ctv := (i_eeee _ _ _ _ ⟨_, _, hfo⟩)
 have hcl : fo.closure = [(Str.ofString "place", c2), (Str.ofString "octets", c1)] := by exact rr hfo rfl
 have hcd : CodeOk ω4 fo.code fo.qualname := by refine rr hfo ?_; exact hcv
 have hscp : fo.scope = scopeOf takeS := by refine rr hfo ?_; rfl
 clear hfo hcv
 have hPl : ∀ vs, ω3 P17 ≠ some (.lst vs) := fun vs q => by obtain ⟨ps, h⟩ := hI3; have q := h ▸ q; cases q
 have R4 := N4.rel hPl R₃
 have S5 := N4.ms.turn (m := .fz { cls := .type "function", data := .func fo }) N4.at' rfl (show s₄.heap.get? f = some _ from N4.ms.hold _ _ N4.at')
 have w5 := LeW.set (.fz { cls := .type "function", data := .func fo }) N4.at' rfl
 have R5 := R4.set (.fz { cls := .type "function", data := .func fo }) N4.at' (fun _ q => by first | exact no_ns q | exact no_sn q | exact no_tf q | exact no_ft q | contradiction | subst q) (fun _ q => by first | exact no_ns q | exact no_sn q | exact no_tf q | exact no_ft q | contradiction | subst q)
 have O5 := (O3.mono N4.le).monoW w5
 have hL3 : ∃ m, ω3 env.locals = some (.ns m) := by refine o_ea O3.loc fun m h _ => ?_; exact ⟨m, h⟩
 obtain ⟨m₃, hL3⟩ := hL3
 have hfb : ωb f = none := l₃.none_of hbL N4.new
 have l5 := (l₃.trans (N4.le.s _)).setNew (.fz { cls := .type "function", data := .func fo }) hfb
 have hI5 : TabI (ω4.set f (.fz { cls := .type "function", data := .func fo })) P17 (tapeQs fd.qualname) := by
  refine o_e N4.tab fun ps h => ?_
  exact ⟨ps, by rw [Own.set_ne _ _ (fun q => by simp only [q, N4.at'] at h; cases h)]; exact h⟩
 have hfk := Own.set_self ω4 f (.fz { cls := .type "function", data := .func fo })
 have hvo5 := w5 _ _ (N4.le _ _ hvo3) rfl
 have hpl5 := w5 _ _ (N4.le _ _ hpl3) rfl
 have rvo5 := (rvo3.monoF N4.le.f).monoF w5.f
 have hcv5 := hcd.monoF w5.f
 revert S5 w5 R5 O5 l5 hI5 hfk hvo5 hpl5 rvo5 hcv5
 generalize hω5 : ω4.set f (.fz { cls := .type "function", data := .func fo }) = ω5
 intro S5 w5 R5 O5 l5 hI5 hfk hvo5 hpl5 rvo5 hcv5
 clear hω5
 have hL5 : ω5 env.locals = some (.ns m₃) := w5 _ _ (N4.le _ _ hL3) rfl
 refine store_ok (h := .val (.ref f)) O5 S5 R5 (by kernel_rfl) (by dsimp only [Rd]) fun ω6 s6 l₆ f₆ O6 S6 R6 => ?_
 have hI6 := hI5.leS l₆ hL5
 have hfk6 := l₆.w hfk rfl (fun _ q => by first | exact no_ns q | exact no_sn q | exact no_tf q | exact no_ft q | contradiction | subst q) hL5
 have hvo6 := l₆.w hvo5 rfl (fun _ q => by first | exact no_ns q | exact no_sn q | exact no_tf q | exact no_ft q | contradiction | subst q) hL5
 have hpl6 := l₆.w hpl5 rfl (fun _ q => by first | exact no_ns q | exact no_sn q | exact no_tf q | exact no_ft q | contradiction | subst q) hL5
 have rvo6 := rvo5.monoF f₆
 have hcv6 := hcv5.monoF f₆
 show wpAny _ _ (execs _ _) _ _ _
 conv => arg 3; arg 1; whnf
 refine cons_next fun Q₁ n₁ => (wpAny_Assign_Name (kla_eval rfl ?_) (swaps_plain rfl))
 refine mk_lam TB TM S6 CB.hd hcps CB.ne (tape_apart fd.qualname) (by refine rr hqual ?_; exact .tail _ (.head _)) hI6 (clos := []) rfl O6.glob (hcode.trans CB.code) fun T ctv7 pm7 cv7 ω7 s7 N7 hcv7 => ?_
 refine o_ea N7.abs fun lo hlo N7 => ?_
 clear hlo hcv7
 have hPl6 : ∀ vs, ω6 P17 ≠ some (.lst vs) := fun vs q => by refine o_e hI6 fun ps h => ?_; have q := h ▸ q; cases q
 have R7 := N7.rel hPl6 R6
 have hL6 : ∃ m, ω6 env.locals = some (.ns m) := by refine o_ea O6.loc fun m h _ => ?_; exact ⟨m, h⟩
 obtain ⟨m₆, hL6⟩ := hL6
 have hL7 := N7.le _ _ hL6
 have l6b : LeS env.locals ωb ω6 := l5.trans l₆
 have hTb : ωb T = none := l6b.none_of hbL N7.new
 have hTL : T ≠ env.locals := fun q => by have := N7.at'; rw [q, hL7] at this; cases this
 refine store_ok' (h := .val (.ref T)) (O6.mono N7.le) N7.ms R7 (by kernel_rfl) (by dsimp only [Rd]) fun ω8 s8 x₈ l8 f₈ O8 S8 R8 => ?_
 have l8b : LeS env.locals ωb ω8 := (l6b.trans (N7.le.s _)).trans l8
 have eT8 : ω8 T = some (.ex { cls := .type "function", data := .func lo }) := by
  obtain ⟨m, rfl⟩ := x₈
  refine rr (Own.set_ne _ _ hTL) ?_; exact N7.at'
 have hI8 := N7.tab.leS l8 hL7
 have hfk8 := l8.w (N7.le _ _ hfk6) rfl (fun _ q => by first | exact no_ns q | exact no_sn q | exact no_tf q | exact no_ft q | contradiction | subst q) hL7
 have hvo8 := l8.w (N7.le _ _ hvo6) rfl (fun _ q => by first | exact no_ns q | exact no_sn q | exact no_tf q | exact no_ft q | contradiction | subst q) hL7
 have hpl8 := l8.w (N7.le _ _ hpl6) rfl (fun _ q => by first | exact no_ns q | exact no_sn q | exact no_tf q | exact no_ft q | contradiction | subst q) hL7
 have rvo8 := (rvo6.monoF N7.le.f).monoF f₈
 have hcv8 := (hcv6.monoF N7.le.f).monoF f₈
 have hL8 : ∃ m, ω8 env.locals = some (.ns m) := by refine o_ea O8.loc fun m h _ => ?_; exact ⟨m, h⟩
 obtain ⟨m₈, hL8⟩ := hL8
 refine n₁ _ ?_
 conv => arg 3; arg 1; whnf
 refine wpAny_execs_cons (plainObj_wpAny_Assign_Attribute ?_)
 refine name_ok (h := .val (.ref f)) O8 S8 (by walk_at "nm") fun v8 r₈ => ?_
 simp only [Rd] at r₈
 subst r₈
 refine name_ok (h := .val (.ref T)) O8 S8 (by walk_at "nm") fun v8 r₈ => ?_
 simp only [Rd] at r₈
 subst r₈
 refine fn_attr_first S8 R8 eT8 fn_no_read fun D od ω9 s9 hDn hDT hω9 hdi l9 S9 R9 => ?_
 have eD9 : ω9 D = some (.ex od) := by refine rr hω9 ?_; exact Own.set_self ..
 have eT9 : ω9 T = some (.ex { cls := .type "function", dict := some D, data := .func lo }) := by
  (refine rr hω9 ?_; refine rr (Own.set_ne _ _ (Ne.symm hDT)) ?_); exact Own.set_self ..
 have O9 := O8.mono l9
 have l9b := l8b.trans (l9.s _)
 have hDb : ωb D = none := l8b.none_of hbL hDn
 have rpl9 : Rd ω9 (.obj P) (.ref P) := by dsimp only [Rd]
 show wpAny _ _ (execs _ _) _ _ _
 conv => arg 3; arg 1; whnf
 refine wpAny_execs_cons (plainObj_wpAny_Assign_Attribute ?_)
 refine name_ok (h := .obj P) O9 S9 (by walk_at "nm") fun v8 r₈ => ?_
 simp only [Rd] at r₈
 subst r₈
 refine name_ok (h := .val (.ref T)) O9 S9 (by walk_at "nm") fun v8 r₈ => ?_
 simp only [Rd] at r₈
 subst r₈
 refine fn_attr_more S9 R9 eT9 eD9 hdi (by decide) fn_no_place fun od' s10 hdi' S10 R10 => ?_
 have eD10 : (ω9.set D (.ex od')) D = some (.ex od') := Own.set_self ..
 have eT10 : (ω9.set D (.ex od')) T = some (.ex { cls := .type "function", dict := some D, data := .func lo }) := by
  refine rr (Own.set_ne _ _ (Ne.symm hDT)) ?_; exact eT9
 have hdt := eT10
 have l10 : LeW ω9 (ω9.set D (.ex od')) := LeW.set _ eD9 rfl
 have S11 := S10.turn (m := .ns _) eD10 rfl (hdi'.z (S10.hold _ _ eD10)).ns
 have l11 := l10.trans (LeW.set (.ns (fun x => if x = "place" then some (.ref P) else if x = "read" then some (.ref f) else none)) eD10 rfl)
 have R11 := R10.set (.ns (fun x => if x = "place" then some (.ref P) else if x = "read" then some (.ref f) else none)) eD10 (fun _ q => by first | exact no_ns q | exact no_sn q | exact no_tf q | exact no_ft q | contradiction | subst q) (fun _ q => by first | exact no_ns q | exact no_sn q | exact no_tf q | exact no_ft q | contradiction | subst q)
 have eT11 : ((ω9.set D (.ex od')).set D (.ns (fun x => if x = "place" then some (.ref P) else if x = "read" then some (.ref f) else none))) T = some (.ex { cls := .type "function", dict := some D, data := .func lo }) := by
  refine rr (Own.set_ne _ _ (Ne.symm hDT)) ?_; exact eT10
 have S12 := S11.turn (m := .fz { cls := .type "function", dict := some D, data := .func lo }) eT11 rfl (show _ = some _ from S11.hold _ _ eT11)
 have R12 := R11.set (.fz { cls := .type "function", dict := some D, data := .func lo }) eT11 (fun _ q => by first | exact no_ns q | exact no_sn q | exact no_tf q | exact no_ft q | contradiction | subst q) (fun _ q => by first | exact no_ns q | exact no_sn q | exact no_tf q | exact no_ft q | contradiction | subst q)
 have l12 := l11.trans (LeW.set (.fz { cls := .type "function", dict := some D, data := .func lo }) eT11 rfl)
 have l12b := ((l9b.setNew (.ex od') hDb).setNew (.ns (fun x => if x = "place" then some (.ref P) else if x = "read" then some (.ref f) else none)) hDb).setNew (.fz { cls := .type "function", dict := some D, data := .func lo }) hTb
 have hI12 : TabI (((ω9.set D (.ex od')).set D (.ns (fun x => if x = "place" then some (.ref P) else if x = "read" then some (.ref f) else none))).set T (.fz { cls := .type "function", dict := some D, data := .func lo })) P17 (tapeQs fd.qualname) := by
  refine o_e (hI8.le l9) fun ps h => ?_
  have n1 : P17 ≠ D := fun q => by rw [q, eD9] at h; cases h
  have n2 : P17 ≠ T := fun q => by rw [q, eT9] at h; cases h
  exact ⟨ps, by (refine rr (Own.set_ne _ _ n2) ?_; refine rr (Own.set_ne _ _ n1) ?_; refine rr (Own.set_ne _ _ n1) ?_); exact h⟩
 have O12 := O9.monoW l12
 have hfk' := l12 _ _ (l9 _ _ hfk8) rfl
 have hvo' := l12 _ _ (l9 _ _ hvo8) rfl
 have hpl' := l12 _ _ (l9 _ _ hpl8) rfl
 have rvo' := (rvo8.monoF l9.f).monoF l12.f
 have hcv' := (hcv8.monoF l9.f).monoF l12.f
 have eT' := Own.set_self ((ω9.set D (.ex od')).set D (.ns (fun x => if x = "place" then some (.ref P) else if x = "read" then some (.ref f) else none))) T (.fz { cls := .type "function", dict := some D, data := .func lo })
 have eD' : (((ω9.set D (.ex od')).set D (.ns (fun x => if x = "place" then some (.ref P) else if x = "read" then some (.ref f) else none))).set T (.fz { cls := .type "function", dict := some D, data := .func lo })) D = some (.ns (fun x => if x = "place" then some (.ref P) else if x = "read" then some (.ref f) else none)) := by
  refine rr (Own.set_ne _ _ hDT) ?_; exact Own.set_self ..
 revert S12 R12 l12b hI12 O12 hfk' hvo' hpl' rvo' hcv' eT' eD'
 generalize (((ω9.set D (.ex od')).set D (.ns (fun x => if x = "place" then some (.ref P) else if x = "read" then some (.ref f) else none))).set T (.fz { cls := .type "function", dict := some D, data := .func lo })) = ωe
 intro S12 R12 l12b hI12 O12 hfk' hvo' hpl' rvo' hcv' eT' eD'
 show wpAny _ _ (execs _ _) _ _ _
 conv => arg 3; arg 1; whnf
 refine wpAny_execs_cons (wpAny_Return_some ?_)
 refine name_ok (h := .val (.ref T)) O12 S12 (by walk_at "nm") fun v8 r₈ => ?_
 simp only [Rd] at r₈
 subst r₈
 refine hQ _ _ ⟨_, .val (.ref T), ωe, _, gs, rfl, l12b, S12, R12, by dsimp only [Rd], T, P, f, fo, upd (upd (fun _ => none) (Str.ofString "octets") (.bytes octets)) (Str.ofString "place") (.obj P), rfl, ⟨hlen, hsh, hfk', hcv', ?_, ?_, ?_, ?_, ?_⟩, hP, rfl, hI12, rfl, (i_eeeeaaa D _ lo (#[]) ((fun m0 q => by have := other _ _ q (fun _ z => by cases z); rw [hDb] at this; cases this)) eT' eD' ⟨?_, ?_⟩), ?_⟩
 · (refine rr hscp ?_; refine rr hcl ?_); exact free_take hvo' hpl' rvo'
 · unfold tN; walk_at "nm"
 · unfold tN; walk_at "nm"
 · unfold tN; exact ⟨by walk_at "nm", by walk_at "nm"⟩
 · refine (i_eeeeaa D _ lo (#[]) eT' eD' ⟨?_, ?_⟩)
   · (refine rr (if_neg (by decide +kernel)) ?_; exact rr (if_pos rfl) rfl)
   · rw [if_pos rfl]
 · (refine rr (if_neg (by decide +kernel)) ?_; exact rr (if_pos rfl) rfl)
 · rw [if_pos rfl]
 · intro x c v hx hv
   replace hx := hcl ▸ hx
   have hm := mem_of_lookup hx
   have hb : ωb c = none := by
    rcases List.mem_cons.mp hm with q | hm
    · cases q; exact (hbc _ _ hc2).1
    · rcases List.mem_cons.mp hm with q | hm
      · cases q; exact (hbc _ _ hc1).1
      · contradiction
   have := other _ _ hv (fun _ z => by contradiction)
   rw [hb] at this; exact no_ns this
end
end
section
open PyProof.Rows
noncomputable def MapSays (f : Int -> Option Value) : Prop := ∀ c : Nat, c < 256 -> if specials.contains c then (∃ t, f c = some (.str ⟨#[92, c]⟩ t)) else f c = none
section
variable {prog : Program} {w : World} {A : Around} {E : Value -> Shared -> Prop} {s : Shared}
theorem keyerror_lookup : isSubtype (.type "KeyError") (.type "LookupError") = pure true := by kernel_rfl
theorem look_ok {d : Addr} {f : Int -> Option Value} {c : Nat} {Q : Builtin.Str.Mapped -> Shared -> Prop} (hm : s.heap.MapOf (intKind prog w) d f) (hf : MapSays f) (hd : (d == sysModules) = false) (hh : A.handled = none) (hc : c < 256)
 (H : ∀ h' tk, (∀ b o, s.heap.get? b = some o -> h'.get? b = some o) -> Q (if specials.contains c then .text ⟨#[92, c]⟩ else .keep) { s with heap := h', toks := tk }) : wpAny (model prog w) A (Builtin.Str.tableLookup (.ref d) c) Q E s := by
 have h1 := hf c hc
 dsimp only [Builtin.Str.tableLookup]
 refine wpAny_bind (wpAny_attempt (wpAny_bind (wpAny_mkInt ?_)))
 by_cases q : specials.contains c = true
 · rw [if_pos q] at h1
   refine o_e h1 fun t h1 => ?_
   refine wpAny_getItem_of (knd := intKind prog w) (intKind_is prog w c _) hm h1 ?_
   have := H s.heap (s.toks + 1 + 1) (fun _ _ e => e)
   rw [if_pos q] at this
   refine wpAny_bind (wpAny_of_eq (a := none) rfl ?_)
   refine wpAny_bind (wpAny_of_eq (a := some _) rfl ?_)
   exact wpAny_pure this
 · rw [if_neg q] at h1
   refine wpAny_getItem_missing_of (knd := intKind prog w) (intKind_is prog w c _) hd hh hm h1 fun h' e x => ?_
   have := H h' (s.toks + 1 + 1) (fun _ _ e => x.keeps _ _ e)
   rw [if_neg q] at this
   refine o_eeaa x.there fun ob te g1 g2 g3 => ?_
   refine wpAny_bind (wpAny_isInstance (T := "KeyError") (i_ea ob g1 g2) keyerror_lookup ?_)
   exact wpAny_bind (wpAny_rule (wpAny_pure this))
theorem trans_ok {d : Addr} {f : Int -> Option Value} {c : Nat} {t : Tok} {Q : Value -> Shared -> Prop} (hm : s.heap.MapOf (intKind prog w) d f) (hf : MapSays f) (hd : (d == sysModules) = false) (hh : A.handled = none) (hc : c < 256)
 (H : ∀ h' tk t', (∀ b o, s.heap.get? b = some o -> h'.get? b = some o) -> Q (.str ⟨(escF c).toArray⟩ t') { s with heap := h', toks := tk }) : wpAny (model prog w) A (call (.builtin "str.translate") [.str ⟨#[c]⟩ t, .ref d]) Q E s := by
 refine wpAny_call_entry PySem.F.slot_str_translate (show typeOf _ = _ from rfl) PySem.F.entry_str_translate ?_ (PySem.F.args_str_translate_2 _ _)
 refine wpAny_bind (wpAny_of_eq (a := (.str ⟨#[c]⟩ t, ⟨#[c]⟩, .ref d)) rfl ?_)
 dsimp only
 refine rr (if_neg (by show ¬ ((1 : Nat) == 0) = true; decide)) ?_
 refine rl Array.forIn_toList ?_
 simp only [List.forIn_cons, List.forIn_nil]
 have e1 : (#[c].all fun x => decide (x < 128)) = decide (c < 128) := by simp
 refine rr e1 ?_
 have e0 : Builtin.Str.tooLong 0 = false := by decide +kernel
 (refine rr e0 ?_; refine rr (if_neg (by decide)) ?_)
 by_cases h : c < 128
 · refine rr (decide_eq_true h) ?_
   refine wpAny_bind (wpAny_bind ?_)
   refine wpAny_bind (look_ok hm hf hd hh hc fun h' tk hk => ?_)
   unfold escF at H
   by_cases q : specials.contains c = true
   · simp only [if_pos q] at H ⊢
     show wpAny _ _ (rule "str.translate.fast-road-left" >>= _) _ _ _
     refine wpAny_bind (wpAny_rule ?_)
     have hm' : h'.MapOf (intKind prog w) d f := by refine o_eeea hm fun o es ep g1 g2 => ?_; exact (i_eeea o es ep (hk _ _ g1) g2)
     refine wpAny_bind (look_ok (s := { s with heap := h', toks := tk }) hm' hf hd hh hc fun h₂ tk2 hk2 => ?_)
     refine rr (if_pos q) ?_
     refine wpAny_pure ?_
     refine wpAny_pure ?_
     exact wpAny_bind (wpAny_mkStr (wpAny_pure (i_ea _ rfl (H _ _ _ fun b o e => hk2 _ _ (hk _ _ e)))) (by show (2 : Nat) <= sizeLine; decide +kernel))
   · simp only [if_neg q] at H ⊢
     refine wpAny_bind (wpAny_pure ?_)
     refine wpAny_pure ?_
     refine wpAny_pure ?_
     dsimp only
     exact wpAny_bind (wpAny_mkStr (wpAny_pure ⟨_, rfl, H _ _ _ hk⟩) (by show (1 : Nat) <= sizeLine; decide +kernel))
 · refine rr (decide_eq_false h) ?_
   refine wpAny_bind (wpAny_bind ?_)
   refine wpAny_bind (look_ok hm hf hd hh hc fun h' tk hk => ?_)
   unfold escF at H
   by_cases q : specials.contains c = true
   · simp only [if_pos q] at H ⊢
     refine wpAny_pure ?_
     refine wpAny_pure ?_
     exact wpAny_bind (wpAny_mkStr (wpAny_pure (i_ea _ rfl (H _ _ _ hk))) (by show (2 : Nat) <= sizeLine; decide +kernel))
   · simp only [if_neg q] at H ⊢
     refine wpAny_pure ?_
     refine wpAny_pure ?_
     dsimp only
     exact wpAny_bind (wpAny_mkStr (wpAny_pure ⟨_, rfl, H _ _ _ hk⟩) (by show (1 : Nat) <= sizeLine; decide +kernel))
end
end
section
open PyProof.Rows
section
variable {prog : Program} {w : World} {B0 : Heap} {os : OsState} {gs : Array GenState} {mg mb : Str -> Option Value} {n : Nat} {gt : Loc}
theorem call_np (T : TopB B0 mg mb) {fd : FuncData} {ps : List Str} {body : List Stmt} {ρf : Loc} {a : Addr} {o : Obj} (D : DefOkX fd ps body) (hg : GtOk mg mb gt) {A : Around} {ω : Own} {s : Shared} {σ : St} {K : KG} {E : Value -> Shared -> Prop} {hs : List HV} {vs args : List Value}
 (hK : KStable K) (Rm : Room (n + 1) A) (S : MS B0 os ω gs s) (R : RelS ω σ) (r : RdL ω hs vs) (hlen : hs.length = ps.length) (hbind : BindsTo s fd ⟨args, []⟩ (ps.zip vs)) (ho : s.heap.get? a = some o) (hd : o.data = .func fd) (hcd : s.heap.CodeRec fd.code fd.qualname) (hfr : FreeOk ω fd.scope fd.closure ρf)
 (H : ∀ (env : Env) (A' : Around) (ω1 : Own) (s₁ : Shared), env.frame = some env.locals -> EnvOk mg mb env ω1 (bindHF ρf ps hs) (GofDef fd.scope gt) -> Room n A' -> MS B0 os ω1 gs s₁ -> RelS ω1 σ -> ω env.locals = none -> (∀ b m, ω b = some m -> (∀ vs, m ≠ .lst vs) -> ω1 b = some m) ->
  wpAny (model prog w) A' (execs body env) (PostF B0 os env ω1 K) (fun _ _ => False) s₁) :
 wpAny (model prog w) A (call (.ref a) args []) (PostG B0 os ω K) E s := by
 refine wpAny_call (codeAny_call_def Rm.lim ho hd (T.lim S) hcd D.body hbind D.cells ?_ ?_ D.co D.gen D.kind)
 · intro x hx
   exact D.kinds x.1 (List.of_mem_zip (a := x.1) (b := x.2) hx).1
 · intro h₀ hns hk
   have S1 : MS B0 os ω gs { s with heap := h₀, toks := s.toks + (ps.zip vs).length } := S.keeps hk _
   have hun : hideO σ ω s.heap.objs.size = none := by
    rw [hide_none]
    induction q : ω s.heap.objs.size with
    | none => rfl
    | some m => exact absurd (S.hold _ _ q).lt (Nat.lt_irrefl _)
   have S₃ := (S1.hide σ).adopt (a := s.heap.objs.size) (m := .ns _) hns S.size (fun o q => by rw [hun] at q; exact no_ns q)
   have R₃ := R.hide.new (m := .ns fun x => (ps.zip vs).reverse.lookup x) hun
   have fl : LeF ω ((hideO σ ω).set s.heap.objs.size (.ns fun x => (ps.zip vs).reverse.lookup x)) := hide_f.trans (Le.new _ hun).f
   have other : ∀ b m, ω b = some m -> (∀ vs, m ≠ .lst vs) -> ((hideO σ ω).set s.heap.objs.size (.ns fun x => (ps.zip vs).reverse.lookup x)) b = some m := fun b m e hm => by
    (refine rr (Own.set_ne _ _ (fun q => by subst q; have := hide_none.mp hun; rw [this] at e; exact no_ns e)) ?_; refine rr (hide_else (fun us q => by rw [e] at q; (replace q := Option.some.inj q; clear e; subst q); exact hm us rfl)) ?_; exact rr e rfl)
   have O := defX_env (L := s.heap.objs.size) (a := a) D hg (r.monoF fl) (fun x h e => by
    refine o_aeeaa (hfr x h e) fun k c v h1 h2 h3 => ?_
    exact (i_aeea k c v h1 ⟨other _ _ h2 (fun _ q => by contradiction), h3.monoF fl⟩)) (Own.set_self ..)
   refine wpAny_mono (H (callEnv fd s.heap.objs.size a) _ _ _ rfl O Rm.deeper S₃ R₃ (hide_none.mp hun) other) (fun f s' q => ?_) fun e s' q => ?_
   · obtain ⟨v, h, ω', σ', gs', rfl, l', S', R', rv, k⟩ := q
     have l6 : Le (hideO σ ω) ω' := (((Le.new _ hun).s s.heap.objs.size).trans l').le hun
     exact ⟨h, backO σ ω ω', σ', gs', back_le l6, S.backS l6 S', (back_keeps l6).rel R', rv.monoF (back_keeps l6).f, hK _ _ _ _ _ (back_keeps l6) k⟩
   · exact q.elim
theorem p9 : plainSc (stm 9) [tN "pattern"] = true := by decide +kernel
theorem b9 (v : Value) : ∀ fd : FuncData, fd.params = argsOf (stm 9) -> fd.kwdefaults = .none -> fd.defaults = .none -> bindArgs fd ⟨[v], []⟩ = pure ([tN "pattern"].zip [v]) := fun fd hp h1 h2 => by
 cases fd
 simp only at hp h1 h2
 subst hp h1 h2
 with_unfolding_all rfl
theorem esc_ok (TB : TopB B0 mg mb) (hg : GtOk mg mb gt) {a d : Addr} {fd : FuncData} (F : FnK B0 a (stm 9) fd .none) (gi : gt (tN "isinstance") = some (.val (.builtin "isinstance"))) (gS : gt (tN "str") = some (.val (.type "str"))) (gd : gt (tN "_special_chars_map") = some (.val (.ref d)))
 {f : Int -> Option Value} (hm : B0.MapOf (intKind prog w) d f) (hf : MapSays f) (hds : (d == sysModules) = false)
 (A : Around) (E : Value -> Shared -> Prop) (ω : Own) (s : Shared) (σ : St) (K : KV) (hs : List HV) (vs : List Value) (Rm : Room (n + 1) A) (S : MS B0 os ω gs s) (R : RelS ω σ) (r : RdL ω hs vs) (H : spEsc hs σ K) :
 wpAny (model prog w) A (call (.ref a) vs []) (PostV B0 os gs ω K) E s := by
 (refine o_eaa H fun c z581 hc hK => ?_; clear H; subst z581)
 (refine o_ea r.one fun v z578 rv => ?_; subst z578)
 refine o_eaa (F.at'.now S) fun o ho hd hcd => ?_
 refine wpAny_mono (call_np (n := n) (K := fun h _ σ' gs' => h = .str (escF c) /\ σ' = σ /\ gs' = gs) (ps := [tN "pattern"]) (hs := [.str [c]]) (vs := [v]) (ρf := fun _ => none) TB (plainD F.body F.scope F.glob F.blt (by simp) p9) hg (fun _ _ _ _ _ _ q => q) Rm S R r rfl (BindsTo.of_eq (b9 v _ F.params F.kdflt F.dflt)) ho hd hcd (FreeOk.none _ _ _) ?_) (fun v' s' ⟨h, ω', σ', gs', l', S', R', r', h1, h2, h3⟩ => ?_) fun _ _ x => x
 · intro env A' ω1 s₁ hfr O Rm' S1 R1 hnew other
   rw [F.scope] at O
   have n1 : bindHF (fun _ => none) [tN "pattern"] [.str [c]] = upd (fun _ => none) (tN "pattern") (.str [c]) := rfl
   have O := n1 ▸ O
   unfold tN at *
   conv => arg 3; arg 1; whnf
   refine wpAny_execs_cons (wpAny_If (b_at (mu := fun _ => false) (Γ := fun _ => none) (x := true) (t := σ) TB (spx_none (n := n)) Rm' O S1 R1 ?_ fun ω2 s₂ l2 S2 R₂ => ?_))
   · intro K hK
     repeat' walk_at "ev"
     exact hK
   refine rr (if_pos rfl) ?_
   conv => arg 3; arg 1; whnf
   refine wpAny_execs_cons (wpAny_Return_some ?_)
   refine wpAny_Call_method (T := "str") (id := "str.translate") (base_plain rfl) (few_ok _ env rfl (by decide) _) (by decide) PySem.F.plainAttrs_str PySem.F.slot_str_translate PySem.F.type_str_translate ?_
   refine name_ok (h := .str [c]) (O.mono l2) S2 (by walk_at "nm") fun v8 r₈ => ?_
   simp only [Rd] at r₈
   (refine o_ae r₈ fun hz t8 z563 => ?_; clear r₈; refine rr z563 ?_)
   refine ⟨show typeOf _ = _ from rfl, fun a e => (by contradiction), ?_⟩
   refine rr (plain_back _ _ env rfl) ?_
   refine callWith_builtin (plain_any _ env) (args_any (plain_any _ env) (next_l (okEs_cons (okE (mu := fun _ => false) (Γ := fun _ => none) TB (spx_none (n := n)) _) okEs_nil A' _ ω2 s₂ _ (fun hs σ' => hs = [.val (.ref d)] /\ σ' = σ) env _ _ Rm' (O.mono l2) S2 R₂ ?_) fun hs ω3 σ3 vs s₃ l₃ S₃ R₃ r₃ hn3 k₃ => ?_))
   · repeat' walk_at "ev"
     exact ⟨rfl, rfl⟩
   obtain ⟨rfl, rfl⟩ := k₃
   (refine o_ea r₃.one fun u z527 ru => ?_; refine rr z527 ?_)
   simp only [Rd] at ru
   refine rr ru ?_
   have hm3 : s₃.heap.MapOf (intKind prog w) d f := by
    refine o_eeeaa hm fun o es ep g1 g2 g3 => ?_
    exact ⟨o, es, ep, S₃.top g1 (by refine rr g2.1 ?_; decide), g2, g3⟩
   refine trans_ok hm3 hf hds Rm'.handled hc fun h' tk t' hk => ?_
   refine ⟨_, .str (escF c), ω3, _, gs, rfl, (l2.trans l₃).s _, S₃.keeps hk tk, R₃, ?_, rfl, rfl, rfl⟩
   simp only [Rd]
   refine ⟨?_, t', rfl⟩
   unfold escF
   refine ie rfl (fun _ => ?_) fun _ => ?_
   · exact show 2 <= sizeLine by decide +kernel
   · exact show 1 <= sizeLine by decide +kernel
 · subst h1 h2 h3
   exact ⟨_, ω', _, l', S', R', r', hK⟩
end
end
section
structure Reads1 (B0 : Heap) (gt : Loc) (a15 : Addr) : Prop where
 f15 : ∃ fd, FnK B0 a15 (stm 15) fd .none
 f14 : ∃ a fd, FnK B0 a (stm 14) fd .none /\ gt (tN "read_uint1") = some (.val (.ref a))
 gt' : GtTape gt
section
variable {prog : Program} {w : World} {B0 : Heap} {os : OsState} {gs : Array GenState} {mg mb : Str -> Option Value} {n : Nat} {gt : Loc}
theorem read_ev (TB : TopB B0 mg mb) (hg : GtOk mg mb gt) {a15 : Addr} (F : Reads1 B0 gt a15) {A : Around} {E : Value -> Shared -> Prop} {env : Env} {l : List Env} {ω : Own} {s : Shared} {σ : St} {ρ : Loc} {G : GC} {f x : Str} {q pos q' : Pos} {Q : Value -> Shared -> Prop} {T P K : Addr} {octets : List UInt8} {fo : FuncData} {ρf : Loc} {p : Nat}
 (Rm : Room (n + 1 + 1 + 1) A) (O : EnvOk mg mb env ω ρ G) (S : MS B0 os ω gs s) (R : RelS ω σ) (Ks : Stk ω A l) (H : TapeAt ω T P K octets fo ρf) (hp : σ P = some [.int (p : Nat)]) (hpl : p <= octets.length)
 (hf : G.g f = some (.val (.ref a15))) (hx : ρ x = some (.val (.ref T)))
 (H1 : ∀ v t p' ω' s', Le ω ω' -> MS B0 os ω' gs s' -> RelS ω' (σ.put P [.int (p' : Nat)]) -> Rd ω' (.str t) v -> rdF octets p = some (t, p') -> Q v s')
 (H2 : ∀ e s', RaisG B0 os ω (fun cls msg _ σ' gs' => rdF octets p = none /\ cls = "ValueError" /\ msg = rdW octets p /\ σ' = σ.put P [.int (octets.length : Nat)] /\ gs' = gs) e s' -> E e s') :
 wpAny (model prog w) A (eval (.Call (.Name f q) [.Name x q'] [] pos) env) Q E s := by
 obtain ⟨fd15, F15⟩ := F.f15
 obtain ⟨a14, fd14, F14, g14⟩ := F.f14
 obtain ⟨o, ho, hd, hcd⟩ := F15.at'.at'
 refine call_name (mu := fun _ => false) (Γ := fun _ => none) (n := n + 1 + 1 + 1) (N := fun hs σ' => hs = [.val (.ref T)] /\ σ' = σ) (o := o) (fd := fd15) TB Rm O S R (fa := a15) hf rfl (okEs_cons (okE TB (spx_none (n := n + 1 + 1 + 1)) _) okEs_nil) ?_ ?_
 · refine q_es ?_
   refine q_loc hx ?_
   refine q_es0 ?_
   exact ⟨rfl, rfl⟩
 intro hs ω2 σ2 vs s₂ l2 S2 R₂ r₂ k₂
 obtain ⟨rfl, rfl⟩ := k₂
 obtain ⟨u, rfl, ru⟩ := r₂.one
 simp only [Rd] at ru
 subst ru
 refine ⟨⟨S2.top ho hd, hcd⟩, ?_⟩
 refine wpAny_mono (str1_ok (n := n) TB hg F.gt' F15 F14 g14 Rm (Ks.mono l2.w) S2 R₂ (H.monoW l2.w) hp hpl) (fun v s' q => ?_) fun e s' q => H2 e s' (q.up l2)
 obtain ⟨h, ω', σ', gs', l', S', R', r', t, p', k1, rfl, rfl, rfl⟩ := q
 exact H1 v t p' ω' s' (l2.trans l') S' R' r' k1
theorem raise_loopE {A : Around} {env : Env} {outer : List Env} {ωb ω : Own} {e : Value} {s' : Shared} {KX0 KX : KXG} {m₀ : Str -> Option Value} {E : Value -> Shared -> Prop} (hE : ∀ e s, ThrG B0 os env ωb KX e s -> E e s) (q : RaisG B0 os ω KX0 e s') (Ks : Stk ω A (env :: outer)) (hf : env.frame = some env.locals) (hL : ω env.locals = some (.ns m₀)) (lb : LeS env.locals ωb ω)
 (HX : ∀ cls msg ω' σ' gs', Le ω ω' -> KX0 cls msg ω' σ' gs' -> KX cls msg ω' σ' gs') : notedBy (model prog w) A env (fun e s' => cameBackBy (model prog w) A env E e s') e s' := by
 obtain ⟨a, ω', σ', gs', cls, msg, t, rfl, l', S, R, F, hA, k⟩ := q
 refine note_on S (Ks.mono l'.w) hf F fun h₁ S1 F1 => ?_
 refine came_back S1 hf F1 fun h₂ S2 F2 => ?_
 exact hE _ _ ⟨a, ω', σ', gs', cls, msg, rfl, lb.trans (l'.s _), ⟨m₀, l' _ _ hL⟩, R, HX _ _ _ _ _ l' k, .inl ⟨S2, t, _, .inr rfl, F2, hA⟩⟩
theorem raise_loop {A : Around} {env : Env} {outer : List Env} {ωb ω : Own} {e : Value} {s' : Shared} {KX0 KX : KXG} {m₀ : Str -> Option Value} (q : RaisG B0 os ω KX0 e s') (Ks : Stk ω A (env :: outer)) (hf : env.frame = some env.locals) (hL : ω env.locals = some (.ns m₀)) (lb : LeS env.locals ωb ω)
 (HX : ∀ cls msg ω' σ' gs', Le ω ω' -> KX0 cls msg ω' σ' gs' -> KX cls msg ω' σ' gs') : notedBy (model prog w) A env (fun e s' => cameBackBy (model prog w) A env (ThrG B0 os env ωb KX) e s') e s' := raise_loopE (fun _ _ h => h) q Ks hf hL lb HX
end
end
section
noncomputable def stepS : Stmt := (bodyOf (stm 22)).getD 2 (.Pass ⟨0, 0, 0, 0⟩)
noncomputable abbrev Ev := Nat × List Nat
noncomputable def evH (e : Ev) : HV := .tup [.int e.1, .str e.2]
noncomputable def afterF (o : List UInt8) (t : List Nat) : Nat -> List Nat -> Nat -> Nat -> (List Nat ⊕ Nat × Nat) × List Ev
 | 0, _, _, _ => (.inl [], [])
 | k + 1, nm, p, c => if meant t nm then (match rdF o p with
   | none => (.inl (rdW o p), [(1, nm)])
   | some (nm', p') => ((afterF o t k nm' p' (c + 1)).1, (1, nm) :: (afterF o t k nm' p' (c + 1)).2)) else (.inr (c, p), [(2, nm)])
noncomputable def stepF (o : List UInt8) (t : List Nat) (p : Nat) : (List Nat ⊕ Nat × Nat) × List Ev := match rdF o p with
 | none => (.inl (rdW o p), [(0, t)])
 | some (nm, p') => ((afterF o t (o.length + 1) nm p' 0).1, (0, t) :: (afterF o t (o.length + 1) nm p' 0).2)
noncomputable def okTx (t : List Nat) : Prop := t.length <= 8 /\ ∀ c ∈ t, c < 256 /\ c ≠ 91
noncomputable def rhoS (T Lg : Addr) : Loc := upd (upd (fun _ => none) (Str.ofString "tape") (.val (.ref T))) (Str.ofString "log") (.obj Lg)
structure StepAt (ω : Own) (a T Lg : Addr) (fs : FuncData) : Prop where
 shape : ∃ qual doc pm cv ctv cl, fs = fnX "step" qual (argsOf stepS) (bodyOf stepS) (scopeOf stepS) cl .none .none doc pm none cv ctv
 fn : ω a = some (.fz { cls := .type "function", data := .func fs })
 code : CodeOk ω fs.code fs.qualname
 free : FreeOk ω fs.scope fs.closure (rhoS T Lg)
theorem rdF_le {o : List UInt8} {p p' : Nat} {t : List Nat} (h : rdF o p = some (t, p')) : p + 1 <= p' /\ p' <= o.length := by
 unfold rdF at h
 split at h
 · exact no_ns h
 · split at h
   · simp only [Option.some.injEq, Prod.mk.injEq] at h; lia
   · exact no_ns h
section
variable {prog : Program} {w : World} {B0 : Heap} {os : OsState} {gs : Array GenState} {mg mb : Str -> Option Value} {n : Nat} {gt : Loc}
theorem stepD {fs : FuncData} {qual : Str} {doc pm cv ctv : Value} {cl : List (Str × Addr)} (e : fs = fnX "step" qual (argsOf stepS) (bodyOf stepS) (scopeOf stepS) cl .none .none doc pm none cv ctv) : DefOkX fs [tN "value", tN "element"] (bodyOf stepS) := by
 subst e
 exact plainD rfl rfl rfl rfl (by decide +kernel) (by decide +kernel)
theorem fuel_one {o : List UInt8} {t nm nm' : List Nat} {k p p' c : Nat} (hm : meant t nm = true) (h : rdF o p = some (nm', p')) : afterF o t (k + 1) nm p c = ((afterF o t k nm' p' (c + 1)).1, (1, nm) :: (afterF o t k nm' p' (c + 1)).2) := by
 (dsimp only [afterF]; refine rr (if_pos hm) ?_; exact rr h rfl)
theorem raise_thr {env : Env} {ωb ω : Own} {e : Value} {s' : Shared} {KX0 KX : KXG} {m₀ : Str -> Option Value} (q : RaisG B0 os ω KX0 e s') (hL : ω env.locals = some (.ns m₀)) (lb : LeS env.locals ωb ω)
 (HX : ∀ cls msg ω' σ' gs', Le ω ω' -> KX0 cls msg ω' σ' gs' -> KX cls msg ω' σ' gs') : ThrG B0 os env ωb KX e s' := by
 obtain ⟨a, ω', σ', gs', cls, msg, t, rfl, l', S, R, F, hA, k⟩ := q
 exact ⟨a, ω', σ', gs', cls, msg, rfl, lb.trans (l'.s _), ⟨m₀, l' _ _ hL⟩, R, HX _ _ _ _ _ l' k, .inl (i_aeea S t .none (.inl rfl) ⟨F, hA⟩)⟩
theorem put_put {σ : St} {a : Addr} {x y : List HV} : (σ.put a x).put a y = σ.put a y := by
 funext b; unfold St.put; split <;> rfl
theorem put_comm {σ : St} {a b : Addr} {x y : List HV} (h : a ≠ b) : (σ.put a x).put b y = (σ.put b y).put a x := by
 funext c; unfold St.put; split
 · rename_i q; rw [q]; rw [if_neg (Ne.symm h)]
 · rfl
theorem upd_norm {b : Loc} {x y : Str} {c c' m m' : HV} : upd (upd (upd (upd b x c) y m) x c') y m' = upd (upd b x c') y m' := by
 funext z; unfold upd; split
 · rfl
 · split <;> rfl
theorem taken_spec {t nm : List Nat} {σ : St} {K : KV} (ht : okTx t) (hn : okTx nm) (h : K (.bool (meant t nm)) σ) : spTaken [.str (txF t), .str nm] σ K := by
 refine o_aa (txT_ok (parts_g t [] (fun c hc => (ht.2 c hc).1) (fun s q => by contradiction))) fun a1 a2 a3 => ?_
 have a4 := txT_len (partsF t)
 have a5 := (parts_ok t [] rfl (fun s h => by contradiction)).2.2
 have ht1 := ht.1
 refine (i_eeaaaa (txT (partsF t)) nm (by refine a1 ▸ ?_; rfl) a2 ?_ (Nat.le_trans hn.1 (by decide)) ?_)
 · simp only [List.length_nil, Nat.zero_add] at a5
   have a6 : (partsF t).length <= t.length := a5
   lia
 · have := plain_taken (p := t) (nm := nm) (fun c hc => (ht.2 c hc).1)
   refine rr this ?_; exact h
set_option quotPrecheck false
inductive StepI (B0 : Heap) (os : OsState) (gs : Array GenState) (mg mb : Str -> Option Value) (gt : Loc) (env : Env) (ω1 : Own) (σ : St) (T P Lg : Addr) (octets : List UInt8) (t : List Nat) (p : Nat) (lg xs : List HV) (GP : Nat -> Prop) (k : Nat) (s : Shared) : Prop
 | mk : ∀ (ω' : Own) (nm : List Nat) (p' c : Nat) (evs : List Ev), LeS env.locals ω1 ω' -> EnvOk mg mb env ω' (upd (upd (upd (upd (upd (upd (upd (fun _ => none) (Str.ofString "tape") (.val (.ref T))) (Str.ofString "log") (.obj Lg)) (Str.ofString "element") (.list [.str t])) (Str.ofString "value") (.list xs)) (Str.ofString "text") (.str (txF t))) (Str.ofString "count") (.int ((c : Nat)))) (Str.ofString "name") (.str nm)) (GofDef (scopeOf stepS) gt) -> MS B0 os ω' gs s -> RelS ω' ((σ.put P [.int (p' : Nat)]).put Lg (lg ++ evs.map evH)) ->
  p + 1 <= p' -> p' <= octets.length -> GP p' -> okTx nm -> (lg ++ evs.map evH).length + 1 <= 2 * p' -> c <= p' -> octets.length + 1 <= k + p' -> stepF octets t p = ((afterF octets t k nm p' c).1, evs ++ (afterF octets t k nm p' c).2) -> StepI B0 os gs mg mb gt env ω1 σ T P Lg octets t p lg xs GP k s
theorem step_ok (TB : TopB B0 mg mb) (hg : GtOk mg mb gt) {a15 aT aK : Addr} (F : Reads1 B0 gt a15) {Γ : Spx} (X : SpxOk prog w B0 os gs Γ (n + 1 + 1 + 1)) (Γ1 : Γ (.ref aT) = some spTx) (Γ2 : Γ (.ref aK) = some spTaken)
    (g1 : gt (tN "translate") = some (.val (.ref aT))) (g2 : gt (tN "_law_taken") = some (.val (.ref aK))) (g3 : gt (tN "read_string1") = some (.val (.ref a15)))
    {A : Around} {l : List Env} {ω : Own} {s : Shared} {σ : St} {a T P K Lg : Addr} {octets : List UInt8} {fo fs : FuncData} {ρf : Loc} {p : Nat} {lg xs : List HV} {t : List Nat} {v e : Value} {GP : Nat -> Prop}
    (Rm : Room (n + 1 + 1 + 1 + 1) A) (Ks : Stk ω A l) (S : MS B0 os ω gs s) (R : RelS ω σ) (H : TapeAt ω T P K octets fo ρf) (HS : StepAt ω a T Lg fs) (hp : σ P = some [.int (p : Nat)]) (hl : σ Lg = some lg) (hPL : P ≠ Lg) (hpl : p <= octets.length) (hlg : lg.length <= 2 * p)
    (hG : ∀ p t p', GP p -> rdF octets p = some (t, p') -> okTx t /\ GP p') (hGp : GP p) (ht : okTx t) (hxs : xs.length <= 1000) (rv : Rd ω (.list xs) v) (re : Rd ω (.list [.str t]) e) :
    wpAny (model prog w) A (call (.ref a) [v, e] [])
      (PostG B0 os ω fun h _ σ' gs' => ∃ c p', (stepF octets t p).1 = .inr (c, p') /\ p + 1 <= p' /\ p' <= octets.length /\ GP p' /\ (lg ++ (stepF octets t p).2.map evH).length <= 2 * p' /\ h = .list (xs ++ [.int (c : Nat)]) /\ σ' = (σ.put P [.int (p' : Nat)]).put Lg (lg ++ (stepF octets t p).2.map evH) /\ gs' = gs)
      (RaisG B0 os ω fun cls msg _ σ' gs' => (stepF octets t p).1 = .inl msg /\ cls = "ValueError" /\ σ' = (σ.put P [.int (octets.length : Nat)]).put Lg (lg ++ (stepF octets t p).2.map evH) /\ gs' = gs) s := by
  have hlen := H.len
  have ln := line_is
  (refine o_eeeee HS.shape fun qual doc pm cv ctv z607 => ?_; refine o_e z607 fun cl z608 => ?_; clear z607; subst z608)
  refine o_eeeeaaa HS.code fun c₁ oc ovs ot hcv hc1 hc2 hc3 => ?_
  refine call_x (n := n + 1 + 1 + 1) (ps := [tN "value", tN "element"]) (hs := [.list xs, .list [.str t]]) (vs := [v, e]) (ρf := rhoS T Lg) TB (stepD rfl) hg (fun _ _ _ _ _ _ _ q => q) (fun _ _ _ _ _ _ q => q) Rm Ks S R (by exact (i_eeaa v _ rfl rv ⟨e, [], rfl, re, rfl⟩)) rfl (BindsTo.of_eq (by with_unfolding_all rfl)) (S.hold _ _ HS.fn) rfl (i_eeeeaaa c₁ oc ovs ot hcv (S.hold _ _ hc1) hc2 hc3) HS.free ?_
  intro env A' ω1 s₁ hfr O Rm' Ks' S1 R1 hnew other
  have n1 : bindHF (rhoS T Lg) [tN "value", tN "element"] [.list xs, .list [.str t]] = upd (upd (rhoS T Lg) (tN "element") (.list [.str t])) (tN "value") (.list xs) := rfl
  simp only [n1] at O
  unfold rhoS at O
  replace O : EnvOk mg mb env ω1 _ (GofDef (scopeOf stepS) gt) := O
  unfold tN at O g1 g2 g3
  refine gen_QE fun Q E hQ hE => ?_
  conv => arg 3; arg 1; whnf
  refine s_at (mu := fun _ => false) (Γ := Γ) (r := (upd (upd (upd (upd (upd (fun _ => none) (Str.ofString "tape") (.val (.ref T))) (Str.ofString "log") (.obj Lg)) (Str.ofString "element") (.list [.str t])) (Str.ofString "value") (.list xs)) (Str.ofString "text") (.str (txF t)))) (t := σ) TB X Rm' O S1 R1 ?_ ?_
  · intro K hK
    repeat' walk_at "ev"
    refine s_list (by decide) rfl ?_
    repeat' walk_at "ev"
    refine q_fn Γ1 (i_eaaa t rfl (Nat.le_trans ht.1 (by decide)) ht.2 ?_)
    exact hK
  intro ω2 s₂ l2 O2 S2 R₂
  conv => arg 3; arg 1; whnf
  refine s_at (mu := fun _ => false) (Γ := Γ) (r := (upd (upd (upd (upd (upd (fun _ => none) (Str.ofString "tape") (.val (.ref T))) (Str.ofString "log") (.obj Lg)) (Str.ofString "element") (.list [.str t])) (Str.ofString "value") (.list xs)) (Str.ofString "text") (.str (txF t)))) (t := σ.put Lg (lg ++ [evH (0, t)])) TB X Rm' O2 S2 R₂ ?_ ?_
  · intro K hK
    repeat' walk_at "ev"
    refine s_list (by decide) rfl ?_
    repeat' walk_at "ev"
    refine m_append hl (ar275 ln hlg hpl hlen) ?_
    repeat' walk_at "ev"
    exact hK
  intro ω3 s₃ l₃ O3 S₃ R₃
  have l13 := l2.trans l₃
  conv => arg 3; arg 1; whnf
  refine s_at (mu := fun _ => false) (Γ := Γ) (r := (upd (upd (upd (upd (upd (upd (fun _ => none) (Str.ofString "tape") (.val (.ref T))) (Str.ofString "log") (.obj Lg)) (Str.ofString "element") (.list [.str t])) (Str.ofString "value") (.list xs)) (Str.ofString "text") (.str (txF t))) (Str.ofString "count") (.int 0))) (t := σ.put Lg (lg ++ [evH (0, t)])) TB X Rm' O3 S₃ R₃ ?_ ?_
  · intro K hK
    repeat' walk_at "ev"
    exact hK
  intro ω4 s₄ l4 O4 S4 R4
  have l14 := l13.trans l4
  conv => arg 3; arg 1; whnf
  have hp4 : (σ.put Lg (lg ++ [evH (0, t)])) P = some [.int (p : Nat)] := by refine rr (put_ne hPL) ?_; exact hp
  refine o_ea O4.loc fun m₄ hL4 _ => ?_
  have H4 := H.monoW (stay_on hnew other l14)
  have Ks4 := Ks'.step l14 hL4
  refine cons_next fun Q₁ n₁ => (wpAny_Assign_Name (read_ev (n := n) TB hg F Rm' O4 S4 R4 Ks4 H4 hp4 hpl (by walk_at "nm") (by walk_at "nm") ?_ (fun e₅ s5 q => hE _ _ (raise_thr q hL4 l14 fun cls msg ω' σ' gs' _ ⟨h1, h2, h3, h4, h5⟩ => ?_))) (swaps_plain rfl))
  case refine_2.refine_2.refine_2.refine_2 =>
    refine (i_aaa ?_ h2 ?_ h5)
    · unfold stepF; (refine rr h1 ?_; exact rr h3 rfl)
    · unfold stepF; (refine rr h4 ?_; refine rr h1 ?_; refine rr (put_comm (Ne.symm hPL)) ?_); rfl
  intro v5 nm p' ω5 s5 l5 S5 R5 r₅ hrd
  obtain ⟨hp1, hp2⟩ := rdF_le hrd
  refine store_ok (O4.mono l5) S5 R5 (by kernel_rfl) r₅ fun ω6 s6 l₆ _ O6 S6 R6 => ?_
  have l16 := (l14.trans (l5.s _)).trans l₆
  rw [put_comm (Ne.symm hPL)] at R6
  refine o_a (hG _ _ _ hGp hrd) fun hok hGp' => ?_
  refine n₁ _ ?_
  conv => arg 3; arg 1; whnf
  refine cons_next fun Q₂ n₂ => (wpAny_While (codeAny_whileLoop (StepI B0 os gs mg mb gt env ω1 σ T P Lg octets t p lg xs GP) ?_ (octets.length + 1) ⟨ω6, nm, p', 0, [(0, t)], l16, O6, S6, R6, hp1, hp2, hGp', hok, by simp; exact ar274 hp1 hlg, Nat.zero_le _, Nat.le_add_right _ _, by unfold stepF; refine rr hrd ?_; rfl⟩))
  clear R6 O6 S6 l16 hok hGp' hp1 hp2 hrd r₅ R5 S5 l5 O4 R4 S4 H4 Ks4 hp4 hL4
  intro k s7 hI
  obtain ⟨ω7, nm, p', c, evs, l7, O7, S7, R7, hp1, hp2, hGp', hok, hlg', hc, hk, hres⟩ := hI
  have hl7 : ((σ.put P [.int (p' : Nat)]).put Lg (lg ++ evs.map evH)) Lg = some (lg ++ evs.map evH) := put_self
  cases k with
  | zero => omega
  | succ k =>
  refine b_at (mu := fun _ => false) (Γ := Γ) (x := meant t nm) (t := (σ.put P [.int (p' : Nat)]).put Lg (lg ++ evs.map evH)) TB X Rm' O7 S7 R7 ?_ fun ω8 s8 l8 S8 R8 => ?_
  · intro K hK
    repeat' walk_at "ev"
    refine q_fn Γ2 (taken_spec ht hok ?_)
    repeat' walk_at "ev"
    exact hK
  have l18 := l7.trans (l8.s _)
  have O8 := O7.mono l8
  induction hm : meant t nm with
  | false =>
    have hfin : stepF octets t p = (.inr (c, p'), evs ++ [(2, nm)]) := by
      refine rr hres ?_; dsimp only [afterF]; rw [if_neg (by refine rr hm ?_; decide)]
    refine wpAny_execs_nil (n₂ _ ?_)
    conv => arg 3; arg 1; whnf
    refine s_at (mu := fun _ => false) (Γ := Γ) (r := (upd (upd (upd (upd (upd (upd (upd (fun _ => none) (Str.ofString "tape") (.val (.ref T))) (Str.ofString "log") (.obj Lg)) (Str.ofString "element") (.list [.str t])) (Str.ofString "value") (.list xs)) (Str.ofString "text") (.str (txF t))) (Str.ofString "count") (.int ((c : Nat)))) (Str.ofString "name") (.str nm))) (t := (σ.put P [.int (p' : Nat)]).put Lg (lg ++ evs.map evH ++ [evH (2, nm)])) TB X Rm' O8 S8 R8 ?_ ?_
    · intro K hK
      repeat' walk_at "ev"
      refine m_append hl7 (ar61 hlg' hp2 hlen ln) ?_
      repeat' walk_at "ev"
      refine rr put_put ?_; exact hK
    intro ω9 s9 l9 O9 S9 R9
    have l19 := l18.trans l9
    conv => arg 3; arg 1; whnf
    refine r_at (mu := fun _ => false) (Γ := Γ) (x := .list (xs ++ [.int (c : Nat)])) (t := (σ.put P [.int (p' : Nat)]).put Lg (lg ++ evs.map evH ++ [evH (2, nm)])) TB X Rm' O9 S9 R9 ?_ ?_
    · intro K hK
      repeat' walk_at "ev"
      refine b_list (by exact ar273 ln hxs) ?_
      exact hK
    intro ω' s' v' l' S' R' r'
    have hlog : lg ++ evs.map evH ++ [evH (2, nm)] = lg ++ (stepF octets t p).2.map evH := by refine rr hfin ?_; simp
    rw [hlog] at R'
    refine hQ _ _ ⟨v', _, ω', _, gs, rfl, l19.trans (l'.s _), S', R', r', c, p', by exact rr hfin rfl, hp1, hp2, hGp', ?_, rfl, rfl, rfl⟩
    (refine rl hlog ?_; refine rr List.length_append ?_); exact hlg'
  | true =>
    refine rr (if_pos rfl) ?_
    refine gen_Q fun Q₃ q₃ => ?_
    conv => arg 3; arg 1; whnf
    refine s_at (mu := fun _ => false) (Γ := Γ) (r := (upd (upd (upd (upd (upd (upd (upd (fun _ => none) (Str.ofString "tape") (.val (.ref T))) (Str.ofString "log") (.obj Lg)) (Str.ofString "element") (.list [.str t])) (Str.ofString "value") (.list xs)) (Str.ofString "text") (.str (txF t))) (Str.ofString "count") (.int ((c : Nat)))) (Str.ofString "name") (.str nm))) (t := (σ.put P [.int (p' : Nat)]).put Lg (lg ++ evs.map evH ++ [evH (1, nm)])) TB X Rm' O8 S8 R8 ?_ ?_
    · intro K hK
      repeat' walk_at "ev"
      refine m_append hl7 (ar61 hlg' hp2 hlen ln) ?_
      repeat' walk_at "ev"
      refine rr put_put ?_; exact hK
    intro ω9 s9 l9 O9 S9 R9
    have l19 := l18.trans l9
    conv => arg 3; arg 1; whnf
    refine s_at (mu := fun _ => false) (Γ := Γ) (r := upd (upd (upd (upd (upd (upd (upd (upd (fun _ => none) (Str.ofString "tape") (.val (.ref T))) (Str.ofString "log") (.obj Lg)) (Str.ofString "element") (.list [.str t])) (Str.ofString "value") (.list xs)) (Str.ofString "text") (.str (txF t))) (Str.ofString "count") (.int ((c : Nat)))) (Str.ofString "name") (.str nm)) (Str.ofString "count") (.int ((c + 1 : Nat) : Int))) (t := (σ.put P [.int (p' : Nat)]).put Lg (lg ++ evs.map evH ++ [evH (1, nm)])) TB X Rm' O9 S9 R9 ?_ ?_
    · intro K hK
      repeat' walk_at "ev"
      exact hK
    intro ωa sa la Oa Sa Ra
    have l1a := l19.trans la
    conv => arg 3; arg 1; whnf
    have hpa : ((σ.put P [.int (p' : Nat)]).put Lg (lg ++ evs.map evH ++ [evH (1, nm)])) P = some [.int (p' : Nat)] := by refine rr (put_ne hPL) ?_; exact put_self
    refine o_ea Oa.loc fun ma hLa _ => ?_
    have Ha := H.monoW (stay_on hnew other l1a)
    have Ksa := Ks'.step l1a hLa
    refine cons_next fun Q4 n₄ => (wpAny_Assign_Name (read_ev (n := n) TB hg F Rm' Oa Sa Ra Ksa Ha hpa hp2 (by walk_at "nm") (by walk_at "nm") ?_ (fun e₅ s5 q => raise_loopE hE q Ksa hfr hLa l1a fun cls msg ω' σ' gs' _ ⟨h1, h2, h3, h4, h5⟩ => ?_)) (swaps_plain rfl))
    rotate_left
    · have hfin : stepF octets t p = (.inl (rdW octets p'), evs ++ [(1, nm)]) := by
        refine rr hres ?_; dsimp only [afterF]; (refine rr (if_pos hm) ?_; exact rr h1 rfl)
      refine ⟨by (refine rr hfin ?_; exact rr h3 rfl), h2, ?_, h5⟩
      (refine rr h4 ?_; refine rr (put_comm (Ne.symm hPL)) ?_; refine rr put_put ?_; refine rr hfin ?_); simp
    intro v5 nm' p'' ω5 s5 l5 S5 R5 r₅ hrd
    obtain ⟨hq1, hq2⟩ := rdF_le hrd
    refine store_ok (Oa.mono l5) S5 R5 (by kernel_rfl) r₅ fun ω6 s6 l₆ _ O6 S6 R6 => ?_
    rw [upd_norm] at O6
    rw [put_comm (Ne.symm hPL), put_put] at R6
    refine o_a (hG _ _ _ hGp' hrd) fun hok' hGp'' => ?_
    refine n₄ _ (wpAny_execs_nil (q₃ _ _ ?_))
    refine (i_ea k (Nat.lt_succ_self _) ⟨ω6, nm', p'', c + 1, evs ++ [(1, nm)], (l1a.trans (l5.s _)).trans l₆, O6, S6, by simpa using R6, ar272 hp1 hq1, hq2, hGp'', hok', ?_, ar271 hq1 hc, ar270 hk hq1, ?_⟩)
    · have : (lg ++ (evs ++ [((1 : Nat), nm)]).map evH).length = (lg ++ evs.map evH).length + 1 := by simp; exact ar269
      exact ar268 hlg' hq1 this
    · (refine rr hres ?_; refine rr (fuel_one hm hrd) ?_); simp
end
end
section
open Sem (wp)
noncomputable def End1 (PR : Result -> Shared -> Prop) (PY : Value -> Shared -> GenState -> Prop) (e : End) (s' : Shared) : Prop :=
 match e with
 | .ret r => PR r s'
 | .susp v g l k c p fs => (End.susp v g l k c p fs).quiet = true /\ PY v s' (End.susp v g l k c p fs).genState
noncomputable def Seg1 (M : Model) (A : Around) (PR : Result -> Shared -> Prop) (PY : Value -> Shared -> GenState -> Prop) (c : Code) (t : Sem Fin) (fs : List Frame) (s : Shared) : Prop :=
 ∀ Γ p, Γ.code = c -> Γ.Woken A -> ∃ e s', Runs M Γ p t fs s e s' /\ End1 PR PY e s'
noncomputable def Goes1 (M : Model) (A : Around) (PR : Result -> Shared -> Prop) (PY : Value -> Shared -> GenState -> Prop) (st : GenState) (r : Resume) (s : Shared) : Prop :=
 match st with
 | .fresh c => r = .send .none /\ Seg1 M A PR PY c (M.den c) [] s
 | .suspended k _ c _ fs _ => Seg1 M A PR PY c (k r) fs s
 | _ => False
section
variable {M : Model} {A : Around} {PR : Result -> Shared -> Prop} {PY : Value -> Shared -> GenState -> Prop} {c : Code} {fs : List Frame} {s : Shared}
theorem seg1_wrap {α : Type} {m : Sem α} {K : α -> Sem Fin} {H : Value -> Sem Fin} {gd lv}
 (h : wpAny M (A.over c fs) m (fun a s' => Seg1 M A PR PY c (K a) fs s') (fun x s' => Seg1 M A PR PY c (H x) fs s') s) :
 Seg1 M A PR PY c (m.wrap K H gd lv) fs s := by
 rintro Γ p rfl hΓ
 exact runs_wrap_of_wp K H gd lv m (h (Γ.over fs) p (hΓ.over fs)) (fun a p' s' h' => h' Γ p' rfl hΓ) (fun x p' s' h' => h' Γ p' rfl hΓ)
theorem seg1_bind {α : Type} {m : Sem α} {K : α -> Sem Fin}
 (h : wpAny M (A.over c fs) m (fun a s' => Seg1 M A PR PY c (K a) fs s') (fun x s' => Seg1 M A PR PY c (.raise x) fs s') s) :
 Seg1 M A PR PY c (m >>= K) fs s := by
 refine rr (Sem.bind_eq_wrap' ..) ?_; exact seg1_wrap h
theorem seg1_bind_wrap {α β : Type} {m : Sem α} {f : α -> Sem β} {K : β -> Sem Fin} {H : Value -> Sem Fin} {gd lv}
 (h : wpAny M (A.over c fs) m (fun a s' => Seg1 M A PR PY c ((f a).wrap K H gd lv) fs s') (fun x s' => Seg1 M A PR PY c (H x) fs s') s) :
 Seg1 M A PR PY c ((m >>= f).wrap K H gd lv) fs s := by
 (refine rr (Sem.bind_eq_wrap' ..) ?_; refine rr (Sem.wrap_wrap ..) ?_); exact seg1_wrap h
theorem seg1_at {p' : Pos} {k : Unit -> Sem Fin} (h : Seg1 M A PR PY c (k ()) fs s) : Seg1 M A PR PY c (.at p' k) fs s :=
 seg1_wrap (m := standAt p') (K := k) (H := .raise) (gd := id) (lv := id) (wpAny_standAt h)
theorem seg1_again {c' : Code} (hq : c'.quiet = true) (hc : Seg1 M A PR PY c' (M.den c') fs s) : Seg1 M A PR PY c (.pure (.again c')) fs s := by
 rintro Γ p rfl hΓ
 refine o_eea (hc (Γ.goto c') p rfl (hΓ.goto c')) fun e s' hr he => ?_
 exact (i_eea e s' (Runs.head (c₁ := c') (fun _ _ x => .again hq x) hr) he)
theorem seg1_end (r : Result) (h : PR r s) : Seg1 M A PR PY c (leafOf r) [] s := by
 rintro Γ p rfl _
 exact (i_eea (.ret r) s (Runs.leaf r) h)
theorem seg1_yield {v g l} {k : Resume -> Sem Fin} (hfs : splitAtGen fs = none) (hg : g = false) (hfg : fs.any Frame.guarded = false)
 (h : ∀ st, st.bare = true -> (∀ PR' PY' A' r s'', Seg1 M A' PR' PY' c (k r) fs s'' -> Goes1 M A' PR' PY' st r s'') -> PY v s st) : Seg1 M A PR PY c (.yield v g l k) fs s := by
 rintro Γ p rfl _
 have hq : (End.susp v g l k Γ.code p fs).quiet = true := by simp [End.quiet, hg, hfg]
 exact (i_eea _ s (Runs.yield' fs hfs) ⟨hq, h _ (End.bare_of_quiet hq) fun _ _ _ _ _ x => x⟩)
theorem resume1 {E : Value -> Shared -> Prop} {g : Nat} {st : GenState} {r : Resume} {l : List Value} {α : Type} {k : GenResult -> Sem α} {Q : α -> Shared -> Prop} (hg : s.gens[g]? = some st)
 (hgo : Goes1 M A PR PY st r (s.setGen g .running))
 (hR : ∀ x s₁, PR x s₁ -> wpAny M A (k (End.ret x).result) Q E (s₁.setGen g .finished))
 (hY : ∀ v s₁ st', PY v s₁ st' -> wpAny M A (k (.yielded v)) Q E (s₁.setGen g st')) : wpAny M A (.resume g r l k) Q E s := by
 intro Γ p hΓ
 have fin : ∀ e₁ s₁, End1 PR PY e₁ s₁ -> wp M Γ (k e₁.result) (fun a _ s' => Q a s') (fun e _ s' => E e s') p (s₁.setGen g e₁.genState) := by
  intro e₁ s₁ he
  induction e₁ using End.casesOn with
  | ret x => exact hR x s₁ he Γ p hΓ
  | susp v g0 l0 k₀ c₀ p0 fs0 => exact hY v s₁ _ he.2 Γ p hΓ
 have hqt : ∀ e₁ s₁, End1 PR PY e₁ s₁ -> e₁.quiet = true := by
  intro e₁ s₁ he
  induction e₁ using End.casesOn with
  | ret x => rfl
  | susp v g0 l0 k₀ c₀ p0 fs0 => exact he.1
 induction st using GenState.casesOn with
 | fresh c =>
  (refine o_a hgo fun z495 hs => ?_; clear hgo; cases z495)
  refine o_eea (hs (Γ.wake c p) p rfl ((fun c => hΓ.wake c p) c)) fun e₁ s₁ hr he => ?_
  exact (i_eea _ _ (by unfold Wakes; refine rr hg ?_; exact (i_eea e₁ s₁ hr ⟨hqt e₁ s₁ he, rfl, rfl⟩)) (fin e₁ s₁ he))
 | suspended k₀ l0 c₀ p0 fs0 cl =>
  refine o_eea (hgo (Γ.wake c₀ p) p0 rfl ((fun c => hΓ.wake c p) c₀)) fun e₁ s₁ hr he => ?_
  exact (i_eea _ _ (by unfold Wakes; refine rr hg ?_; exact (i_eea e₁ s₁ hr ⟨hqt e₁ s₁ he, rfl, rfl⟩)) (fin e₁ s₁ he))
 | running => exact hgo.elim
 | finished => exact hgo.elim
end
end
section
noncomputable def Own.cut (ω : Own) (C I : Addr) : Own := fun b => if b = C ∨ b = I then none else ω b
section
variable {ω ω' : Own} {C I : Addr}
theorem cut_at {b : Addr} (h1 : b ≠ C) (h2 : b ≠ I) : ω.cut C I b = ω b := if_neg (fun q => q.elim h1 h2)
theorem cut_C : ω.cut C I C = none := if_pos (.inl rfl)
theorem cut_I : ω.cut C I I = none := if_pos (.inr rfl)
theorem cut_sub {b : Addr} {m : OM} (e : ω.cut C I b = some m) : ω b = some m /\ b ≠ C /\ b ≠ I := by
 unfold Own.cut at e
 (revert e; refine ie rfl (fun _ e => ?_) fun _ e => ?_)
 · exact no_ns e
 · rename_i h; exact (i_aa e (fun q => h (.inl q)) (fun q => h (.inr q)))
theorem cut_le : Le (ω.cut C I) ω := fun b m e => by refine rr ((cut_sub e).1) ?_; exact LeO.refl m
theorem Le.cut (l : Le ω ω') : Le (ω.cut C I) (ω'.cut C I) := fun b m e => by
 refine o_aa (cut_sub e) fun h1 h2 h3 => ?_
 refine rr (cut_at h2 h3) ?_; exact l b m h1
theorem LeS.cut (l : LeS C ω ω') : Le (ω.cut C I) (ω'.cut C I) := fun b m e => by
 refine o_aa (cut_sub e) fun h1 h2 h3 => ?_
 refine rr (cut_at h2 h3) ?_; exact l b m h2 h1
theorem cut_setI {m : OM} : (ω.set I m).cut C I = ω.cut C I := by
 funext b; unfold Own.cut; split
 · rfl
 · rename_i h; rw [Own.set_ne _ _ (fun q => h (.inr q))]
theorem cut_delI : Le (ω.cut C I) (ω.del I) := fun b m e => by
 refine o_aa (cut_sub e) fun h1 h2 h3 => ?_
 unfold Own.del; rw [if_neg h3, h1]; exact LeO.refl m
theorem cut_f (hC : ∃ m, ω C = some (.ns m)) (hI : ∃ k, ω I = some (.it k)) : LeF ω (ω.cut C I) := fun b o e => by
 obtain ⟨m, hC⟩ := hC
 obtain ⟨k, hI⟩ := hI
 refine rr (cut_at (fun q => by rw [q, hC] at e; cases e) (fun q => by rw [q, hI] at e; cases e)) ?_; exact e
end
noncomputable def rhoG (y : Str) (T : Addr) : Loc := upd (fun _ => none) y (.val (.ref T))
structure GenEnv (mg mb : Str -> Option Value) (gt : Loc) (cenv : Env) (T a15 : Addr) (f y x : Str) : Prop where
 envOk : ∀ ω m, ω cenv.locals = some (.ns m) -> FreeOk ω cenv.scope cenv.cells (rhoG y T) -> EnvOk mg mb cenv ω (rhoG y T) (GofDef cenv.scope gt)
 frame : cenv.frame = some cenv.locals
 kind : cenv.scope.kind = .function
 co : cenv.scope.isCoroutine = false
 nm : nmB (GofDef cenv.scope gt) x = true
 gf : (GofDef cenv.scope gt).g f = some (.val (.ref a15))
 xy : y ≠ x
section
variable (prog : Program) (w : World) (B0 : Heap) (os : OsState) (n : Nat) (cenv : Env) (I T P K : Addr) (octets : List UInt8) (fo : FuncData) (ρf : Loc) (y : Str)
structure GenPre (k : Nat) (A : Around) (l : List Env) (ω : Own) (s : Shared) (σ : St) (gs : Array GenState) (p : Nat) : Prop where
 room : Room (n + 1 + 1 + 1 + 1) A
 stk : Stk (ω.cut cenv.locals I) A l
 ms : MS B0 os ω gs s
 rel : RelS ω σ
 tape : TapeAt (ω.cut cenv.locals I) T P K octets fo ρf
 pos : σ P = some [.int (p : Nat)]
 le : p <= octets.length
 free : FreeOk (ω.cut cenv.locals I) cenv.scope cenv.cells (rhoG y T)
 hC : ∃ m, ω cenv.locals = some (.ns m)
 hI : ∃ x0, ω I = some (.it (.range x0 (k : Nat)))
noncomputable def EndP (ω : Own) (gs : Array GenState) (σ : St) (s' : Shared) : Prop := ∃ ω', Le (ω.cut cenv.locals I) ω' /\ MS B0 os ω' gs s' /\ RelS ω' σ
noncomputable def PostY (k : Nat) (ω : Own) (gs : Array GenState) (σ : St) (p : Nat) (v : Value) (s' : Shared) : Prop := ∃ ω' t p', Le (ω.cut cenv.locals I) (ω'.cut cenv.locals I) /\ MS B0 os ω' gs s' /\ RelS ω' (σ.put P [.int (p' : Nat)]) /\ Rd ω' (.list [.str t]) v /\ rdF octets p = some (t, p') /\
 (∃ m, ω' cenv.locals = some (.ns m)) /\ (∃ x0, ω' I = some (.it (.range x0 (k : Nat))))
noncomputable def PRg (ω : Own) (gs : Array GenState) (σ : St) (p : Nat) : Nat -> Result -> Shared -> Prop
 | 0, r, s' => r = .ok .next /\ EndP B0 os cenv I ω gs σ s'
 | _ + 1, r, s' => ∃ e, r = .error e /\ RaisG B0 os (ω.cut cenv.locals I) (fun cls msg _ σ' gs' => rdF octets p = none /\ cls = "ValueError" /\ msg = rdW octets p /\ σ' = σ.put P [.int (octets.length : Nat)] /\ gs' = gs) e s'
noncomputable def InvG : Nat -> GenState -> Prop
 | 0, st => ∀ A l ω s σ gs p, GenPre B0 os n cenv I T P K octets fo ρf y 0 A l ω s σ gs p -> Goes1 (model prog w) A (PRg B0 os cenv I P octets ω gs σ p 0) (fun _ _ _ => False) st (.send .none) s
 | k + 1, st => ∀ A l ω s σ gs p, GenPre B0 os n cenv I T P K octets fo ρf y (k + 1) A l ω s σ gs p -> Goes1 (model prog w) A (PRg B0 os cenv I P octets ω gs σ p (k + 1)) (fun v s' st' => PostY B0 os cenv I P octets k ω gs σ p v s' /\ st'.bare = true /\ InvG k st') st (.send .none) s
noncomputable def PYg (ω : Own) (gs : Array GenState) (σ : St) (p : Nat) : Nat -> Value -> Shared -> GenState -> Prop
 | 0, _, _, _ => False
 | k + 1, v, s', st' => PostY B0 os cenv I P octets k ω gs σ p v s' /\ st'.bare = true /\ InvG prog w B0 os n cenv I T P K octets fo ρf y k st'
end
section
variable {prog : Program} {w : World} {B0 : Heap} {os : OsState} {mg mb : Str -> Option Value} {n : Nat} {gt : Loc} {cenv : Env} {I T P K : Addr} {octets : List UInt8} {fo : FuncData} {ρf : Loc} {y : Str}
theorem list_read_ev {gs : Array GenState} (TB : TopB B0 mg mb) (hg : GtOk mg mb gt) {a15 : Addr} (F : Reads1 B0 gt a15) {A : Around} {E : Value -> Shared -> Prop} {env : Env} {l : List Env} {ω : Own} {s : Shared} {σ : St} {ρ : Loc} {G : GC} {f x : Str} {q pos q' pl : Pos} {Q : Value -> Shared -> Prop} {p : Nat}
 (Rm : Room (n + 1 + 1 + 1) A) (O : EnvOk mg mb env ω ρ G) (S : MS B0 os ω gs s) (R : RelS ω σ) (Ks : Stk ω A l) (H : TapeAt ω T P K octets fo ρf) (hp : σ P = some [.int (p : Nat)]) (hpl : p <= octets.length)
 (hf : G.g f = some (.val (.ref a15))) (hx : ρ x = some (.val (.ref T)))
 (H1 : ∀ v t p' ω' s', Le ω ω' -> MS B0 os ω' gs s' -> RelS ω' (σ.put P [.int (p' : Nat)]) -> Rd ω' (.list [.str t]) v -> rdF octets p = some (t, p') -> Q v s')
 (H2 : ∀ e s', RaisG B0 os ω (fun cls msg _ σ' gs' => rdF octets p = none /\ cls = "ValueError" /\ msg = rdW octets p /\ σ' = σ.put P [.int (octets.length : Nat)] /\ gs' = gs) e s' -> E e s') :
 wpAny (model prog w) A (eval (.List [.Call (.Name f q) [.Name x q'] [] pos] pl) env) Q E s := by
 have ln := line_is
 refine wpAny_List ?_
 refine rr (plain_back pl _ env rfl) ?_
 refine spliced_cons (read_ev (n := n) TB hg F Rm O S R Ks H hp hpl hf hx (fun v t p' ω1 s₁ l1 S1 R1 r₁ hrd => ?_) H2)
 refine spliced_nil ?_
 obtain ⟨h, ω', σ', l', S', R', rv, k⟩ := post_list (K := fun h σ' => h = .list [.str t] /\ σ' = σ.put P [.int (p' : Nat)]) S1 R1 (by simp; exact Nat.le_add_left _ _) (show RdL ω1 [.str t] [v] from by exact (i_eeaa v ([]) rfl r₁ rfl)) ⟨rfl, rfl⟩ s₁.toks
 (refine o_a k fun z3 z4 => ?_; clear k; subst z3; subst z4)
 exact ⟨by dsimp only [ln, List.length_singleton]; decide, H1 _ t p' ω' _ (l1.trans l') S' R' rv hrd⟩
theorem inv_of {st : GenState} : ∀ {k : Nat}, (∀ A l ω s σ gs p, GenPre B0 os n cenv I T P K octets fo ρf y k A l ω s σ gs p -> Goes1 (model prog w) A (PRg B0 os cenv I P octets ω gs σ p k) (PYg prog w B0 os n cenv I T P K octets fo ρf y ω gs σ p k) st (.send .none) s) -> InvG prog w B0 os n cenv I T P K octets fo ρf y k st := by
 intro xs0
 induction xs0 with
 | zero =>
  exact @fun h => h
 | succ _ ih =>
  exact @fun h => h
theorem of_inv {st : GenState} : ∀ {k : Nat}, InvG prog w B0 os n cenv I T P K octets fo ρf y k st -> ∀ A l ω s σ gs p, GenPre B0 os n cenv I T P K octets fo ρf y k A l ω s σ gs p -> Goes1 (model prog w) A (PRg B0 os cenv I P octets ω gs σ p k) (PYg prog w B0 os n cenv I T P K octets fo ρf y ω gs σ p k) st (.send .none) s := by
 intro xs0
 induction xs0 with
 | zero =>
  exact @fun h => h
 | succ _ ih =>
  exact @fun h => h
theorem gen_seg (TB : TopB B0 mg mb) (hg : GtOk mg mb gt) {a15 : Addr} (F : Reads1 B0 gt a15) {f x : Str} (GE : GenEnv mg mb gt cenv T a15 f y x) {px q q' pc pl pos : Pos} {iter : Expr} {scope : Scope} :
 ∀ (k : Nat) A l ω s σ gs p, GenPre B0 os n cenv I T P K octets fo ρf y k A l ω s σ gs p ->
  Seg1 (model prog w) A (PRg B0 os cenv I P octets ω gs σ p k) (PYg prog w B0 os n cenv I T P K octets fo ρf y ω gs σ p k)
   (.compLoop (.GeneratorExp (.List [.Call (.Name f q) [.Name y q'] [] pc] pl) [⟨.Name x px, iter, [], 0⟩] scope pos) 0 (.ref I) .none cenv)
   ((model prog w).den (.compLoop (.GeneratorExp (.List [.Call (.Name f q) [.Name y q'] [] pc] pl) [⟨.Name x px, iter, [], 0⟩] scope pos) 0 (.ref I) .none cenv)) [] s := by
 intro k
 induction k with
 | zero =>
   intro A l ω s σ gs p H
   refine o_e H.hI fun x0 hI => ?_
   show Seg1 _ A _ _ _ ((compTurn _ 0 (.ref I) .none cenv).onRaise (leaving cenv)) [] s
   (refine (compTurn_gen ..) ▸ ?_; refine (Sem.onRaise_eq_wrap ..) ▸ ?_)
   refine seg1_bind_wrap (wpAny_standAt ?_)
   refine seg1_bind_wrap (wpAny_pyNext_range_end H.room.handled (H.ms.hold _ _ hI) (by trivial) fun h' hx => ?_)
   exact seg1_end (.ok .next) (i_aeaa rfl _ cut_delI (H.ms.ext hI rfl hx _) (H.rel.del hI (fun _ q => by contradiction) (fun _ q => by contradiction)))
 | succ k ih =>
   intro A l ω s σ gs p H
   refine o_e H.hI fun x0 hI => ?_
   refine o_e H.hC fun m hC => ?_
   have hCI : cenv.locals ≠ I := fun q => by simp only [q, hI] at hC; cases hC
   show Seg1 _ A _ _ _ ((compTurn _ 0 (.ref I) .none cenv).onRaise (leaving cenv)) [] s
   (refine (compTurn_gen ..) ▸ ?_; refine (Sem.onRaise_eq_wrap ..) ▸ ?_)
   refine seg1_bind_wrap (wpAny_standAt ?_)
   refine seg1_bind_wrap (wpAny_pyNext_range_item (H.ms.hold _ _ hI) (ar279) fun h₁ hi hs => ?_)
   have S1 := H.ms.same hI rfl hs (m := .it (.range (x0 + 1) (((k + 1 : Nat) : Int) - 1))) hi (s.toks + 1)
   have R1 := H.rel.set (.it (.range (x0 + 1) (((k + 1 : Nat) : Int) - 1))) hI (fun _ q => by contradiction) (fun _ q => by contradiction)
   have hk1 : ((k + 1 : Nat) : Int) - 1 = (k : Nat) := ar278
   rw [hk1] at S1 R1
   generalize hω1 : ω.set I (.it (.range (x0 + 1) (k : Nat))) = ω1 at S1 R1
   have hc₁ : ω1.cut cenv.locals I = ω.cut cenv.locals I := by refine rl hω1 ?_; exact cut_setI
   have hI1 : ω1 I = some (.it (.range (x0 + 1) (k : Nat))) := by refine rl hω1 ?_; exact Own.set_self ..
   refine seg1_bind_wrap (wpAny_of_eq (rfl : letOwnedTupleGo (.Name x px) (.ref I) _ = pure ()) ?_)
   refine seg1_bind_wrap (wpAny_assign_Name (store_ok (h := .int x0) (GE.envOk ω1 m (show ω1 cenv.locals = some (.ns m) from by (refine rl hω1 ?_; refine rr (Own.set_ne _ _ hCI) ?_); exact hC) (FreeOk.keeps (fun b m e _ => (cut_sub e).1) (cut_le.f) (by refine rr hc₁ ?_; exact H.free))) S1 R1 GE.nm (by exact ⟨_, rfl⟩) fun ω2 s₂ l2 f₂ O2 S2 R₂ => ?_))
   have hc₂ : Le (ω.cut cenv.locals I) (ω2.cut cenv.locals I) := by refine rl hc₁ ?_; exact l2.cut
   have hI2 : ω2 I = some (.it (.range (x0 + 1) (k : Nat))) := l2 _ _ (Ne.symm hCI) hI1
   refine o_ea O2.loc fun m₂ hC2 _ => ?_
   refine seg1_bind_wrap (wpAny_of_eq (a := true) rfl ?_)
   simp only [(fun v => by simp only [yieldOut, GE.co, Bool.false_eq_true, if_false] : ∀ v, yieldOut cenv v = yieldValue v)]
   (refine rr (Sem.bind_eq_wrap' ..) ?_; refine rr (Sem.bind_eq_wrap' ..) ?_; refine rr (Sem.wrap_wrap ..) ?_; refine rr (Sem.wrap_wrap ..) ?_)
   have Ks : Stk ω2 (A.over (.compLoop (.GeneratorExp (.List [.Call (.Name f q) [.Name y q'] [] pc] pl) [⟨.Name x px, iter, [], 0⟩] scope pos) 0 (.ref I) .none cenv) []) (cenv :: l) := by
    refine ⟨?_, fun e he => ?_⟩
    · show pushEnvs [cenv] A.frames = _
      refine rr H.stk.frames ?_; rfl
    · rcases List.mem_cons.mp he with rfl | he
      · exact (i_aeea (by refine rr GE.kind ?_; decide) _ m₂ GE.frame hC2)
      · refine o_aeea (H.stk.ok e he) fun k' L' m' h1 h2 => ?_
        exact (i_aeea k' L' m' h1 (cut_le _ _ (hc₂ _ _ h2)))
   refine seg1_wrap (list_read_ev (n := n) TB hg F (show Room (n + 1 + 1 + 1) (A.over (.compLoop (.GeneratorExp (.List [.Call (.Name f q) [.Name y q'] [] pc] pl) [⟨.Name x px, iter, [], 0⟩] scope pos) 0 (.ref I) .none cenv) []) from by
    have h1 := H.room.depth
    have h2 := H.room.units
    refine ⟨?_, ?_, H.room.handled⟩
    · show A.depth + 0 + 1 + (n + 1 + 1 + 1) < 1000; exact ar277 h1
    · show A.units + 0 + 3 + 8 * (n + 1 + 1 + 1) + 100 < 9900; exact ar276 h2) O2 S2 R₂ Ks (H.tape.monoW (hc₂.trans cut_le).w) H.pos H.le GE.gf (by unfold rhoG upd; (refine rr (if_neg GE.xy) ?_; exact rr (if_pos rfl) rfl)) (fun v t p' ω3 s₃ l₃ S₃ R₃ r₃ hrd => ?_) fun e s₃ hr => ?_)
   · refine seg1_at (seg1_yield rfl rfl rfl fun st hb hst => (i_aa ((i_eeeaaaaa ω3 t p' (hc₂.trans l₃.cut) S₃ R₃ r₃ hrd ⟨⟨m₂, l₃ _ _ hC2⟩, ⟨_, l₃ _ _ hI2⟩⟩)) hb (inv_of fun A' l' ω' s' σ' gs' p'' H' => ?_)))
     exact hst _ _ _ _ _ (seg1_again rfl (ih A' l' ω' s' σ' gs' p'' H'))
   · obtain ⟨a, ω', σ', gs', cls, msg, t, rfl, l', S', R', Fl, hA, hK⟩ := hr
     refine seg1_bind (leave_on S' (Ks.mono l'.w) GE.frame Fl fun h' S'' F'' => ?_)
     exact seg1_end (.error (.ref a)) (i_ea _ rfl ⟨a, ω', σ', gs', cls, msg, t, rfl, (hc₂.trans cut_le).trans l', S'', R', F'', hA, hK⟩)
end
end
section
section
variable {prog : Program} {w : World} {B0 : Heap} {os : OsState} {mg mb : Str -> Option Value} {n : Nat} {gt : Loc} {cenv : Env} {I T P K : Addr} {octets : List UInt8} {fo : FuncData} {ρf : Loc} {y : Str}
theorem gen_fresh (TB : TopB B0 mg mb) (hg : GtOk mg mb gt) {a15 : Addr} (F : Reads1 B0 gt a15) {f x : Str} (GE : GenEnv mg mb gt cenv T a15 f y x) {px q q' pc pl pos : Pos} {iter : Expr} {scope : Scope} (k : Nat) :
 InvG prog w B0 os n cenv I T P K octets fo ρf y k (.fresh (.compStart (.GeneratorExp (.List [.Call (.Name f q) [.Name y q'] [] pc] pl) [⟨.Name x px, iter, [], 0⟩] scope pos) 0 (.ref I) .none cenv)) :=
 inv_of fun A l ω s σ gs p H => by
  have loop := gen_seg (prog := prog) (w := w) (px := px) (q := q) (q' := q') (pc := pc) (pl := pl) (pos := pos) (iter := iter) (scope := scope) TB hg F GE k A l ω s σ gs p H
  refine o_e H.hI fun x0 hI => ?_
  refine ⟨rfl, ?_⟩
  show Seg1 _ A _ _ _ ((compStart _ 0 (.ref I) .none cenv).onRaise (leaving cenv)) [] s
  refine rr (Sem.onRaise_eq_wrap ..) ?_
  refine seg1_bind_wrap (wpAny_askSetting ?_)
  refine ie rfl (fun _ => ?_) fun _ => ?_
  · exact seg1_again rfl loop
  · refine seg1_bind_wrap (wpAny_rule ?_)
    exact seg1_bind_wrap (wpAny_standAt (seg1_bind_wrap (wpAny_pyIter_rangeiter (H.ms.hold _ _ hI) (seg1_again rfl loop))))
theorem Fly.typeIs {ω : Own} {s : Shared} {e t : Addr} {cls : String} {fl : Value} (Fl : Fly B0 ω s.heap e cls t fl) : s.TypeIs (.ref e) cls := by
 obtain ⟨oe, vs, T, oT, ts, h1, h2, _⟩ := Fl
 exact (i_ea oe h1 h2.1)
theorem verr_stop : isSubtype (.type "ValueError") (.type "StopIteration") = pure false := by kernel_rfl
theorem MS.gen0 {ω : Own} {st st' : GenState} {s : Shared} (S : MS B0 os ω #[st] s) : MS B0 os ω #[st'] (s.setGen 0 st') :=
 { S with gens := by show s.gens.setIfInBounds 0 st' = _; refine rr S.gens ?_; rfl }
theorem left_ok {α : Type} {M : Model} {A : Around} {E : Value -> Shared -> Prop} {Q : α -> Shared -> Prop} {s : Shared} {a e : Addr} {nm qn z : Value} (hG : s.heap.get? a = some { cls := .type "generator", data := .fields #[z, nm, qn] }) (hT : s.TypeIs (.ref e) "ValueError") (h : E (.ref e) s) :
 wpAny M A (Builtin.Generator.genLeft (.ref a) (.ref e)) Q E s := by
 refine wpAny_bind (wpAny_bind (wpAny_load hG (wpAny_pure ?_)))
 refine wpAny_bind (wpAny_isInstance hT verr_stop ?_)
 refine wpAny_bind (wpAny_isInstance hT verr_stop ?_)
 refine wpAny_bind ?_
 exact wpAny_throw h
structure GenAt (prog : Program) (w : World) (B0 : Heap) (os : OsState) (n : Nat) (cenv : Env) (I T P K : Addr) (octets : List UInt8) (fo : FuncData) (ρf : Loc) (y : Str) (a : Addr) (ω : Own) (st : GenState) (k : Nat) : Prop where
 obj : ∃ nm qn, ω a = some (.fz { cls := .type "generator", data := .fields #[.int 0 0, nm, qn] })
 inv : InvG prog w B0 os n cenv I T P K octets fo ρf y k st
 bare : st.bare = true
end
end
section
section
variable {B0 : Heap} {os : OsState} {gs : Array GenState} {ω : Own} {s : Shared}
theorem MS.free_set (S : MS B0 os ω gs s) {e : Addr} {oe : Obj} {vs : Array Value} (he : s.heap.get? e = some oe) (hd : oe.data = .fields vs) (hoe : ω e = none) (hBe : B0.get? e = none) (g : Obj -> Obj) (t : Nat) :
 MS B0 os ω gs { s with heap := s.heap.update e g, toks := t } := by
 refine S.apart (as := [e]) (fun b o q => ?_) (fun b o hb hn => ⟨o.slots, ?_⟩) (fun b hb => by refine rr (List.mem_singleton.mp hb) ?_; exact .inl hoe) (fun b hb => by refine rr (List.mem_singleton.mp hb) ?_; exact hBe) t
 · have hbe : b ≠ e := fun x => by clear hBe hoe he; subst x; rw [hideAll_none _ (.head _)] at q; exact no_ns q
   refine rr (Heap.get?_update_other _ _ (Ne.symm hbe)) ?_; exact of_hideAll _ q
 · refine rr (Heap.get?_update_other _ _ (Ne.symm (fun x => by clear hBe hoe; subst x; rw [he] at hb; (replace hb := Option.some.inj hb; subst hb); exact hn _ hd))) ?_; exact hb
theorem own_there (S : MS B0 os ω gs s) {a : Addr} {m : OM} (e : ω a = some m) : ∃ o, s.heap.get? a = some o := by
 have hh := S.hold _ _ e
 clear e; induction m using OM.casesOn with
 | fz o => exact ⟨o, hh⟩
 | lst vs => obtain ⟨n, ho⟩ := hh; exact ⟨_, ho⟩
 | hid vs => obtain ⟨n, ho⟩ := hh; exact ⟨_, ho⟩
 | ns m => refine o_eeea hh fun o es ep ho _ => ?_; exact ⟨_, ho⟩
 | cell v => refine o_ea hh fun o ho _ => ?_; exact ⟨_, ho⟩
 | tab qs ps => exact ⟨_, hh⟩
 | ex o => exact ⟨_, hh⟩
 | it k => refine o_ea (ItK.Holds.obj hh) fun o ho _ => ?_; exact ⟨_, ho⟩
theorem own_none (S : MS B0 os ω gs s) {a : Addr} (h : s.heap.get? a = none) : ω a = none := by
 induction q : ω a with
 | none => rfl
 | some m => refine o_e (own_there S q) fun o ho => ?_; rw [h] at ho; exact no_ns ho
variable {M : Model} {A : Around} {E : Value -> Shared -> Prop} {env : Env} {outer : List Env} {L e t : Addr} {cls : String} {Q : Unit -> Shared -> Prop} {oe : Obj} {vs : Array Value}
theorem note_new (S : MS B0 os ω gs s) (K : Stk ω A (env :: outer)) (hf : env.frame = some L) (he : s.heap.get? e = some oe) (hc : oe.cls = .type cls) (hd : oe.data = .fields vs) (h0 : vs[0]? = some (.ref t)) (h1 : vs[1]? = some .none) (hoe : ω e = none) (hBe : B0.get? e = none)
 (H : ∀ h' T, MS B0 os ω gs { s with heap := h' } -> Fly B0 ω h' e cls t (rawInt L) -> h'.get? e = some (oe.mapFields (·.setIfInBounds 1 (.ref T))) -> Q () { s with heap := h' }) : wpAny M A (noteFrame (.ref e) env) Q E s := by
 have hsz : 1 < vs.size := (Array.getElem?_eq_some_iff.mp h1).1
 unfold noteFrame
 simp only [hf]
 refine wpAny_bind (wpAny_field he hd h1 ?_)
 refine wpAny_bind (wpAny_frameOf_fun K.frames (fun_frames S K.ok fun b hb => hb) hf fun h₁ hs1 => ?_)
 have hef : e ∉ frs (env :: outer) := fun hm => by obtain ⟨m, hm'⟩ := K.at hm; rw [hoe] at hm'; exact no_ns hm'
 have S1 : MS B0 os ω gs { s with heap := h₁, toks := s.toks } := S.apart (as := frs (env :: outer)) (fun b o q => by
  have hb : b ∉ frs (env :: outer) := fun hm => by rw [hideAll_none _ hm] at q; exact no_ns q
  exact (hs1.2.1 b hb).trans (of_hideAll _ q)) (fun b o hb _ => hs1.2.2 b o hb) (fun b hb => .inr (K.at hb)) (fun b hb => by obtain ⟨m, hm⟩ := K.at hb; exact ns_new S hm) s.toks
 have he1 : h₁.get? e = some oe := (hs1.2.1 e hef).trans he
 refine wpAny_bind (wpAny_entryPlaceOf fun pl hpl => ?_)
 unfold EntryCells.newEntry newFields
 refine wpAny_bind (wpAny_newObj_type ?_ (hpl.sizeOk5 _ _ _ _ _))
 have hT : ω h₁.objs.size = none := S1.unused
 have hBT : B0.get? h₁.objs.size = none := old_none S1 (Heap.get?_none_of_le (Nat.le_refl _))
 have hTe : h₁.objs.size ≠ e := Nat.ne_of_gt (Heap.lt_size he1)
 generalize hto : ({ cls := .type "traceback", dict := none, data := .fields ([Value.none, .ref L, .none, rawInt L, .none] ++ (if pl.isEmpty then List.replicate 6 Value.none else pl)).toArray } : Obj) = to
 have hnf : to.isFreed = false := by refine rl hto ?_; rfl
 have S2 : MS B0 os ω gs { s with heap := h₁.push to, toks := s.toks } := S1.keeps (fun b o hb => Heap.get?_push_of_some _ hb) _
 have he2 := Heap.get?_push_of_some (h := h₁) to he1
 have hT2 := Heap.get?_push_size h₁ hnf
 refine wpAny_setField he2 hd hsz (H _ h₁.objs.size (S2.free_set he2 hd hoe hBe _ _) ?_ ?_)
 · have hd₃ := Obj.data_mapFields hd (·.setIfInBounds 1 (Value.ref h₁.objs.size))
   refine ⟨_, _, h₁.objs.size, to, _, Heap.get?_update_self _ he2 (Obj.isFreed_of_fields hd₃), ⟨(Obj.cls_mapFields _ _).trans hc, by refine rr (Array.getElem?_setIfInBounds_ne (by decide)) ?_; exact h0⟩, hd₃, by simp [hsz], hTe, ?_, by exact rl hto rfl, by first | (rfl; done) | (rcases hpl with rfl | ⟨_, _, _, _, _, _, _, rfl⟩ <;> simp), hoe, hT, hBe, hBT⟩
   refine rr (Heap.get?_update_other _ _ (Ne.symm hTe)) ?_; exact hT2
 · have hd₃ := Obj.data_mapFields hd (·.setIfInBounds 1 (Value.ref h₁.objs.size))
   exact Heap.get?_update_self _ he2 (Obj.isFreed_of_fields hd₃)
end
end
section
section
variable {B0 : Heap} {os : OsState} {gs : Array GenState} {ω : Own} {s : Shared}
variable {M : Model} {A : Around} {E : Value -> Shared -> Prop} {e t : Addr} {cls : String} {fl : Value}
theorem flight_same {Q : Unit -> Shared -> Prop} (S : MS B0 os ω gs s) (F : Fly B0 ω s.heap e cls t fl)
 (H : ∀ h', MS B0 os ω gs { s with heap := h' } -> Fly B0 ω h' e cls t .none -> h'.get? e = s.heap.get? e -> Q () { s with heap := h' }) : wpAny M A (setFlight (.ref e) none) Q E s := by
 obtain ⟨oe, vs, T, oT, ts, h1, h2, h3, h4, h5, h6, h7, h8, h9, h10, h11, h12⟩ := F
 refine wpAny_bind (wpAny_field h1 h3 h4 ?_)
 refine wpAny_setField h6 h7 ((Array.getElem?_eq_some_iff.mp h8).1) (H _ (S.free_set h6 h7 h10 h12 _ _) ?_ (Heap.get?_update_other _ _ h5))
 exact ⟨oe, vs, T, _, _, (Heap.get?_update_other _ _ h5).trans h1, h2, h3, h4, h5, Heap.get?_update_self _ h6 (Obj.isFreed_of_fields (Obj.data_mapFields h7 _)), Obj.data_mapFields h7 _, by simp [((Array.getElem?_eq_some_iff.mp h8).1)], h9, h10, h11, h12⟩
theorem entry_unchain : entryFor table "proto.unchain" = some Builtin.«proto.unchain» := entryFor_of_tree (by kernel_rfl)
end
section
variable {prog : Program} {w : World} {A : Around} {E : Value -> Shared -> Prop} {s : Shared}
theorem unchain_none {Q : Value -> Shared -> Prop} {e hx : Addr} {oh : Obj} {vh : Array Value} (h1 : s.heap.get? hx = some oh) (h2 : oh.data = .fields vh) (h3 : vh[2]? = some .none) (h : Q .none s) :
 wpAny (model prog w) A (runValue (.builtin "proto.unchain" ⟨[.ref e, .ref hx, .ref hx, .bool false], []⟩)) Q E s := by
 refine wpAny_runValue (codeAny_builtin entry_unchain ?_)
 refine wpAny_bind (wpAny_field h1 h2 h3 ?_)
 exact wpAny_pure h
theorem exc_from_made {cls : String} (F : ExcRaiseFacts cls) {e t : Addr} {m : String} {Q : Value -> Shared -> Prop} (he : s.heap.get? e = some { cls := .type cls, data := .fields #[.ref t, .none, .none, .none, .bool false, .none] }) (h : Q (.ref e) s) : wpAny (model prog w) A (excFromValue (.ref e) m) Q E s := by
 obtain ⟨hp, g, d, tk, os⟩ := s
 have hsub := F.isExc
 dsimp only [excFromValue]
 repeat (first | refine wpAny_loadPart he ?_ | wp_step)
 exact h
theorem inst_made {cls : String} (F : ExcRaiseFacts cls) {e : Addr} {vs : Array Value} {Q : Value -> Shared -> Prop} (he : s.heap.get? e = some { cls := .type cls, data := .fields vs }) (h : Q (.ref e) s) : wpAny (model prog w) A (raisedInstance (.ref e)) Q E s := by
 obtain ⟨hp, g, d, tk, os⟩ := s
 have hmeta := F.plainMeta
 unfold raisedInstance
 repeat (first | refine wpAny_loadPart he ?_ | wp_step)
 exact h
theorem not_type {cls : String} (F : ExcRaiseFacts cls) {e : Addr} {vs : Array Value} {Q : Bool -> Shared -> Prop} (he : s.heap.get? e = some { cls := .type cls, data := .fields vs }) (h : Q false s) : wpAny (model prog w) A (isType (.ref e)) Q E s := by
 obtain ⟨hp, g, d, tk, os⟩ := s
 unfold isType
 repeat (first | refine wpAny_loadPart he ?_ | wp_step)
 exact h
theorem raise_held {env : Env} {cls : String} (F : ExcRaiseFacts cls) {x c : Sem Value} {Q : Flow -> Shared -> Prop} {hx : Addr} (hh : A.handled = some (.ref hx)) (hc : ∀ (Q : Value -> Shared -> Prop) s, Q .none s -> wpAny (model prog w) A c Q E s)
 (h : wpAny (model prog w) A x (fun v s₁ => ∃ e t oh vh, v = .ref e /\ e ≠ hx /\ s₁.heap.get? e = some { cls := .type cls, data := .fields #[.ref t, .none, .none, .none, .bool false, .none] } /\ s₁.heap.get? hx = some oh /\ oh.data = .fields vh /\ vh[2]? = some .none /\
  ∀ h', h'.get? e = some { cls := .type cls, data := .fields #[.ref t, .none, .ref hx, .none, .bool true, .none] } -> Heap.SameBut e s₁.heap h' -> E (.ref e) { s₁ with heap := h' }) E s) :
 wpAny (model prog w) A (raiseStmt env (some x) (some c)) Q E s := by
 refine wpAny_bind (wpAny_mono h (fun v s₁ h₁ => ?_) fun _ _ x => x)
 (refine o_eeeeaaaaa h₁ fun e t oh vh z464 hne he g1 g2 z465 => ?_; clear h₁; refine rr z464 ?_; refine o_a z465 fun g3 hE => ?_)
 obtain ⟨hp, g, d, tk, os⟩ := s₁
 refine wpAny_bind (wpAny_holding (hc _ _ ?_))
 refine wpAny_bind (wpAny_pure ?_)
 refine wpAny_bind (wpAny_holding (exc_from_made F he ?_))
 dsimp only
 refine wpAny_bind (wpAny_pure ?_)
 refine wpAny_bind (wpAny_setField he rfl (show 3 < 6 by decide) ?_)
 refine wpAny_bind (wpAny_setField (Heap.get?_update_self (Obj.mapFields (·.setIfInBounds 3 Value.none)) he rfl) rfl (show 4 < 6 by decide) ?_)
 have he2 := Heap.get?_update_self (Obj.mapFields (·.setIfInBounds 4 (Value.bool true))) (Heap.get?_update_self (Obj.mapFields (·.setIfInBounds 3 Value.none)) he rfl) rfl
 have s₂ := (Heap.SameBut.update hp e (Obj.mapFields (·.setIfInBounds 3 Value.none))).trans (Heap.SameBut.update _ e (Obj.mapFields (·.setIfInBounds 4 (Value.bool true))))
 revert he2 s₂
 generalize (hp.update e (Obj.mapFields (·.setIfInBounds 3 Value.none))).update e (Obj.mapFields (·.setIfInBounds 4 (Value.bool true))) = h₂
 intro he2 s₂
 replace he2 : h₂.get? e = some { cls := .type cls, data := .fields #[.ref t, .none, .none, .none, .bool true, .none] } := he2
 refine wpAny_bind (not_type F he2 ?_)
 refine wpAny_bind (inst_made F he2 ?_)
 refine wpAny_bind ?_
 refine wpAny_bind (wpAny_field he2 rfl (x := .none) rfl ?_)
 refine wpAny_pure ?_
 dsimp only [raiseNew]
 refine wpAny_bind (wpAny_handled ?_)
 refine rr hh ?_
 dsimp only
 refine rr (if_pos (by simpa using Ne.symm hne)) ?_
 refine wpAny_bind (wpAny_holding (unchain_none ((s₂.2 hx (Ne.symm hne)).trans g1) g2 g3 ?_))
 refine wpAny_bind ?_
 refine wpAny_setField he2 rfl (show 2 < 6 by decide) ?_
 exact wpAny_throw (hE _ (Heap.get?_update_self (Obj.mapFields (·.setIfInBounds 2 (Value.ref hx))) he2 rfl) (s₂.trans (Heap.SameBut.update _ e _)))
end
end
section
section
variable {prog : Program} {w : World} {B0 : Heap} {os : OsState} {mg mb : Str -> Option Value} {n : Nat} {gt : Loc} {cenv : Env} {I T P K : Addr} {octets : List UInt8} {fo : FuncData} {ρf : Loc} {y : Str}
theorem gen_special (TB : TopB B0 mg mb) {A : Around} {E : Value -> Shared -> Prop} {l : List Env} {ω : Own} {s : Shared} {σ : St} {p k : Nat} {a : Addr} {st : GenState} {Q : Option Value -> Shared -> Prop} (G : GenAt prog w B0 os n cenv I T P K octets fo ρf y a ω st k)
 (H : GenPre B0 os (n + 1) cenv I T P K octets fo ρf y k A l ω s σ #[st] p)
 (H0 : ∀ ω' s' ex t oe vs, k = 0 -> Le (ω.cut cenv.locals I) ω' -> MS B0 os ω' #[.finished] s' -> RelS ω' σ -> s'.heap.get? ex = some oe -> oe.cls = .type "StopIteration" -> oe.data = .fields vs -> vs[0]? = some (.ref t) -> vs[1]? = some .none -> vs[2]? = some .none -> ω' ex = none -> B0.get? ex = none -> E (.ref ex) s')
 (H1 : ∀ v t p' k' ω' s' st', k = k' + 1 -> Le (ω.cut cenv.locals I) (ω'.cut cenv.locals I) -> MS B0 os ω' #[st'] s' -> RelS ω' (σ.put P [.int (p' : Nat)]) -> Rd ω' (.list [.str t]) v -> rdF octets p = some (t, p') -> (∃ m, ω' cenv.locals = some (.ns m)) -> (∃ x0, ω' I = some (.it (.range x0 (k' : Nat)))) -> GenAt prog w B0 os n cenv I T P K octets fo ρf y a ω' st' k' -> Q (some v) s')
 (H2 : ∀ e s', k ≠ 0 -> RaisG B0 os (ω.cut cenv.locals I) (fun cls msg _ σ' gs' => rdF octets p = none /\ cls = "ValueError" /\ msg = rdW octets p /\ σ' = σ.put P [.int (octets.length : Nat)] /\ gs' = #[.finished]) e s' -> E e s') :
 wpAny (model prog w) A (callSpecial? (.ref a) "__next__") Q E s := by
 refine o_ee G.obj fun nm qn hob => ?_
 have S := H.ms
 have hgen : s.heap.IsGen a 0 := (i_eeeaaa _ nm qn (S.hold _ _ hob) rfl rfl rfl)
 have hgs : s.gens[0]? = some st := by refine rr S.gens ?_; rfl
 have H' : GenPre B0 os n cenv I T P K octets fo ρf y k A.in1 l ω (s.setGen 0 .running) σ #[.running] p :=
  { room := H.room.in1, stk := ⟨H.stk.frames, H.stk.ok⟩, ms := S.gen0, rel := H.rel, tape := H.tape, pos := H.pos, le := H.le, free := H.free, hC := H.hC, hI := H.hI }
 have hgo := of_inv G.inv A.in1 l ω _ σ _ p H'
 refine wpAny_callSpecial?_slot (name := Str.ofString "__next__") hgen.typeIs slot_gen_next
  (wpAny_call_entry slot_gen_next hgen.typeIs entry_gen_next ?_ (args_gen_next _))
 show wpAny _ A.in1 (Builtin.Generator.genWake (.ref a) (.send .none)) _ _ s
 dsimp only [Builtin.Generator.genWake]
 refine wpAny_bind (wpAny_holding (wpAny_genNumber hgen (wpAny_bind (wpAny_genState hgs ?_))))
 have hcut : ω.cut cenv.locals I a = some (.fz { cls := .type "generator", data := .fields #[.int 0 0, nm, qn] }) := by
  refine o_e H.hC fun m hC => ?_
  obtain ⟨x0, hI⟩ := H.hI
  refine rr (cut_at (fun q => by rw [q, hC] at hob; cases hob) (fun q => by rw [q, hI] at hob; cases hob)) ?_; exact hob
 induction st using GenState.casesOn with
 | running => exact hgo.elim
 | finished => exact hgo.elim
 | _ =>
  refine wpAny_bind (wpAny_roomToWake (TB.lim S) H.room.lim ?_)
  refine resume1 hgs hgo (fun x s₁ hx => ?_) (fun v s₁ st' hv => ?_)
  · clear hgo; induction k using Nat.casesOn with
   | zero =>
    (refine o_aeaa hx fun z238 ω' l' S' R' => ?_; clear hx; subst z238)
    show wpAny _ A.in1 (newExc (.type "StopIteration") [] >>= _) _ _ _
    refine wpAny_bind ?_
    refine wpAny_bind (wpAny_newObj_type ?_ (by size_fits))
    refine wpAny_bind (m := firstArgMember _ _) (wpAny_of_eq (a := Value.none) (by first | rfl | (simp only [firstArgMember]; rfl)) ?_)
    refine wpAny_newObj_type ?_ (by size_fits)
    dsimp only [raiseNew]
    refine wpAny_bind (wpAny_bind (wpAny_handled ?_))
    refine rr (show A.in1.handled = none from H.room.handled) ?_
    refine wpAny_throw ?_
    have S1 := (S'.gen0 (st' := .finished)).keeps (fun b o hb => Heap.get?_push_of_some { cls := .type "tuple", data := .seq #[] } hb) s₁.toks
    exact H0 ω' _ _ _ _ _ rfl l' (S1.keeps (fun b o hb => Heap.get?_push_of_some _ hb) _) R' (Heap.get?_push_size _ rfl) rfl rfl rfl rfl rfl S1.unused (old_none S1 (Heap.get?_none_of_le (Nat.le_refl _)))
   | succ k =>
    (refine o_ea hx fun e z223 z224 => ?_; clear hx; refine rr z223 ?_; obtain ⟨ae, ω', σ', gs', cls, msg, t, rfl, l', S', R', Fl, hA, h1, h2, h3, h4, h5⟩ := z224)
    subst h5
    have hT : (s₁.setGen 0 .finished).TypeIs (.ref ae) "ValueError" := by refine rl h2 ?_; exact Fl.typeIs
    have hG' : (s₁.setGen 0 .finished).heap.get? a = some { cls := .type "generator", data := .fields #[.int 0 0, nm, qn] } := S'.hold _ _ (l' _ _ hcut)
    refine left_ok hG' hT ?_
    exact (H2 _ _ (by lia) ⟨ae, ω', σ', _, cls, msg, t, rfl, l', S'.gen0, R', Fl, hA, h1, h2, h3, h4, rfl⟩)
  · clear H0; induction k using Nat.casesOn with
   | zero => exact hv.elim
   | succ k =>
    (refine o_aa hv fun z219 hb hinv => ?_; (refine o_eeeaaaaa z219 fun ω' t p' l' S' R' rv hrd z31 => ?_; refine o_a z31 fun hC' hI' => ?_))
    exact wpAny_pure ⟨v, rfl, H1 v t p' k ω' _ st' rfl l' S'.gen0 R' rv hrd hC' hI' ⟨(i_ee nm qn ((cut_sub (l' _ _ hcut)).1)), hinv, hb⟩⟩
theorem gen_next (TB : TopB B0 mg mb) {A : Around} {E : Value -> Shared -> Prop} {l : List Env} {ω : Own} {s : Shared} {σ : St} {p k : Nat} {a : Addr} {st : GenState} {Q : Option Value -> Shared -> Prop} (G : GenAt prog w B0 os n cenv I T P K octets fo ρf y a ω st k)
 (H : GenPre B0 os (n + 1) cenv I T P K octets fo ρf y k A l ω s σ #[st] p)
 (H0 : ∀ ω' s', k = 0 -> Le (ω.cut cenv.locals I) ω' -> MS B0 os ω' #[.finished] s' -> RelS ω' σ -> Q none s')
 (H1 : ∀ v t p' k' ω' s' st', k = k' + 1 -> Le (ω.cut cenv.locals I) (ω'.cut cenv.locals I) -> MS B0 os ω' #[st'] s' -> RelS ω' (σ.put P [.int (p' : Nat)]) -> Rd ω' (.list [.str t]) v -> rdF octets p = some (t, p') -> (∃ m, ω' cenv.locals = some (.ns m)) -> (∃ x0, ω' I = some (.it (.range x0 (k' : Nat)))) -> GenAt prog w B0 os n cenv I T P K octets fo ρf y a ω' st' k' -> Q (some v) s')
 (H2 : ∀ e s', k ≠ 0 -> RaisG B0 os (ω.cut cenv.locals I) (fun cls msg _ σ' gs' => rdF octets p = none /\ cls = "ValueError" /\ msg = rdW octets p /\ σ' = σ.put P [.int (octets.length : Nat)] /\ gs' = #[.finished]) e s' -> E e s') :
 wpAny (model prog w) A (pyNext (.ref a)) Q E s := by
 refine wpAny_bind (wpAny_attempt (gen_special TB G H (fun ω' s' ex t oe vs hk l' S' R' e1 e2 _ _ _ _ _ _ => ?_) (fun v t p' k' ω' s' st' hk l' S' R' rv hrd hC' hI' GA => ?_) (fun e s' hk hr => ?_)))
 · refine wpAny_bind (wpAny_isInstance (T := "StopIteration") (b := true) (i_ea _ e1 e2) isSubtype_stop ?_)
   exact wpAny_pure (H0 ω' s' hk l' S' R')
 · exact wpAny_pure (H1 v t p' k' ω' s' st' hk l' S' R' rv hrd hC' hI' GA)
 · obtain ⟨ae, ω', σ', gs', cls, msg, t, rfl, l', S', R', Fl, hA, h1, h2, h3, h4, h5⟩ := hr
   refine wpAny_bind (wpAny_isInstance (show s'.TypeIs (.ref ae) "ValueError" from by refine rl h2 ?_; exact Fl.typeIs) verr_stop ?_)
   exact wpAny_throw (H2 _ _ hk ⟨ae, ω', σ', gs', cls, msg, t, rfl, l', S', R', Fl, hA, h1, h2, h3, h4, h5⟩)
theorem gen_call_next (TB : TopB B0 mg mb) {A : Around} {E : Value -> Shared -> Prop} {l : List Env} {ω : Own} {s : Shared} {σ : St} {p k : Nat} {a : Addr} {st : GenState} {Q : Value -> Shared -> Prop} (G : GenAt prog w B0 os n cenv I T P K octets fo ρf y a ω st k)
 (H : GenPre B0 os (n + 1 + 1) cenv I T P K octets fo ρf y k A l ω s σ #[st] p)
 (H0 : ∀ ω' s' ex t oe vs, k = 0 -> Le (ω.cut cenv.locals I) ω' -> MS B0 os ω' #[.finished] s' -> RelS ω' σ -> s'.heap.get? ex = some oe -> oe.cls = .type "StopIteration" -> oe.data = .fields vs -> vs[0]? = some (.ref t) -> vs[1]? = some .none -> vs[2]? = some .none -> ω' ex = none -> B0.get? ex = none -> E (.ref ex) s')
 (H1 : ∀ v t p' k' ω' s' st', k = k' + 1 -> Le (ω.cut cenv.locals I) (ω'.cut cenv.locals I) -> MS B0 os ω' #[st'] s' -> RelS ω' (σ.put P [.int (p' : Nat)]) -> Rd ω' (.list [.str t]) v -> rdF octets p = some (t, p') -> (∃ m, ω' cenv.locals = some (.ns m)) -> (∃ x0, ω' I = some (.it (.range x0 (k' : Nat)))) -> GenAt prog w B0 os n cenv I T P K octets fo ρf y a ω' st' k' -> Q v s')
 (H2 : ∀ e s', k ≠ 0 -> RaisG B0 os (ω.cut cenv.locals I) (fun cls msg _ σ' gs' => rdF octets p = none /\ cls = "ValueError" /\ msg = rdW octets p /\ σ' = σ.put P [.int (octets.length : Nat)] /\ gs' = #[.finished]) e s' -> E e s') :
 wpAny (model prog w) A (call (.builtin "next") [.ref a]) Q E s := by
 refine o_ee G.obj fun nm qn hob => ?_
 have hgen : s.heap.IsGen a 0 := (i_eeeaaa _ nm qn (H.ms.hold _ _ hob) rfl rfl rfl)
 refine call_function_entry (by decide +kernel) (by decide +kernel) kdk_entry_next (kdk_args_next _) ?_
 refine wpAny_bind (m := someArgs "next" 1 2 _) (wpAny_of_eq (a := [Value.ref a]) (by first | rfl | kernel_rfl!) ?_)
 dsimp only
 refine wpAny_bind (wpAny_specialOf (name := Str.ofString "__next__") hgen.typeIs slot_gen_next.lookup ?_)
 refine wpAny_ite_split (fun hab => absurd hab (by decide)) (fun _ => ?_)
 refine wpAny_bind (gen_special TB G ({ room := H.room.in1, stk := ⟨H.stk.frames, H.stk.ok⟩, ms := H.ms, rel := H.rel, tape := H.tape, pos := H.pos, le := H.le, free := H.free, hC := H.hC, hI := H.hI }) H0 (fun v t p' k' ω' s' st' h1 h2 h3 h4 h5 h6 h7 h8 h9 => ?_) H2)
 exact wpAny_pure (i_ea _ rfl (H1 v t p' k' ω' s' st' h1 h2 h3 h4 h5 h6 h7 h8 h9))
theorem gen_call_iter {A : Around} {E : Value -> Shared -> Prop} {s : Shared} {a : Addr} {g : Nat} {Q : Value -> Shared -> Prop} (hg : s.heap.IsGen a g) (h : Q (.ref a) s) : wpAny (model prog w) A (call (.builtin "iter") [.ref a]) Q E s := by
 refine call_function_entry (by decide +kernel) (by decide +kernel) kdk_entry_iter (kdk_args_iter _) ?_
 dsimp only [Builtin.«iter»]
 refine wpAny_bind (m := someArgs "iter" 1 2 _) (wpAny_of_eq (a := [Value.ref a]) (by first | rfl | kernel_rfl!) ?_)
 exact wpAny_bind (wpAny_pyIter_gen hg (wpAny_pure (i_ea _ rfl h)))
end
end
section
theorem MS.cut {B0 : Heap} {os : OsState} {ω : Own} {gs : Array GenState} {s : Shared} {C I : Addr} (S : MS B0 os ω gs s) (hC : ∃ m, ω C = some (.ns m)) (hI : ∃ k, ω I = some (.it k)) : MS B0 os (ω.cut C I) gs s :=
 { S with hold := fun a m e => S.hold _ _ (cut_sub e).1, lo := fun a m e hf => S.lo _ _ (cut_sub e).1 hf, tabs := fun P qs ps e => (S.tabs P qs ps (cut_sub e).1).monoF (cut_f hC hI) }
theorem RelS.cut {ω : Own} {σ : St} {C I : Addr} (R : RelS ω σ) (hC : ∃ m, ω C = some (.ns m)) (hI : ∃ k, ω I = some (.it k)) : RelS (ω.cut C I) σ := fun a xs e => by
 refine o_aea (R a xs e) fun hz vs h1 h2 => ?_
 obtain ⟨m, hC'⟩ := hC
 obtain ⟨k, hI'⟩ := hI
 exact (i_aea hz vs (by refine rr (cut_at (fun q => by rw [q, hC'] at h1; cases h1) (fun q => by rw [q, hI'] at h1; cases h1)) ?_; exact h1) (h2.monoF (cut_f ⟨m, hC'⟩ ⟨k, hI'⟩)))
section
variable {prog : Program} {w : World} {B0 : Heap} {os : OsState} {gs : Array GenState} {mg mb : Str -> Option Value} {n : Nat}
theorem call_cut (T : TopB B0 mg mb) {fd : FuncData} {ps : List Str} {body : List Stmt} {gt ρf : Loc} {a : Addr} {o : Obj} (D : DefOkX fd ps body) (hg : GtOk mg mb gt) {A : Around} {l : List Env} {ω : Own} {s : Shared} {σ : St} {K : KG} {KX : KXG} {hs : List HV} {vs args : List Value} {C I : Addr}
 (hC : ∃ m, ω C = some (.ns m)) (hI : ∃ k, ω I = some (.it k))
 (hX : KXStable KX) (hK : KStable K) (Rm : Room (n + 1) A) (Ks : Stk (ω.cut C I) A l) (S : MS B0 os ω gs s) (R : RelS ω σ) (r : RdL ω hs vs) (hlen : hs.length = ps.length) (hbind : BindsTo s fd ⟨args, []⟩ (ps.zip vs)) (ho : s.heap.get? a = some o) (hd : o.data = .func fd) (hcd : s.heap.CodeRec fd.code fd.qualname) (hfr : FreeOk ω fd.scope fd.closure ρf)
 (H : ∀ (env : Env) (A' : Around) (ω1 : Own) (s₁ : Shared), env.frame = some env.locals -> EnvOk mg mb env ω1 (bindHF ρf ps hs) (GofDef fd.scope gt) -> Room n A' -> Stk (ω1.cut C I) A' (env :: l) -> MS B0 os ω1 gs s₁ -> RelS ω1 σ -> ω env.locals = none -> EnvOk mg mb env (ω1.cut C I) (bindHF ρf ps hs) (GofDef fd.scope gt) -> ω1 C = ω C -> ω1 I = ω I -> env.locals ≠ C -> env.locals ≠ I -> (∀ b m, ω b = some m -> (∀ vs, m ≠ .lst vs) -> ω1 b = some m) ->
  wpAny (model prog w) A' (execs body env) (PostF B0 os env (ω1.cut C I) K) (ThrG B0 os env (ω1.cut C I) KX) s₁) :
 wpAny (model prog w) A (call (.ref a) args []) (PostG B0 os (ω.cut C I) K) (RaisG B0 os (ω.cut C I) KX) s := by
 have hroom : A.depth < recursionLimit := Rm.lim
 have hvs := r.length
 refine wpAny_call (codeAny_call_def hroom ho hd (T.lim S) hcd D.body hbind D.cells ?_ ?_ D.co D.gen D.kind)
 · intro x hx
   exact D.kinds x.1 (List.of_mem_zip (a := x.1) (b := x.2) hx).1
 · intro h₀ hns hk
   have hsz := S.size
   have S1 : MS B0 os ω gs { s with heap := h₀, toks := s.toks + (ps.zip vs).length } := S.keeps hk _
   have S2 := S1.hide σ
   have R₂ := R.hide
   have hun : hideO σ ω s.heap.objs.size = none := by
    rw [hide_none]
    induction q : ω s.heap.objs.size with
    | none => rfl
    | some m => exact absurd (S.hold _ _ q).lt (Nat.lt_irrefl _)
   have S₃ := S2.adopt (a := s.heap.objs.size) (m := .ns _) hns hsz (fun o q => by rw [hun] at q; exact no_ns q)
   have l₃ : Le (hideO σ ω) ((hideO σ ω).set s.heap.objs.size (.ns fun x => (ps.zip vs).reverse.lookup x)) := Le.new _ hun
   have R₃ := R₂.new (m := .ns fun x => (ps.zip vs).reverse.lookup x) hun
   have fl : LeF ω ((hideO σ ω).set s.heap.objs.size (.ns fun x => (ps.zip vs).reverse.lookup x)) := hide_f.trans l₃.f
   have other : ∀ b m, ω b = some m -> (∀ vs, m ≠ .lst vs) -> ((hideO σ ω).set s.heap.objs.size (.ns fun x => (ps.zip vs).reverse.lookup x)) b = some m := fun b m e hm => by
    (refine rr (Own.set_ne _ _ (fun q => by subst q; have := hide_none.mp hun; rw [this] at e; exact no_ns e)) ?_; refine rr (hide_else (fun us q => by rw [e] at q; (replace q := Option.some.inj q; subst q); exact hm us rfl)) ?_; exact rr e rfl)
   have hfr3 : FreeOk ((hideO σ ω).set s.heap.objs.size (.ns fun x => (ps.zip vs).reverse.lookup x)) fd.scope fd.closure ρf := fun x h e => by
    refine o_aeeaa (hfr x h e) fun k c v h1 h2 h3 => ?_
    exact ⟨k, c, v, h1, other _ _ h2 (fun _ q => by contradiction), h3.monoF fl⟩
   have hCn : s.heap.objs.size ≠ C := fun q => by refine o_e hC fun m h => ?_; have h := q ▸ h; have := hide_none.mp hun; rw [this] at h; exact no_ns h
   have hIn : s.heap.objs.size ≠ I := fun q => by refine o_e hI fun m h => ?_; rw [← q] at h; have := hide_none.mp hun; rw [this] at h; exact no_ns h
   have O := defX_env (L := s.heap.objs.size) (a := a) D hg (r.monoF fl) hfr3 (Own.set_self ..)
   have eC : ((hideO σ ω).set s.heap.objs.size (.ns fun x => (ps.zip vs).reverse.lookup x)) C = ω C := by
    refine o_e hC fun m h => ?_
    refine rr h ?_; exact other _ _ h (fun _ q => by contradiction)
   have eI : ((hideO σ ω).set s.heap.objs.size (.ns fun x => (ps.zip vs).reverse.lookup x)) I = ω I := by
    refine o_e hI fun m h => ?_
    refine rr h ?_; exact other _ _ h (fun _ q => by contradiction)
   have hcut : ((hideO σ ω).set s.heap.objs.size (.ns fun x => (ps.zip vs).reverse.lookup x)).cut C I = (hideO σ (ω.cut C I)).set s.heap.objs.size (.ns fun x => (ps.zip vs).reverse.lookup x) := by
    funext b
    unfold Own.cut Own.set hideO
    by_cases h1 : b = C ∨ b = I
    · have h2 : b ≠ s.heap.objs.size := fun q => by subst q; exact h1.elim hCn hIn
      simp only [if_pos h1, if_neg h2]
    · simp only [if_neg h1]
   have S0 : MS B0 os (ω.cut C I) gs s := S.cut hC hI
   have R0 : RelS (ω.cut C I) σ := R.cut hC hI
   have hun0 : hideO σ (ω.cut C I) s.heap.objs.size = none := by
    rw [hide_none]
    exact S0.unused
   have l3' : Le (hideO σ (ω.cut C I)) ((hideO σ (ω.cut C I)).set s.heap.objs.size (.ns fun x => (ps.zip vs).reverse.lookup x)) := Le.new _ hun0
   have fC : LeF ((hideO σ ω).set s.heap.objs.size (.ns fun x => (ps.zip vs).reverse.lookup x)) (((hideO σ ω).set s.heap.objs.size (.ns fun x => (ps.zip vs).reverse.lookup x)).cut C I) := cut_f (by refine rr eC ?_; exact hC) (by refine rr eI ?_; exact hI)
   have O0 := defX_env (L := s.heap.objs.size) (a := a) D hg (r.monoF (fl.trans fC)) (ω := ((hideO σ ω).set s.heap.objs.size (.ns fun x => (ps.zip vs).reverse.lookup x)).cut C I) (fun x h e => by
    refine o_aeeaa (hfr3 x h e) fun k c v h1 h2 h3 => ?_
    obtain ⟨mC, hC'⟩ := hC
    obtain ⟨kI, hI'⟩ := hI
    simp only [hC'] at eC
    simp only [hI'] at eI
    exact ⟨k, c, v, h1, by refine rr (cut_at (fun q => by rw [q, eC] at h2; exact absurd h2 nofun) (fun q => by rw [q, eI] at h2; exact absurd h2 nofun)) ?_; exact h2, h3.monoF fC⟩) (by refine rr (cut_at hCn hIn) ?_; exact Own.set_self ..)
   have Ks' : Stk (((hideO σ ω).set s.heap.objs.size (.ns fun x => (ps.zip vs).reverse.lookup x)).cut C I) (A.deeper (callEnv fd s.heap.objs.size a)) (callEnv fd s.heap.objs.size a :: l) := by
    refine ⟨Around.frames_deeper Ks.frames, fun e he => ?_⟩
    rcases List.mem_cons.mp he with rfl | he
    · exact ⟨by refine rr O.kind ?_; decide, _, _, rfl, by refine rr (cut_at hCn hIn) ?_; exact Own.set_self ..⟩
    · refine o_aeea (Ks.ok e he) fun k L' m' h1 h2 => ?_
      refine o_aa (cut_sub h2) fun h3 h4 h5 => ?_
      exact ⟨k, L', m', h1, by refine rr (cut_at h4 h5) ?_; exact other _ _ h3 (fun _ q => by contradiction)⟩
   refine wpAny_mono (H (callEnv fd s.heap.objs.size a) _ _ _ rfl O Rm.deeper Ks' S₃ R₃ (hide_none.mp hun) O0 eC eI hCn hIn other) (fun f s' q => ?_) fun e s' q => ?_
   · obtain ⟨v, h, ω', σ', gs', rfl, l', S', R', rv, k⟩ := q
     simp only [hcut] at l'
     have l6 : Le (hideO σ (ω.cut C I)) ω' := ((l3'.s s.heap.objs.size).trans l').le hun0
     exact ⟨h, backO σ (ω.cut C I) ω', σ', gs', back_le l6, S0.backS l6 S', (back_keeps l6).rel R', rv.monoF (back_keeps l6).f, hK _ _ _ _ _ (back_keeps l6) k⟩
   · refine leave_thrown hX Ks' rfl q fun s'' x ω' σ' gs' cls msg t e' l' S' R' F hA k => ?_
     simp only [hcut] at l'
     have l6 : Le (hideO σ (ω.cut C I)) ω' := ((l3'.s s.heap.objs.size).trans l').le hun0
     exact ⟨x, backO σ (ω.cut C I) ω', σ', gs', cls, msg, t, e', back_le l6, S0.backS l6 S', (back_keeps l6).rel R', F.backF l6, hA.monoF (back_keeps l6).f, hX _ _ _ _ _ _ (back_keeps l6) k⟩
end
end
section
noncomputable def foldF (o : List UInt8) : Nat -> Nat -> List HV -> (List Nat ⊕ List HV × Nat) × List Ev
 | 0, p, xs => (.inr (xs, p), [])
 | k + 1, p, xs => match rdF o p with
  | none => (.inl (rdW o p), [])
  | some (t, p') => match (stepF o t p').1 with
   | .inl m => (.inl m, (stepF o t p').2)
   | .inr (c, p'') => ((foldF o k p'' (xs ++ [.int (c : Nat)])).1, (stepF o t p').2 ++ (foldF o k p'' (xs ++ [.int (c : Nat)])).2)
theorem EnvOk.cut {mg mb : Str -> Option Value} {env : Env} {ω : Own} {ρ : Loc} {G : GC} {C I : Addr} (O : EnvOk mg mb env ω ρ G) (hC : ∃ m, ω C = some (.ns m)) (hI : ∃ k, ω I = some (.it k)) (hL : env.locals ≠ C) : EnvOk mg mb env (ω.cut C I) ρ G := by
 have f := cut_f hC hI
 obtain ⟨mC, hC⟩ := hC
 obtain ⟨kI, hI⟩ := hI
 refine { O with loc := ?_, cel := fun x h e k => ?_ }
 · refine o_ea O.loc fun m h1 h2 => ?_
   refine (i_ea m (by refine rr (cut_at hL (fun q => by rw [q, hI] at h1; exact absurd h1 nofun)) ?_; exact h1) (fun x h e k => ?_))
   refine o_ea (h2 x h e k) fun v h3 h4 => ?_
   exact (i_ea v h3 (h4.monoF f))
 · refine o_eeaa (O.cel x h e k) fun c v h1 h2 h3 => ?_
   exact (i_eeaa c v h1 (by refine rr (cut_at (fun q => by rw [q, hC] at h2; exact absurd h2 nofun) (fun q => by rw [q, hI] at h2; exact absurd h2 nofun)) ?_; exact h2) (h3.monoF f))
theorem StepAt.monoW {ω ω' : Own} {a T Lg : Addr} {fs : FuncData} (h : StepAt ω a T Lg fs) (x : LeW ω ω') : StepAt ω' a T Lg fs :=
 ⟨h.shape, x _ _ h.fn rfl, h.code.monoF x.f, FreeOk.keeps x x.f h.free⟩
noncomputable def forS : List Stmt := (bodyOf (stm 3)).drop 2
section
variable {prog : Program} {w : World} {B0 : Heap} {os : OsState} {mg mb : Str -> Option Value} {n : Nat} {gt : Loc} {cenv : Env} {I T P K : Addr} {octets : List UInt8} {fo : FuncData} {ρf : Loc} {y : Str}
variable (prog w B0 os mg mb n gt cenv I T P K octets fo ρf y) in
inductive RedI (GP : Nat -> Prop) (env : Env) (ωb : Own) (σ0 : St) (a aS Lg : Addr) (k p : Nat) (lg xs : List HV) (k' : Nat) (s' : Shared) : Prop
 | mk : ∀ (ω' : Own) (st' : GenState) (ρ' : Loc) (p' : Nat) (lg' xs' : List HV) (evs : List Ev), LeS env.locals ωb (ω'.cut cenv.locals I) -> EnvOk mg mb env ω' ρ' (GofDef (scopeOf (stm 3)) gt) -> MS B0 os ω' #[st'] s' -> RelS ω' ((σ0.put P [.int (p' : Nat)]).put Lg lg') ->
   GenAt prog w B0 os n cenv I T P K octets fo ρf y a ω' st' k' -> (∃ m, ω' cenv.locals = some (.ns m)) -> (∃ x0, ω' I = some (.it (.range x0 (k' : Nat)))) -> ρ' (Str.ofString "it") = some (.val (.ref a)) -> ρ' (Str.ofString "function") = some (.val (.ref aS)) -> ρ' (Str.ofString "value") = some (.list xs') ->
   p' <= octets.length -> GP p' -> lg'.length <= 2 * p' -> xs'.length + k' <= 1000 -> lg' = lg ++ evs.map evH -> foldF octets k p xs = ((foldF octets k' p' xs').1, evs ++ (foldF octets k' p' xs').2) -> RedI GP env ωb σ0 a aS Lg k p lg xs k' s'
theorem red_loop (TB : TopB B0 mg mb) (hg : GtOk mg mb gt) {a15 aT aK : Addr} (F : Reads1 B0 gt a15) {Γ : Spx} (X : ∀ gs, SpxOk prog w B0 os gs Γ (n + 1 + 1 + 1)) (Γ1 : Γ (.ref aT) = some spTx) (Γ2 : Γ (.ref aK) = some spTaken)
 (g1 : gt (tN "translate") = some (.val (.ref aT))) (g2 : gt (tN "_law_taken") = some (.val (.ref aK))) (g3 : gt (tN "read_string1") = some (.val (.ref a15)))
 {A : Around} {l : List Env} {env : Env} {ω0 ωb : Own} {σ0 : St} {aS a Lg : Addr} {fs : FuncData} {GP : Nat -> Prop} {lg0 : List HV}
 (Rm : Room (n + 1 + 1 + 1 + 1 + 1) A) (hfr : env.frame = some env.locals) (hLC : env.locals ≠ cenv.locals)
 (Ksb : Stk ωb A (env :: l)) (stay : ∀ ω2, LeS env.locals ωb ω2 -> LeW ω0 ω2) (H : TapeAt ω0 T P K octets fo ρf) (HS : StepAt ω0 aS T Lg fs) (HF : FreeOk ω0 cenv.scope cenv.cells (rhoG y T)) (hPL : P ≠ Lg)
 (hG : ∀ p t p', GP p -> rdF octets p = some (t, p') -> okTx t /\ GP p') :
 ∀ (k : Nat) (ω : Own) (s : Shared) (st : GenState) (ρ : Loc) (p : Nat) (lg xs : List HV), LeS env.locals ωb (ω.cut cenv.locals I) -> EnvOk mg mb env ω ρ (GofDef (scopeOf (stm 3)) gt) -> MS B0 os ω #[st] s -> RelS ω ((σ0.put P [.int (p : Nat)]).put Lg lg) ->
  GenAt prog w B0 os n cenv I T P K octets fo ρf y a ω st k -> (∃ m, ω cenv.locals = some (.ns m)) -> (∃ x0, ω I = some (.it (.range x0 (k : Nat)))) -> ρ (Str.ofString "it") = some (.val (.ref a)) -> ρ (Str.ofString "function") = some (.val (.ref aS)) -> ρ (Str.ofString "value") = some (.list xs) ->
  p <= octets.length -> GP p -> lg.length <= 2 * p -> xs.length + k <= 1000 ->
  wpAny (model prog w) A (execs forS env)
   (PostF B0 os env ωb fun h _ σ' gs' => ∃ xs' p', (foldF octets k p xs).1 = .inr (xs', p') /\ h = .list xs' /\ σ' = (σ0.put P [.int (p' : Nat)]).put Lg (lg ++ (foldF octets k p xs).2.map evH) /\ gs' = #[.finished])
   (ThrG B0 os env ωb fun cls msg _ σ' gs' => cls = "ValueError" /\ (foldF octets k p xs).1 = .inl msg /\ σ' = (σ0.put P [.int (octets.length : Nat)]).put Lg (lg ++ (foldF octets k p xs).2.map evH) /\ ∃ st', st'.bare = true /\ gs' = #[st']) s := by
 have ln := line_is
 intro k ω s st ρ p lg xs hb O S R GA hC hI r1 r2 r3 hpl hGp hlg hxs
 unfold tN at g1 g2 g3
 refine gen_QE fun Q E hQ hE => ?_
 conv => arg 3; arg 1; whnf
 refine cons_next fun Q₁ n₁ => (wpAny_For (name_ok (h := .val (.ref a)) O S r1 fun v r => ?_) (folded_plain rfl))
 simp only [Rd] at r
 subst r
 refine o_ee GA.obj fun nm qn hob => ?_
 have hgen : s.heap.IsGen a 0 := (i_eeeaaa _ nm qn (S.hold _ _ hob) rfl rfl rfl)
 refine wpAny_pyIter_gen hgen ?_
 refine codeAny_forLoop (RedI prog w B0 os mg mb n gt cenv I T P K octets fo ρf y GP env ωb σ0 a aS Lg k p lg xs) ?_ k
  ⟨ω, st, ρ, p, lg, xs, [], hb, O, S, R, GA, hC, hI, r1, r2, r3, hpl, hGp, hlg, hxs, by simp, rfl⟩
 clear hb O S R GA hC hI r1 r2 r3 hpl hGp hlg hxs hob hgen
 intro k' s' hInv
 obtain ⟨ω, st, ρ, p', lg', xs', evs, hb, O, S, R, GA, hC, hI, r1, r2, r3, hpl, hGp, hlg, hxs, hlg', hres⟩ := hInv
 have hcC : ∃ k, ω I = some (.it k) := by refine o_e hI fun x0 h => ?_; exact ⟨_, h⟩
 have Oc := O.cut hC hcC hLC
 have hst := stay _ hb
 refine o_ea Oc.loc fun mL hL _ => ?_
 have Ks := Ksb.step hb hL
 have Pre : GenPre B0 os (n + 1) cenv I T P K octets fo ρf y k' A (env :: l) ω s' ((σ0.put P [.int (p' : Nat)]).put Lg lg') #[st] p' :=
  { room := Rm, stk := Ks, ms := S, rel := R, tape := H.monoW hst, pos := by refine rr (put_ne hPL) ?_; exact put_self, le := hpl, free := FreeOk.keeps hst hst.f HF, hC := hC, hI := hI }
 refine gen_next TB GA Pre (fun ω' s₁ hk l' S' R' => ?_) (fun v t p₂ k₂ ω' s₁ st' hk l' S' R' rv hrd hC' hI' GA' => ?_) (fun e s₁ hk hr => ?_)
 · clear Pre; subst hk
   refine wpAny_execs_nil (n₁ _ ?_)
   conv => arg 3; arg 1; whnf
   refine wpAny_execs_cons (wpAny_Return_some ?_)
   refine name_ok (h := .list xs') (Oc.mono l') S' r3 fun v r => ?_
   refine hQ _ _ ⟨v, .list xs', ω', _, _, rfl, hb.trans (l'.s _), S', R', r, xs', p', by refine rr hres ?_; rfl, rfl, ?_, rfl⟩
   simp only [hres, hlg']; dsimp only [foldF]; simp
 · clear Pre; subst hk
   have hcC' : ∃ k, ω' I = some (.it k) := by refine o_e hI' fun x0 h => ?_; exact ⟨_, h⟩
   refine o_a (rdF_le hrd) fun hp1 hp2 => ?_
   refine o_a (hG _ _ _ hGp hrd) fun hok hGp2 => ?_
   rw [put_comm (Ne.symm hPL), put_put] at R'
   have O1 : EnvOk mg mb env ω' ρ (GofDef (scopeOf (stm 3)) gt) := (Oc.mono l').mono cut_le
   have hb1 : LeS env.locals ωb (ω'.cut cenv.locals I) := hb.trans (l'.s _)
   refine wpAny_assign_Name (store_ok (h := .list [.str t]) O1 S' R' (by kernel_rfl) rv fun ω2 s₂ l2 f₂ O2 S2 R₂ => ?_)
   obtain ⟨mC, hC'⟩ := hC'
   refine o_e hI' fun x0 hI' => ?_
   have hC2 : ω2 cenv.locals = some (.ns mC) := l2 _ _ (Ne.symm hLC) hC'
   have hIL : I ≠ env.locals := fun q => by refine o_ea O1.loc fun m h _ => ?_; rw [← q, hI'] at h; exact absurd h nofun
   have hI2 : ω2 I = some (.it (.range x0 (k₂ : Nat))) := l2 _ _ hIL hI'
   have hcut2 : LeS env.locals (ω'.cut cenv.locals I) (ω2.cut cenv.locals I) := fun b m hbL e => by
    refine o_aa (cut_sub e) fun h1 h2 h3 => ?_
    refine rr (cut_at h2 h3) ?_; exact l2 b m hbL h1
   have hb₂ := hb1.trans hcut2
   have rv2 := rv.monoF f₂
   refine gen_Q fun Q₂ q₂ => ?_
   conv => arg 3; arg 1; whnf
   refine cons_next fun Q₃ n₃ => (wpAny_Assign_Name (wpAny_Call_ofName (name_ok (h := .val (.ref aS)) O2 S2 (by exact r2) fun v₃ r₃ => ?_)) (swaps_plain rfl))
   simp only [Rd] at r₃
   refine r₃ ▸ ?_
   have hst2 := stay _ hb₂
   have HS2 : StepAt ω2 aS T Lg fs := (HS.monoW hst2).monoW cut_le.w
   have e3 : (upd ρ (Str.ofString "element") (.list [.str t])) (Str.ofString "value") = some (.list xs') := by exact r3
   have e4 : (upd ρ (Str.ofString "element") (.list [.str t])) (Str.ofString "element") = some (.list [.str t]) := by unfold upd; exact rr (if_pos rfl) rfl
   refine with_fn_at (mu := fun _ => false) (Γ := fun _ => none) (xs := [.list xs', .list [.str t]]) (t := (σ0.put P [.int (p₂ : Nat)]).put Lg lg') (n := n + 1 + 1 + 1 + 1 + 1) (o := { cls := .type "function", data := .func fs }) (fd := fs) Rm O2 S2 R₂ rfl (okEs_cons (okE TB (spx_none (n := n + 1 + 1 + 1 + 1 + 1)) _) (okEs_cons (okE TB (spx_none (n := n + 1 + 1 + 1 + 1 + 1)) _) okEs_nil)) ?_ ?_
   · intro K hK
     refine q_es ?_
     refine q_loc e3 ?_
     refine q_es ?_
     refine q_loc e4 ?_
     refine q_es0 ?_
     exact hK
   intro ω3 vs s₃ l₃ S₃ R₃ rr3
   (refine o_eeaa rr3 fun v₁ _ z25 q1 z26 => ?_; clear rr3; refine z25 ▸ ?_; refine o_eeaa z26 fun v₂ _ z27 q2 z28 => ?_; refine rr z27 ?_; refine rr z28 ?_)
   have HS3 := HS2.monoW l₃.w
   refine ⟨⟨S₃.hold _ _ HS3.fn, rfl⟩, ?_⟩
   have hb₃ : LeS env.locals ωb (ω3.cut cenv.locals I) := hb₂.trans (l₃.cut.s _)
   have hC3 : ∃ m, ω3 cenv.locals = some (.ns m) := ⟨mC, l₃ _ _ hC2⟩
   have hI3 := l₃ _ _ hI2
   have O3 := O2.mono l₃
   refine o_ea O3.loc fun mL3 hL3 _ => ?_
   have Ks3 : Stk ω3 A (env :: l) := (Ksb.step (hb₃.trans (cut_le.s _)) hL3)
   have H3 := (H.monoW (stay _ hb₃)).monoW cut_le.w
   refine wpAny_mono (step_ok (n := n) TB hg F (X _) Γ1 Γ2 g1 g2 g3 (GP := GP) (p := p₂) (lg := lg') (xs := xs') (t := t) (Rm.le (Nat.le_succ _)) Ks3 S₃ R₃ H3 HS3 (by refine rr (put_ne hPL) ?_; exact put_self) put_self hPL hp2 (ar63 hp1 hlg) hG hGp2 hok (ar280 hxs) q1 q2) (fun v4 s₄ q => ?_) fun e s₄ q => ?_
   · obtain ⟨h, ω4, σ4, gs4, l4, S4, R4, r₄, c, p₃, t1, t2, t3, t4, t5, rfl, rfl, rfl⟩ := q
     refine store_ok (h := .list (xs' ++ [.int (c : Nat)])) (O3.mono l4) S4 R4 (by kernel_rfl) r₄ fun ω5 s5 l5 f₅ O5 S5 R5 => ?_
     obtain ⟨mC3, hC3⟩ := hC3
     have hC5 : ω5 cenv.locals = some (.ns mC3) := l5 _ _ (Ne.symm hLC) (l4 _ _ hC3)
     have hI5 := l5 _ _ hIL (l4 _ _ hI3)
     have hcut5 : LeS env.locals (ω3.cut cenv.locals I) (ω5.cut cenv.locals I) := fun b m hbL e => by
      refine o_aa (cut_sub e) fun h1 h2 h3 => ?_
      refine rr (cut_at h2 h3) ?_; exact ((l4.s env.locals).trans l5) b m hbL h1
     rw [put_comm (Ne.symm hPL), put_put, put_put] at R5
     have hobj : ∃ nm qn, ω5 a = some (.fz { cls := .type "generator", data := .fields #[.int 0 0, nm, qn] }) := by
      refine o_ee GA'.obj fun nm qn h => ?_
      exact (i_ee nm qn (f₅ _ _ (l4.f _ _ (l₃.f _ _ (f₂ _ _ h)))))
     have hfold : foldF octets (k₂ + 1) p' xs' = ((foldF octets k₂ p₃ (xs' ++ [.int (c : Nat)])).1, (stepF octets t p₂).2 ++ (foldF octets k₂ p₃ (xs' ++ [.int (c : Nat)])).2) := by
      (simp only [foldF]; refine rr hrd ?_); dsimp only; exact rr t1 rfl
     refine n₃ _ (wpAny_execs_nil (q₂ _ _ ?_))
     refine (i_ea k₂ (Nat.lt_succ_self _) ⟨ω5, st', _, p₃, lg' ++ (stepF octets t p₂).2.map evH, xs' ++ [.int (c : Nat)], evs ++ (stepF octets t p₂).2, hb₃.trans hcut5, O5, S5, R5, ⟨hobj, GA'.inv, GA'.bare⟩, ⟨_, hC5⟩, ⟨_, hI5⟩, ?_, ?_, ?_, t3, t4, t5, by (refine rr List.length_append ?_; refine rr List.length_singleton ?_); exact ar4 hxs, by (refine rr hlg' ?_; refine rr List.map_append ?_; exact rr (List.append_assoc ..) rfl), ?_⟩)
     · exact r1
     · exact r2
     · unfold upd; exact rr (if_pos rfl) rfl
     · (refine rr hres ?_; refine rr hfold ?_); simp
   · refine raise_loopE hE q Ks3 hfr hL3 (hb₃.trans (cut_le.s _)) fun cls msg ω' σ' gs' _ ⟨h1, h2, h3, h4⟩ => ?_
     have hfold : foldF octets (k₂ + 1) p' xs' = (.inl msg, (stepF octets t p₂).2) := by
      (simp only [foldF]; refine rr hrd ?_); dsimp only; exact rr h1 rfl
     refine (i_aaa h2 (by (refine rr hres ?_; exact rr hfold rfl)) ?_ ⟨st', GA'.bare, h4⟩)
     (refine rr h3 ?_; refine rr hres ?_; refine rr hfold ?_; refine rr (put_comm (Ne.symm hPL)) ?_; refine rr put_put ?_; refine rr put_put ?_; refine rr hlg' ?_); simp
 · refine raise_loopE hE hr Ks hfr hL hb fun cls msg ω' σ' gs' _ ⟨h1, h2, h3, h4, h5⟩ => ?_
   obtain ⟨k₂, rfl⟩ : ∃ k₂, k' = k₂ + 1 := ⟨k' - 1, ar62 hk⟩
   have hfold : foldF octets (k₂ + 1) p' xs' = (.inl (rdW octets p'), []) := by
    simp only [foldF, h1]
   refine (i_aaa h2 (by (refine rr hres ?_; refine rr hfold ?_; exact rr h3 rfl)) ?_ ⟨.finished, rfl, h5⟩)
   (refine rr h4 ?_; refine rr hres ?_; refine rr hfold ?_; refine rr (put_comm (Ne.symm hPL)) ?_; refine rr put_put ?_; refine rr hlg' ?_); simp
end
end
section
section
variable {B0 : Heap} {os : OsState} {gs : Array GenState} {ω : Own} {s : Shared}
variable {M : Model} {A : Around} {E : Value -> Shared -> Prop} {e t : Addr} {cls : String} {fl : Value}
theorem MS.own_fz (S : MS B0 os ω gs s) {t : Addr} {o : Obj} (ht : s.heap.get? t = some o) (hto : ω t = none) : MS B0 os (ω.set t (.fz o)) gs s := by
 refine { S with hold := fun b m e => ?_, lo := fun b m e hf => ?_, tabs := S.tabs_set (fun o q => by rw [hto] at q; exact no_ns q) rfl }
 · unfold Own.set at e
   (revert e; refine ie rfl (fun _ e => ?_) fun _ e => ?_)
   · rename_i q; refine rr q ?_; (replace e := Option.some.inj e; subst e); exact ht
   · exact S.hold _ _ e
 · unfold Own.set at e
   (revert e; refine ie rfl (fun _ e => ?_) fun _ e => ?_)
   · (injection e with e; subst e); exact no_tf hf
   · exact S.lo _ _ e hf
theorem MS.free_same (S : MS B0 os ω gs s) {e : Addr} {oe : Obj} {vs : Array Value} {h' : Heap} (he : s.heap.get? e = some oe) (hd : oe.data = .fields vs) (hoe : ω e = none) (hBe : B0.get? e = none) (hs : Heap.SameBut e s.heap h') (t : Nat) :
 MS B0 os ω gs { s with heap := h', toks := t } := by
 refine S.apart (as := [e]) (fun b o q => ?_) (fun b o hb hn => ⟨o.slots, ?_⟩) (fun b hb => by refine rr (List.mem_singleton.mp hb) ?_; exact .inl hoe) (fun b hb => by refine rr (List.mem_singleton.mp hb) ?_; exact hBe) t
 · have hbe : b ≠ e := fun x => by clear hs hBe hoe he; subst x; rw [hideAll_none _ (.head _)] at q; exact no_ns q
   exact (hs.2 b hbe).trans (of_hideAll _ q)
 · exact (hs.2 b (fun x => by clear hs hBe hoe; subst x; rw [he] at hb; (replace hb := Option.some.inj hb; subst hb); exact hn _ hd)).trans hb
theorem pass_on {α : Type} {what : String} {env : Env} {L : Addr} {Q : α -> Shared -> Prop} (S : MS B0 os ω gs s) (hf : env.frame = some L) (F : Fly B0 ω s.heap e cls t fl)
 (H : ∀ h', MS B0 os ω gs { s with heap := h' } -> Fly B0 ω h' e cls t (rawInt L) -> E (.ref e) { s with heap := h' }) : wpAny M A (passOn what (.ref e) env) Q E s := by
 obtain ⟨oe, vs, T, oT, ts, h1, h2, h3, h4, h5, h6, h7, h8, h9, h10, h11, h12⟩ := F
 dsimp only [passOn]
 refine wpAny_bind (wpAny_field h1 h3 h4 ?_)
 refine wpAny_bind (wpAny_bind (wpAny_field h1 h3 h4 ?_))
 (refine rr (if_pos (show (Value.ref T != Value.none) = true from by rfl)) ?_; refine rr hf ?_)
 refine wpAny_setField h6 h7 ((Array.getElem?_eq_some_iff.mp h8).1) (wpAny_throw (H _ (S.free_set h6 h7 h10 h12 _ _) ?_))
 exact ⟨oe, vs, T, _, _, (Heap.get?_update_other _ _ h5).trans h1, h2, h3, h4, h5, Heap.get?_update_self _ h6 (Obj.isFreed_of_fields (Obj.data_mapFields h7 _)), Obj.data_mapFields h7 _, by simp [((Array.getElem?_eq_some_iff.mp h8).1)], h9, h10, h11, h12⟩
end
theorem stop_exc : isSubtype (.type "StopIteration") (.type "BaseException") = pure true := by kernel_rfl
theorem stop_meta : isSubtype (.type ((Manifest.find? "StopIteration").elim "type" fun x => x.metatype)) (.type "tuple") = pure false := by kernel_rfl
section
variable {prog : Program} {w : World} {B0 : Heap} {os : OsState} {gs : Array GenState} {mg mb : Str -> Option Value} {ω : Own} {s : Shared} {A : Around} {E : Value -> Shared -> Prop} {env : Env} {ρ : Loc} {G : GC} {e t : Addr} {fl : Value} {Q : Flow -> Shared -> Prop}
theorem stop_no (T : TopB B0 mg mb) (O : EnvOk mg mb env ω ρ G) (S : MS B0 os ω gs s) (F : Fly B0 ω s.heap e "ValueError" t fl) (hf : env.frame = some env.locals) {x : Str} {np pos : Pos} {b₀ : Stmt} {suite : List Stmt} (hg : G.g x = some (.val (.type "StopIteration")))
 (H : ∀ h', MS B0 os ω gs { s with heap := h' } -> Fly B0 ω h' e "ValueError" t (rawInt env.locals) -> E (.ref e) { s with heap := h' }) :
 wpAny (model prog w) A (handleBy (.ref e) env [.ExceptHandler (some (.Name x np)) none (b₀ :: suite) pos]) Q E s := by
 refine wpAny_handleBy_builtin (b := false) stop_exc stop_meta verr_stop ?_
 refine gname_ok T O S hg fun v hv => ?_
 (injection hv with hv; subst hv)
 exact (i_aa rfl F.typeIs (wpAny_handleBy_nil (pass_on S hf F H)))
theorem call_bi {id : String} {f x : Str} {q q' pos : Pos} {v : Value} {Q : Value -> Shared -> Prop} (T : TopB B0 mg mb) (O : EnvOk mg mb env ω ρ G) (S : MS B0 os ω gs s) (hf : G.g f = some (.val (.builtin id))) (hx : ρ x = some (.val v))
 (h : wpAny (model prog w) A (call (.builtin id) [v]) Q E s) : wpAny (model prog w) A (eval (.Call (.Name f q) [.Name x q'] [] pos) env) Q E s := by
 refine wpAny_Call_ofName (gname_ok T O S hf fun u hu => ?_)
 (injection hu with hu; subst hu)
 refine rr (plain_back pos _ env rfl) ?_
 refine callWith_builtin (plain_any _ env) (args_any (plain_any _ env) (spliced_cons (name_ok O S hx fun u r => ?_)))
 simp only [Rd] at r
 refine rr r ?_
 exact spliced_nil h
theorem stop_yes (T : TopB B0 mg mb) (O : EnvOk mg mb env ω ρ G) (S : MS B0 os ω gs s) {l : List Env} (Ks : Stk ω A (env :: l)) (F : Fly B0 ω s.heap e "StopIteration" t fl) (hv2 : ∃ oe vs, s.heap.get? e = some oe /\ oe.data = .fields vs /\ vs[2]? = some .none) (hf : env.frame = some env.locals)
 {x y : Str} {np pos np2 cp cpos rpos np3 : Pos} {k k2 : Nat} {m : Str} (hg : G.g x = some (.val (.type "StopIteration"))) (hgt : G.g y = some (.val (.type "TypeError"))) (hm : m.length <= sizeLine)
 (H : ∀ e' t' ω' h' tk, Le ω ω' -> MS B0 os ω' gs { s with heap := h', toks := tk } -> (∀ σ, RelS ω σ -> RelS ω' σ) -> Fly B0 ω' h' e' "TypeError" t' (rawInt env.locals) -> ArgsAt ω' t' m.cps.toList -> E (.ref e') { s with heap := h', toks := tk }) :
 wpAny (model prog w) A (handleBy (.ref e) env [.ExceptHandler (some (.Name x np)) none [.Raise (some (.Call (.Name y np2) [.Constant (.str m) k cp] [] cpos)) (some (.Constant .none k2 np3)) rpos] pos]) Q E s := by
 refine wpAny_handleBy_builtin (b := true) stop_exc stop_meta isSubtype_stop ?_
 refine gname_ok T O S hg fun v hv => ?_
 (injection hv with hv; refine hv ▸ ?_)
 refine (i_aa rfl F.typeIs ?_)
 refine flight_same S F fun h₁ S1 F1 he1 => ?_
 refine wpAny_execs_cons ?_
 refine wpAny_bind (wpAny_standAt ?_)
 refine o_eeaa hv2 fun oe vs hv hvd hv2 => ?_
 rw [← he1] at hv
 refine raise_held PySem.F.excRaise_TypeError rfl (hx := e) (fun Q s h => wpAny_bind (wpAny_Constant_none (wpAny_bind (wpAny_standAt (wpAny_pure h))))) ?_
 refine wpAny_bind (wpAny_Call_ofName (gname_ok T O S1 hgt fun u hu => ?_))
 (injection hu with hu; subst hu)
 refine rr (plain_back cpos _ env rfl) ?_
 refine callWith_excType (plain_any _ env) (args_any (plain_any _ env) (spliced_cons (wpAny_Constant_str (spliced_nil ?_))))
 refine wpAny_call_exc PySem.F.excCall_TypeError (fun h₂ e' hmx => ?_) (by show (1 : Nat) <= sizeLine; decide)
 refine wpAny_bind (wpAny_standAt (wpAny_pure ?_))
 refine o_eaa hmx.there fun t' k1 k2' k3 => ?_
 refine (i_eeeeaaaaa e' t' oe vs rfl ((fun q => by clear he1 F1 F; subst q; rw [hmx.new] at hv; exact no_ns hv)) k1 ((hmx.keeps _ _ hv)) hvd ⟨hv2, fun h₃ k4 k5 => ?_⟩)
 have S2 : MS B0 os ω gs { s with heap := h₂, toks := s.toks + 1 } := S1.keeps hmx.keeps _
 have hoe' : ω e' = none := own_none S1 hmx.new
 have hBe' : B0.get? e' = none := old_none S1 hmx.new
 have hot : ω t' = none := own_none S1 k2'
 have S₃ : MS B0 os ω gs { s with heap := h₃, toks := s.toks + 1 } := S2.free_same k1 rfl hoe' hBe' k5 _
 have hte : t' ≠ e' := fun q => by rw [q, k1] at k3; simp at k3
 have ht3 : h₃.get? t' = some { cls := .type "tuple", data := .seq [Value.str m s.toks].toArray } := (k5.2 t' hte).trans k3
 have l4 := Le.new (OM.fz { cls := .type "tuple", data := .seq [Value.str m s.toks].toArray }) hot
 have hoe4 : (ω.set t' (.fz { cls := .type "tuple", data := .seq [Value.str m s.toks].toArray })) e' = none := by refine rr (Own.set_ne _ _ (Ne.symm hte)) ?_; exact hoe'
 dsimp only [notedBy]
 refine note_new (vs := #[.ref t', .none, .ref e, .none, .bool true, .none]) (S₃.own_fz ht3 hot) ⟨Ks.frames, (Ks.mono l4.w).ok⟩ hf k4 rfl rfl rfl rfl hoe4 hBe' fun h₅ T5 S5 F5 _ => ?_
 refine came_back S5 hf F5 fun h₆ S6 F₆ => ?_
 refine H e' t' _ h₆ _ l4 S6 (fun σ R => R.new hot) F₆ ⟨?_, _, 0, s.toks, Own.set_self .., rfl, rfl⟩
 exact hm
end
end
section
noncomputable def redF (o : List UInt8) (init : Option (List HV)) (k p : Nat) : Option ((List Nat ⊕ List HV × Nat) × List Ev) := match init with
 | some xs => some (foldF o k p xs)
 | none => match k with
  | 0 => none
  | k + 1 => some (match rdF o p with
   | none => (.inl (rdW o p), [])
   | some (t, p') => foldF o k p' [.str t])
noncomputable def noneW : List Nat := (Str.ofString "reduce() of empty iterable with no initial value").cps.toList
theorem put_same {σ : St} {a : Addr} {l : List HV} (h : σ a = some l) : σ.put a l = σ := by
 funext b; unfold St.put; refine ie rfl (fun _ => ?_) fun _ => ?_
 · rename_i q; refine rr q ?_; exact h.symm
 · rfl
noncomputable def initV (miss : Addr) : Option (Addr × List HV) -> Addr
 | none => miss
 | some (b, _) => b
structure RedG (B0 : Heap) (gt : Loc) (miss : Addr) : Prop where
 mis : gt (tN "_initial_missing") = some (.val (.ref miss))
 obj : ∃ o, B0.get? miss = some o /\ o.cls = .type "object"
 iter : gt (tN "iter") = some (.val (.builtin "iter"))
 next : gt (tN "next") = some (.val (.builtin "next"))
 stop : gt (tN "StopIteration") = some (.val (.type "StopIteration"))
 terr : gt (tN "TypeError") = some (.val (.type "TypeError"))
theorem p3 : plainSc (stm 3) [tN "function", tN "sequence", tN "initial"] = true := by decide +kernel
section
variable {prog : Program} {w : World} {B0 : Heap} {os : OsState} {mg mb : Str -> Option Value} {n : Nat} {gt : Loc} {cenv : Env} {I T P K : Addr} {octets : List UInt8} {fo : FuncData} {ρf : Loc} {y : Str}
theorem b3d {fd : FuncData} {dT : Addr} {s : Shared} {o : Obj} {m : Value} {nn : Nat} (u v : Value) (hp : fd.params = argsOf (stm 3)) (h1 : fd.kwdefaults = .none) (hd : fd.defaults = .ref dT) (ho : s.heap.get? dT = some o) (hs : o.data = .seq #[m] nn) :
 BindsTo s fd ⟨[u, v], []⟩ ([tN "function", tN "sequence", tN "initial"].zip [u, v, m]) := by
 cases fd
 simp only at hp h1 hd
 subst hp h1 hd
 exact BindsTo.of_defaults rfl ho hs (by with_unfolding_all rfl) (by with_unfolding_all rfl)
theorem b3e {fd : FuncData} {dT : Addr} {s : Shared} {o : Obj} {m : Value} {nn : Nat} (u v x : Value) (hp : fd.params = argsOf (stm 3)) (h1 : fd.kwdefaults = .none) (hd : fd.defaults = .ref dT) (ho : s.heap.get? dT = some o) (hs : o.data = .seq #[m] nn) :
 BindsTo s fd ⟨[u, v, x], []⟩ ([tN "function", tN "sequence", tN "initial"].zip [u, v, x]) := by
 cases fd
 simp only at hp h1 hd
 subst hp h1 hd
 exact BindsTo.of_defaults rfl ho hs (by with_unfolding_all rfl) (by with_unfolding_all rfl)
end
end
section
section
variable {prog : Program} {w : World} {B0 : Heap} {os : OsState} {mg mb : Str -> Option Value} {n : Nat} {gt : Loc} {cenv : Env} {I T P K : Addr} {octets : List UInt8} {fo : FuncData} {ρf : Loc} {y : Str}
theorem PostF.map {env : Env} {ω : Own} {K K' : KG} {f : Flow} {s : Shared} (p : PostF B0 os env ω K f s) (h : ∀ x ω σ gs, K x ω σ gs -> K' x ω σ gs) : PostF B0 os env ω K' f s := by
 obtain ⟨v, h', ω', σ', gs', e, l, S, R, r, k⟩ := p
 exact ⟨v, h', ω', σ', gs', e, l, S, R, r, h _ _ _ _ k⟩
theorem ThrG.map {env : Env} {ω : Own} {K K' : KXG} {f : Value} {s : Shared} (p : ThrG B0 os env ω K f s) (h : ∀ c m ω σ gs, K c m ω σ gs -> K' c m ω σ gs) : ThrG B0 os env ω K' f s := by
 obtain ⟨a, ω', σ', gs', c, m, e, l, hm, R, k, q⟩ := p
 exact ⟨a, ω', σ', gs', c, m, e, l, hm, R, h _ _ _ _ _ k, q⟩
theorem reduce_ok (TB : TopB B0 mg mb) (hg : GtOk mg mb gt) {a15 aT aK : Addr} (F : Reads1 B0 gt a15) {Γ : Spx} (X : ∀ gs, SpxOk prog w B0 os gs Γ (n + 1 + 1 + 1)) (Γ1 : Γ (.ref aT) = some spTx) (Γ2 : Γ (.ref aK) = some spTaken)
 (g1 : gt (tN "translate") = some (.val (.ref aT))) (g2 : gt (tN "_law_taken") = some (.val (.ref aK))) (g3 : gt (tN "read_string1") = some (.val (.ref a15)))
 {miss a3 dT : Addr} {fd3 : FuncData} {od : Obj} {nn : Nat} (RG : RedG B0 gt miss) (F3 : FnK B0 a3 (stm 3) fd3 (.ref dT)) (hdT : B0.get? dT = some od) (hdc : od.cls ≠ .none) (hdd : od.data = .seq #[.ref miss] nn)
 {init : Option (Addr × List HV)} {A : Around} {l : List Env} {ω : Own} {s : Shared} {σ : St} {st : GenState} {aS a Lg : Addr} {fs : FuncData} {GP : Nat -> Prop} {k p : Nat} {lg : List HV}
 (Rm : Room (n + 1 + 1 + 1 + 1 + 1 + 1 + 1) A) (Ks : Stk (ω.cut cenv.locals I) A l) (S : MS B0 os ω #[st] s) (R : RelS ω σ) (GA : GenAt prog w B0 os n cenv I T P K octets fo ρf y a ω st k) (hC : ∃ m, ω cenv.locals = some (.ns m)) (hI : ∃ x0, ω I = some (.it (.range x0 (k : Nat))))
 (H : TapeAt (ω.cut cenv.locals I) T P K octets fo ρf) (HS : StepAt (ω.cut cenv.locals I) aS T Lg fs) (HF : FreeOk (ω.cut cenv.locals I) cenv.scope cenv.cells (rhoG y T)) (hp : σ P = some [.int (p : Nat)]) (hl : σ Lg = some lg) (hPL : P ≠ Lg)
 (hG : ∀ p t p', GP p -> rdF octets p = some (t, p') -> okTx t /\ GP p') (hpl : p <= octets.length) (hGp : GP p) (hlg : lg.length <= 2 * p) (hk : k <= 100) (hin : ∀ b xs, init = some (b, xs) -> xs.length <= 10 /\ Rd ω (.list xs) (.ref b)) :
 wpAny (model prog w) A (call (.ref a3) ([.ref aS, .ref a] ++ (init.map (fun x => Value.ref x.1)).toList) [])
  (PostG B0 os (ω.cut cenv.locals I) fun h _ σ' gs' => ∃ r xs' p', redF octets (init.map (·.2)) k p = some r /\ r.1 = .inr (xs', p') /\ h = .list xs' /\ σ' = (σ.put P [.int (p' : Nat)]).put Lg (lg ++ r.2.map evH) /\ ∃ st', st'.bare = true /\ gs' = #[st'])
  (RaisG B0 os (ω.cut cenv.locals I) fun cls msg _ σ' gs' => ((∃ r, redF octets (init.map (·.2)) k p = some r /\ cls = "ValueError" /\ r.1 = .inl msg /\ σ' = (σ.put P [.int (octets.length : Nat)]).put Lg (lg ++ r.2.map evH)) ∨ (redF octets (init.map (·.2)) k p = none /\ cls = "TypeError" /\ msg = noneW /\ σ' = σ)) /\ ∃ st', st'.bare = true /\ gs' = #[st']) s := by
 have ln := line_is
 obtain ⟨x0, hI⟩ := hI
 refine o_e hC fun mC hC => ?_
 refine o_eaa (F3.at'.now S) fun o ho hd hcd => ?_
 have hdT' := S.top hdT hdc
 have hbind : BindsTo s fd3 ⟨[.ref aS, .ref a] ++ (init.map (fun x => Value.ref x.1)).toList, []⟩ ([tN "function", tN "sequence", tN "initial"].zip [.ref aS, .ref a, .ref (initV miss init)]) := by
  clear hin; induction init using Option.casesOn with
  | none => exact b3d _ _ F3.params F3.kdflt F3.dflt hdT' hdd
  | some x => exact b3e _ _ _ F3.params F3.kdflt F3.dflt hdT' hdd
 refine call_cut (n := n + 1 + 1 + 1 + 1 + 1 + 1) (C := cenv.locals) (I := I) (ps := [tN "function", tN "sequence", tN "initial"]) (hs := [.val (.ref aS), .val (.ref a), .val (.ref (initV miss init))]) (vs := [.ref aS, .ref a, .ref (initV miss init)]) (ρf := fun _ => none) TB (plainD F3.body F3.scope F3.glob F3.blt (by decide +kernel) p3) hg ⟨mC, hC⟩ ⟨_, hI⟩ (fun _ _ _ _ _ _ _ q => q) (fun _ _ _ _ _ _ q => q) Rm Ks S R
  (by exact (i_eeaa _ _ rfl rfl ⟨_, _, rfl, rfl, _, _, rfl, rfl, rfl⟩)) rfl hbind ho hd hcd (FreeOk.none _ _ _) ?_
 intro env A' ω1 s₁ hfr O Rm' Ks' S1 R1 hnew O0 eC eI hLC hLI other
 simp only [F3.scope] at O O0
 have n1 : bindHF (fun _ => none) [tN "function", tN "sequence", tN "initial"] [.val (.ref aS), .val (.ref a), .val (.ref (initV miss init))] = upd (upd (upd (fun _ => none) (tN "initial") (.val (.ref (initV miss init)))) (tN "sequence") (.val (.ref a))) (tN "function") (.val (.ref aS)) := rfl
 rw [n1] at O O0
 simp only [hC] at eC
 have eI := hI ▸ eI
 have stay : ∀ ω2, LeS env.locals (ω1.cut cenv.locals I) ω2 -> LeW (ω.cut cenv.locals I) ω2 := fun ω2 l => stay_on (by refine rr (cut_at hLC hLI) ?_; exact hnew) (fun b m e hm => by
  refine o_aa (cut_sub e) fun h1 h2 h3 => ?_
  refine rr (cut_at h2 h3) ?_; exact other b m h1 hm) l
 have m1 := RG.mis
 have m2 := RG.iter
 have m3 := RG.next
 have m4 := RG.stop
 have m5 := RG.terr
 unfold tN at *
 refine gen_QE fun Q E hQ hE => ?_
 have hob1 : ∃ nm qn, ω1 a = some (.fz { cls := .type "generator", data := .fields #[.int 0 0, nm, qn] }) := by
  refine o_ee GA.obj fun nm qn h => ?_
  exact (i_ee nm qn (other _ _ h (fun _ q => by contradiction)))
 have GA1 : GenAt prog w B0 os n cenv I T P K octets fo ρf y a ω1 st k := ⟨hob1, GA.inv, GA.bare⟩
 (refine o_ee hob1 fun nm qn hob => ?_; clear hob1)
 have hgen : s₁.heap.IsGen a 0 := (i_eeeaaa _ nm qn (S1.hold _ _ hob) rfl rfl rfl)
 conv => arg 3; arg 1; whnf
 refine cons_next fun Q₁ n₁ => (wpAny_Assign_Name (call_bi TB O S1 (by walk_at "nm") (by walk_at "nm") (gen_call_iter hgen ?_)) (swaps_plain rfl))
 refine store_ok (h := .val (.ref a)) O S1 R1 (by kernel_rfl) (by dsimp only [Rd]) fun ω2 s₂ l2 f₂ O2 S2 R₂ => ?_
 have hC2 : ω2 cenv.locals = some (.ns mC) := l2 _ _ (Ne.symm hLC) eC
 have hI2 : ω2 I = some (.it (.range x0 (k : Nat))) := l2 _ _ (Ne.symm hLI) eI
 have hcut2 : LeS env.locals (ω1.cut cenv.locals I) (ω2.cut cenv.locals I) := fun b m hbL e => by
  refine o_aa (cut_sub e) fun h1 h2 h3 => ?_
  refine rr (cut_at h2 h3) ?_; exact l2 b m hbL h1
 have GA2 : GenAt prog w B0 os n cenv I T P K octets fo ρf y a ω2 st k := ⟨(i_ee nm qn (f₂ _ _ hob)), GA.inv, GA.bare⟩
 have hcI2 : ∃ k, ω2 I = some (.it k) := ⟨_, hI2⟩
 have go : ∀ (ω' : Own) (s' : Shared) (st' : GenState) (ρ' : Loc) (p' k' : Nat) (xs' : List HV), redF octets (init.map (·.2)) k p = some (foldF octets k' p' xs') -> LeS env.locals (ω1.cut cenv.locals I) (ω'.cut cenv.locals I) -> EnvOk mg mb env ω' ρ' (GofDef (scopeOf (stm 3)) gt) -> MS B0 os ω' #[st'] s' -> RelS ω' (σ.put P [.int (p' : Nat)]) ->
  GenAt prog w B0 os n cenv I T P K octets fo ρf y a ω' st' k' -> (∃ m, ω' cenv.locals = some (.ns m)) -> (∃ x0, ω' I = some (.it (.range x0 (k' : Nat)))) -> ρ' (Str.ofString "it") = some (.val (.ref a)) -> ρ' (Str.ofString "function") = some (.val (.ref aS)) -> ρ' (Str.ofString "value") = some (.list xs') ->
  p' <= octets.length -> GP p' -> lg.length <= 2 * p' -> xs'.length + k' <= 1000 ->
  wpAny (model prog w) A' (execs forS env)
   Q E s' := by
  intro ω' s' st' ρ' p' k' xs' hr hb O' S' R' GA' hC' hI' r1 r2 r3 hp' hGp' hlg' hxs'
  have hσ : (σ.put P [.int (p' : Nat)]).put Lg lg = σ.put P [.int (p' : Nat)] := put_same (by refine rr (put_ne (Ne.symm hPL)) ?_; exact hl)
  refine wpAny_mono (red_loop (lg0 := lg) (n := n) TB hg F X Γ1 Γ2 g1 g2 g3 (GP := GP) (σ0 := σ) (Rm'.le (Nat.le_succ _)) hfr hLC Ks' stay H HS HF hPL hG k' ω' s' st' ρ' p' lg xs' hb O' S' (by refine rr hσ ?_; exact R') GA' hC' hI' r1 r2 r3 hp' hGp' hlg' hxs') (fun f s q => hQ _ _ (q.map fun x ω σ gs h => ?_)) fun e s q => hE _ _ (q.map fun c m ω σ gs h => ?_)
  · refine o_eeaaa h fun xs p₂ h1 h2 h3 h4 => ?_
    exact (i_eeeaaaa _ xs p₂ hr h1 h2 h3 ⟨.finished, rfl, h4⟩)
  · refine o_aaa h fun h1 h2 h3 h4 => ?_
    exact ⟨.inl (i_eaaa _ hr h1 h2 h3), h4⟩
 refine n₁ _ ?_
 conv => arg 3; arg 1; whnf
 refine cons_next fun Q₂ n₂ => (wpAny_If (wpAny_isTrue_Compare1 (name_ok (h := .val (.ref (initV miss init))) O2 S2 (by walk_at "nm") fun v r => gname_ok TB O2 S2 (h := .val (.ref miss)) (by walk_at "nm") fun u hu => ?_)))
 (injection hu with hu; subst hu)
 simp only [Rd] at r
 subst r
 clear hQ; induction init using Option.casesOn with
 | some x =>
   obtain ⟨b, xs⟩ := x
   refine o_a (hin b xs rfl) fun hx1 hx2 => ?_
   have fO : LeF ω ω1 := fun a o e => other a _ e (fun _ q => by contradiction)
   have hx3 : Rd ω2 (.list xs) (.ref b) := (hx2.monoF fO).monoF f₂
   refine o_ea RG.obj fun om hom hmc => ?_
   have hom2 := S2.top hom (by refine rr hmc ?_; decide)
   have hx4 := hx3
   simp only [Rd] at hx4
   refine o_aeeeeaaaa hx4 fun hz b' o' vs' nb eb hb2 hb3 hb4 hb5 => ?_
   (injection eb with eb; subst eb)
   have hbo := S2.hold _ _ hb2
   refine wpAny_is_ref_other (ox := o') (oy := om) (fun q => ?_) hbo hom2 (by refine rr hb3 ?_; decide) ?_
   · have q' : b = miss := q
     rw [q'] at hbo
     have : some o' = some om := hbo.symm.trans hom2
     (replace this := Option.some.inj this; subst this)
     rw [hb3] at hmc
     simp at hmc
   refine wpAny_truthy_bool ?_
   refine rr (if_neg (by decide)) ?_
   conv => arg 3; arg 1; whnf
   refine cons_next fun Q₃ n₃ => (wpAny_Assign_Name (name_ok (h := .val (.ref (initV miss (some (b, xs))))) O2 S2 (by walk_at "nm") fun v r => ?_) (swaps_plain rfl))
   simp only [Rd] at r
   subst r
   refine store_ok (h := .list xs) O2 S2 R₂ (by kernel_rfl) hx3 fun ω3 s₃ l₃ f₃ O3 S₃ R₃ => ?_
   refine n₃ _ (wpAny_execs_nil (n₂ _ ?_))
   have hcut3 : LeS env.locals (ω2.cut cenv.locals I) (ω3.cut cenv.locals I) := fun b m hbL e => by
    refine o_aa (cut_sub e) fun h1 h2 h3 => ?_
    refine rr (cut_at h2 h3) ?_; exact l₃ b m hbL h1
   have hσ : σ.put P [.int (p : Nat)] = σ := put_same hp
   exact go ω3 s₃ st _ p k xs rfl (hcut2.trans hcut3) O3 S₃ (by refine rr hσ ?_; exact R₃) ⟨(i_ee nm qn (f₃ _ _ (f₂ _ _ hob))), GA.inv, GA.bare⟩ ⟨mC, l₃ _ _ (Ne.symm hLC) hC2⟩ ⟨x0, l₃ _ _ (Ne.symm hLI) hI2⟩ (by walk_at "nm") (by walk_at "nm") (by walk_at "nm") hpl hGp hlg (ar282 hx1 hk)
 | none =>
   refine wpAny_is_ref_self ?_
   refine wpAny_truthy_bool ?_
   refine rr (if_pos rfl) ?_
   conv => arg 3; arg 1; whnf
   have Oc2 := O2.cut ⟨mC, hC2⟩ hcI2 hLC
   have hst2 := stay _ hcut2
   refine o_ea Oc2.loc fun mL hL _ => ?_
   have Ks2 := Ks'.step hcut2 hL
   have Pre : GenPre B0 os (n + 1 + 1) cenv I T P K octets fo ρf y k A' (env :: l) ω2 s₂ σ #[st] p :=
    { room := Rm', stk := Ks2, ms := S2, rel := R₂, tape := H.monoW hst2, pos := hp, le := hpl, free := FreeOk.keeps hst2 hst2.f HF, hC := ⟨mC, hC2⟩, hI := ⟨x0, hI2⟩ }
   refine cons_next fun Q₃ n₃ => (wpAny_Try_except (gen_QE fun Q4 E4 q₄ e₄ => ?_))
   refine cons_next fun Q5 n₅ => (wpAny_Assign_Name (call_bi TB O2 S2 (by walk_at "nm") (by walk_at "nm") (gen_call_next TB GA2 Pre (fun ω' s' ex t oe vs hk0 l' S' R' e1 e2 e3 e4 e5 e6 e7 e8 => ?_) (fun v t p' k' ω' s' st' hk1 l' S' R' rv hrd hC' hI' GA' => ?_) (fun e s' hk1 hr => ?_))) (swaps_plain rfl))
   · subst hk0
     have hb' : LeS env.locals (ω1.cut cenv.locals I) ω' := hcut2.trans (l'.s _)
     have O' := Oc2.mono l'
     have Ks3 : Stk ω' A' (env :: l) := Ks2.mono l'.w
     refine e₄ _ _ ?_
     refine note_new S' Ks3 hfr e1 e2 e3 e4 e5 e7 e8 fun h₁ T1 S₃ F₃ he3 => ?_
     refine flight_same S₃ F₃ fun h₂ S4 F4 he4 => ?_
     refine stop_yes TB O' S4 Ks3 F4 (i_eeaa _ _ (he4.trans he3) (Obj.data_mapFields e3 _) (by rw [Array.getElem?_setIfInBounds_ne (by decide)]; exact e6)) hfr (by walk_at "nm") (by walk_at "nm") (by decide +kernel) fun e' t' ω'' h' tk l'' S'' Rf F'' hA => ?_
     exact hE _ _ ⟨e', ω'', σ, #[.finished], "TypeError", _, rfl, hb'.trans (l''.s _), ⟨mL, l'' _ _ (l' _ _ hL)⟩, Rf _ R', ⟨.inr (i_aaa rfl rfl rfl rfl), .finished, rfl, rfl⟩, .inl (i_aeea S'' t' _ (.inr rfl) ⟨F'', hA⟩)⟩
   · subst hk1
     have hcI' : ∃ k, ω' I = some (.it k) := by refine o_e hI' fun x0 h => ?_; exact ⟨_, h⟩
     refine o_a (rdF_le hrd) fun hp1 hp2 => ?_
     refine o_a (hG _ _ _ hGp hrd) fun hok hGp' => ?_
     have O' : EnvOk mg mb env ω' _ _ := (Oc2.mono l').mono cut_le
     refine store_ok (h := .list [.str t]) O' S' R' (by kernel_rfl) rv fun ω3 s₃ l₃ f₃ O3 S₃ R₃ => ?_
     refine n₅ _ (wpAny_execs_nil (q₄ _ _ ?_))
     refine wpAny_execs_nil (n₃ _ (wpAny_execs_nil (n₂ _ ?_)))
     obtain ⟨mC', hC'⟩ := hC'
     refine o_e hI' fun x0' hI' => ?_
     have hIL' : I ≠ env.locals := Ne.symm hLI
     have hcut3 : LeS env.locals (ω'.cut cenv.locals I) (ω3.cut cenv.locals I) := fun b m hbL e => by
      refine o_aa (cut_sub e) fun h1 h2 h3 => ?_
      refine rr (cut_at h2 h3) ?_; exact l₃ b m hbL h1
     refine o_ee GA'.obj fun nm' qn' hob' => ?_
     exact go ω3 s₃ st' _ p' k' [.str t] (by show redF octets none (k' + 1) p = _; dsimp only [redF]; exact rr hrd rfl) ((hcut2.trans (l'.s _)).trans hcut3) O3 S₃ R₃ ⟨(i_ee nm' qn' (f₃ _ _ hob')), GA'.inv, GA'.bare⟩ ⟨mC', l₃ _ _ (Ne.symm hLC) hC'⟩ ⟨x0', l₃ _ _ hIL' hI'⟩ (by walk_at "nm") (by walk_at "nm") (by walk_at "nm") hp2 hGp' (ar63 hp1 hlg) (by exact ar281 hk)
   · obtain ⟨k', rfl⟩ : ∃ k', k = k' + 1 := ⟨k - 1, ar62 hk1⟩
     obtain ⟨ae, ω', σ', gs', cls, msg, t, rfl, l', S', R', Fl, hA, h1, h2, h3, h4, h5⟩ := hr
     subst h2 h5
     have O' := Oc2.mono l'
     have Ks3 : Stk ω' A' (env :: l) := Ks2.mono l'.w
     refine e₄ _ _ ?_
     refine note_on S' Ks3 hfr Fl fun h₁ S₃ F₃ => ?_
     refine flight_same S₃ F₃ fun h₂ S4 F4 _ => ?_
     refine stop_no TB O' S4 F4 hfr (by walk_at "nm") fun h₃ S5 F5 => ?_
     refine hE _ _ ⟨ae, ω', σ', _, "ValueError", msg, rfl, (hcut2.trans (l'.s _)), ⟨mL, l' _ _ hL⟩, R', ⟨.inl ⟨(.inl (rdW octets p), []), ?_, rfl, by exact rr h3 rfl, ?_⟩, .finished, rfl, rfl⟩, .inl (i_aeea S5 t _ (.inr rfl) ⟨F5, hA⟩)⟩
     · show redF octets none (k' + 1) p = _; dsimp only [redF]; exact rr h1 rfl
     · (refine rr (h4 ..) ?_; refine rr (List.map_nil ..) ?_; refine rr (List.append_nil ..) ?_)
       exact (put_same (by refine rr (put_ne (Ne.symm hPL)) ?_; exact hl)).symm
end
end
section
section
variable {B0 : Heap} {os : OsState} {gs : Array GenState} {ω : Own} {s : Shared} {mg mb : Str -> Option Value} {M : Model} {A : Around} {E : Value -> Shared -> Prop}
theorem gen_code {Q : Value -> Shared -> Prop} {env : Env} {c P : Addr} {ps0 : Array Value} {pos : Pos} {qual : Str} {scope : Scope} {qs : List (Pos × Str)} (S : MS B0 os ω gs s) (C : CodeHd B0 c P) (t₀ : B0.get? P = some (tabObj ps0)) (hs : P ≠ cStatics) (hq : apartQ qs) (hin : (pos, qual) ∈ qs) (I : TabI ω P qs) (hcode : env.code = .ref c)
 (H : ∀ code ω' s', Le ω ω' -> (∀ a m, ω a = some m -> a ≠ P -> ω' a = some m) -> MS B0 os ω' gs s' -> TabI ω' P qs -> Q code s') : wpAny M A (genexprCode env pos qual scope) Q E s := by
 (refine o_e I fun ps eP => ?_; clear I)
 refine o_a (S.tabs _ _ _ eP) fun ht hI => ?_
 have hp := S.hold _ _ eP
 have C' := code_now S C
 rcases hI _ hin with hnf | ⟨cv, hf, hcv⟩
 · refine wpAny_genexprCodeX hcode (C'.code hp ht) (C'.tab hp) hnf fun c' h' tk hx hge hlt _ hrec htb _ => ?_
   refine o_eeeeaaa hrec fun c₂ oc vs t e2 hoc hd hv => ?_
   (injection e2 with e2; subst e2)
   have hcn : ω c' = none := by
    induction q : ω c' with
    | none => rfl
    | some m => exact absurd (S.hold _ _ q).lt (Nat.not_lt.mpr hge)
   refine H _ _ _ ((Le.tab eP).trans (Le.new (.fz oc) (show (ω.set P (.tab qs (ps ++ #[rawInt pos.line, rawInt pos.col, .ref c']))) c' = none from by refine rr (Own.set_ne _ _ (fun q => by subst q; rw [hcn] at eP; exact no_ns eP)) ?_; exact hcn))) (fun a m e hp' => ?_) (S.table C t₀ eP hx htb.2 hs hcn hoc (tab_grow hq hin (LeF.set' _ (fun o q => by rw [hcn] at q; exact no_ns q)) (S.tabs P qs ps eP) (i_eeeeaaa c' oc vs t rfl (Own.set_self ..) hd hv)) tk) ⟨ps ++ #[rawInt pos.line, rawInt pos.col, .ref c'], ?_⟩
   · (refine rr (Own.set_ne _ _ (fun q => by rw [q, hcn] at e; exact no_ns e)) ?_; refine rr (Own.set_ne _ _ hp') ?_); exact e
   · refine rr (Own.set_ne _ _ (Ne.symm (fun q => by subst q; rw [hcn] at eP; exact no_ns eP))) ?_; exact Own.set_self ..
 · refine wpAny_genexprCode_hit hcode (C'.code hp ht) hf ?_
   exact H cv ω s (.refl _) (fun _ _ e _ => e) S ⟨ps, eP⟩
end
section
variable {prog : Program} {w : World} {B0 : Heap} {os : OsState} {mg mb : Str -> Option Value} {A : Around} {E : Value -> Shared -> Prop} {gs : Array GenState} {s : Shared} {ω : Own}
theorem iter_rng {v : Value} {lo hi : Int} {Q : Value -> Shared -> Prop} (S : MS B0 os ω gs s) (r : Rd ω (.rng lo hi) v)
 (H : ∀ a s', ω a = none -> MS B0 os (ω.set a (.it (.range lo ((hi - lo).toNat : Int)))) gs s' -> Q (.ref a) s') : wpAny (model prog w) A (pyIter v) Q E s := by
 delta Rd at r
 (refine o_aa r fun z1 z2 z44 => ?_; refine o_eeee z44 fun a t u x z45 => ?_; refine o_a z45 fun z46 h2 => ?_; refine rr z46 ?_)
 have hsz : Builtin.Range.rangeSize lo hi 1 = ((hi - lo).toNat : Int) := by
  unfold Builtin.Range.rangeSize
  (refine rr (if_pos (by decide)) ?_; refine rr (Int.ediv_one ..) ?_)
  refine ie rfl (fun _ => ?_) fun _ => ?_ <;> omega
 refine wpAny_pyIter_range (S.hold _ _ h2) ?_ ?_
 · unfold Builtin.Range.small
   refine rr hsz ?_
   have e : ∀ z : Int, -(2 ^ 63) <= z -> z < 2 ^ 63 -> Builtin.Range.rangeFitsLong z = true := fun z h1 h2 => by unfold Builtin.Range.rangeFitsLong; simp; exact ar354 h1 h2
   (rw [e lo (ar344 z1) (ar343 z1)]; rw [e hi (ar344 z2) (ar343 z2)]; rw [e 1 (by decide) (by decide)]; rw [e _ (by lia) (by omega)]; refine rr (if_pos (by decide)) ?_; refine rr (e _ (ar351 z2) (ar350 z2)) ?_)
   simp
 · refine rr hsz ?_
   exact H _ _ S.unused (S.push _ (m := .it (.range lo ((hi - lo).toNat : Int))) (Heap.get?_push_size _ rfl))
theorem gen_make (TB : TopB B0 mg mb) (TM : TopM B0 mg) {env : Env} {elt target iter : Expr} {scope : Scope} {cl : List (Str × Addr)} {pos : Pos} {c P : Addr} {ps0 : Array Value} {qs : List (Pos × Str)} {σ : St} {Q : Value -> Shared -> Prop} {n k : Nat}
    (Rm : Room n A) (C : CodeHd B0 c P) (t₀ : B0.get? P = some (tabObj ps0)) (hs : P ≠ cStatics) (hq : apartQ qs) (hin : (pos, env.qual ++ "<genexpr>") ∈ qs) (I : TabI ω P qs) (hcode : env.code = .ref c) (hge : env.globals = mainGlobals)
    (hco : scope.isCoroutine = false) (hclos : closureFor scope env = pure cl) (hcell : ∀ y ∈ scope.names, y.2 ≠ .cell) (h0 : scope.names.lookup (".0" : Str) = some NameKind.local) (hkind : scope.kind = .function) (hf : ∀ x, genFold iter env x = pure x)
    (h : wpAny (model prog w) A (eval iter env) (PostV B0 os #[] ω fun h σ' => h = .rng 0 (k : Nat) /\ σ' = σ) E s)
    (H : ∀ a C I code ω' s', ω C = none -> ω I = none -> C ≠ I -> Le ω ω' -> MS B0 os ω' #[.fresh (.compStart (.GeneratorExp elt [⟨target, iter, [], 0⟩] scope pos) 0 (.ref I) .none (genEnv scope cl C code builtinsNs env))] s' -> RelS ω' σ -> TabI ω' P qs -> (∃ m, ω' C = some (.ns m)) -> (∃ x0, ω' I = some (.it (.range x0 (k : Nat)))) ->
      (∃ nm qn, ω' a = some (.fz { cls := .type "generator", data := .fields #[.int 0 0, nm, qn] })) -> ω a = none -> Q (.ref a) s') :
    wpAny (model prog w) A (eval (.GeneratorExp elt [⟨target, iter, [], 0⟩] scope pos) env) Q E s := by
  refine wpAny_GeneratorExp_make hco hclos hcell h0 hkind Rm.lim (next_v h fun hv ω1 σ1 xv s₁ l1 S1 R1 r₁ k₁ => ?_) hf
  (refine o_a k₁ fun z99 z100 => ?_; clear k₁; subst z99; cases z100)
  refine iter_rng S1 r₁ fun It s₂ hIn S2 => ?_
  refine ⟨TB.lim S2, ?_⟩
  have l2 := Le.new (.it (.range 0 (((k : Nat) : Int) - 0).toNat)) hIn
  have R₂ := R1.new (m := .it (.range 0 (((k : Nat) : Int) - 0).toNat)) hIn
  have hk : (((((k : Nat) : Int) - 0).toNat : Nat) : Int) = (k : Nat) := by rfl
  rw [hk] at S2 l2 R₂
  refine gen_code S2 C t₀ hs hq hin (I.le (l1.trans l2)) hcode fun code ω3 s₃ l₃ o₃ S₃ I3 => ?_
  obtain ⟨ps, eP⟩ := id I3
  refine o_a (built_at TB TM S₃ (S₃.hold _ _ eP)) fun hb hgP => ?_
  (refine o_eeaaaa hb fun bm ob b1 b2 b3 b4 z94 => ?_; clear hb; refine o_aaa z94 fun b5 b6 b7 b8 => ?_)
  refine hge ▸ ?_
  refine wpAny_builtinsFor (TB.g.now S₃) b1 b2 b5 b6 b7 b8 ?_
  obtain ⟨hp, g, d, tk, os'⟩ := s₃
  refine rr S₃.gens ?_
  intro h' hns hsb
  have hCn : ω3 hp.objs.size = none := S₃.unused
  have S4 := S₃.push { cls := .type "frame", data := .dict #[] } (m := .ex { cls := .type "frame", data := .dict #[] }) (Heap.get?_push_size _ rfl)
  have S5 := S4.same (Own.set_self ..) rfl hsb (m := .ns _) hns (tk + 1 + 1 + 1)
  have hCC : ∀ m m' : OM, (ω3.set hp.objs.size m).set hp.objs.size m' = ω3.set hp.objs.size m' := fun m m' => by
    funext b; unfold Own.set; split <;> rfl
  simp only [hCC] at S5
  have hIt3 := l₃ _ _ (Own.set_self ..)
  have l4 := Le.new (OM.ns fun y : Str => if y = Str.ofString ".0" then some (.ref It) else none) hCn
  have hgn := S5.unused
  have S6 := S5.push { cls := .type "generator", data := .fields #[.int 0 0, .str "<genexpr>" (tk + 1), .str (env.qual ++ "<genexpr>") (tk + 1 + 1)] } (m := .fz { cls := .type "generator", data := .fields #[.int 0 0, .str "<genexpr>" (tk + 1), .str (env.qual ++ "<genexpr>") (tk + 1 + 1)] }) (Heap.get?_push_size _ rfl)
  have l5 := Le.new (OM.fz { cls := .type "generator", data := .fields #[.int 0 0, .str "<genexpr>" (tk + 1), .str (env.qual ++ "<genexpr>") (tk + 1 + 1)] }) hgn
  have back : ∀ a, ω3 a = none -> ω a = none := fun a h => by
    induction q : ω a using Option.casesOn with
    | none => rfl
    | some m =>
      have := ((l1.trans l2).trans l₃) a m q
      rw [h] at this
      cases m <;> first | (obtain ⟨_, z⟩ := this; exact no_ns z) | exact no_ns this
  refine H h'.objs.size hp.objs.size It code _ _ (back _ hCn) (show ω It = none from by
    induction q : ω It using Option.casesOn with
    | none => rfl
    | some m =>
      have := l1 It m q
      rw [hIn] at this
      cases m <;> first | (obtain ⟨_, z⟩ := this; exact no_ns z) | exact no_ns this) (fun q => by rw [q] at hCn; simp only [hCn] at hIt3; exact no_ns hIt3) ((((l1.trans l2).trans l₃).trans l4).trans l5) { S6 with gens := rfl } (((R₂.keepF l₃.f (fun a vs e => o₃ a _ e (fun q => ?_))).new hCn).new hgn) ((I3.le l4).le l5) ⟨_, l5 _ _ (Own.set_self ..)⟩ ⟨0, l5 _ _ (l4 _ _ hIt3)⟩ (i_ee _ _ (Own.set_self ..)) (back _ ?_)
  · cases q
    refine o_e (I.le (l1.trans l2)) fun ps' h => ?_
    have e := h ▸ e; cases e
  · have : ω3 h'.objs.size = none := by
      induction q : ω3 h'.objs.size using Option.casesOn with
      | none => rfl
      | some m =>
        have := l4 _ _ q
        simp only [hgn] at this
        cases m <;> first | (obtain ⟨_, z⟩ := this; exact no_ns z) | exact no_ns this
    exact this
end
end
section
section
variable {prog : Program} {w : World} {B0 : Heap} {os : OsState} {gs : Array GenState} {mg mb : Str -> Option Value} {A : Around} {E : Value -> Shared -> Prop} {ω : Own} {s : Shared} {σ : St} {env : Env} {ρ : Loc} {G : GC}
theorem told_ret {Q : Flow -> Shared -> Prop} {e2 : Expr} {c lg tp : Str} {k k0 : Nat} {cp lp tpp ap ip sp pl rp : Pos} {T P K Lg : Addr} {octets : List UInt8} {fo : FuncData} {ρf : Loc} {h2 : HV} {evs : List HV} {p : Nat} (O : EnvOk mg mb env ω ρ G) (S : MS B0 os ω gs s) (R : RelS ω σ) (H : TapeAt ω T P K octets fo ρf)
 (hl : ρ lg = some (.obj Lg)) (ht : ρ tp = some (.val (.ref T))) (hp : σ P = some [.int (p : Nat)]) (hL : σ Lg = some evs) (hc : c.length <= sizeLine) (hns : notStar e2 = true)
 (he : ∀ tk, wpAny (model prog w) A (eval e2 env) (fun v s' => ∃ tk', s' = { s with toks := tk' } /\ Rd ω h2 v) E { s with toks := tk })
 (hQ : ∀ ω5 oL r oR s', Le ω ω5 -> RelS ω5 σ -> (∃ vs, ω5 Lg = some (.lst vs)) -> ω5 r = none -> r ≠ Lg -> MS B0 os ((ω5.set Lg (.fz oL)).set r (.fz oR)) gs s' -> Rd ((ω5.set Lg (.fz oL)).set r (.fz oR)) (.list [.str c.cps.toList, h2, .list evs, .int (p : Nat)]) (.ref r) -> Q (.ret (.ref r)) s') :
 wpAny (model prog w) A (exec (.Return (some (.List [.Constant (.str c) k cp, e2, .Name lg lp, .Subscript (.Attribute (.Name tp tpp) "place" ap) (.Constant (.int 0) k0 ip) sp] pl)) rp) env) Q E s := by
 have ln := line_is
 refine wpAny_Return_some (wpAny_List ?_)
 refine rr (plain_back pl _ env (by simp only [List.all_cons, List.all_cons, hns]; rfl)) ?_
 refine spliced_cons (wpAny_Constant_str ?_)
 refine spliced_cons (wpAny_mono (he _) (fun v₂ s₂ q => ?_) fun _ _ x => x)
 (refine o_ea q fun tk2 z575 r₂ => ?_; clear q; refine z575 ▸ ?_)
 refine spliced_cons (name_ok O (S.toks tk2) hl fun v₃ r₃ => ?_)
 simp only [Rd] at r₃
 refine r₃ ▸ ?_
 refine spliced_cons ?_
 refine PyProof.Rows.Subscript_ (PyProof.Rows.Attribute_any_ (name_ok O (S.toks tk2) ht fun v4 r₄ => ?_) (by (refine rr (arm_eval_Attribute ..) ?_; exact rr (base_plain rfl) rfl)))
 simp only [Rd] at r₄
 subst r₄
 refine o_eeeeaaa H.tape fun D m fdT sl t1 t2 t3 t4 => ?_
 refine fn_getAttr (S.hold _ _ t1) (S.hold _ _ t2) t4 fn_no_place fun tk3 => ?_
 refine wpAny_Constant_int ?_
 have S₃ : MS B0 os ω gs { s with toks := tk3 + 1 } := S.toks _
 refine next_v (sub_ok (K := fun h σ' => h = .int (p : Nat) /\ σ' = σ) S₃ R (ho := .obj P) (hi := .int 0) (by exact rfl) (by simp only [Rd]; exact ⟨_, rfl⟩) (s_obj (by decide) hp rfl ⟨rfl, rfl⟩)) fun h₅ ω5 σ5 v5 s5 l5 S5 R5 r₅ k₅ => ?_
 (refine o_a k₅ fun z588 z589 => ?_; clear k₅; subst z588; clear hp R; subst z589)
 refine spliced_nil ⟨by show (4 : Nat) <= sizeLine; exact Nat.le_add_left _ _, ?_⟩
 refine o_aea (R5 Lg evs hL) fun hz vs e1 e2 => ?_
 refine o_e (S5.hold _ _ e1) fun nn hob => ?_
 have S6 := S5.turn (m := .fz { cls := .type "list", data := .seq vs.toArray nn }) e1 rfl hob
 have hrn := S5.unused
 have hrL : s5.heap.objs.size ≠ Lg := fun q => by rw [q] at hrn; rw [hrn] at e1; exact no_ns e1
 have hrn6 : (ω5.set Lg (.fz { cls := .type "list", data := .seq vs.toArray nn })) s5.heap.objs.size = none := by refine rr (Own.set_ne _ _ hrL) ?_; exact hrn
 have f₆ : LeF ω5 (ω5.set Lg (.fz { cls := .type "list", data := .seq vs.toArray nn })) := LeF.set _ e1 (fun _ q => by contradiction)
 have l7 := Le.new (OM.fz { cls := .type "list", data := .seq #[Value.str c s.toks, v₂, .ref Lg, v5] }) hrn6
 have S7 := S6.push { cls := .type "list", data := .seq #[Value.str c s.toks, v₂, .ref Lg, v5] } (m := .fz { cls := .type "list", data := .seq #[Value.str c s.toks, v₂, .ref Lg, v5] }) (Heap.get?_push_size _ rfl)
 have ff := f₆.trans l7.f
 refine hQ ω5 _ s5.heap.objs.size _ _ l5 R5 ⟨vs, e1⟩ hrn hrL S7 ?_
 refine (i_ae (by show (4 : Nat) <= sizeLine; exact Nat.le_add_left _ _) _ ⟨_, [Value.str c s.toks, v₂, .ref Lg, v5], 0, rfl, Own.set_self .., rfl, rfl, ?_⟩)
 refine (i_eeaa _ _ rfl ?_ ⟨_, _, rfl, (r₂.mono l5).monoF ff, _, _, rfl, ?_, _, _, rfl, r₅.monoF ff, rfl⟩)
 · exact (i_ae (by exact hc) _ rfl)
 · simp only [Rd]; exact ⟨hz, Lg, _, vs, nn, rfl, l7.f _ _ (Own.set_self ..), rfl, rfl, e2.monoF ff⟩
end
end
section
theorem verr_exc : isSubtype (.type "ValueError") (.type "BaseException") = pure true := by kernel_rfl
theorem terr_exc : isSubtype (.type "TypeError") (.type "BaseException") = pure true := by kernel_rfl
theorem verr_meta : isSubtype (.type ((Manifest.find? "ValueError").elim "type" fun x => x.metatype)) (.type "tuple") = pure false := by kernel_rfl
theorem terr_meta : isSubtype (.type ((Manifest.find? "TypeError").elim "type" fun x => x.metatype)) (.type "tuple") = pure false := by kernel_rfl
theorem verr_terr : isSubtype (.type "ValueError") (.type "TypeError") = pure false := by kernel_rfl
theorem verr_verr : isSubtype (.type "ValueError") (.type "ValueError") = pure true := by kernel_rfl
theorem terr_terr : isSubtype (.type "TypeError") (.type "TypeError") = pure true := by kernel_rfl
theorem RelS.shed {ω : Own} {σ σ0 : St} {a r : Addr} {o o' : Obj} (R : RelS ω σ) (ha : ∃ vs, ω a = some (.lst vs)) (hr : ω r = none) (hs : ∀ b xs, σ0 b = some xs -> σ b = some xs) (h0 : σ0 a = none) : RelS ((ω.set a (.fz o)).set r (.fz o')) σ0 := fun b xs e => by
 refine o_aea (R b xs (hs b xs e)) fun hz vs h1 h2 => ?_
 obtain ⟨ws, ha⟩ := ha
 exact (i_aea hz vs (by (refine rr (Own.set_ne _ _ (fun q => by rw [q, hr] at h1; exact no_ns h1)) ?_; refine rr (Own.set_ne _ _ (fun q => by rw [q, h0] at e; exact no_ns e)) ?_); exact h1) (h2.monoF ((LeF.set _ ha (fun _ q => by contradiction)).trans (Le.new _ (show (ω.set a (.fz o)) r = none from by refine rr (Own.set_ne _ _ (fun q => by rw [q, ha] at hr; exact no_sn hr)) ?_; exact hr)).f)))
structure TapeF (L : Addr) (ω : Own) (T P K : Addr) (octets : List UInt8) (fo : FuncData) (ρf : Loc) : Prop where
 at' : TapeAt ω T P K octets fo ρf
 map : ∃ D m fd sl, D ≠ L /\ ω T = some (.fz { cls := .type "function", dict := some D, data := .func fd, slots := sl }) /\ ω D = some (.ns m) /\ m "read" = some (.ref K) /\ m "place" = some (.ref P)
theorem TapeF.leS {L : Addr} {ω ω' : Own} {T P K : Addr} {octets : List UInt8} {fo : FuncData} {ρf : Loc} (h : TapeF L ω T P K octets fo ρf) (l : LeS L ω ω') {m₀ : Str -> Option Value} (hL : ω L = some (.ns m₀)) : TapeF L ω' T P K octets fo ρf := by
 have f := l.f hL
 have st : ∀ b m, ω b = some m -> m.stay = true -> b ≠ L -> ω' b = some m := fun b m e hm hb => by
  have := l b m hb e
  clear e; cases m <;> first | exact this | (exact Bool.noConfusion (show false = true from hm))
 obtain ⟨⟨h1, h2, h3, h4, h5, h6, h7, h8, _⟩, D, m, fd, sl, d1, d2, d3, d4⟩ := h
 exact ⟨⟨h1, h2, f _ _ h3, h4.monoF f, (fun x h e => by
  refine o_aeeaa (h5 x h e) fun k c v g1 g2 g3 => ?_
  exact (i_aeea k c v g1 ⟨st _ _ g2 rfl (fun q => by rw [q, hL] at g2; exact absurd g2 nofun), g3.monoF f⟩)), h6, h7, h8, D, m, fd, sl, f _ _ d2, st _ _ d3 rfl d1, d4⟩, D, m, fd, sl, d1, f _ _ d2, st _ _ d3 rfl d1, d4⟩
section
variable {prog : Program} {w : World} {B0 : Heap} {os : OsState} {gs : Array GenState} {mg mb : Str -> Option Value} {A : Around} {E : Value -> Shared -> Prop} {ω : Own} {s : Shared} {σ : St} {env : Env} {ρ : Loc} {G : GC}
theorem as_yes {cls : String} (hexc : isSubtype (.type cls) (.type "BaseException") = pure true) (hnt : isSubtype (.type ((Manifest.find? cls).elim "type" fun x => x.metatype)) (.type "tuple") = pure false) (hsub : isSubtype (.type cls) (.type cls) = pure true) (FX : ExcStrFacts cls cls) (TB : TopB B0 mg mb) {n : Nat} (Rm : Room n A)
 {Q : Flow -> Shared -> Prop} {c lg tp fn xn sn : Str} {k k0 : Nat} {cp lp tpp ap ip sp pl rp np hpos stp fp clp : Pos} {rest : List ExceptHandler} {T P K Lg e t : Addr} {fl : Value} {octets : List UInt8} {fo : FuncData} {ρf : Loc} {evs : List HV} {p : Nat} {msg : List Nat} (O : EnvOk mg mb env ω ρ G) (S : MS B0 os ω gs s) (R : RelS ω σ) (H : TapeF env.locals ω T P K octets fo ρf) (F : Fly B0 ω s.heap e cls t fl) (hA : ArgsAt ω t msg)
 (hl : ρ lg = some (.obj Lg)) (ht : ρ tp = some (.val (.ref T))) (hf1 : fn ≠ lg) (hf2 : fn ≠ tp) (hp : σ P = some [.int (p : Nat)]) (hL : σ Lg = some evs) (hc : c.length <= sizeLine) (hg : G.g xn = some (.val (.type cls))) (hs : G.g sn = some (.val (.type "str"))) (hnm : nmB G fn = true)
 (hQ : ∀ v ω' s', (∀ ωb, LeS env.locals ωb ω -> ωb env.locals = none -> ωb Lg = none -> LeS env.locals ωb ω') -> MS B0 os ω' gs s' -> Rd ω' (.list [.str c.cps.toList, .str msg, .list evs, .int (p : Nat)]) v -> (∀ σ0, (∀ b xs, σ0 b = some xs -> σ b = some xs) -> σ0 Lg = none -> RelS ω' σ0) -> Q (.ret v) s') :
 wpAny (model prog w) A (handleBy (.ref e) env (.ExceptHandler (some (.Name xn np)) (some fn) [.Return (some (.List [.Constant (.str c) k cp, .Call (.Name sn stp) [.Name fn fp] [] clp, .Name lg lp, .Subscript (.Attribute (.Name tp tpp) "place" ap) (.Constant (.int 0) k0 ip) sp] pl)) rp] hpos :: rest)) Q E s := by
 have ln := line_is
 refine wpAny_handleBy_builtin_as (b := true) hexc hnt hsub ?_
 refine gname_ok TB O S hg fun v hv => ?_
 (injection hv with hv; subst hv)
 refine ⟨rfl, F.typeIs, ?_⟩
 rw [if_pos rfl]
 refine flight_same S F fun h₁ S1 F1 _ => ?_
 obtain ⟨oe, vs, Tr, oT, ts, x1, x2, x3, x4, x5, x6, x7, x8, x9, x10, x11, x12⟩ := F1
 have S2 := S1.own_fz x1 x9
 have l2 := Le.new (OM.fz oe) x9
 have R₂ : RelS (ω.set e (.fz oe)) σ := R.new x9
 refine store_ok (h := .val (.ref e)) (O.mono l2) S2 R₂ hnm (by simp only [Rd]) fun ω3 s₃ l₃ f₃ O3 S₃ R₃ => ?_
 have hL0 : ∃ m, (ω.set e (.fz oe)) env.locals = some (.ns m) := by refine o_ea ((O.mono l2).loc) fun m h _ => ?_; exact ⟨m, h⟩
 refine o_e hL0 fun m₀ hL0 => ?_
 have he3 : ω3 e = some (.fz oe) := f₃ _ _ (Own.set_self ..)
 obtain ⟨hmz, ot, nt, tkt, ho1, ho2, ho3⟩ := hA
 have ht3 : ω3 t = some (.fz ot) := f₃ _ _ (l2.f _ _ ho1)
 have H3 : TapeAt ω3 T P K octets fo ρf := by
  refine o_ea O.loc fun mw hw _ => ?_
  have H₂ := H.leS (l2.s env.locals) hw
  exact (H₂.leS l₃ hL0).at'
 refine wpAny_execs_cons (told_ret (h2 := .str msg) O3 S₃ R₃ H3 (upd_ne (Ne.symm hf1) hl) (upd_ne (Ne.symm hf2) ht) hp hL hc rfl (fun tk => ?_) fun ω5 oL r oR s' l5 R5 hlst hrn hrL S' rv => ?_)
 · refine wpAny_Call_ofName (gname_ok TB O3 (S₃.toks tk) hs fun u hu => ?_)
   (injection hu with hu; subst hu)
   rw [plain_back clp _ env rfl]
   refine callWith_type (plain_any _ env) (args_any (plain_any _ env) (spliced_cons (name_ok O3 (S₃.toks tk) upd_self fun v4 r₄ => ?_)))
   simp only [Rd] at r₄
   subst r₄
   refine spliced_nil ?_
   show wpAny _ _ (call (.type "str") [.ref e] []) _ _ _
   refine PySem.P.str_of_exc_one (A := A.mark (some (.ref e))) (s := { s₃ with toks := tk }) (t0 := t) (m := ⟨msg.toArray⟩) (tk := tkt) FX (show (A.mark (some (.ref e))).units + 2 < cLine from by have := Rm.u64; show A.units + 2 < cLine; exact ar283 this) ⟨oe, vs, S₃.hold _ _ he3, x2.1, x3, x2.2⟩ ⟨ot, nt, S₃.hold _ _ ht3, ho2, ho3⟩ ?_
   refine ⟨tk, rfl, ?_⟩
   simp only [Rd]
   exact ⟨hmz, _, rfl⟩
 · refine o_ea O3.loc fun m₃ hL3 _ => ?_
   have hL5 := l5 _ _ hL3
   have hrE : r ≠ env.locals := fun q => by rw [q] at hrn; rw [hrn] at hL5; exact no_ns hL5
   have hLE : Lg ≠ env.locals := fun q => by obtain ⟨vs, h⟩ := hlst; rw [q, hL5] at h; exact absurd h nofun
   have hE' : ((ω5.set Lg (.fz oL)).set r (.fz oR)) env.locals = some (.ns m₃) := by rw [Own.set_ne _ _ (Ne.symm hrE), Own.set_ne _ _ (Ne.symm hLE)]; exact hL5
   refine wpAny_nameGoes (O.lc fn (by unfold nmB at hnm; simp only [Bool.and_eq_true] at hnm; exact hnm.1.1)) (S'.hold _ _ hE') (by refine rr O.kind ?_; rfl) fun h' m' hn' hs' => ?_
   have S'' := S'.same hE' rfl hs' (m := .ns m') hn' (s'.toks + 1)
   have fE : LeF ((ω5.set Lg (.fz oL)).set r (.fz oR)) (((ω5.set Lg (.fz oL)).set r (.fz oR)).set env.locals (.ns m')) := LeF.set _ hE' (fun _ q => by contradiction)
   refine hQ _ _ _ (fun ωb lb hbE hbL => ?_) S'' (rv.monoF fE) fun σ0 hσ h0 => ?_
   · have lb5 : LeS env.locals ωb ω5 := ((lb.trans (l2.s _)).trans l₃).trans (l5.s _)
     exact ((lb5.setNew _ hbL).setNew _ (lb5.none_of hbE hrn)).trans (LeS.set _)
   · exact (R5.shed hlst hrn hσ h0).set _ hE' (fun _ q => by contradiction) (fun _ q => by contradiction)
end
end
section
theorem TapeF.set_cell {L : Addr} {ω : Own} {T P K cT : Addr} {octets : List UInt8} {fo : FuncData} {ρf : Loc} (h : TapeF L ω T P K octets fo ρf) {v0 : Option Value} (hc : ω cT = some (.cell v0)) (hn : ∀ x, fo.closure.lookup x ≠ some cT) (v : Option Value) : TapeF L (ω.set cT (.cell v)) T P K octets fo ρf := by
 have f : LeF ω (ω.set cT (.cell v)) := LeF.set _ hc (fun _ q => by contradiction)
 obtain ⟨⟨h1, h2, h3, h4, h5, h6, h7, h8, _⟩, D, m, fd, sl, d1, d2, d3, d4⟩ := h
 have hD : (ω.set cT (.cell v)) D = some (.ns m) := by refine rr (Own.set_ne _ _ (fun q => by rw [q, hc] at d3; exact absurd d3 nofun)) ?_; exact d3
 exact ⟨⟨h1, h2, f _ _ h3, h4.monoF f, (fun x h e => by
  refine o_aeeaa (h5 x h e) fun k c u g1 g2 g3 => ?_
  exact (i_aeea k c u g1 ⟨by refine rr (Own.set_ne _ _ (fun q => by rw [q] at g1; exact hn x g1)) ?_; exact g2, g3.monoF f⟩)), h6, h7, h8, D, m, fd, sl, f _ _ d2, hD, d4⟩, D, m, fd, sl, d1, f _ _ d2, hD, d4⟩
noncomputable def tryParts : Expr × Expr × Expr × Expr × Pos × Pos × Pos × Pos := default
noncomputable def elseOf : Stmt -> List Stmt
 | .If _ _ e _ => e
 | _ => []
noncomputable def callArgs : Expr -> List Expr
 | .Call _ l _ _ => l
 | _ => []
noncomputable def genOf : Nat -> Expr := fun i => (callArgs (testOf (if i = 0 then kid (kid (kid (stm 22) 3) 0) 0 else (elseOf (kid (kid (stm 22) 3) 0)).getD 0 (.Pass ⟨0, 0, 0, 0⟩)))).getD 1 (.Constant .none 0 ⟨0, 0, 0, 0⟩)
noncomputable def genPos (e : Expr) : Pos := e.pos
noncomputable def genSc : Expr -> Scope
 | .GeneratorExp _ _ s _ => s
 | _ => default
noncomputable def toldQs (q : Str) : List (Pos × Str) := [(posOf stepS, (q ++ ".<locals>.") ++ "step"), (genPos (genOf 0), (q ++ ".<locals>.") ++ "<genexpr>"), (genPos (genOf 1), (q ++ ".<locals>.") ++ "<genexpr>")]
theorem apart3 {p1 p2 p3 : Pos} {s1 s2 : Str} (h1 : p1.line ≠ p2.line) (h2 : p1.line ≠ p3.line) : apartQ [(p1, s1), (p2, s2), (p3, s2)] := by
 intro a ha b hb hl _
 simp only [List.mem_cons, List.not_mem_nil, or_false] at ha hb
 rcases ha with rfl | rfl | rfl <;> rcases hb with rfl | rfl | rfl <;> first | rfl | exact absurd hl h1 | exact absurd hl h2 | exact absurd hl.symm h1 | exact absurd hl.symm h2
theorem told_apart (q : Str) : apartQ (toldQs q) := apart3 (by decide +kernel) (by decide +kernel)
theorem mod22 : ∀ (vals : List Value), vals.length = 3 -> ∀ fd : FuncData, fd.params = argsOf (stm 22) -> fd.kwdefaults = .none -> fd.defaults = .none -> bindArgs fd ⟨vals, []⟩ = pure ([tN "octets", tN "turns", tN "begins"].zip vals) := fun vals hl fd hp h1 h2 => by
 (refine o_eee (len3 hl) fun a b c z319 => ?_; refine rr z319 ?_)
 refine rr (fd_with hp h1 h2) ?_
 with_unfolding_all rfl
theorem p22 : cellSc (stm 22) [tN "octets", tN "turns", tN "begins"] = true := by decide +kernel
theorem step_names : (scopeOf stepS).names = [(Str.ofString "value", .local), (Str.ofString "element", .local), (Str.ofString "text", .local), (Str.ofString "count", .local), (Str.ofString "name", .local), (Str.ofString "log", .free), (Str.ofString "tape", .free), (Str.ofString "translate", .globalImplicit), (Str.ofString "read_string1", .globalImplicit), (Str.ofString "_law_taken", .globalImplicit)] := by with_unfolding_all rfl
theorem gen_names (i : Nat) (h : i = 0 ∨ i = 1) : (genSc (genOf i)).names = [(Str.ofString ".0", .local), (Str.ofString "turn", .local), (Str.ofString "tape", .free), (Str.ofString "read_string1", .globalImplicit)] := by rcases h with rfl | rfl <;> kernel_rfl
theorem clos_step {env : Env} {c1 c2 : Addr} (h1 : env.cells.lookup (Str.ofString "log") = some c1) (h2 : env.cells.lookup (Str.ofString "tape") = some c2) : closureFor (scopeOf stepS) env = pure [(Str.ofString "tape", c2), (Str.ofString "log", c1)] := by
 have e1 : cellOf env (Str.ofString "log") = pure c1 := by unfold cellOf; exact rr h1 rfl
 have e2 : cellOf env (Str.ofString "tape") = pure c2 := by unfold cellOf; exact rr h2 rfl
 dsimp only [closureFor]
 refine rr step_names ?_
 simp [e1, e2]
theorem clos_gen {env : Env} {c2 : Addr} (i : Nat) (h : i = 0 ∨ i = 1) (h2 : env.cells.lookup (Str.ofString "tape") = some c2) : closureFor (genSc (genOf i)) env = pure [(Str.ofString "tape", c2)] := by
 dsimp only [closureFor]
 refine rr (gen_names i h) ?_
 simp [(show cellOf env (Str.ofString "tape") = pure c2 from by unfold cellOf; exact rr h2 rfl)]
theorem free_step {ω : Own} {c1 c2 T Lg : Addr} (h1 : ω c1 = some (.cell (some (.ref Lg)))) (h2 : ω c2 = some (.cell (some (.ref T)))) : FreeOk ω (scopeOf stepS) [(Str.ofString "tape", c2), (Str.ofString "log", c1)] (rhoS T Lg) := by
 intro x h e
 unfold rhoS at e
 by_cases q : x = Str.ofString "log"
 · subst q
   (replace e := Option.some.inj e; subst e)
   refine (i_aeea (by decide +kernel) c1 (.ref Lg) ?_ ⟨h1, by dsimp only [Rd]⟩)
   rfl
 · rw [upd_ne q rfl] at e
   by_cases q2 : x = Str.ofString "tape"
   · clear q; subst q2
     (replace e := Option.some.inj e; subst e)
     exact (i_aeea (by decide +kernel) c2 (.ref T) (by rfl) ⟨h2, by dsimp only [Rd]⟩)
   · rw [upd_ne q2 rfl] at e; exact no_ns e
theorem free_gen {ω : Own} {c2 T : Addr} (i : Nat) (h : i = 0 ∨ i = 1) (h2 : ω c2 = some (.cell (some (.ref T)))) : FreeOk ω (genSc (genOf i)) [(Str.ofString "tape", c2)] (rhoG (Str.ofString "tape") T) := by
 intro x hh e
 unfold rhoG at e
 by_cases q2 : x = Str.ofString "tape"
 · subst q2
   (replace e := Option.some.inj e; subst e)
   refine (i_aeea ?_ c2 (.ref T) (by rfl) ⟨h2, by dsimp only [Rd]⟩)
   refine rr (gen_names i h) ?_; decide +kernel
 · rw [upd_ne q2 rfl] at e; exact no_ns e
end
section
noncomputable def toldV (o : List UInt8) (k : Nat) (bg : Bool) : HV := match redF o (if bg then some [.str (litS (Str.ofString "begin"))] else none) k 0 with
 | none => .list [.str (Str.ofString "TypeError").cps.toList, .str noneW, .list [], .int ((0 : Nat) : Int)]
 | some (.inl m, evs) => .list [.str (Str.ofString "ValueError").cps.toList, .str m, .list (evs.map evH), .int (o.length : Nat)]
 | some (.inr (xs, p), evs) => .list [.str (Str.ofString "done").cps.toList, .list xs, .list (evs.map evH), .int (p : Nat)]
structure ToldG (B0 : Heap) (gt : Loc) (a17 c17 P17 a3 dT a15 aT aK miss : Addr) (fd17 fd3 : FuncData) : Prop where
 f17 : FnK B0 a17 (stm 17) fd17 .none
 c17 : CodeB B0 fd17 c17 P17
 g17 : gt (tN "_law_tape") = some (.val (.ref a17))
 f3 : FnK B0 a3 (stm 3) fd3 (.ref dT)
 dT : ∃ od nn, B0.get? dT = some od /\ od.cls ≠ .none /\ od.data = .seq #[.ref miss] nn
 g3 : gt (tN "reduce") = some (.val (.ref a3))
 red : RedG B0 gt miss
 rd : Reads1 B0 gt a15
 g15 : gt (tN "read_string1") = some (.val (.ref a15))
 gTx : gt (tN "translate") = some (.val (.ref aT))
 gTk : gt (tN "_law_taken") = some (.val (.ref aK))
 rng : gt (tN "range") = some (.val (.type "range"))
 str : gt (tN "str") = some (.val (.type "str"))
theorem cutNew {ω ω' : Own} {C I : Addr} (l : Le ω ω') (hC : ω C = none) (hI : ω I = none) : Le ω (ω'.cut C I) := fun b m e => by
 refine rr (cut_at (fun q => by rw [q, hC] at e; exact no_ns e) (fun q => by rw [q, hI] at e; exact no_ns e)) ?_; exact l b m e
theorem gen_env {mg mb : Str -> Option Value} {gt : Loc} (hg : GtOk mg mb gt) {scope : Scope} {cl : List (Str × Addr)} {C : Addr} {code : Value} {env : Env} {ω : Own} {ρ : Loc} {m : Str -> Option Value} (hk : scope.kind = .function) (hcell : ∀ x ∈ scope.names, x.2 ≠ .cell) (hge : env.globals = mainGlobals)
 (h1 : scope.names.lookup ("__debug__" : Str) ≠ some .globalImplicit) (h2 : scope.names.lookup ("__debug__" : Str) ≠ some .free) (h3 : scope.names.lookup ("__classdict__" : Str) ≠ some .free)
 (hC : ω C = some (.ns m)) (hf : FreeOk ω scope cl ρ) : EnvOk mg mb (genEnv scope cl C code builtinsNs env) ω ρ (GofDef scope gt) := by
 have kd : ∀ x, (genEnv scope cl C code builtinsNs env).kindOf x = scope.names.lookup x := fun _ => rfl
 refine ⟨hk, hge, rfl, (i_ea m hC (fun x h e k => ?_)), fun x h e k => ?_, fun x h e => .inr (.inr (hf x h e).1), fun x h e => ?_, fun x h e => ?_, fun x e => ?_, fun x e => ?_, (i_aa ?_ ?_ ?_), fun x h e => ?_, by unfold GofDef; dsimp only; exact if_pos rfl⟩
 · have := (hf x h e).1
   rw [kd, this] at k; contradiction
 · refine o_aeeaa (hf x h e) fun _ c v g1 g2 g3 => ?_
   exact (i_eeaa c v g1 g2 g3)
 · unfold GofDef at e; dsimp only at e
   (revert e; refine ie rfl (fun _ e => ?_) fun _ e => ?_)
   · rename_i q; exact q
   · exact no_ns e
 · unfold GofDef at e; dsimp only at e
   (revert e; refine ie rfl (fun _ e => ?_) fun _ e => ?_)
   · exact hg x h e
   · exact no_ns e
 · have q : scope.names.lookup x = some .cell := by simpa [GofDef] using e
   exact absurd rfl (hcell _ (mem_of_lookup q))
 · have q : scope.names.lookup x = some .local := by simpa [GofDef] using e
   exact q
 · induction q : ρ ("__debug__" : Str) using Option.casesOn with
   | none => rfl
   | some h => exact absurd (hf _ h q).1 h2
 · exact if_neg h1
 · induction q : ρ ("__classdict__" : Str) using Option.casesOn with
   | none => rfl
   | some h => exact absurd (hf _ h q).1 h3
 · unfold GofDef at e; dsimp only at e
   (revert e; refine ie rfl (fun _ e => ?_) fun _ e => ?_)
   · exact no_ns e
   · exact hg x h e
theorem gen_envs {mg mb : Str -> Option Value} {gt : Loc} (hg : GtOk mg mb gt) {C T a15 : Addr} {code : Value} {env : Env} {cT : Addr} (i : Nat) (hi : i = 0 ∨ i = 1) (hge : env.globals = mainGlobals) (g15 : gt (Str.ofString "read_string1") = some (.val (.ref a15))) :
 GenEnv mg mb gt (genEnv (genSc (genOf i)) [(Str.ofString "tape", cT)] C code builtinsNs env) T a15 (Str.ofString "read_string1") (Str.ofString "tape") (Str.ofString "turn") := by
 have hn := gen_names i hi
 have hk : (genSc (genOf i)).kind = .function := by rcases hi with rfl | rfl <;> kernel_rfl
 refine ⟨fun ω m hC hf => gen_env hg hk ?_ hge ?_ ?_ ?_ hC hf, rfl, hk, (show (genSc (genOf i)).isCoroutine = false from by rcases hi with rfl | rfl <;> kernel_rfl), ?_, ?_, ofS_ne (by decide +kernel)⟩
 · refine rr hn ?_; decide +kernel
 · refine rr hn ?_; decide +kernel
 · refine rr hn ?_; decide +kernel
 · refine rr hn ?_; decide +kernel
 · rcases hi with rfl | rfl <;> kernel_rfl
 · show (GofDef (genSc (genOf i)) gt).g _ = _
   unfold GofDef
   dsimp only
   refine rr (if_pos (by rw [hn]; decide +kernel)) ?_; exact g15
noncomputable def hdlS : List ExceptHandler := match (bodyOf (stm 22)).getD 3 (.Pass ⟨0, 0, 0, 0⟩) with
 | .Try _ hs _ _ _ => hs
 | _ => []
end
section
section
variable {prog : Program} {w : World} {B0 : Heap} {os : OsState} {mg mb : Str -> Option Value} {gt : Loc}
theorem as_no {cls T : String} {gs : Array GenState} {A : Around} {E : Value -> Shared -> Prop} {ω : Own} {s : Shared} {env : Env} {ρ : Loc} {G : GC} {Q : Flow -> Shared -> Prop} {e t : Addr} {fl : Value} {xn fn : Str} {np hpos : Pos} {b₀ : Stmt} {suite : List Stmt} {rest : List ExceptHandler} (hexc : isSubtype (.type T) (.type "BaseException") = pure true) (hnt : isSubtype (.type ((Manifest.find? T).elim "type" fun x => x.metatype)) (.type "tuple") = pure false) (hsub : isSubtype (.type cls) (.type T) = pure false) (TB : TopB B0 mg mb)
 (O : EnvOk mg mb env ω ρ G) (S : MS B0 os ω gs s) (F : Fly B0 ω s.heap e cls t fl) (hg : G.g xn = some (.val (.type T))) (h : wpAny (model prog w) A (handleBy (.ref e) env rest) Q E s) :
 wpAny (model prog w) A (handleBy (.ref e) env (.ExceptHandler (some (.Name xn np)) (some fn) (b₀ :: suite) hpos :: rest)) Q E s := by
 refine wpAny_handleBy_builtin_as (b := false) hexc hnt hsub ?_
 refine gname_ok TB O S hg fun v hv => ?_
 (injection hv with hv; subst hv)
 exact (i_aa rfl F.typeIs h)
theorem told_catch (TB : TopB B0 mg mb) {n : Nat} {st : GenState} {A : Around} {E : Value -> Shared -> Prop} {l : List Env} {ωb ω : Own} {s : Shared} {env : Env} {ρ : Loc} {Q : Flow -> Shared -> Prop} {σ0 σ' : St} {T P K Lg e t : Addr} {octets : List UInt8} {fo : FuncData} {ρf : Loc} {cls : String} {msg : List Nat} {evs : List HV} {p : Nat} {ans : HV}
 (Rm : Room n A) (Ks : Stk ω A (env :: l)) (hfr : env.frame = some env.locals) (O : EnvOk mg mb env ω ρ (GofDef (scopeOf (stm 22)) gt)) (S : MS B0 os ω #[st] s) (hb : st.bare = true) (R : RelS ω σ') (lb : LeS env.locals ωb ω) (hbL : ωb env.locals = none) (hLgb : ωb Lg = none) (HF : TapeF env.locals ω T P K octets fo ρf)
 (F : Fly B0 ω s.heap e cls t .none) (hA : ArgsAt ω t msg) (hlg : ρ (Str.ofString "log") = some (.obj Lg)) (htp : ρ (Str.ofString "tape") = some (.val (.ref T))) (hp : σ' P = some [.int (p : Nat)]) (hL : σ' Lg = some evs) (hσ : ∀ b xs, σ0 b = some xs -> σ' b = some xs) (h0 : σ0 Lg = none)
 (gv : gt (Str.ofString "ValueError") = some (.val (.type "ValueError"))) (ge : gt (Str.ofString "TypeError") = some (.val (.type "TypeError"))) (gs : gt (Str.ofString "str") = some (.val (.type "str")))
 (hc : (cls = "ValueError" /\ ans = .list [.str (Str.ofString "ValueError").cps.toList, .str msg, .list evs, .int (p : Nat)]) ∨ (cls = "TypeError" /\ ans = .list [.str (Str.ofString "TypeError").cps.toList, .str msg, .list evs, .int (p : Nat)]))
 (hQ : ∀ v ω' s', LeS env.locals ωb ω' -> MS B0 os ω' #[st] s' -> RelS ω' σ0 -> Rd ω' ans v -> Q (.ret v) s') :
 wpAny (model prog w) A (noteFrame (.ref e) env) (fun _ s₂ => wpAny (model prog w) A (setFlight (.ref e) none) (fun _ s₃ => wpAny (model prog w) A (handleBy (.ref e) env hdlS) Q E s₃) E s₂) E s := by
 refine note_on S Ks hfr F fun h₁ S1 F1 => ?_
 refine flight_same S1 F1 fun h₂ S2 F2 _ => ?_
 conv => arg 3; arg 3; whnf
 rcases hc with ⟨rfl, rfl⟩ | ⟨rfl, rfl⟩
 · refine as_no (T := "TypeError") terr_exc terr_meta verr_terr TB O S2 F2 (by walk_at "nm") ?_
   refine as_yes (cls := "ValueError") verr_exc verr_meta verr_verr PySem.F.excStr_ValueError TB Rm O S2 R HF F2 hA hlg htp (ofS_ne (by decide +kernel)) (ofS_ne (by decide +kernel)) hp hL (by decide +kernel) (by walk_at "nm") (by walk_at "nm") (by kernel_rfl) fun v ω' s' g1 g2 g3 g4 => ?_
   exact hQ v ω' s' (g1 ωb lb hbL hLgb) g2 (g4 σ0 hσ h0) g3
 · refine as_yes (cls := "TypeError") terr_exc terr_meta terr_terr PySem.F.excStr_TypeError TB Rm O S2 R HF F2 hA hlg htp (ofS_ne (by decide +kernel)) (ofS_ne (by decide +kernel)) hp hL (by decide +kernel) (by walk_at "nm") (by walk_at "nm") (by kernel_rfl) fun v ω' s' g1 g2 g3 g4 => ?_
   exact hQ v ω' s' (g1 ωb lb hbL hLgb) g2 (g4 σ0 hσ h0) g3
end
end
section
noncomputable def tryS : List Stmt := (bodyOf (stm 22)).drop 3
section
variable {prog : Program} {w : World} {B0 : Heap} {os : OsState} {mg mb : Str -> Option Value} {gt : Loc} {n : Nat}
theorem told_try (TB : TopB B0 mg mb) (TM : TopM B0 mg) (hg : GtOk mg mb gt) {a17 c17 P17 a3 dT a15 aT aK miss a22 c22 P22 : Addr} {fd17 fd3 fd22 : FuncData} (TG : ToldG B0 gt a17 c17 P17 a3 dT a15 aT aK miss fd17 fd3) {Γ : Spx} (X : ∀ gs, SpxOk prog w B0 os gs Γ (n + 1 + 1 + 1)) (Γ1 : Γ (.ref aT) = some spTx) (Γ2 : Γ (.ref aK) = some spTaken)
 (CB : CodeB B0 fd22 c22 P22)
 {A : Around} {l : List Env} {env : Env} {ωb ω : Own} {s : Shared} {σ0 : St} {ρ : Loc} {octets : List UInt8} {k : Nat} {bg : Bool} {GP : Nat -> Prop} {T P K Lg aS cT : Addr} {fo fs : FuncData} {ρf : Loc}
 (Rm : Room (n + 1 + 1 + 1 + 1 + 1 + 1 + 1) A) (Ks : Stk ω A (env :: l)) (hfr : env.frame = some env.locals) (hcode : env.code = fd22.code) (hqual : env.qual = fd22.qualname ++ ".<locals>.") (hcT : env.cells.lookup (Str.ofString "tape") = some cT)
 (O : EnvOk mg mb env ω ρ (GofDef (scopeOf (stm 22)) gt)) (S : MS B0 os ω #[] s) (R : RelS ω ((σ0.put P [.int ((0 : Nat) : Int)]).put Lg [])) (lb : LeS env.locals ωb ω) (hbL : ωb env.locals = none) (hLgb : ωb Lg = none) (hPn : σ0 P = none) (hLn : σ0 Lg = none) (hPL : P ≠ Lg)
 (HF : TapeF env.locals ω T P K octets fo ρf) (HS : StepAt ω aS T Lg fs) (hT : ω cT = some (.cell (some (.ref T)))) (hJ : TabI ω P22 (toldQs fd22.qualname))
 (r1 : ρ (Str.ofString "begins") = some (.bool bg)) (r2 : ρ (Str.ofString "turns") = some (.int (k : Nat))) (r3 : ρ (Str.ofString "step") = some (.val (.ref aS))) (r4 : ρ (Str.ofString "tape") = some (.val (.ref T))) (r5 : ρ (Str.ofString "log") = some (.obj Lg)) (r6 : ρ (Str.ofString "range") = none)
 (hk : k <= 100) (hG : ∀ p t p', GP p -> rdF octets p = some (t, p') -> okTx t /\ GP p') (hGp : GP 0) :
 wpAny (model prog w) A (execs tryS env) (PostF B0 os env ωb fun h _ σ' gs' => h = toldV octets k bg /\ σ' = σ0 /\ ∃ st', st'.bare = true /\ gs' = #[st']) (ThrG B0 os env ωb fun _ _ _ _ _ => False) s := by
 have ln := line_is
 refine gen_QE fun QF EF hQF hEF => ?_
 obtain ⟨G17, GC17, Gt17, G3, GdT, Gt3, GR, GF, Gt15, GtTx, GtTk, Gtr, Gts⟩ := TG
 have gT := GF.gt'
 have e1 := gT.verr
 have e2 := GR.terr
 refine o_eaa G3.at'.at' fun o3 ho3 hd3 hcd3 => ?_
 refine o_eeaa GdT fun od nn hdT hdc hdd => ?_
 refine o_e CB.tab fun cps hcps => ?_
 unfold tN at Gt3 Gt15 Gtr Gts e1 e2
 have hend : ∀ (ω1 : Own) (s₁ : Shared) (ρ1 : Loc) (st' : GenState) (xs : List HV) (p : Nat) (evs : List HV), LeS env.locals ωb ω1 -> EnvOk mg mb env ω1 ρ1 (GofDef (scopeOf (stm 22)) gt) -> MS B0 os ω1 #[st'] s₁ -> st'.bare = true -> RelS ω1 ((σ0.put P [.int (p : Nat)]).put Lg evs) -> TapeAt ω1 T P K octets fo ρf -> ρ1 (Str.ofString "value") = some (.list xs) -> ρ1 (Str.ofString "tape") = some (.val (.ref T)) -> ρ1 (Str.ofString "log") = some (.obj Lg) ->
  toldV octets k bg = .list [.str (Str.ofString "done").cps.toList, .list xs, .list evs, .int (p : Nat)] -> wpAny (model prog w) A (execs (tryS.drop 1) env) QF EF s₁ := by
  intro ω1 s₁ ρ1 st' xs p evs lb1 O1 S1 hb R1 H₁ q1 q2 q3 hv
  conv => arg 3; arg 1; whnf
  refine wpAny_execs_cons (told_ret (h2 := .list xs) O1 S1 R1 H₁ q3 q2 (by refine rr (put_ne hPL) ?_; exact put_self) put_self (by decide +kernel) rfl (fun tk => name_ok O1 (S1.toks tk) q1 fun v r => (i_ea tk rfl r)) fun ω5 oL r oR s' l5 R5 hlst hrn hrL S' rv => ?_)
  refine hQF _ _ ⟨.ref r, _, _, σ0, _, rfl, ((lb1.trans (l5.s _)).setNew _ hLgb).setNew _ ((lb1.trans (l5.s _)).none_of hbL hrn), S', R5.shed hlst hrn (fun b xs e => ?_) hLn, rv, hv.symm, rfl, st', hb, rfl⟩
  have b1 : b ≠ P := fun q => by rw [q, hPn] at e; first | exact no_ns e | exact no_sn e | exact no_tf e | exact no_ft e | contradiction | subst e
  have b2 : b ≠ Lg := fun q => by rw [q, hLn] at e; first | exact no_ns e | exact no_sn e | exact no_tf e | exact no_ft e | contradiction | subst e
  (refine rr (put_ne b2) ?_; refine rr (put_ne b1) ?_); exact e
 have hcall : ∀ (i : Nat) (hi : i = 0 ∨ i = 1) (a C I : Addr) (code : Value) (ω1 : Own) (s₁ : Shared) (st : GenState) (init : Option (Addr × List HV)) (Q : Flow -> Shared -> Prop), ω C = none -> ω I = none -> Le ω ω1 -> MS B0 os ω1 #[st] s₁ -> RelS ω1 ((σ0.put P [.int ((0 : Nat) : Int)]).put Lg []) ->
  GenAt prog w B0 os n (genEnv (genSc (genOf i)) [(Str.ofString "tape", cT)] C code builtinsNs env) I T P K octets fo ρf (Str.ofString "tape") a ω1 st k -> (∃ m, ω1 C = some (.ns m)) -> (∃ x0, ω1 I = some (.it (.range x0 (k : Nat)))) -> (∀ b xs, init = some (b, xs) -> xs.length <= 10 /\ Rd ω1 (.list xs) (.ref b)) -> init.map (·.2) = (if bg then some [.str (litS (Str.ofString "begin"))] else none) -> (∀ v s', QF (.ret v) s' -> Q (.ret v) s') ->
  wpAny (model prog w) A (call (.ref a3) ([.ref aS, .ref a] ++ (init.map (fun x => Value.ref x.1)).toList) [])
   (fun v s' => wpAny (model prog w) A (storeName env (Str.ofString "value") v) (fun _ s₂ => wpAny (model prog w) A (execs (tryS.drop 1) env) QF EF s₂) (fun _ _ => False) s')
   (fun e s₂ => wpAny (model prog w) A (noteFrame e env) (fun _ s₂ => wpAny (model prog w) A (setFlight e none) (fun _ s₃ => wpAny (model prog w) A (handleBy e env hdlS) Q EF s₃) EF s₂) EF s₂) s₁ := by
  intro i hi a C I code ω1 s₁ st init Q hCn hIn l1 S1 R1 GA hC hI hin hinit hQ
  have lc := cutNew l1 hCn hIn
  refine o_ea O.loc fun mw hw _ => ?_
  have KsC : Stk (ω1.cut C I) A (env :: l) := Ks.mono lc.w
  have hfree : FreeOk (ω1.cut C I) (genSc (genOf i)) [(Str.ofString "tape", cT)] (rhoG (Str.ofString "tape") T) := free_gen i hi (lc _ _ hT)
  have nrm : ∀ (z : Nat) (xs : List HV), (((σ0.put P [.int ((0 : Nat) : Int)]).put Lg []).put P [.int (z : Nat)]).put Lg xs = (σ0.put P [.int (z : Nat)]).put Lg xs := fun z xs => by
   (refine rr (put_comm (Ne.symm hPL)) ?_; refine rr put_put ?_; exact rr put_put rfl)
  refine wpAny_mono (reduce_ok (n := n) (cenv := genEnv (genSc (genOf i)) [(Str.ofString "tape", cT)] C code builtinsNs env) (I := I) TB hg GF X Γ1 Γ2 GtTx GtTk Gt15 GR G3 hdT hdc hdd (init := init) (p := 0) (lg := []) (GP := GP) Rm KsC S1 R1 GA hC hI (HF.at'.monoW lc.w) (HS.monoW lc.w) hfree (by refine rr (put_ne hPL) ?_; exact put_self) put_self hPL hG (Nat.zero_le _) hGp (Nat.zero_le _) hk hin) (fun v s' q => ?_) (fun e s' q => ?_)
  · obtain ⟨h, ω', σ', gs', l', S', R', rv, r, xs', p', hr, hr1, rfl, rfl, st', hb, rfl⟩ := q
    have lω : Le ω ω' := lc.trans l'
    simp only [nrm, List.nil_append] at R'
    refine store_ok (h := .list xs') (O.mono lω) S' R' (by kernel_rfl) rv fun ω2 s₂ l2 f₂ O2 S2 R₂ => ?_
    have HF2 := (HF.leS (lω.s _) hw).leS l2 (lω _ _ hw)
    refine hend ω2 s₂ _ st' xs' p' (r.2.map evH) ((lb.trans (lω.s _)).trans l2) O2 S2 hb R₂ HF2.at' upd_self (upd_ne (ofS_ne (by decide +kernel)) r4) (upd_ne (ofS_ne (by decide +kernel)) r5) ?_
    unfold toldV
    (refine rl hinit ?_; refine rr hr ?_)
    obtain ⟨ra, rb⟩ := r
    dsimp only at hr1 ⊢
    exact rr hr1 rfl
  · obtain ⟨ae, ω', σ', gs', cls, msg, t, rfl, l', S', R', Fl, hA, hK, st', hb, rfl⟩ := q
    have lω : Le ω ω' := lc.trans l'
    have sub : ∀ (z : Nat) (xs : List HV), ∀ b ys, σ0 b = some ys -> ((σ0.put P [.int (z : Nat)]).put Lg xs) b = some ys := fun z xs b ys e => by
     have b1 : b ≠ P := fun q => by rw [q, hPn] at e; first | exact no_ns e | exact no_sn e | exact no_tf e | exact no_ft e | contradiction | subst e
     have b2 : b ≠ Lg := fun q => by rw [q, hLn] at e; first | exact no_ns e | exact no_sn e | exact no_tf e | exact no_ft e | contradiction | subst e
     (refine rr (put_ne b2) ?_; refine rr (put_ne b1) ?_); exact e
    rcases hK with ⟨r, hr, hc, hr1, hσ⟩ | ⟨hr, hc, hm, hσ⟩
    · simp only [nrm, List.nil_append] at hσ
      subst hσ
      refine told_catch (n := n + 1 + 1 + 1 + 1 + 1 + 1 + 1) TB (σ0 := σ0) (evs := r.2.map evH) (p := octets.length) (ans := toldV octets k bg) Rm (Ks.mono lω.w) hfr (O.mono lω) S' hb R' (lb.trans (lω.s _)) hbL hLgb (HF.leS (lω.s _) hw) Fl hA r5 r4 (by refine rr (put_ne hPL) ?_; exact put_self) put_self (sub _ _) hLn e1 e2 Gts (.inl ⟨hc, ?_⟩) fun v ω'' s'' g1 g2 g3 g4 => ?_
      · unfold toldV
        (refine rl hinit ?_; refine rr hr ?_)
        obtain ⟨ra, rb⟩ := r
        dsimp only at hr1 ⊢
        exact rr hr1 rfl
      · exact hQ v s'' (hQF _ _ ⟨v, _, ω'', σ0, _, rfl, g1, g2, g3, g4, rfl, rfl, st', hb, rfl⟩)
    · subst hσ
      refine told_catch (n := n + 1 + 1 + 1 + 1 + 1 + 1 + 1) TB (σ0 := σ0) (evs := []) (p := 0) (ans := toldV octets k bg) Rm (Ks.mono lω.w) hfr (O.mono lω) S' hb R' (lb.trans (lω.s _)) hbL hLgb (HF.leS (lω.s _) hw) Fl hA r5 r4 (by refine rr (put_ne hPL) ?_; exact put_self) put_self (sub _ _) hLn e1 e2 Gts (.inr ⟨hc, ?_⟩) fun v ω'' s'' g1 g2 g3 g4 => ?_
      · unfold toldV
        (refine rl hinit ?_; refine rr hr ?_; exact rr hm rfl)
      · exact hQ v s'' (hQF _ _ ⟨v, _, ω'', σ0, _, rfl, g1, g2, g3, g4, rfl, rfl, st', hb, rfl⟩)
 have hf0 : ∀ (i : Nat), i = 0 ∨ i = 1 -> (genSc (genOf i)).isCoroutine = false /\ (∀ y ∈ (genSc (genOf i)).names, y.2 ≠ .cell) /\ (genSc (genOf i)).names.lookup (".0" : Str) = some NameKind.local /\ (genSc (genOf i)).kind = .function := by
  intro i hi
  have hn := gen_names i hi
  refine (i_aaa (by rcases hi with rfl | rfl <;> kernel_rfl) (by rw [hn]; decide +kernel) (by rw [hn]; decide +kernel) (by rcases hi with rfl | rfl <;> kernel_rfl))
 conv => arg 3; arg 1; whnf
 refine wpAny_execs_cons (wpAny_Try_except (gen_QE fun Q1 E1 hQ1 hE1 => ?_))
 refine wpAny_execs_cons (gen_Q fun Q2 hQ2 => wpAny_If (wpAny_isTrue_value (name_ok (h := .bool bg) O S r1 fun v r => ?_)))
 simp only [Rd] at r
 subst r
 refine wpAny_truthy_bool ?_
 clear hend; induction bg with
 | true =>
   refine rr (if_pos rfl) ?_
   conv => arg 3; arg 1; whnf
   refine wpAny_execs_cons (gen_Q fun Q3 hQ3 => wpAny_Assign_Name (wpAny_Call_ofName (gname_ok (h := .val (.ref a3)) TB O S (by walk_at "nm") fun u hu => ?_)) (swaps_plain rfl))
   cases hu
   refine rr (plain_back _ _ env rfl) ?_
   refine callWith_function (o := o3) (fd := fd3) (args_any (plain_any _ env) (spliced_cons (name_ok O S r3 fun v r => ?_)))
   simp only [Rd] at r
   subst r
   refine spliced_cons ?_
   obtain ⟨x1, x2, x3, x4⟩ := hf0 0 (.inl rfl)
   refine gen_make (os := os) (ω := ω) (n := n + 1 + 1 + 1 + 1 + 1 + 1 + 1) (k := k) (scope := genSc (genOf 0)) (σ := (σ0.put P [.int ((0 : Nat) : Int)]).put Lg []) TB TM Rm CB.hd hcps CB.ne (told_apart fd22.qualname) (by refine rr hqual ?_; exact .tail _ (.head _)) hJ (hcode.trans CB.code) O.glob x1 (clos_gen 0 (.inl rfl) hcT) x2 x3 x4 (fun _ => rfl) ?_ fun a C I code ω1 s₁ hCn hIn hCI l1 S1 R1 J1 hC hI hob han => ?_
   · refine okE (mu := fun _ => false) (Γ := fun _ => none) TB (spx_none (n := n + 1 + 1 + 1 + 1 + 1 + 1 + 1)) _ A _ ω s _ _ env ρ _ Rm O S R ?_
     refine q_call rfl r6 (by walk_at "nm") rfl ?_
     refine q_es ?_
     refine q_loc r2 ?_
     refine q_es0 ?_
     exact k_range1 (by omega) ⟨rfl, rfl⟩
   · have GE := gen_envs (T := T) (C := C) (code := code) (cT := cT) hg 0 (.inl rfl) O.glob Gt15
     refine spliced_cons ?_
     refine e_at (mu := fun _ => false) (Γ := fun _ => none) (x := .list [.str (litS (Str.ofString "begin"))]) (t := (σ0.put P [.int ((0 : Nat) : Int)]).put Lg []) TB (spx_none (n := n + 1 + 1 + 1 + 1 + 1 + 1 + 1)) Rm (O.mono l1) S1 R1 ?_ fun ω2 v₂ s₂ l2 S2 R₂ rr2 => ?_
     · intro K hK
       repeat' walk_at "ev"
       exact hK
     have rr := rr2
     simp only [Rd] at rr
     (refine o_aeeee rr fun _ b _ _ _ z3 => ?_; clear rr; refine o_a z3 fun z4 _ => ?_; subst z4)
     refine spliced_nil ⟨⟨S2.top ho3 hd3, hcd3⟩, ?_⟩
     refine o_e hC fun mC hC => ?_
     refine o_e hI fun x0 hI => ?_
     refine o_ee hob fun nm qn hob => ?_
     refine wpAny_mono (hcall 0 (.inl rfl) a C I code ω2 s₂ _ (some (b, [.str (litS (Str.ofString "begin"))])) (fun f s' => match f with | Flow.next => wpAny (model prog w) A (execs (tryS.drop 1) env) QF EF s' | f => QF f s') hCn hIn (l1.trans l2) S2 R₂ ⟨(i_ee nm qn (l2.f _ _ hob)), gen_fresh (n := n) TB hg GF GE k, rfl⟩ ⟨mC, l2 _ _ hC⟩ ⟨x0, l2 _ _ hI⟩ (fun b' xs e => ?_) rfl (fun v s' h => h)) (fun v s' q => wpAny_mono q (fun _ s₂ q₂ => ?_) fun _ _ x => x.elim) (fun e s' q => hE1 _ _ q)
     rotate_left
     refine hQ3 _ _ ?_
     refine wpAny_execs_nil ?_
     refine hQ2 _ _ ?_
     refine wpAny_execs_nil ?_
     refine hQ1 _ _ ?_
     refine wpAny_execs_nil ?_
     exact q₂
     · cases e
       exact ⟨by decide, rr2⟩
 | false =>
   refine rr (if_neg (by decide)) ?_
   conv => arg 3; arg 1; whnf
   refine wpAny_execs_cons (gen_Q fun Q3 hQ3 => wpAny_Assign_Name (wpAny_Call_ofName (gname_ok (h := .val (.ref a3)) TB O S (by walk_at "nm") fun u hu => ?_)) (swaps_plain rfl))
   cases hu
   refine rr (plain_back _ _ env rfl) ?_
   refine callWith_function (o := o3) (fd := fd3) (args_any (plain_any _ env) (spliced_cons (name_ok O S r3 fun v r => ?_)))
   simp only [Rd] at r
   subst r
   refine spliced_cons ?_
   obtain ⟨x1, x2, x3, x4⟩ := hf0 1 (.inr rfl)
   refine gen_make (os := os) (ω := ω) (n := n + 1 + 1 + 1 + 1 + 1 + 1 + 1) (k := k) (scope := genSc (genOf 1)) (σ := (σ0.put P [.int ((0 : Nat) : Int)]).put Lg []) TB TM Rm CB.hd hcps CB.ne (told_apart fd22.qualname) (by refine rr hqual ?_; exact .tail _ (.tail _ (.head _))) hJ (hcode.trans CB.code) O.glob x1 (clos_gen 1 (.inr rfl) hcT) x2 x3 x4 (fun _ => rfl) ?_ fun a C I code ω1 s₁ hCn hIn hCI l1 S1 R1 J1 hC hI hob han => ?_
   · refine okE (mu := fun _ => false) (Γ := fun _ => none) TB (spx_none (n := n + 1 + 1 + 1 + 1 + 1 + 1 + 1)) _ A _ ω s _ _ env ρ _ Rm O S R ?_
     refine q_call rfl r6 (by walk_at "nm") rfl ?_
     refine q_es ?_
     refine q_loc r2 ?_
     refine q_es0 ?_
     exact k_range1 (by omega) ⟨rfl, rfl⟩
   · have GE := gen_envs (T := T) (C := C) (code := code) (cT := cT) hg 1 (.inr rfl) O.glob Gt15
     refine spliced_nil ⟨⟨S1.top ho3 hd3, hcd3⟩, ?_⟩
     refine wpAny_mono (hcall 1 (.inr rfl) a C I code ω1 s₁ _ none (fun f s' => match f with | Flow.next => wpAny (model prog w) A (execs (tryS.drop 1) env) QF EF s' | f => QF f s') hCn hIn l1 S1 R1 ⟨hob, gen_fresh (n := n) TB hg GF GE k, rfl⟩ hC hI (fun b' xs e => by exact no_ns e) rfl (fun v s' h => h)) (fun v s' q => wpAny_mono q (fun _ s₂ q₂ => ?_) fun _ _ x => x.elim) (fun e s' q => hE1 _ _ q)
     refine hQ3 _ _ ?_
     refine wpAny_execs_nil ?_
     refine hQ2 _ _ ?_
     refine wpAny_execs_nil ?_
     refine hQ1 _ _ ?_
     refine wpAny_execs_nil ?_
     exact q₂
end
end
section
section
variable {prog : Program} {w : World} {B0 : Heap} {os : OsState} {mg mb : Str -> Option Value} {n : Nat} {gt : Loc}
theorem Stk.set_other {ω : Own} {A : Around} {l : List Env} (K : Stk ω A l) {c : Addr} {m₀ : OM} (h : ω c = some m₀) (hn : ∀ m, m₀ ≠ .ns m) (x : OM) : Stk (ω.set c x) A l :=
 ⟨K.frames, fun e he => by
  refine o_aeea (K.ok e he) fun k L m h1 h2 => ?_
  exact (i_aeea k L m h1 (by refine rr (Own.set_ne _ _ (fun q => by rw [q, h] at h2; (replace h2 := Option.some.inj h2; clear h; subst h2); exact hn m rfl)) ?_; exact h2))⟩
theorem told_ok (TB : TopB B0 mg mb) (TM : TopM B0 mg) (hg : GtOk mg mb gt) {a17 c17 P17 a3 dT a15 aT aK miss a22 c22 P22 : Addr} {fd17 fd3 fd22 : FuncData} (TG : ToldG B0 gt a17 c17 P17 a3 dT a15 aT aK miss fd17 fd3) {Γ : Spx} (X : ∀ gs, SpxOk prog w B0 os gs Γ (n + 1 + 1 + 1)) (Γ1 : Γ (.ref aT) = some spTx) (Γ2 : Γ (.ref aK) = some spTaken)
 (F22 : FnK B0 a22 (stm 22) fd22 .none) (CB : CodeB B0 fd22 c22 P22) (h17 : P17 ≠ P22)
 {A : Around} {l : List Env} {ω : Own} {s : Shared} {σ : St} {octets : List UInt8} {k : Nat} {bg : Bool} {v : Value} {t : Tok} {GP : Nat -> Prop}
 (Rm : Room (n + 1 + 1 + 1 + 1 + 1 + 1 + 1 + 1) A) (Ks : Stk ω A l) (S : MS B0 os ω #[] s) (R : RelS ω σ) (hI17 : TabI ω P17 (tapeQs fd17.qualname)) (hI22 : TabI ω P22 (toldQs fd22.qualname)) (hlen : octets.length <= 1000) (rv : Rd ω (.bytes octets) v) (hk : k <= 100)
 (hG : ∀ p t p', GP p -> rdF octets p = some (t, p') -> okTx t /\ GP p') (hGp : GP 0) :
 wpAny (model prog w) A (call (.ref a22) [v, .int (k : Nat) t, .bool bg] []) (PostG B0 os ω fun h _ σ' gs' => h = toldV octets k bg /\ σ' = σ /\ ∃ st', st'.bare = true /\ gs' = #[st']) (RaisG B0 os ω fun _ _ _ _ _ => False) s := by
 have ln := line_is
 refine call_c (n := n + 1 + 1 + 1 + 1 + 1 + 1 + 1) (ps := [tN "octets", tN "turns", tN "begins"]) (hs := [.bytes octets, .int (k : Nat), .bool bg]) TB (cellD F22.body F22.scope F22.glob F22.blt F22.clo (by decide +kernel) (fun vals hv => mod22 vals hv fd22 F22.params F22.kdflt F22.dflt) p22) F22.at' hg (fun _ _ _ _ _ _ _ q => q) (fun _ _ _ _ _ _ q => q) Rm Ks S R (by
  exact (i_eeaa v _ rfl rv ⟨_, _, rfl, by simp only [Rd]; exact ⟨t, rfl⟩, _, _, rfl, by simp only [Rd], rfl⟩)) rfl ?_
 intro env A' ωb ω1 s₁ hfr hsc hcode hqual O CO Rm' Ks' S1 R1 l1 hbL hbc other other1
 have O := F22.scope ▸ O
 rw [bindH_eq] at O
 have n1 : bindH [tN "octets", tN "turns", tN "begins"] [.bytes octets, .int (k : Nat), .bool bg] = upd (upd (upd (fun _ => none) (tN "begins") (.bool bg)) (tN "turns") (.int (k : Nat))) (tN "octets") (.bytes octets) := rfl
 have O := n1 ▸ O
 have hI1 : TabI ω1 P17 (tapeQs fd17.qualname) := by refine o_e hI17 fun ps h => ?_; exact ⟨ps, other1 _ _ h (fun _ q => by first | exact no_ns q | exact no_sn q | exact no_tf q | exact no_ft q | contradiction | subst q)⟩
 have hJ1 : TabI ω1 P22 (toldQs fd22.qualname) := by refine o_e hI22 fun ps h => ?_; exact ⟨ps, other1 _ _ h (fun _ q => by first | exact no_ns q | exact no_sn q | exact no_tf q | exact no_ft q | contradiction | subst q)⟩
 have ktp : env.kindOf (Str.ofString "tape") = some .cell := by
  show env.scope.names.lookup _ = _
  (refine rr hsc ?_; refine rr F22.scope ?_); decide +kernel
 have klg : env.kindOf (Str.ofString "log") = some .cell := by
  show env.scope.names.lookup _ = _
  (refine rr hsc ?_; refine rr F22.scope ?_); decide +kernel
 have kst : env.kindOf (Str.ofString "step") = some .local := by
  show env.scope.names.lookup _ = _
  (refine rr hsc ?_; refine rr F22.scope ?_); decide +kernel
 refine o_ae (O.cl (Str.ofString "tape") (by kernel_rfl)) fun _ cT hcT => ?_
 refine o_ae (O.cl (Str.ofString "log") (by kernel_rfl)) fun _ cL hcL => ?_
 have hneTL : cT ≠ cL := fun q => by
  subst q
  exact absurd (CO.2 _ _ _ hcT hcL) (ofS_ne (by decide +kernel))
 obtain ⟨G17, GC17, Gt17, G3, GdT, Gt3, GR, GF, Gt15, GtTx, GtTk, Gtr, Gts⟩ := TG
 have gT := GF.gt'
 have e1 := gT.verr
 have e2 := GR.terr
 refine o_eaa G17.at'.at' fun o17 ho17 hd17 hcd17 => ?_
 unfold tN at O Gt17 Gt3 Gt15 Gtr Gts e1 e2
 refine gen_QE fun Q E hQ hE => ?_
 conv => arg 3; arg 1; whnf
 refine cons_next fun Q₁ n₁ => (wpAny_Assign_Name ?_ (swaps_plain rfl))
 refine call_name_at (mu := fun _ => false) (Γ := fun _ => none) (n := n + 1 + 1 + 1 + 1 + 1 + 1 + 1) (xs := [.bytes octets, .int 0]) (t := σ) (o := o17) (fd := fd17) TB Rm' O S1 R1 (fa := a17) ?_ rfl (okEs_cons (okE TB (spx_none (n := n + 1 + 1 + 1 + 1 + 1 + 1 + 1)) _) (okEs_cons (okE TB (spx_none (n := n + 1 + 1 + 1 + 1 + 1 + 1 + 1)) _) okEs_nil)) ?_ ?_
 · walk_at "nm"
 · intro K hK
   repeat' walk_at "ev"
   exact hK
 intro ω2 vs s₂ l2 S2 R₂ r₂
 (refine o_eeaa r₂ fun v₁ _ z26 rb z27 => ?_; clear r₂; subst z26; refine o_eeaa z27 fun _ _ z28 z29 z30 => ?_; clear z27; subst z28; obtain ⟨t0, rfl⟩ := z29; refine rr z30 ?_)
 refine o_ea O.loc fun m₀ hL _ => ?_
 refine ⟨⟨S2.top ho17 hd17, hcd17⟩, call_then hE (tape_ok (n := n + 1 + 1 + 1 + 1 + 1 + 1) TB TM hg gT G17 GC17 (k := 0) Rm' (Ks'.mono l2.w) S2 R₂ (hI1.le l2) hlen (by exact rb)) (l2 _ _ hL) (l1.trans (l2.s _)) ?_ (fun _ _ _ _ _ _ h => h.elim)⟩
 intro v₃ h ω3 σ3 gs3 s₃ l₃ S₃ R₃ r₃ k₃
 (refine o_eeeee k₃ fun T P K fo ρf z50 => ?_; clear k₃; refine o_aaaaaa z50 fun z51 HT hPn z52 hI3 z53 z54 => ?_; clear z50; subst z51; subst z52; subst z53; refine o_a z54 fun hTD hTC => ?_)
 simp only [Rd] at r₃
 subst r₃
 have l13 := l2.trans l₃
 have hL3 := l13 _ _ hL
 have HF3 : TapeF env.locals ω3 T P K octets fo ρf := by
  (refine o_eeee hTD fun D m fd sl z69 => ?_; refine o_a z69 fun d1 d2 => ?_)
  exact ⟨HT, D, m, fd, sl, fun q => d1 m₀ (by refine rr q ?_; exact l2 _ _ hL), d2⟩
 refine store_cell_ok (h := .val (.ref T)) (O.mono l13) (CO.monoW l13.w) S₃ R₃ ktp hcT ⟨ofS_ne (by decide +kernel), ofS_ne (by decide +kernel)⟩ (by dsimp only [Rd]) fun s₄ v0 hv0 f₄ O4 CO4 S4 R4 => ?_
 obtain ⟨w₂, hw2⟩ := (CO.monoW l2.w).1 _ _ hcT
 obtain ⟨u₂, hu₂⟩ := (CO.monoW l2.w).1 _ _ hcL
 have HF4 := HF3.set_cell hv0 (fun x q => hTC x cT _ q hw2) (some (.ref T))
 have l4b : LeS env.locals ωb (ω3.set cT (.cell (some (.ref T)))) := (l1.trans (l13.s _)).setNew _ (hbc _ _ hcT).1
 have hJ4 : TabI (ω3.set cT (.cell (some (.ref T)))) P22 (toldQs fd22.qualname) := by
  refine o_e (hJ1.le l13) fun ps h => ?_
  exact ⟨ps, by rw [Own.set_ne _ _ (fun q => by simp only [q, hv0] at h; cases h)]; exact h⟩
 have hT4 : (ω3.set cT (.cell (some (.ref T)))) cT = some (.cell (some (.ref T))) := Own.set_self ..
 have hL4 : (ω3.set cT (.cell (some (.ref T)))) env.locals = some (.ns m₀) := by refine rr (Own.set_ne _ _ (Ne.symm (hbc _ _ hcT).2)) ?_; exact hL3
 have K4 := (Ks'.mono l13.w).set_other hv0 (fun _ q => by first | exact no_ns q | exact no_sn q | exact no_tf q | exact no_ft q | contradiction | subst q) (.cell (some (.ref T)))
 revert O4 CO4 S4 R4 HF4 l4b hJ4 hT4 hL4 K4
 generalize ω3.set cT (.cell (some (.ref T))) = ω4
 intro O4 CO4 S4 R4 HF4 l4b hJ4 hT4 hL4 K4
 refine n₁ _ ?_
 conv => arg 3; arg 1; whnf
 refine cons_next fun Q₁ n₁ => (wpAny_Assign_Name (wpAny_List ?_) (swaps_plain rfl))
 refine rr (plain_back _ [] env rfl) ?_
 refine spliced_nil ⟨Nat.zero_le _, ?_⟩
 have hu := S4.unused
 have hLg : (σ.put P [.int ((0 : Nat) : Int)]) s₄.heap.objs.size = none := by
  induction q : (σ.put P [.int ((0 : Nat) : Int)]) s₄.heap.objs.size with
  | none => rfl
  | some ys => refine o_aea (R4 _ _ q) fun _ ws h3 _ => ?_; have h3 := hu ▸ h3; first | exact no_ns h3 | exact no_sn h3 | exact no_tf h3 | exact no_ft h3 | contradiction | subst h3
 have S5 := S4.push { cls := .type "list", data := .seq #[] } (m := .lst []) ⟨_, Heap.get?_push_size _ rfl⟩
 have R5 := R4.putNew (vs := []) (xs := []) hu (Nat.zero_le _) (by dsimp only [RdL])
 have l5 := Le.new (OM.lst []) hu
 have hLgb : ωb s₄.heap.objs.size = none := l4b.none_of hbL hu
 revert hLg S5 R5 l5 hLgb
 generalize s₄.heap.objs.size = Lg
 intro hLg S5 R5 l5 hLgb
 generalize ω4.set Lg (.lst []) = ω5 at S5 R5 l5
 have hPL : P ≠ Lg := fun q => by simp only [← q, put_self] at hLg; first | exact no_ns hLg | exact no_sn hLg | exact no_tf hLg | exact no_ft hLg | contradiction | subst hLg
 have HF5 := HF4.leS (l5.s _) hL4
 refine store_cell_ok (h := .obj Lg) (O4.mono l5) (CO4.monoW l5.w) S5 R5 klg hcL ⟨ofS_ne (by decide +kernel), ofS_ne (by decide +kernel)⟩ (by dsimp only [Rd]) fun s6 v₁ hv1 f₆ O6 CO6 S6 R6 => ?_
 have HF6 := HF5.set_cell hv1 (fun x q => hTC x cL _ q hu₂) (some (.ref Lg))
 have l6b : LeS env.locals ωb (ω5.set cL (.cell (some (.ref Lg)))) := (l4b.trans (l5.s _)).setNew _ (hbc _ _ hcL).1
 have hJ6 : TabI (ω5.set cL (.cell (some (.ref Lg)))) P22 (toldQs fd22.qualname) := by
  refine o_e (hJ4.le l5) fun ps h => ?_
  exact ⟨ps, by rw [Own.set_ne _ _ (fun q => by simp only [q, hv1] at h; cases h)]; exact h⟩
 have hT6 : (ω5.set cL (.cell (some (.ref Lg)))) cT = some (.cell (some (.ref T))) := by refine rr (Own.set_ne _ _ hneTL) ?_; exact l5 _ _ hT4
 have hG6 : (ω5.set cL (.cell (some (.ref Lg)))) cL = some (.cell (some (.ref Lg))) := Own.set_self ..
 have hL6 : (ω5.set cL (.cell (some (.ref Lg)))) env.locals = some (.ns m₀) := by refine rr (Own.set_ne _ _ (Ne.symm (hbc _ _ hcL).2)) ?_; exact l5 _ _ hL4
 have K6 := (K4.mono l5.w).set_other hv1 (fun _ q => by contradiction) (.cell (some (.ref Lg)))
 revert O6 CO6 S6 R6 HF6 l6b hJ6 hT6 hG6 hL6 K6
 generalize ω5.set cL (.cell (some (.ref Lg))) = ω6
 intro O6 CO6 S6 R6 HF6 l6b hJ6 hT6 hG6 hL6 K6
 refine n₁ _ ?_
 conv => arg 3; arg 1; whnf
 have hqn : qualnameIn env (Str.ofString "step") (Str.ofString "step") = (fd22.qualname ++ ".<locals>.") ++ "step" := by
  unfold qualnameIn
  (refine rr kst ?_; refine rr hqual ?_); rfl
 refine o_e CB.tab fun cps hcps => ?_
 refine wpAny_execs_cons (nestDef_K rfl rfl rfl ?_)
 refine mk_def TB TM S6 CB.hd hcps CB.ne (told_apart fd22.qualname) (by refine rr hqn ?_; exact .head _) hJ6 (clos_step hcL hcT) O6.glob (hcode.trans CB.code) fun aS ctv doc pm cv ω7 s7 N7 hcv => ?_
 refine o_ea N7.abs fun fs hfs N7 => ?_
 have hsh : ∃ qual doc pm cv ctv cl, fs = fnX "step" qual (argsOf stepS) (bodyOf stepS) (scopeOf stepS) cl .none .none doc pm none cv ctv := (i_eeee _ _ _ _ ⟨_, _, hfs⟩)
 have hcl : fs.closure = [(Str.ofString "tape", cT), (Str.ofString "log", cL)] := by exact rr hfs rfl
 have hcd : CodeOk ω7 fs.code fs.qualname := by refine rr hfs ?_; exact hcv
 have hscp : fs.scope = scopeOf stepS := by refine rr hfs ?_; rfl
 clear hfs hcv
 have hPl : ∀ vs, ω6 P22 ≠ some (.lst vs) := fun vs q => by refine o_e hJ6 fun ps h => ?_; rw [h] at q; exact absurd q nofun
 have R7 := N7.rel hPl R6
 have S8 := N7.ms.turn (m := .fz { cls := .type "function", data := .func fs }) N7.at' rfl (show s7.heap.get? aS = some _ from N7.ms.hold _ _ N7.at')
 have w8 := LeW.set (.fz { cls := .type "function", data := .func fs }) N7.at' rfl
 have R8 := R7.set (.fz { cls := .type "function", data := .func fs }) N7.at' (fun _ q => by contradiction) (fun _ q => by contradiction)
 have O8 := (O6.mono N7.le).monoW w8
 have l8b := (l6b.trans (N7.le.s _)).setNew (.fz { cls := .type "function", data := .func fs }) (l6b.none_of hbL N7.new)
 have haL : aS ≠ env.locals := fun q => by have := N7.new; rw [q, hL6] at this; exact no_sn this
 have hJ8 : TabI (ω7.set aS (.fz { cls := .type "function", data := .func fs })) P22 (toldQs fd22.qualname) := by
  refine o_e N7.tab fun ps h => ?_
  exact ⟨ps, by refine rr (Own.set_ne _ _ (fun q => by rw [q, N7.at'] at h; exact absurd h nofun)) ?_; exact h⟩
 have hS8 := Own.set_self ω7 aS (.fz { cls := .type "function", data := .func fs })
 have hT8 := w8 _ _ (N7.le _ _ hT6) rfl
 have hG8 := w8 _ _ (N7.le _ _ hG6) rfl
 have hL8 := w8 _ _ (N7.le _ _ hL6) rfl
 have hcd8 := hcd.monoF w8.f
 have HF7 := HF6.leS (N7.le.s _) hL6
 have HF8 : TapeF env.locals (ω7.set aS (.fz { cls := .type "function", data := .func fs })) T P K octets fo ρf := by
  obtain ⟨h1, D, m, fd, sl, d1, d2, d3, d4⟩ := HF7
  exact ⟨h1.monoW w8, D, m, fd, sl, d1, w8 _ _ d2 rfl, w8 _ _ d3 rfl, d4⟩
 revert S8 R8 O8 l8b hJ8 hS8 hT8 hG8 hL8 hcd8 HF8 w8
 generalize ω7.set aS (.fz { cls := .type "function", data := .func fs }) = ω8
 intro S8 w8 R8 O8 l8b hJ8 hS8 hT8 hG8 hL8 hcd8 HF8
 refine store_ok (h := .val (.ref aS)) O8 S8 R8 (by kernel_rfl) (by dsimp only [Rd]) fun ω9 s9 l9 f₉ O9 S9 R9 => ?_
 have HF9 := HF8.leS l9 hL8
 have HS9 : StepAt ω9 aS T Lg fs := by
  refine ⟨hsh, f₉ _ _ hS8, hcd8.monoF f₉, ?_⟩
  (refine rr hscp ?_; refine rr hcl ?_)
  exact free_step (l9.w hG8 rfl (fun _ q => by contradiction) hL8) (l9.w hT8 rfl (fun _ q => by contradiction) hL8)
 have hT9 := l9.w hT8 rfl (fun _ q => by contradiction) hL8
 have hJ9 := hJ8.leS l9 hL8
 have l9b := l8b.trans l9
 refine o_ea O9.loc fun m9 hL9 _ => ?_
 have Ks9 : Stk ω9 A' (env :: l) := ((K6.mono N7.le.w).mono w8).step l9 hL9
 have hσP : σ Lg = none := by rw [put_ne (Ne.symm hPL)] at hLg; exact hLg
 refine wpAny_mono (told_try (n := n) (a22 := a22) TB TM hg ⟨G17, GC17, Gt17, G3, GdT, Gt3, GR, GF, Gt15, GtTx, GtTk, Gtr, Gts⟩ X Γ1 Γ2 CB (GP := GP) Rm' Ks9 hfr hcode hqual hcT O9 S9 R9 l9b hbL hLgb hPn hσP hPL HF9 HS9 hT9 hJ9 (by walk_at "nm") (by walk_at "nm") (by walk_at "nm") (by walk_at "nm") (by walk_at "nm") (by walk_at "nm") hk hG hGp) (fun _ _ h => hQ _ _ h) fun _ _ h => hE _ _ h
end
end
set_option maxRecDepth 4000
section
section
variable {prog : Program} {w : World} {B0 : Heap} {os : OsState} {gs : Array GenState} {mg mb : Str -> Option Value} {mu : Pos -> Bool} {Γ : Spx} {n : Nat}
theorem arm_AS {elt iter : Expr} {t y : Str} {tp p py sp : Pos} {Q : Flow -> Shared -> Prop} {sc : Scope} {ifs : List Expr} {A : Around} {E : Value -> Shared -> Prop} {ω : Own} {s : Shared} {σ : St} {K : KV} {env : Env} {ρ : Loc} {G : GC} (tst : Tst)
 (hi : OkE prog w B0 os gs mg mb mu Γ n iter) (he : OkE prog w B0 os gs mg mb mu Γ n elt)
 (ht : ∀ (E : Value -> Shared -> Prop) (ω : Own) (s : Shared) (σ : St) (K : Bool -> St -> Prop) (env : Env) (x : HV), EnvOk mg mb env ω (upd (restr sc ρ) t x) (restrG sc G) -> MS B0 os ω gs s -> RelS ω σ -> tst x σ K ->
  wpAny (model prog w) A (forIn ifs true fun c r => if r = true then do let ok ← isTrue c env (eval c env); pure (ForInStep.yield ok) else pure (ForInStep.yield r)) (PostB B0 os gs ω K) E s)
 (hsw : swapsWith (.ListComp elt [⟨.Name t tp, iter, ifs, 0⟩] sc p) (some (.Name y py)) sp.line env = pure true) (hny : nmB G y = true)
 (Rm : Room n A) (O : EnvOk mg mb env ω ρ G) (S : MS B0 os ω gs s) (R : RelS ω σ) (hsc : scB sc t G.c = true) (hib : ∀ x, foldedSetIterable iter env x = pure x)
 (H : evE mu Γ iter ρ G σ fun it σ1 => ∃ xs, itemsH it = some xs /\ compL tst (fun x σ K => evE mu Γ elt (upd (restr sc ρ) t x) (restrG sc G) σ K) [] xs σ1 K)
 (HQ : ∀ ω' s' ha σ', LeS env.locals ω ω' -> EnvOk mg mb env ω' (upd ρ y (.list ha)) G -> MS B0 os ω' gs s' -> RelS ω' σ' -> K (.list ha) σ' -> Q .next s') :
 wpAny (model prog w) A (exec (.Assign [.Name y py] (.ListComp elt [⟨.Name t tp, iter, ifs, 0⟩] sc p) sp) env) Q E s := by
 have C := scB_ok hsc
 refine rr (exec_Assign_Name_used _ _ _ _ hsw) ?_
 refine wpAny_bind (wpAny_standAt (wpAny_bind ?_))
 refine wpAny_bind (wpAny_mono (wpAny_comprehension_free (use := some (assign (.Name y py) env)) (Q := fun _ s' => Q .next s') (g := ⟨.Name t tp, iter, ifs, 0⟩) (gs := []) rfl hib (closure_is fun x hx e => (O.cl x.1 (C.free x hx e)).2) C.kind C.names ?_) (fun _ s' hq => wpAny_pure (wpAny_pure hq)) fun _ _ e => e)
 refine comp_all tst (compPost _ _ _ _ _) hi he ht Rm O S R hsc H ?_
 clear H ht hi he S R hsw hib
 rintro ω1 acc L s' ⟨ω', σ', ha, vs, m, l1, n1, n2, a2, l2, S', R', e3', e4, e5, e6', HK⟩
 refine o_e (S'.hold _ _ e3') fun j hj => ?_
 have S3 := S'.turn e3' rfl (m := .fz { cls := .type "list", data := .seq vs.toArray j }) hj
 have f3 : LeF ω' (ω'.set acc (.fz { cls := .type "list", data := .seq vs.toArray j })) := LeF.set _ e3' (fun _ q => by contradiction)
 have l3 := l2.setNew (.fz { cls := .type "list", data := .seq vs.toArray j }) n1
 have R3 := R'.set (.fz { cls := .type "list", data := .seq vs.toArray j }) e3' (fun _ q => by contradiction) (fun _ q => by contradiction)
 have rl : Rd (ω'.set acc (.fz { cls := .type "list", data := .seq vs.toArray j })) (.list ha) (.ref acc) := by
  exact (i_ae e5 acc ⟨_, vs, j, rfl, Own.set_self .., rfl, rfl, e4.monoF f3⟩)
 have e6'' : (ω'.set acc (.fz { cls := .type "list", data := .seq vs.toArray j })) L = some (.ns m) := by refine rr (Own.set_ne _ _ a2.symm) ?_; exact e6'
 revert S3 l3 R3 rl e6''
 clear f3 hj e4 e3' e6' R' S' l2 e5
 generalize ω'.set acc (.fz { cls := .type "list", data := .seq vs.toArray j }) = ω2
 intro S3 l3 R3 rl e6
 have hLE : L ≠ env.locals := fun q => by refine o_ea (O.mono l1).loc fun mm hm _ => ?_; rw [← q, n2] at hm; exact no_ns hm
 refine wpAny_assign_Name (store_ok (h := .list ha) ((O.mono l1).mono l3) S3 R3 hny rl fun ω5 s5 l5 f₅ O5 S5 R5 => ?_)
 have e7 : ω5 L = some (.ns m) := l5 _ _ hLE e6
 refine (i_ea m (S5.hold _ _ e7) (fun h' hs' => ?_))
 have w6 : ∀ b mm, ω5 b = some mm -> b ≠ L -> (ω5.del L) b = some mm := fun b mm e hb => by refine rr (Own.del_ne _ hb) ?_; exact e
 refine HQ (ω5.del L) _ ha σ' (((l1.s _).trans (l3.s _)).trans l5 |>.delNew ?_) ?_ (S5.gone e7 rfl hs') (R5.del e7 (fun _ q => by contradiction) (fun _ q => by contradiction)) HK
 · induction q : ω L with
   | none => rfl
   | some mm =>
     have := l1 L mm q
     replace this := n2 ▸ this
     clear q; cases mm <;> first | (obtain ⟨_, z⟩ := this; exact no_ns z) | exact no_ns this
 · have fd : LeF ω5 (ω5.del L) := LeF.del e7 (fun _ q => by contradiction)
   refine { O5 with loc := ?_, cel := fun x h e k => ?_ }
   · refine o_ea O5.loc fun mm h1 h2 => ?_
     exact (i_ea mm (w6 _ _ h1 (Ne.symm hLE)) (fun x h e k => by refine o_ea (h2 x h e k) fun v g1 g2 => ?_; exact (i_ea v g1 (g2.monoF fd))))
   · refine o_eeaa (O5.cel x h e k) fun c v g1 g2 g3 => ?_
     exact (i_eeaa c v g1 (w6 _ _ g2 (fun q => by rw [q, e7] at g2; exact absurd g2 nofun)) (g3.monoF fd))
end
end
section
noncomputable def b8 (n : Nat) : UInt8 := n.toUInt8
noncomputable def rowF (items : List (List Nat)) : List Nat := items.flatMap fun t => t.length :: t
noncomputable def octF (items : List (List Nat)) (e : Nat) : List UInt8 := ((rowF items).take e).map b8
structure At (o : List UInt8) (e p : Nat) (r : List (List Nat)) : Prop where
 drop : o.drop p = ((rowF r).take (e - p)).map b8
 le : p <= e
 len : o.length = e
theorem At.get {o : List UInt8} {e p : Nat} {t : List Nat} {r : List (List Nat)} (h : At o e p (t :: r)) (hp : p < e) : o[p]? = some (b8 t.length) := by
 (refine rl (show (o.drop p)[0]? = o[p]? from by simp) ?_; refine rr h.drop ?_)
 obtain ⟨k, hk⟩ : ∃ k, e - p = k + 1 := ⟨e - p - 1, ar295 hp⟩
 refine rr hk ?_
 rfl
theorem b8_nat {n : Nat} (h : n < 256) : (b8 n).toNat = n := by
 unfold b8; simp; omega
theorem At.step {o : List UInt8} {e p : Nat} {t : List Nat} {r : List (List Nat)} (h : At o e p (t :: r)) (hf : p + 1 + t.length <= e) : (o.drop (p + 1)).take t.length = t.map b8 /\ At o e (p + t.length + 1) r := by
 have h1 : o.drop (p + 1) = ((t ++ rowF r).take (e - (p + 1))).map b8 := by
  have : o.drop (p + 1) = (o.drop p).drop 1 := by exact rr List.drop_drop rfl
  (refine rr this ?_; refine rr h.drop ?_)
  obtain ⟨k, hk⟩ : ∃ k, e - p = k + 1 := ⟨e - p - 1, ar302 hf⟩
  (refine rr hk ?_; refine rr (show e - (p + 1) = k by exact ar301 hk) ?_)
  rfl
 refine ⟨?_, ?_, ar300 hf, h.len⟩
 · (refine rr h1 ?_; refine rl List.map_take ?_; refine rr List.take_take ?_; refine rr (List.take_append_of_le_length (ar299)) ?_)
   exact rr (List.take_of_length_le (ar298 hf)) rfl
 · have : o.drop (p + t.length + 1) = (o.drop (p + 1)).drop t.length := by refine rr List.drop_drop ?_; congr 1; exact ar66
   (refine rr this ?_; refine rr h1 ?_; refine rl List.map_drop ?_; refine rr List.drop_take ?_; refine rr List.drop_left ?_; exact rr (show e - (p + 1) - t.length = e - (p + t.length + 1) by exact ar297) rfl)
theorem rd_full {o : List UInt8} {e p : Nat} {t : List Nat} {r : List (List Nat)} (h : At o e p (t :: r)) (ht : goodT t) (hf : p + 1 + t.length <= e) : rdF o p = some (t, p + t.length + 1) := by
 refine o_a (h.step hf) fun s1 s2 => ?_
 unfold rdF
 refine rr (h.get (ar304 hf)) ?_
 dsimp only
 (refine rr (b8_nat (by have := ht.1; exact ar67 this)) ?_; refine rr (if_pos (by refine rr h.len ?_; exact hf)) ?_; refine rr s1 ?_)
 congr 2
 · refine rr List.map_map ?_
   exact (List.map_congr_left fun c hc => b8_nat (ht.2 c hc).1).trans (List.map_id _)
 · exact ar303
theorem rd_stop {o : List UInt8} {e p : Nat} {r : List (List Nat)} (h : At o e p r) (hr : ∀ t ∈ r, goodT t) (hs : (cutF e r p).1 = []) : rdF o p = none /\ rdW o p = (cutF e r p).2 := by
 induction r using List.casesOn with
 | nil =>
   have hd := h.drop
   have : o.drop p = [] := by refine rr hd ?_; simp [rowF]
   have hlen := congrArg List.length this
   simp only [List.length_drop, List.length_nil] at hlen
   have hp : o[p]? = none := by rw [List.getElem?_eq_none]; exact ar306 hlen
   unfold rdF rdW
   refine hp ▸ ?_
   exact ⟨rfl, rfl⟩
 | cons t r =>
   have hc : cutF e (t :: r) p = if p + 1 + t.length <= e then ((p + t.length + 1) :: (cutF e r (p + t.length + 1)).1, (cutF e r (p + t.length + 1)).2) else ([], if p + 1 <= e then w1 t.length (e - (p + 1)) else w0) := rfl
   rw [hc] at hs ⊢
   by_cases hf : p + 1 + t.length <= e
   · rw [if_pos hf] at hs; contradiction
   · refine rr (if_neg hf) ?_
     by_cases hp : p + 1 <= e
     · have hl : (b8 t.length).toNat = t.length := b8_nat (by have := (hr t (.head _)).1; exact ar67 this)
       unfold rdF rdW
       refine rr (h.get (by assumption)) ?_
       dsimp only
       (refine rr hl ?_; refine rr h.len ?_; refine rr (if_neg hf) ?_; refine rr (if_pos hp) ?_)
       exact ⟨rfl, rfl⟩
     · have hpe : o[p]? = none := by rw [List.getElem?_eq_none]; have := h.len; exact ar305 this hp
       unfold rdF rdW
       (refine rr hpe ?_; refine rr (if_neg hp) ?_)
       exact ⟨rfl, rfl⟩
noncomputable def restT (e : Nat) (r : List (List Nat)) (p : Nat) : List (List Nat) := r.take (cutF e r p).1.length
theorem cut_cons {e p : Nat} {t : List Nat} {r : List (List Nat)} (hf : p + 1 + t.length <= e) : cutF e (t :: r) p = ((p + t.length + 1) :: (cutF e r (p + t.length + 1)).1, (cutF e r (p + t.length + 1)).2) := if_pos hf
theorem cut_stop {e p : Nat} {t : List Nat} {r : List (List Nat)} (hf : ¬ p + 1 + t.length <= e) : (cutF e (t :: r) p).1 = [] := by
 have : cutF e (t :: r) p = ([], if p + 1 <= e then w1 t.length (e - (p + 1)) else w0) := if_neg hf
 exact rr this rfl
theorem restT_cons {e p : Nat} {t : List Nat} {r : List (List Nat)} (hf : p + 1 + t.length <= e) : restT e (t :: r) p = t :: restT e r (p + t.length + 1) := by
 unfold restT; refine rr (cut_cons hf) ?_; rfl
theorem next_cases {o : List UInt8} {e p : Nat} {r : List (List Nat)} (h : At o e p r) (hr : ∀ t ∈ r, goodT t) :
 (restT e r p = [] /\ (cutF e r p).1 = [] /\ rdF o p = none /\ rdW o p = (cutF e r p).2) ∨
 (∃ t r', r = t :: r' /\ restT e r p = t :: restT e r' (p + t.length + 1) /\ (cutF e r p).1 = (p + t.length + 1) :: (cutF e r' (p + t.length + 1)).1 /\ (cutF e r p).2 = (cutF e r' (p + t.length + 1)).2 /\ rdF o p = some (t, p + t.length + 1) /\ At o e (p + t.length + 1) r' /\ goodT t /\ (∀ t ∈ r', goodT t)) := by
 induction r using List.casesOn with
 | nil => exact .inl ⟨rfl, rfl, rd_stop h hr rfl⟩
 | cons t r' =>
  by_cases hf : p + 1 + t.length <= e
  · exact .inr (i_eeaaaa t r' rfl (restT_cons hf) (by exact rr (cut_cons hf) rfl) (by exact rr (cut_cons hf) rfl) (i_aaa (rd_full h (hr t (.head _)) hf) ((h.step hf).2) (hr t (.head _)) (fun x hx => hr x (.tail _ hx))))
  · exact .inl ⟨by unfold restT; refine rr (cut_stop hf) ?_; rfl, cut_stop hf, rd_stop h hr (cut_stop hf)⟩
theorem after_ok {o : List UInt8} {e : Nat} {t : List Nat} : ∀ (fuel : Nat) (nm : List Nat) (p : Nat) (r : List (List Nat)) (c : Nat), At o e p r -> (∀ t ∈ r, goodT t) -> e + 1 <= fuel + p ->
    ((nm :: restT e r p).dropWhile (meant t) = [] /\ afterF o t fuel nm p c = (.inl (cutF e r p).2, ((nm :: restT e r p).takeWhile (meant t)).map fun n => (1, n))) ∨
    (∃ x q r', (nm :: restT e r p).dropWhile (meant t) = x :: restT e r' q /\ At o e q r' /\ (∀ t ∈ r', goodT t) /\ (cutF e r' q).2 = (cutF e r p).2 /\ (p :: (cutF e r p).1)[((nm :: restT e r p).takeWhile (meant t)).length]? = some q /\ (cutF e r p).1.drop ((nm :: restT e r p).takeWhile (meant t)).length = (cutF e r' q).1 /\
      afterF o t fuel nm p c = (.inr (c + ((nm :: restT e r p).takeWhile (meant t)).length, q), (((nm :: restT e r p).takeWhile (meant t)).map fun n => (1, n)) ++ [(2, x)])) := by
  intro xs0
  induction xs0 with
  | zero => 
   exact @fun nm p r c h hr hf => by have := h.le; omega
  | succ k ih => 
   exact @fun nm p r c h hr hf => by
    induction hm : meant t nm with
    | false =>
      refine .inr (i_eeeaaaaa nm p r ?_ h hr rfl ?_ ⟨?_, ?_⟩)
      · (refine rr List.dropWhile_cons ?_; refine rr hm ?_); rfl
      · (refine rr List.takeWhile_cons ?_; refine rr hm ?_); rfl
      · (refine rr List.takeWhile_cons ?_; refine rr hm ?_); rfl
      · dsimp only [afterF]; (refine rr (if_neg (by refine rr hm ?_; decide)) ?_; refine rr List.takeWhile_cons ?_; refine rr hm ?_); rfl
    | true =>
      (refine rr (show (nm :: restT e r p).dropWhile (meant t) = (restT e r p).dropWhile (meant t) from by (refine rr List.dropWhile_cons ?_; refine rr hm ?_); rfl) ?_; refine rr (show (nm :: restT e r p).takeWhile (meant t) = nm :: (restT e r p).takeWhile (meant t) from by (refine rr List.takeWhile_cons ?_; refine rr hm ?_); rfl) ?_)
      refine Or.elim (next_cases h hr) (fun z61 => ?_) fun z62 => ?_
      · refine .inl ⟨by refine rr z61.1 ?_; rfl, ?_⟩
        dsimp only [afterF]
        (refine rr (if_pos hm) ?_; refine rr z61.2.2.1 ?_; refine rr z61.1 ?_; refine rr z61.2.2.2 ?_); rfl
      · obtain ⟨t2, r', n1, n2, n3, n4, n5, n6, n7, n8⟩ := z62; (refine rr (show afterF o t (k + 1) nm p c = ((afterF o t k t2 (p + t2.length + 1) (c + 1)).1, (1, nm) :: (afterF o t k t2 (p + t2.length + 1) (c + 1)).2) from by
          (rw [afterF]; refine rr (if_pos hm) ?_; exact rr n5 rfl)) ?_; refine rr n2 ?_)
        refine Or.elim (ih t2 (p + t2.length + 1) r' (c + 1) n6 n8 (ar307 hf)) (fun z59 => ?_) fun z60 => ?_
        · exact .inl ⟨z59.1, by (refine rr z59.2 ?_; refine rr n4 ?_); rfl⟩
        · (refine o_eeeaaaaa z60 fun x q r3 m1 m2 m3 m4 m5 z63 => ?_; refine o_a z63 fun m6 m7 => ?_); refine .inr (i_eeeaaaaa x q r3 m1 m2 m3 (m4.trans n4.symm) ?_ ⟨?_, ?_⟩)
          · (refine rr n3 ?_; refine rr List.length_cons ?_; refine rr (List.getElem?_cons_succ) ?_); exact m5
          · (refine rr n3 ?_; refine rr List.length_cons ?_; refine rr List.drop_succ_cons ?_); exact m6
          · (refine rr m7 ?_; refine rr List.length_cons ?_; refine rr List.map_cons ?_)
            simp only [List.cons_append]
            congr 3
            exact ar26
noncomputable def ansF (o : List UInt8) (e : Nat) (lg : List HV) (a : (List Nat ⊕ List HV × Nat) × List Ev) : HV := match a.1 with
 | .inl m => errV m e (lg ++ a.2.map evH)
 | .inr (ys, q) => .list [.str (litS (Str.ofString "done")), .list ys, .list (lg ++ a.2.map evH), .int ((q : Nat) : Int)]
theorem fold_ok {o : List UInt8} {e : Nat} {ends : List Nat} {W : List Nat} : ∀ (k p : Nat) (r : List (List Nat)) (xs lg : List HV) (u : Nat), At o e p r -> (∀ t ∈ r, goodT t) -> ends[u]? = some p -> ends.drop (u + 1) = (cutF e r p).1 -> W = (cutF e r p).2 ->
 ansF o e lg (foldF o k p xs) = runF (finV ends) (errV W e) k (restT e r p) u xs lg := by
 intro xs0
 induction xs0 with
 | zero =>
  exact @fun p r xs lg u h hr h1 h2 hW => by
   unfold foldF ansF runF finV
   simp [h1, List.getD]
 | succ k ih =>
  exact @fun p r xs lg u h hr h1 h2 hW => by
   refine Or.elim (next_cases h hr) (fun z71 => ?_) fun z72 => ?_
   · refine rr z71.1 ?_
     unfold foldF runF
     simp -iota only [z71.2.2.1, z71.2.2.2, hW]
     dsimp only [ansF]
     simp
   · (refine o_eeaaaa z72 fun t r' n1 n2 n3 n4 z169 => ?_; refine o_aaa z169 fun n5 n6 n7 n8 => ?_); refine rr n2 ?_
     refine rr (show foldF o (k + 1) p xs = match (stepF o t (p + t.length + 1)).1 with
      | .inl m => (.inl m, (stepF o t (p + t.length + 1)).2)
      | .inr (c, p'') => ((foldF o k p'' (xs ++ [.int (c : Nat)])).1, (stepF o t (p + t.length + 1)).2 ++ (foldF o k p'' (xs ++ [.int (c : Nat)])).2) from by
      (rw [foldF]; refine rr n5 ?_); try rfl) ?_
     dsimp only [runF]
     refine Or.elim (next_cases n6 n8) (fun z69 => ?_) fun z70 => ?_
     · refine o_aaa z69 fun m1 m2 m3 m4 => ?_; have hs : stepF o t (p + t.length + 1) = (.inl (rdW o (p + t.length + 1)), [(0, t)]) := by unfold stepF; exact rr m3 rfl
       (refine hs ▸ ?_; refine m1 ▸ ?_)
       show ansF o e lg (.inl (rdW o (p + t.length + 1)), [(0, t)]) = errV W e (lg ++ entry 0 t :: [].map (entry 1))
       (refine rr m4 ?_; refine rr hW ?_; refine rr n4 ?_)
       rfl
     · (refine o_eeaaaa z70 fun nm r'' m1 m2 m3 m4 z167 => ?_; refine o_aaa z167 fun m5 m6 m7 m8 => ?_); refine rr m2 ?_
       have hs : stepF o t (p + t.length + 1) = ((afterF o t (o.length + 1) nm (p + t.length + 1 + nm.length + 1) 0).1, (0, t) :: (afterF o t (o.length + 1) nm (p + t.length + 1 + nm.length + 1) 0).2) := by
        unfold stepF; exact rr m5 rfl
       refine Or.elim (after_ok (t := t) (o.length + 1) nm (p + t.length + 1 + nm.length + 1) r'' 0 m6 m8 (by have := m6.len; exact ar310 this)) (fun z67 => ?_) fun z68 => ?_
       · simp only [hs, z67.2, z67.1]
         show ansF o e lg (.inl (cutF e r'' (p + t.length + 1 + nm.length + 1)).2, (0, t) :: ((nm :: restT e r'' (p + t.length + 1 + nm.length + 1)).takeWhile (meant t)).map fun n => (1, n)) = _
         (refine rl m4 ?_; refine rl n4 ?_; refine rl hW ?_)
         dsimp only [ansF]
         simp only [List.map_cons, List.map_map]
         rfl
       · (refine o_eeeaaaaa z68 fun x q r3 q1 q2 q3 q4 q5 z165 => ?_; refine o_a z165 fun q6 q7 => ?_); (refine rr hs ?_; refine rr q7 ?_; refine rr q1 ?_)
         have ih := ih q r3 (xs ++ [.int (((nm :: restT e r'' (p + t.length + 1 + nm.length + 1)).takeWhile (meant t)).length : Nat)]) ((lg ++ entry 0 t :: ((nm :: restT e r'' (p + t.length + 1 + nm.length + 1)).takeWhile (meant t)).map (entry 1)) ++ [entry 2 x]) (u + ((nm :: restT e r'' (p + t.length + 1 + nm.length + 1)).takeWhile (meant t)).length + 2) q2 q3 ?_ ?_ ?_
         · dsimp only
           refine rl ih ?_
           dsimp only [ansF]
           refine rr (Nat.zero_add ..) ?_
           induction (foldF o k q (xs ++ [.int (((nm :: restT e r'' (p + t.length + 1 + nm.length + 1)).takeWhile (meant t)).length : Nat)])).1 with
           | inl m => simp [evH, entry, Function.comp_def] <;> rfl
           | inr y => obtain ⟨ys, z⟩ := y; simp [evH, entry, Function.comp_def] <;> rfl
         · (refine rr (show u + ((nm :: restT e r'' (p + t.length + 1 + nm.length + 1)).takeWhile (meant t)).length + 2 = (u + 1) + (1 + ((nm :: restT e r'' (p + t.length + 1 + nm.length + 1)).takeWhile (meant t)).length) from (ar309)) ?_; refine rl (List.getElem?_drop) ?_; refine rr h2 ?_; refine rr n3 ?_; refine rr m3 ?_; rw [Nat.add_comm 1]; refine rr (List.getElem?_cons_succ) ?_)
           exact q5
         · (refine rr (show u + ((nm :: restT e r'' (p + t.length + 1 + nm.length + 1)).takeWhile (meant t)).length + 2 + 1 = (u + 1) + (((nm :: restT e r'' (p + t.length + 1 + nm.length + 1)).takeWhile (meant t)).length + 2) by exact ar308) ?_; refine rl List.drop_drop ?_; refine rr h2 ?_; refine rr n3 ?_; refine rr m3 ?_)
           exact q6
         · simp only [hW, n4, m4, q4]
end
section
theorem at_first {items : List (List Nat)} {e : Nat} (he : e <= (rowF items).length) : At (octF items e) e 0 items :=
 ⟨by rfl, Nat.zero_le _, by unfold octF; simp only [List.length_map, List.length_take]; exact ar311 he⟩
theorem told_is {o : List UInt8} {e k : Nat} {bg : Bool} (ho : o.length = e) : toldV o k bg = match redF o (if bg then some [.str (litS (Str.ofString "begin"))] else none) k 0 with
 | none => .list [.str (litS (Str.ofString "TypeError")), .str (litS (Str.ofString "reduce() of empty iterable with no initial value")), .list [], .int 0]
 | some a => ansF o e [] a := by
 unfold toldV
 induction redF o (if bg then some [.str (litS (Str.ofString "begin"))] else none) k 0 with
 | none => rfl
 | some a =>
  obtain ⟨a1, a2⟩ := a
  induction a1 with
  | inl m => subst ho; rfl
  | inr y => obtain ⟨ys, q⟩ := y; rfl
theorem told_due {items : List (List Nat)} {e k : Nat} {bg : Bool} (hg : ∀ t ∈ items, goodT t) (he : e <= (rowF items).length) (hne : items.take (cutF e items 0).1.length ≠ []) : toldV (octF items e) k bg = dueV items e k bg := by
 have h := at_first he
 refine rr (told_is h.len) ?_
 dsimp only [dueV]
 induction bg with
 | true =>
   exact fold_ok (ends := 0 :: (cutF e items 0).1) (W := (cutF e items 0).2) k 0 items _ [] 0 h hg rfl rfl rfl
 | false =>
   simp only [Bool.false_eq_true, if_false]
   dsimp only [redF]
   induction k using Nat.casesOn with
   | zero => rfl
   | succ k =>
     have hr : items.take (cutF e items 0).1.length = restT e items 0 := rfl
     simp only [hr] at hne ⊢
     refine Or.elim (next_cases h hg) (fun z446 => ?_) fun z447 => ?_
     · exact absurd z446.1 hne
     · (refine o_eeaaaa z447 fun t r' n1 n2 n3 n4 z454 => ?_; refine o_aaa z454 fun n5 n6 n7 n8 => ?_); (refine rr n2 ?_; refine rr n5 ?_)
       refine fold_ok (ends := 0 :: (cutF e items 0).1) (W := (cutF e items 0).2) k (0 + t.length + 1) r' _ [] 1 n6 n8 ?_ ?_ n4
       · refine rr n3 ?_; rfl
       · refine rr n3 ?_; rfl
noncomputable def GPof (o : List UInt8) (e p : Nat) : Prop := ∃ r, At o e p r /\ ∀ t ∈ r, goodT t
theorem gp_step {o : List UInt8} {e : Nat} : ∀ p t p', GPof o e p -> rdF o p = some (t, p') -> okTx t /\ GPof o e p' := by
 rintro p t p' ⟨r, h, hr⟩ hrd
 rcases next_cases h hr with ⟨n1, n2, n3, n4⟩ | ⟨t₂, r', n1, n2, n3, n4, n5, n6, n7, n8⟩
 · exact no_ns (n3 ▸ hrd)
 · replace hrd := n5 ▸ hrd; cases hrd
   exact (i_aea ⟨Nat.le_trans n7.1 (by decide), n7.2⟩ r' n6 n8)
theorem first_whole {items : List (List Nat)} {e : Nat} (hg : ∀ t ∈ items, goodT t) (h7 : 7 <= items.length) (he : (rowF items).length <= e + 3) : items.take (cutF e items 0).1.length ≠ [] := by
 induction items using List.casesOn with
 | nil => simp at h7
 | cons t r =>
  have hr : (rowF r).length ≥ r.length := by
   clear hg h7 he
   induction r with
   | nil => trivial
   | cons x r ih => simp only [rowF, List.flatMap_cons, List.length_append, List.length_cons] at ih ⊢; exact ar222 ih
  have hl : (rowF (t :: r)).length = t.length + 1 + (rowF r).length := by simp [rowF]; exact ar66
  simp only [List.length_cons] at h7
  refine rr (cut_cons (ar312 h7 hr hl he)) ?_
  simp
end
section
noncomputable def sgn (l : List Nat) : Prop := ∀ c ∈ l, c < 0x110000
theorem sgn_of (s : String) : sgn (litS (Str.ofString s)) := by
 refine rr (Str.ofString_eq_toList ..) ?_
 intro c hc
 (refine o_ea (List.mem_map.mp (by exact hc)) fun d _ z432 => ?_; clear hc; subst z432)
 have := d.valid
 rcases this with h | ⟨_, h⟩
 · have h' : d.toNat < 0xd800 := h
   exact ar335 h'
 · exact h
theorem sgn_app {a b : List Nat} (h1 : sgn a) (h2 : sgn b) : sgn (a ++ b) := fun c hc => by
 rcases List.mem_append.mp hc with h | h
 · exact h1 c h
 · exact h2 c h
theorem sgn_w1 (n l : Nat) : sgn (w1 n l) := sgn_app (sgn_app (sgn_app (sgn_app (sgn_of _) (sgn_of _)) (sgn_of _)) (sgn_of _)) (sgn_of _)
theorem sgn_good {t : List Nat} (h : goodT t) : sgn t := fun c hc => by have := (h.2 c hc).1; exact ar336 this
theorem sgn_cut (e : Nat) : ∀ (items : List (List Nat)) (p : Nat), sgn (cutF e items p).2 := by
 intro xs0
 induction xs0 with
 | nil =>
  exact @fun p => sgn_of _
 | cons t r ih =>
  exact @fun p => by
   simp only [cutF]
   refine ie rfl (fun _ => ?_) fun _ => ?_
   · exact ih _
   · refine ie rfl (fun _ => ?_) fun _ => ?_
     · exact sgn_w1 _ _
     · exact sgn_of _
theorem dat_str {n : Nat} {l : List Nat} (h : sgn l) : datN n (.str l) = true := by
 have : PyData.strOk ⟨l.toArray⟩ = true := by
  simp only [PyData.strOk]
  rw [Array.all_eq_true_iff_forall_mem]
  intro c hc
  have := h c (by simpa using hc)
  simpa using this
 cases n <;> exact this
theorem dat_entry {n : Nat} {k : Int} {t : List Nat} (h : sgn t) : datN (n + 1) (entry k t) = true := by
 unfold entry
 have := dat_str (n := n) h <;> simp_all [datN]
noncomputable def sixD (n : Nat) (xs : List HV) : Prop := ∀ x ∈ xs, datN n x = true
theorem sixD_app {n : Nat} {a b : List HV} (h1 : sixD n a) (h2 : sixD n b) : sixD n (a ++ b) := fun c hc => by
 rcases List.mem_append.mp hc with h | h
 · exact h1 c h
 · exact h2 c h
theorem sixD_one {n : Nat} {a : HV} (h : datN n a = true) : sixD n [a] := fun c hc => by
 rcases List.mem_singleton.mp hc with rfl; exact h
theorem dat_list {n : Nat} {xs : List HV} (h : sixD n xs) : datN (n + 1) (.list xs) = true := by
 exact List.all_eq_true.mpr h
set_option tactic.hygienic true in
theorem dat_run {fin : List HV -> List HV -> Nat -> HV} {err : List HV -> HV} (hf : ∀ vs lg u, sixD 6 vs -> sixD 6 lg -> datN 8 (fin vs lg u) = true) (he : ∀ lg, sixD 6 lg -> datN 8 (err lg) = true) :
 ∀ (k : Nat) (items : List (List Nat)) (u : Nat) (vs lg : List HV), (∀ t ∈ items, sgn t) -> sixD 6 vs -> sixD 6 lg -> datN 8 (runF fin err k items u vs lg) = true
 | 0, items, u, vs, lg, _, h1, h2 => by exact hf _ _ _ h1 h2
 | k + 1, [], u, vs, lg, _, h1, h2 => by exact he _ h2
 | k + 1, p :: r, u, vs, lg, hi, h1, h2 => by
   have hr : ∀ t ∈ r, sgn t := fun t ht => hi t (.tail _ ht)
   have ht : sixD 6 (lg ++ entry 0 p :: (r.takeWhile (meant p)).map (entry 1)) := sixD_app h2 fun x hx => by
    rcases List.mem_cons.mp hx with rfl | hx
    · exact dat_entry (hi p (.head _))
    · (refine o_ea (List.mem_map.mp hx) fun t ht z438 => ?_; refine rl z438 ?_)
      exact dat_entry (hr t (List.takeWhile_subset _ ht))
   dsimp only [runF]
   split
   · exact he _ ht
   · rename_i x r' hd
     have hx : ∀ t ∈ x :: r', sgn t := fun t h => hr t (List.dropWhile_subset _ (hd ▸ h))
     exact dat_run hf he k r' _ _ _ (fun t h => hx t (.tail _ h)) (sixD_app h1 (sixD_one rfl)) (sixD_app ht (sixD_one (dat_entry (hx x (.head _)))))
theorem dat_four {a b c d : HV} (h1 : datN 7 a = true) (h2 : datN 7 b = true) (h3 : datN 7 c = true) (h4 : datN 7 d = true) : datN 8 (.list [a, b, c, d]) = true := by
 exact List.all_eq_true.mpr (List.forall_mem_cons.mpr ⟨h1, List.forall_mem_cons.mpr ⟨h2, List.forall_mem_cons.mpr ⟨h3, List.forall_mem_cons.mpr ⟨h4, fun _ h => nomatch h⟩⟩⟩⟩)
set_option tactic.hygienic true in
theorem dat_due {items : List (List Nat)} {e k : Nat} {bg : Bool} (hg : ∀ t ∈ items, goodT t) : datN 8 (dueV items e k bg) = true := by
 have hs : ∀ t ∈ items.take (cutF e items 0).1.length, sgn t := fun t ht => sgn_good (hg t (List.mem_of_mem_take ht))
 have nil6 : sixD 6 ([] : List HV) := fun x h => by exact absurd h nofun
 unfold dueV
 refine ie rfl (fun _ => ?_) fun _ => ?_
 · refine dat_run (fun vs lg u h1 h2 => dat_four (dat_str (sgn_of _)) (dat_list h1) (dat_list h2) rfl) (fun lg h => dat_four (dat_str (sgn_of _)) (dat_str (sgn_cut _ _ _)) (dat_list h) rfl) _ _ _ _ _ hs (sixD_one (dat_str (sgn_of _))) nil6
 · refine ie rfl (fun _ => ?_) fun _ => ?_
   · exact dat_four (dat_str (sgn_of _)) (dat_str (sgn_of _)) (dat_list nil6) rfl
   · split
     · rfl
     · rename_i t r ht
       have hs := ht ▸ hs
       exact dat_run (fun vs lg u h1 h2 => dat_four (dat_str (sgn_of _)) (dat_list h1) (dat_list h2) rfl) (fun lg h => dat_four (dat_str (sgn_of _)) (dat_str (sgn_cut _ _ _)) (dat_list h) rfl) _ _ _ _ _ (fun t h => hs t (.tail _ h)) (sixD_one (dat_str (hs t (.head _)))) nil6
theorem eqD_self {h : HV} (d : datN 8 h = true) : eqD h h = true := SeqAt.eqv_refl _ (lay_of 8 h d).1
end
section
theorem compL_texts {els : HV -> St -> KV -> Prop} {σ : St} : ∀ (ns : List Int) (acc : List HV) (K : KV), acc.length + ns.length <= sizeLine -> (∀ n ∈ ns, ∀ K : KV, (∀ l, goodT l -> K (.str l) σ) -> els (.int n) σ K) ->
 (∀ ts : List (List Nat), ts.length = ns.length -> (∀ t ∈ ts, goodT t) -> K (.list (acc ++ ts.map HV.str)) σ) -> compL (fun _ σ K => K true σ) els acc (ns.map HV.int) σ K := by
 intro xs0
 induction xs0 with
 | nil =>
  exact @fun acc K _ _ h => by
   have := h [] rfl (fun _ q => by contradiction)
   simpa [compL] using this
 | cons n ns ih =>
  exact @fun acc K hz he h => by
   simp only [List.length_cons] at hz
   refine he n (.head _) _ fun l hl => ⟨ar36 hz, ?_⟩
   refine ih (acc ++ [.str l]) K (by simp; exact ar35 hz) (fun m hm => he m (.tail _ hm)) fun ts h1 h2 => ?_
   have := h (l :: ts) (by simp [h1]) (fun t ht => by
    rcases List.mem_cons.mp ht with rfl | ht
    · exact hl
    · exact h2 t ht)
   simpa using this
theorem slc_map {α β : Type} (f : α -> β) (l : List α) (lo hi : Option Int) : slc (l.map f) lo hi = (slc l lo hi).map f := by
 unfold slc; simp [List.map_drop, List.map_take]
theorem swaps_yes {elt : Expr} {gens : List Comprehension} {sc : Scope} {p py : Pos} {y : Str} {k : Nat} {env : Env} (h1 : env.scope.kind = .function) (h2 : env.kindOf y = some .local) (h3 : (py.line == p.line) = true) (h4 : (sc.names.any fun x => x.1 == y && (x.2 == .local || x.2 == .cell)) = false) :
 swapsWith (.ListComp elt gens sc p) (some (.Name y py)) k env = pure true := by
 have e : swapsWith (.ListComp elt gens sc p) (some (.Name y py)) k env = pure (env.blockKind == .function && env.kindOf y == some .local && py.line == p.line && !(sc.names.any fun x => x.1 == y && (x.2 == .local || x.2 == .cell))) := rfl
 simp only [e, h2, h3, h4]
 refine rr ((show env.blockKind = .function from by unfold Env.blockKind; refine rr h1 ?_; rfl)) ?_; rfl
theorem p24 : plainSc (stm 24) [tN "script"] = true := by decide +kernel
theorem b24 (v : Value) : ∀ fd : FuncData, fd.params = argsOf (stm 24) -> fd.kwdefaults = .none -> fd.defaults = .none -> bindArgs fd ⟨[v], []⟩ = pure ([tN "script"].zip [v]) := fun fd hp h1 h2 => by
 cases fd
 simp only at hp h1 h2
 subst hp h1 h2
 with_unfolding_all rfl
noncomputable def rowB : List Stmt := bodyOf (kid (stm 24) 4)
noncomputable def ordH : HV -> HV
 | .str [c] => .int c
 | x => x
theorem ordH_one {c : Nat} : ordH (.str [c]) = .int c := rfl
noncomputable def modH : HV -> HV
 | .int i => .int (i.fmod (10 ^ 8))
 | x => x
theorem row_loop {Γ : Spx} {gt : Loc} (g1 : gt (Str.ofString "len") = some (.val (.builtin "len"))) (g2 : gt (Str.ofString "ord") = some (.val (.builtin "ord"))) :
 ∀ (ts done : List (List Nat)) (ρ : Loc) (σ : St) (KF : KS), ρ (Str.ofString "row") = some (.list ((rowF done).map fun (c : Nat) => HV.int c)) -> ρ (Str.ofString "len") = none -> ρ (Str.ofString "ord") = none -> (∀ t ∈ ts, goodT t) -> (rowF done).length + 4 * ts.length <= 100 ->
  (∀ ρ', ρ' (Str.ofString "row") = some (.list ((rowF (done ++ ts)).map fun (c : Nat) => HV.int c)) -> (∀ x, x ≠ Str.ofString "row" -> x ≠ Str.ofString "item" -> ρ' x = ρ x) -> KF .nx ρ' σ) ->
  forL (fun h ρ σ K => evB (fun _ => false) Γ rowB (upd ρ (Str.ofString "item") h) (GofDef (scopeOf (stm 24)) gt) σ K) (ts.map HV.str) ρ σ KF
 | [], done, ρ, σ, KF, h1, h2, h3, h4, h5, hK => by
   exact hK ρ (by refine (List.append_nil ..) ▸ ?_; exact h1) fun _ _ _ => rfl
 | t :: ts, done, ρ, σ, KF, h1, h2, h3, h4, h5, hK => by
   have ln := line_is
   have ht := h4 t (.head _)
   simp only [List.length_cons] at h5
   refine q_fo ?_
   refine gen_K fun KF' hKF' => ?_
   conv => arg 3; whnf
   conv => arg 5; arg 1; whnf
   repeat' walk_at "ev"
   refine b_list (by simp; exact ar316 h5 ln) ?_
   repeat' walk_at "ev"
   refine compL_pure (fun _ => true) ordH _ _ _ (by have := ht.1; simp; exact ar315 ln this) (fun x hx K hK => hK) (fun x hx hp K hK => ?_) ?_
   · (refine o_ea (List.mem_map.mp hx) fun c hc z7 => ?_; clear hx; subst z7)
     repeat' walk_at "ev"
     exact hK
   · refine ((List.filter_eq_self.mpr (fun _ _ => rfl))) ▸ ?_
     refine b_list (by have := ht.1; simp; exact ar314 h5 ln this) ?_
     repeat' walk_at "ev"
     have hr : rowF (done ++ [t]) = rowF done ++ t.length :: t := by simp [rowF]
     refine row_loop g1 g2 ts (done ++ [t]) _ σ KF (upd_self.trans ?_) (by walk_at "nm") (by walk_at "nm") (fun x hx => h4 x (.tail _ hx)) ?_ ?_
     · refine rr hr ?_
       simp only [List.map_map, Function.comp_def, ordH_one]
       simp
     · refine hr ▸ ?_
       have := ht.1
       simp only [List.length_append, List.length_cons]
       exact ar313 h5 this
     · intro ρ' q1 q2
       have q1 := (List.append_assoc ..) ▸ q1
       exact hK ρ' q1 fun x n1 n2 => (q2 x n1 n2).trans (by unfold upd; (refine rr (if_neg n1) ?_; exact rr (if_neg n2) rfl))
theorem slc_take {α : Type} {l : List α} {e : Nat} (h : e <= l.length) : slc l none (some (e : Int)) = l.take e := by
 exact slc_to l e
theorem row_cut {r : List Nat} {e : Nat} (h : e <= r.length) : slc (r.map fun (c : Nat) => HV.int c) none (some (e : Int)) = (r.take e).map fun (c : Nat) => HV.int c := by
 simp only [slc_map, slc_take h]
theorem ints_of : ∀ r : List Nat, intsOf (r.map fun (c : Nat) => HV.int c) = some (r.map fun (c : Nat) => (c : Int)) := by
 intro xs0
 induction xs0 with
 | nil => exact rfl
 | cons c r ih => exact by simp [intsOf, ih]
theorem row_small {ts : List (List Nat)} (hg : ∀ t ∈ ts, goodT t) : ∀ c ∈ rowF ts, c < 256 := fun c hc => by
 unfold rowF at hc
 refine o_ea (List.mem_flatMap.mp hc) fun t ht h => ?_
 refine Or.elim (List.mem_cons.mp h) (fun z39 => ?_) fun h => ?_
 · refine rr z39 ?_; have := (hg t ht).1; exact ar67 this
 · exact ((hg t ht).2 c h).1
theorem due_list (items : List (List Nat)) (e k : Nat) (bg : Bool) (h : items.take (cutF e items 0).1.length ≠ []) : ∃ l, dueV items e k bg = .list l := by
 have run : ∀ (k : Nat) (items : List (List Nat)) (u : Nat) (vs lg : List HV) (es ws : List Nat), ∃ l, runF (finV es) (errV ws e) k items u vs lg = .list l := fun k => by
  induction k with
  | zero => intro items u vs lg es ws; exact ⟨_, rfl⟩
  | succ k ih =>
    intro items u vs lg es ws
    induction items using List.casesOn with
    | nil => exact ⟨_, rfl⟩
    | cons p r =>
      dsimp only [runF]
      split
      · exact ⟨_, rfl⟩
      · exact ih _ _ _ _ _ _
 unfold dueV
 refine ie rfl (fun _ => ?_) fun _ => ?_
 · exact run _ _ _ _ _ _ _
 · refine ie rfl (fun _ => ?_) fun _ => ?_
   · exact ⟨_, rfl⟩
   · split
     · rename_i q; exact absurd q h
     · exact run _ _ _ _ _ _ _
theorem cmp_self {l : List HV} {σ : St} (d : datN 8 (.list l) = true) : cmpH .Eq (.list l) (.list l) σ fun h σ' => h = .bool true /\ σ' = σ :=
 c_eql d d ⟨by exact rr (eqD_self d) rfl, rfl⟩
structure LawG (gt : Loc) (aX aD a22 : Addr) : Prop where
 txt : gt (tN "_law_text") = some (.val (.ref aX))
 due : gt (tN "_law_due") = some (.val (.ref aD))
 told : gt (tN "_law_told") = some (.val (.ref a22))
 len : gt (tN "len") = some (.val (.builtin "len"))
 ord : gt (tN "ord") = some (.val (.builtin "ord"))
 bytes : gt (tN "bytes") = some (.val (.type "bytes"))
section
variable {prog : Program} {w : World} {B0 : Heap} {os : OsState} {mg mb : Str -> Option Value} {n : Nat} {gt : Loc}
theorem law_ok (TB : TopB B0 mg mb) (TM : TopM B0 mg) (hg : GtOk mg mb gt) {a17 c17 P17 a3 dT a15 aT aK miss a22 c22 P22 aX aD a24 : Addr} {fd17 fd3 fd22 fd24 : FuncData} (TG : ToldG B0 gt a17 c17 P17 a3 dT a15 aT aK miss fd17 fd3) {Γ : Spx} (X : ∀ gs, SpxOk prog w B0 os gs Γ (n + 1 + 1 + 1)) (Γ1 : Γ (.ref aT) = some spTx) (Γ2 : Γ (.ref aK) = some spTaken) (Γ3 : Γ (.ref aX) = some spText) (Γ4 : Γ (.ref aD) = some spDue)
 (F22 : FnK B0 a22 (stm 22) fd22 .none) (CB : CodeB B0 fd22 c22 P22) (h17 : P17 ≠ P22) (LG : LawG gt aX aD a22) (F24 : FnK B0 a24 (stm 24) fd24 .none)
 {A : Around} {l : List Env} {ω : Own} {s : Shared} {σ : St} {v : Value} {script : List Int}
 (Rm : Room (n + 1 + 1 + 1 + 1 + 1 + 1 + 1 + 1 + 1) A) (Ks : Stk ω A l) (S : MS B0 os ω #[] s) (R : RelS ω σ) (hI17 : TabI ω P17 (tapeQs fd17.qualname)) (hI22 : TabI ω P22 (toldQs fd22.qualname)) (rv : Rd ω (.list (script.map HV.int)) v) (hsc : script.length <= 63) :
 wpAny (model prog w) A (call (.ref a24) [v] []) (PostG B0 os ω fun h _ σ' gs' => h = .bool true /\ ∃ st', st'.bare = true /\ gs' = #[st']) (RaisG B0 os ω fun _ _ _ _ _ => False) s := by
 have ln := line_is
 have Xu : ∀ gs, SpxOk prog w B0 os gs Γ (n + 1 + 1 + 1 + 1 + 1 + 1 + 1 + 1) := fun gs v sp e => by
  (refine o_eeeaaa (X gs v sp e) fun a o fd h1 h2 h3 z71 => ?_; refine o_a z71 fun h4 h5 => ?_)
  exact (i_eeeaaaa a o fd h1 h2 h3 h4 (fun A E ω s σ K hs vs Rm => h5 A E ω s σ K hs vs (Rm.le (ar334))))
 refine o_eaa (F24.at'.now S) fun o ho hd hcd => ?_
 refine call_x (n := n + 1 + 1 + 1 + 1 + 1 + 1 + 1 + 1) (ps := [tN "script"]) (hs := [.list (script.map HV.int)]) (vs := [v]) (ρf := fun _ => none) TB (plainD F24.body F24.scope F24.glob F24.blt (by simp) p24) hg (fun _ _ _ _ _ _ _ q => q) (fun _ _ _ _ _ _ q => q) Rm Ks S R (by simp only [RdL]; exact (i_eeaa v ([]) rfl rv rfl)) rfl (BindsTo.of_eq (b24 v fd24 F24.params F24.kdflt F24.dflt)) ho hd hcd (FreeOk.none _ _ _) ?_
 intro env A' ω1 s₁ hfr O Rm' Ks' S1 R1 hnew other
 replace O := F24.scope ▸ O
 have n1 : bindHF (fun _ => none) [tN "script"] [.list (script.map HV.int)] = upd (fun _ => none) (tN "script") (.list (script.map HV.int)) := rfl
 replace O := n1 ▸ O
 obtain ⟨L1, L2, L3, L4, L5, L6⟩ := LG
 unfold tN at *
 obtain ⟨c0, hc0⟩ : ∃ c0 : Int, at? (script.map HV.int ++ [HV.int 0]) 0 = some (.int c0) := by
  clear rv hsc n1 O; induction script using List.casesOn with
  | nil => exact ⟨0, rfl⟩
  | cons x r => exact ⟨x, rfl⟩
 refine gen_QE fun Q E hQ hE => ?_
 conv => arg 3; arg 1; whnf
 refine s_at (mu := fun _ => false) (Γ := Γ) (r := upd (upd (fun _ => none) (Str.ofString "script") (.list (script.map HV.int))) (Str.ofString "control") (.int (c0.fmod (10 ^ 6)))) (t := σ) TB (Xu #[]) Rm' O S1 R1 ?_ ?_
 · intro K hK
   repeat' walk_at "ev"
   refine b_list (by simp; exact ar333 ln hsc) ?_
   repeat' walk_at "ev"
   refine s_list (by decide) hc0 ?_
   repeat' walk_at "ev"
   refine b_pow (by decide) ?_
   refine b_mod (by decide) ?_
   exact hK
 intro ω2 s₂ l2 O2 S2 R₂
 conv => arg 3; arg 1; whnf
 refine cons_next fun Q₁ n₁ => (arm_AS (mu := fun _ => false) (Γ := Γ) (n := n + 1 + 1 + 1 + 1 + 1 + 1 + 1 + 1) (K := fun h σ' => h = .list (((slc script (some 1) (some 11)).map fun x => x.fmod (10 ^ 8)).map HV.int) /\ σ' = σ) (fun _ σ K => K true σ) (okE TB (Xu #[]) _) (okE TB (Xu #[]) _) (fun E ω s σ K env x O S R H => wpAny_tests_nil ⟨ω, σ, .refl _, S, R, H⟩) ?_ (by kernel_rfl) Rm' O2 S2 R₂ (by kernel_rfl) (fun _ => rfl) ?_ ?_)
 · exact swaps_yes O2.kind (O2.lc (Str.ofString "drawn") (by kernel_rfl)) (by decide) (by decide +kernel)
 · refine q_slice ?_
   repeat' walk_at "ev"
   refine compL_pure (fun _ => true) modH _ _ _ (by have := slc_len script (some 1) (some 11); (refine rr (slc_map ..) ?_; refine rr (List.length_map ..) ?_); exact ar332 ln hsc this) (fun x hx K hK => hK) (fun x hx hp K hK => ?_) ?_
   · rw [slc_map] at hx
     (refine o_ea (List.mem_map.mp hx) fun i _ z72 => ?_; clear hx; subst z72)
     repeat' walk_at "ev"
     refine b_pow (by decide) ?_
     refine b_mod (by decide) ?_
     exact hK
   · refine ⟨?_, rfl⟩
     (refine rr (slc_map ..) ?_; refine rr (List.filter_eq_self.mpr (fun _ _ => rfl) ..) ?_; refine rr (List.map_map ..) ?_; refine rr (List.map_map ..) ?_)
     rfl
 intro ω3 s₃ ha σ3 l₃ O3 S₃ R₃ k₃
 obtain ⟨hh, rfl⟩ := k₃
 cases hh
 refine n₁ _ ?_
 obtain ⟨D, hD, hD1, hD2⟩ : ∃ D : List Int, ((slc script (some 1) (some 11)).map fun x => x.fmod (10 ^ 8)) = D /\ D.length <= 10 /\ ∀ x ∈ D, 0 <= x /\ x < 10 ^ 8 := by
  refine (i_eaa _ rfl ?_ (fun x hx => ?_))
  · (refine rr (List.length_map ..) ?_; refine rr (show slc script (some 1) (some 11) = (script.take 11).drop 1 from slc_mid script 1 11 ..) ?_; refine rr (List.length_drop ..) ?_; refine rr (List.length_take ..) ?_); exact ar331
  · (refine o_ea (List.mem_map.mp hx) fun y _ z78 => ?_; clear hx; subst z78)
    exact ⟨Int.fmod_nonneg_of_pos _ (by decide), Int.fmod_lt_of_pos _ (by decide)⟩
 rw [hD] at O3
 conv => arg 3; arg 1; whnf
 refine cons_next fun Q₁ n₁ => (arm_AS (mu := fun _ => false) (Γ := Γ) (n := n + 1 + 1 + 1 + 1 + 1 + 1 + 1 + 1) (K := fun h σ' => (∃ ts : List (List Nat), h = .list (ts.map HV.str) /\ 7 <= ts.length /\ ts.length <= 10 /\ ∀ t ∈ ts, goodT t) /\ σ' = σ3) (fun _ σ K => K true σ) (okE TB (Xu #[]) _) (okE TB (Xu #[]) _) (fun E ω s σ K env x O S R H => wpAny_tests_nil ⟨ω, σ, .refl _, S, R, H⟩) ?_ (by kernel_rfl) Rm' O3 S₃ R₃ (by kernel_rfl) (fun _ => rfl) ?_ ?_)
 · exact swaps_yes O3.kind (O3.lc (Str.ofString "items") (by kernel_rfl)) (by decide) (by decide +kernel)
 · repeat' walk_at "ev"
   have hlen : (slc [(66 : Int), 34, 1, 5, 106, 5, 0] (some ((List.map HV.int D).length : Nat)) none).length = 7 - D.length := by
    (refine rr (slc_from ..) ?_; refine rr (List.length_drop ..) ?_; refine rr (List.length_map ..) ?_); rfl
   have hmap : slc [HV.int 66, HV.int 34, HV.int 1, HV.int 5, HV.int 106, HV.int 5, HV.int 0] (some ((List.map HV.int D).length : Nat)) none = (slc [(66 : Int), 34, 1, 5, 106, 5, 0] (some ((List.map HV.int D).length : Nat)) none).map HV.int := slc_map HV.int [(66 : Int), 34, 1, 5, 106, 5, 0] _ _
   have hmem : ∀ x ∈ slc [(66 : Int), 34, 1, 5, 106, 5, 0] (some ((List.map HV.int D).length : Nat)) none, 0 <= x /\ x < 10 ^ 8 := by
    intro x hx
    have := List.mem_of_mem_drop (List.mem_of_mem_take hx)
    simp only [List.mem_cons, List.not_mem_nil, or_false] at this
    rcases this with rfl | rfl | rfl | rfl | rfl | rfl | rfl <;> decide
   refine rr hmap ?_
   revert hlen hmem
   generalize slc [(66 : Int), 34, 1, 5, 106, 5, 0] (some ((List.map HV.int D).length : Nat)) none = M
   intro hlen hmem
   refine b_list (by simp; omega) ?_
   refine rl List.map_append ?_
   refine i_list ?_
   refine compL_texts (D ++ M) [] _ (by simp; omega) (fun m hm K hK => ?_) fun ts h1 h2 => ⟨⟨ts, rfl, ?_, ?_, h2⟩, rfl⟩
   · repeat' walk_at "ev"
     refine q_fn Γ3 (i_eaaa m rfl ?_ ?_ hK)
     · rcases List.mem_append.mp hm with h | h
       · exact (hD2 m h).1
       · exact (hmem m h).1
     · rcases List.mem_append.mp hm with h | h
       · exact (hD2 m h).2
       · exact (hmem m h).2
   · simp only [h1, List.length_append]; exact ar330 hlen
   · (refine rr h1 ?_; refine rr List.length_append ?_); exact ar329 hlen hD1
 intro ω4 s₄ ha σ4 l4 O4 S4 R4 k₄
 obtain ⟨⟨ts, hh, t7, t10, tg⟩, rfl⟩ := k₄
 cases hh
 refine n₁ _ ?_
 conv => arg 3; arg 1; whnf
 refine s_at (mu := fun _ => false) (Γ := Γ) (r := upd (upd (upd (upd (upd (fun _ => none) (Str.ofString "script") (.list (script.map HV.int))) (Str.ofString "control") (.int (c0.fmod (10 ^ 6)))) (Str.ofString "drawn") (.list (D.map HV.int))) (Str.ofString "items") (.list (ts.map HV.str))) (Str.ofString "row") (.list [])) (t := σ4) TB (Xu #[]) Rm' O4 S4 R4 ?_ ?_
 · intro K hK
   repeat' walk_at "ev"
   exact hK
 intro ω5 s5 l5 O5 S5 R5
 conv => arg 3; arg 1; whnf
 refine s_pure (mu := fun _ => false) (Γ := Γ) (N := fun ρ' σ' => (ρ' (Str.ofString "row") = some (.list ((rowF ts).map fun (c : Nat) => HV.int c)) /\ ρ' (Str.ofString "control") = some (.int (c0.fmod (10 ^ 6))) /\ ρ' (Str.ofString "items") = some (.list (ts.map HV.str)) /\ ρ' (Str.ofString "len") = none /\ ρ' (Str.ofString "bytes") = none /\ ρ' (Str.ofString "_law_due") = none) /\ σ' = σ4) TB (Xu #[]) Rm' O5 S5 R5 ?_ ?_
 · repeat' walk_at "ev"
   refine row_loop L4 L5 ts [] _ _ _ upd_self (by walk_at "nm") (by walk_at "nm") tg (by simp [rowF]; exact ar328 t10) fun ρ' q1 q2 => ⟨rfl, (i_aaaaa q1 ?_ ?_ ?_ ?_ ?_), rfl⟩
   · exact (q2 _ (ofS_ne (by decide +kernel)) (ofS_ne (by decide +kernel))).trans (by walk_at "nm")
   · exact (q2 _ (ofS_ne (by decide +kernel)) (ofS_ne (by decide +kernel))).trans (by walk_at "nm")
   · exact (q2 _ (ofS_ne (by decide +kernel)) (ofS_ne (by decide +kernel))).trans (by walk_at "nm")
   · exact (q2 _ (ofS_ne (by decide +kernel)) (ofS_ne (by decide +kernel))).trans (by walk_at "nm")
   · exact (q2 _ (ofS_ne (by decide +kernel)) (ofS_ne (by decide +kernel))).trans (by walk_at "nm")
 intro ω6 s6 ρ6 σ6 l₆ O6 S6 R6 hN
 obtain ⟨⟨c1, c2, c3, c4, c5, c6⟩, rfl⟩ := hN
 have hCb : (c0.fmod (10 ^ 6)).natAbs < 2 ^ 62 := by
  have h1 := Int.fmod_nonneg_of_pos c0 (b := 10 ^ 6) (by decide)
  have h2 := Int.fmod_lt_of_pos c0 (b := 10 ^ 6) (by decide)
  omega
 obtain ⟨k, hk, hk4⟩ : ∃ k : Nat, ((c0.fmod (10 ^ 6)) + 2).fmod 5 = (k : Int) /\ k <= 4 := by
  have h1 := Int.fmod_nonneg_of_pos (c0.fmod (10 ^ 6) + 2) (b := 5) (by decide)
  have h2 := Int.fmod_lt_of_pos (c0.fmod (10 ^ 6) + 2) (b := 5) (by decide)
  exact (i_ea _ ((Int.toNat_of_nonneg h1).symm) (ar327 h2))
 obtain ⟨j, hj, hj3⟩ : ∃ j : Nat, ((c0.fmod (10 ^ 6)).fdiv 10).fmod 4 = (j : Int) /\ j <= 3 := by
  have h1 := Int.fmod_nonneg_of_pos ((c0.fmod (10 ^ 6)).fdiv 10) (b := 4) (by decide)
  have h2 := Int.fmod_lt_of_pos ((c0.fmod (10 ^ 6)).fdiv 10) (b := 4) (by decide)
  exact (i_ea _ ((Int.toNat_of_nonneg h1).symm) (ar326 h2))
 conv => arg 3; arg 1; whnf
 refine s_at (mu := fun _ => false) (Γ := Γ) (r := upd ρ6 (Str.ofString "turns") (.int (k : Nat))) (t := σ6) TB (Xu #[]) Rm' O6 S6 R6 ?_ ?_
 · intro K hK
   repeat' walk_at "ev"
   refine b_mod (by decide) ?_
   refine rr hk ?_
   exact hK
 intro ω7 s7 l7 O7 S7 R7
 obtain ⟨bg, hbg⟩ : ∃ bg : Bool, (((c0.fmod (10 ^ 6)).fdiv 5).fmod 2 == 0) = bg := ⟨_, rfl⟩
 conv => arg 3; arg 1; whnf
 refine s_at (mu := fun _ => false) (Γ := Γ) (r := upd (upd ρ6 (Str.ofString "turns") (.int (k : Nat))) (Str.ofString "begins") (.bool bg)) (t := σ6) TB (Xu #[]) Rm' O7 S7 R7 ?_ ?_
 · intro K hK
   repeat' walk_at "ev"
   refine b_div (i_aa (by decide) hCb (by decide)) ?_
   repeat' walk_at "ev"
   refine b_mod (by decide) ?_
   repeat' walk_at "ev"
   refine rr hbg ?_
   exact hK
 intro ω8 s8 l8 O8 S8 R8
 have h7 : 7 <= (rowF ts).length := by
  have : ∀ l : List (List Nat), l.length <= (rowF l).length := fun l => by
   induction l with
   | nil => simp
   | cons x r ih => simp only [rowF, List.flatMap_cons, List.length_append, List.length_cons] at ih ⊢; exact ar222 ih
  exact Nat.le_trans t7 (this ts)
 have h100 : (rowF ts).length <= 40 := by
  have : ∀ l : List (List Nat), (∀ t ∈ l, goodT t) -> (rowF l).length <= 4 * l.length := fun l => by
   induction l with
   | nil => simp [rowF]
   | cons x r ih =>
     intro h
     have h1 := (h x (.head _)).1
     have h2 := ih fun t ht => h t (.tail _ ht)
     simp only [rowF, List.flatMap_cons, List.length_append, List.length_cons] at h2 ⊢; exact ar325 h2 h1
  have := this ts tg
  exact ar324 this t10
 obtain ⟨e, he⟩ : ∃ e : Nat, (rowF ts).length = e + j := ⟨(rowF ts).length - j, ar323 h7 hj3⟩
 have he' : ((rowF ts).length : Int) - (j : Int) = (e : Nat) := ar322 he
 conv => arg 3; arg 1; whnf
 refine s_at (mu := fun _ => false) (Γ := Γ) (r := upd (upd (upd ρ6 (Str.ofString "turns") (.int (k : Nat))) (Str.ofString "begins") (.bool bg)) (Str.ofString "end") (.int (e : Nat))) (t := σ6) TB (Xu #[]) Rm' O8 S8 R8 ?_ ?_
 · intro K hK
   repeat' walk_at "ev"
   refine b_div (i_aa (by decide) hCb (by decide)) ?_
   repeat' walk_at "ev"
   refine b_mod (by decide) ?_
   repeat' walk_at "ev"
   (refine rr (hj ..) ?_; refine rr (List.length_map ..) ?_; refine rr (he' ..) ?_)
   exact hK
 intro ω9 s9 l9 O9 S9 R9
 conv => arg 3; arg 1; whnf
 refine s_at (mu := fun _ => false) (Γ := Γ) (r := upd (upd (upd (upd ρ6 (Str.ofString "turns") (.int (k : Nat))) (Str.ofString "begins") (.bool bg)) (Str.ofString "end") (.int (e : Nat))) (Str.ofString "octets") (.bytes (octF ts e))) (t := σ6) TB (Xu #[]) Rm' O9 S9 R9 ?_ ?_
 · intro K hK
   repeat' walk_at "ev"
   refine rr (row_cut (ar221 he)) ?_
   refine k_bytes (ints_of _) (fun n hn => ?_) ?_
   · (refine o_ea (List.mem_map.mp hn) fun c hc z96 => ?_; clear hn; subst z96)
     have := row_small tg c (List.mem_of_mem_take hc); exact ar321 this
   · refine rr List.map_map ?_; exact hK
 intro ω10 s10 l10 O10 S10 R10
 conv => arg 3; arg 1; whnf
 refine o_eaa F22.at'.at' fun o22 ho22 hd22 hcd22 => ?_
 have lb : LeS env.locals ω1 ω10 := ((((((((l2.trans l₃).trans l4).trans l5).trans l₆).trans l7).trans l8).trans l9).trans l10)
 refine o_ea O.loc fun m₀ hL _ => ?_
 refine o_ea O10.loc fun m10 hL10 _ => ?_
 have I17 : TabI ω10 P17 (tapeQs fd17.qualname) := by
  refine o_e hI17 fun ps h => ?_
  exact TabI.leS lb ⟨ps, other _ _ h (fun _ q => by first | exact no_ns q | exact no_sn q | exact no_tf q | exact no_ft q | contradiction | subst q)⟩ hL
 have I22 : TabI ω10 P22 (toldQs fd22.qualname) := by
  refine o_e hI22 fun ps h => ?_
  exact TabI.leS lb ⟨ps, other _ _ h (fun _ q => by contradiction)⟩ hL
 have Ks10 : Stk ω10 A' (env :: l) := Ks'.step lb hL10
 refine wpAny_execs_cons (wpAny_Return_some (wpAny_Compare1 ?_ (by with_unfolding_all rfl)))
 refine call_name_at (mu := fun _ => false) (Γ := Γ) (n := n + 1 + 1 + 1 + 1 + 1 + 1 + 1 + 1) (xs := [.bytes (octF ts e), .int (k : Nat), .bool bg]) (t := σ6) (o := o22) (fd := fd22) TB Rm' O10 S10 R10 (fa := a22) ?_ rfl (okEs_cons (okE TB (Xu #[]) _) (okEs_cons (okE TB (Xu #[]) _) (okEs_cons (okE TB (Xu #[]) _) okEs_nil))) ?_ ?_
 · walk_at "nm"
 · intro K hK
   repeat' walk_at "ev"
   exact hK
 intro ω11 vs s11 l11 S11 R11 r11
 (refine o_eeaa r11 fun v₁ _ z722 rb z723 => ?_; clear r11; subst z722; refine o_eeaa z723 fun v₂ _ z724 rk z725 => ?_; clear z723; subst z724; refine o_eeaa z725 fun v₃ _ z726 rg z727 => ?_; subst z726; subst z727)
 simp only [Rd] at rk rg
 obtain ⟨t0, rfl⟩ := rk
 subst rg
 have hfw := first_whole (e := e) tg t7 (ar320 he hj3)
 refine ⟨⟨S11.top ho22 hd22, hcd22⟩, call_then hE (told_ok (n := n) (GP := GPof (octF ts e) e) TB TM hg TG X Γ1 Γ2 F22 CB h17 Rm' (Ks10.mono l11.w) S11 R11 (I17.le l11) (I22.le l11) (by unfold octF; (refine rr (List.length_map ..) ?_; refine rr (List.length_take ..) ?_); exact ar319 h100) rb (ar318 hk4) gp_step (i_ea ts (at_first (ar221 he)) tg)) (l11 _ _ hL10) (lb.trans (l11.s _)) ?_ (fun _ _ _ _ _ _ h => h.elim)⟩
 intro v4 h ω12 σ12 gs12 s12 l12 S12 R12 r12 k12
 (refine o_aa k12 fun z696 z697 z698 => ?_; clear k12; subst z696; subst z697; refine o_ea z698 fun st' hbare z699 => ?_; subst z699)
 have lb12 := (lb.trans (l11.s _)).trans (l12.s _)
 have hdue := told_due (items := ts) (e := e) (k := k) (bg := bg) tg (ar221 he) hfw
 have hdat := dat_due (items := ts) (e := e) (k := k) (bg := bg) tg
 refine e_at (mu := fun _ => false) (x := dueV ts e k bg) (t := σ12) TB (Xu #[st']) Rm' ((O10.mono l11).mono l12) S12 R12 ?_ fun ω13 v5 s13 l13 S13 R13 r13 => ?_
 · intro K hK
   repeat' walk_at "ev"
   refine q_fn Γ4 ?_
   refine (i_eeeeaaaaa ts e k bg rfl t10 (fun t ht => (tg t ht).1) hk4 (ar317 he h100) ⟨hfw, hK⟩)
 refine next_v (cmp_ok (K := fun h σ' => h = .bool true /\ σ' = σ12) Rm' S13 R13 (r12.mono l13) r13 ?_) fun h ω14 σ14 v6 s14 l14 S14 R14 r14 k14 => ?_
 · refine rr hdue ?_
   refine o_e (due_list ts e k bg hfw) fun dl hdl => ?_
   rw [hdl] at hdat ⊢
   exact cmp_self hdat
 obtain ⟨rfl, rfl⟩ := k14
 exact hQ _ _ ⟨_, _, ω14, _, _, rfl, (lb12.trans (l13.s _)).trans (l14.s _), S14, R14, r14, rfl, st', hbare, rfl⟩
end
end
section
noncomputable def gam (l : List (Addr × Spec)) : Spx := fun v => match v with
 | .ref a => l.lookup a
 | _ => none
theorem mod6 : ∀ (vals : List Value), vals.length = 1 -> ∀ fd : FuncData, fd.params = argsOf (stm 6) -> fd.kwdefaults = .none -> fd.defaults = .none -> bindArgs fd ⟨vals, []⟩ = pure ([tN "pat"].zip vals) := fun vals hl fd hp h1 h2 => by
 (refine o_e (len1 hl) fun a z315 => ?_; refine rr z315 ?_)
 refine rr (fd_with hp h1 h2) ?_
 with_unfolding_all rfl
theorem q6 : cellSc (stm 6) [tN "pat"] = true := by decide +kernel
theorem mod11 : ∀ (vals : List Value), vals.length = 3 -> ∀ fd : FuncData, fd.params = argsOf (stm 11) -> fd.kwdefaults = .none -> fd.defaults = .none -> bindArgs fd ⟨vals, []⟩ = pure ([tN "pat", tN "STAR", tN "QUESTION_MARK"].zip vals) := fun vals hl fd hp h1 h2 => by
 (refine o_eee (len3 hl) fun a b c z317 => ?_; refine rr z317 ?_)
 refine rr (fd_with hp h1 h2) ?_
 with_unfolding_all rfl
theorem q11 : cellSc (stm 11) [tN "pat", tN "STAR", tN "QUESTION_MARK"] = true := by decide +kernel
theorem mod12 : ∀ (vals : List Value), vals.length = 2 -> ∀ fd : FuncData, fd.params = argsOf (stm 12) -> fd.kwdefaults = .none -> fd.defaults = .none -> bindArgs fd ⟨vals, []⟩ = pure ([tN "inp", tN "STAR"].zip vals) := fun vals hl fd hp h1 h2 => by
 (refine o_ee (len2 hl) fun a b z321 => ?_; refine rr z321 ?_)
 refine rr (fd_with hp h1 h2) ?_
 with_unfolding_all rfl
theorem q12 : cellSc (stm 12) [tN "inp", tN "STAR"] = true := by decide +kernel
theorem mod18 : ∀ (vals : List Value), vals.length = 1 -> ∀ fd : FuncData, fd.params = argsOf (stm 18) -> fd.kwdefaults = .none -> fd.defaults = .none -> bindArgs fd ⟨vals, []⟩ = pure ([tN "number"].zip vals) := fun vals hl fd hp h1 h2 => by
 (refine o_e (len1 hl) fun a z323 => ?_; refine rr z323 ?_)
 refine rr (fd_with hp h1 h2) ?_
 with_unfolding_all rfl
theorem q18 : cellSc (stm 18) [tN "number"] = true := by decide +kernel
theorem mod19 : ∀ (vals : List Value), vals.length = 2 -> ∀ fd : FuncData, fd.params = argsOf (stm 19) -> fd.kwdefaults = .none -> fd.defaults = .none -> bindArgs fd ⟨vals, []⟩ = pure ([tN "pattern", tN "name"].zip vals) := fun vals hl fd hp h1 h2 => by
 (refine o_ee (len2 hl) fun a b z328 => ?_; refine rr z328 ?_)
 refine rr (fd_with hp h1 h2) ?_
 with_unfolding_all rfl
theorem q19 : cellSc (stm 19) [tN "pattern", tN "name"] = true := by decide +kernel
theorem mod20 : ∀ (vals : List Value), vals.length = 3 -> ∀ fd : FuncData, fd.params = argsOf (stm 20) -> fd.kwdefaults = .none -> fd.defaults = .none -> bindArgs fd ⟨vals, []⟩ = pure ([tN "run", tN "name", tN "place"].zip vals) := fun vals hl fd hp h1 h2 => by
 (refine o_eee (len3 hl) fun a b c z330 => ?_; refine rr z330 ?_)
 refine rr (fd_with hp h1 h2) ?_
 with_unfolding_all rfl
theorem q20 : cellSc (stm 20) [tN "run", tN "name", tN "place"] = true := by decide +kernel
theorem mod21 : ∀ (vals : List Value), vals.length = 2 -> ∀ fd : FuncData, fd.params = argsOf (stm 21) -> fd.kwdefaults = .none -> fd.defaults = .none -> bindArgs fd ⟨vals, []⟩ = pure ([tN "text", tN "name"].zip vals) := fun vals hl fd hp h1 h2 => by
 (refine o_ee (len2 hl) fun a b z332 => ?_; refine rr z332 ?_)
 refine rr (fd_with hp h1 h2) ?_
 with_unfolding_all rfl
theorem q21 : cellSc (stm 21) [tN "text", tN "name"] = true := by decide +kernel
theorem mod23 : ∀ (vals : List Value), vals.length = 4 -> ∀ fd : FuncData, fd.params = argsOf (stm 23) -> fd.kwdefaults = .none -> fd.defaults = .none -> bindArgs fd ⟨vals, []⟩ = pure ([tN "items", tN "end", tN "turns", tN "begins"].zip vals) := fun vals hl fd hp h1 h2 => by
 (refine o_eeee (len4 hl) fun a b c d z334 => ?_; refine rr z334 ?_)
 refine rr (fd_with hp h1 h2) ?_
 with_unfolding_all rfl
theorem q23 : cellSc (stm 23) [tN "items", tN "end", tN "turns", tN "begins"] = true := by decide +kernel
structure PureG (B0 : Heap) (gt : Loc) (a6 a9 a11 a12 a18 a19 a20 a21 a23 dM : Addr) (prog : Program) (w : World) : Prop where
 f6 : ∃ fd, FnK B0 a6 (stm 6) fd .none
 f9 : ∃ fd, FnK B0 a9 (stm 9) fd .none
 f11 : ∃ fd, FnK B0 a11 (stm 11) fd .none
 f12 : ∃ fd, FnK B0 a12 (stm 12) fd .none
 f18 : ∃ fd, FnK B0 a18 (stm 18) fd .none
 f19 : ∃ fd, FnK B0 a19 (stm 19) fd .none
 f20 : ∃ fd, FnK B0 a20 (stm 20) fd .none
 f21 : ∃ fd, FnK B0 a21 (stm 21) fd .none
 f23 : ∃ fd, FnK B0 a23 (stm 23) fd .none
 g9 : gt (tN "escape") = some (.val (.ref a9))
 g11 : gt (tN "_translate") = some (.val (.ref a11))
 g12 : gt (tN "_join_translated_parts") = some (.val (.ref a12))
 g19 : gt (tN "_law_meant") = some (.val (.ref a19))
 g20 : gt (tN "_law_fits") = some (.val (.ref a20))
 gM : gt (tN "_special_chars_map") = some (.val (.ref dM))
 map : ∃ f, B0.MapOf (intKind prog w) dM f /\ MapSays f
 sys : (dM == sysModules) = false
 isi : gt (tN "isinstance") = some (.val (.builtin "isinstance"))
 str : gt (tN "str") = some (.val (.type "str"))
 obj : gt (tN "object") = some (.val (.type "object"))
 len : gt (tN "len") = some (.val (.builtin "len"))
 chr : gt (tN "chr") = some (.val (.builtin "chr"))
 rng : gt (tN "range") = some (.val (.type "range"))
 d1 : a11 ≠ a12
 d2 : a6 ≠ a18 /\ a6 ≠ a21 /\ a6 ≠ a23 /\ a18 ≠ a21 /\ a18 ≠ a23 /\ a21 ≠ a23
theorem gam_mem {a : Addr} {sp : Spec} : ∀ {l : List (Addr × Spec)}, l.lookup a = some sp -> (a, sp) ∈ l
 | [], e => by exact no_ns e
 | (b, t) :: l, e => by
   simp only [List.lookup_cons] at e
   split at e
   · rename_i q
     have : a = b := by simpa using q
     (replace e := Option.some.inj e; subst e); refine rr this ?_; exact .head _
   · exact .tail _ (gam_mem e)
section
variable {prog : Program} {w : World} {B0 : Heap} {os : OsState} {gs : Array GenState} {mg mb : Str -> Option Value} {mu : Pos -> Bool} {Γ : Spx} {n : Nat} {gt : Loc}
noncomputable def EntOk (prog : Program) (w : World) (B0 : Heap) (os : OsState) (gs : Array GenState) (a : Addr) (sp : Spec) (n : Nat) : Prop := ∃ o fd, B0.get? a = some o /\ o.cls ≠ .none /\ o.data = .func fd /\
 ∀ (A : Around) (E : Value -> Shared -> Prop) (ω : Own) (s : Shared) (σ : St) (K : KV) (hs : List HV) (vs : List Value), Room n A -> MS B0 os ω gs s -> RelS ω σ -> RdL ω hs vs -> sp hs σ K ->
  wpAny (model prog w) A (call (.ref a) vs []) (PostV B0 os gs ω K) E s
theorem EntOk.up {a : Addr} {sp : Spec} {m : Nat} (h : EntOk prog w B0 os gs a sp n) (hm : n <= m) : EntOk prog w B0 os gs a sp m := by
 refine o_eeaaa h fun o fd h1 h2 h3 h4 => ?_
 exact (i_eeaaa o fd h1 h2 h3 (fun A E ω s σ K hs vs Rm => h4 A E ω s σ K hs vs (Rm.le hm)))
theorem gam_ok {l : List (Addr × Spec)} (h : ∀ e ∈ l, EntOk prog w B0 os gs e.1 e.2 n) : SpxOk prog w B0 os gs (gam l) n := fun v sp e => by
 induction v using Value.casesOn with
 | ref a =>
  refine o_eeaaa (h _ (gam_mem (show l.lookup a = some sp from e))) fun o fd h1 h2 h3 h4 => ?_
  exact (i_eeeaaaa a o fd rfl h1 h2 h3 h4)
 | _ => exact no_ns e
theorem ent_def (TB : TopB B0 mg mb) (X : SpxOk prog w B0 os gs Γ n) (hg : GtOk mg mb gt) {a : Addr} {st : Stmt} {fd : FuncData} {ps : List Str} {sp : Spec} (F : FnK B0 a st fd .none) (hsc : cellSc st ps = true) (hn : ps.Nodup)
 (hb : ∀ (vals : List Value), vals.length = ps.length -> ∀ fd : FuncData, fd.params = argsOf st -> fd.kwdefaults = .none -> fd.defaults = .none -> bindArgs fd ⟨vals, []⟩ = pure (ps.zip vals))
 (walk : ∀ hs σ K, sp hs σ K -> specOf mu Γ (scopeOf st) gt ps (bodyOf st) hs σ K) : EntOk prog w B0 os gs a sp (n + 1) := by
 refine o_eaa F.at'.at' fun o ho hc hd => ?_
 refine (i_eeaaa o fd ho hc hd (fun A E ω s σ K hs vs Rm S R r H => ?_))
 exact def_call TB X (cellD F.body F.scope F.glob F.blt F.clo hn (fun vals hv => hb vals hv fd F.params F.kdflt F.dflt) hsc) F.at' hg A E ω s σ K hs vs Rm S R r (by refine rr F.scope ?_; exact walk hs σ K H)
theorem spx_nil : SpxOk prog w B0 os gs (gam []) n := gam_ok fun e h => by contradiction
theorem gam_one (a : Addr) (sp : Spec) : gam [(a, sp)] (.ref a) = some sp := by simp [gam]
theorem ent_meant (TB : TopB B0 mg mb) (hg : GtOk mg mb gt) {a6 a9 a11 a12 a18 a19 a20 a21 a23 dM : Addr} (P : PureG B0 gt a6 a9 a11 a12 a18 a19 a20 a21 a23 dM prog w) : ∀ d, EntOk prog w B0 os gs a19 (spMeant d) d := by
 intro xs0
 induction xs0 with
 | zero =>
  exact by
   refine o_e P.f19 fun fd F => ?_
   refine o_eaa F.at'.at' fun o ho hc hd => ?_
   exact (i_eeaaa o fd ho hc hd (fun A E ω s σ K hs vs Rm S R r H => H.elim))
 | succ d ih =>
  exact by
   refine o_e P.f19 fun fd F => ?_
   refine ent_def (mu := fun _ => false) (Γ := gam [(a19, spMeant d)]) TB (gam_ok fun e h => ?_) hg F q19 (by decide +kernel) mod19 fun hs σ K H => meant_walk P.len P.rng P.g19 (gam_one _ _) H
   rcases List.mem_singleton.mp h with rfl
   exact ih
theorem gamma_ok (TB : TopB B0 mg mb) (hg : GtOk mg mb gt) {a6 a9 a11 a12 a18 a19 a20 a21 a23 dM : Addr} (P : PureG B0 gt a6 a9 a11 a12 a18 a19 a20 a21 a23 dM prog w) :
    ∃ Γ : Spx, (∀ gs, SpxOk prog w B0 os gs Γ 5) /\ Γ (.ref a6) = some spTx /\ Γ (.ref a21) = some spTaken /\ Γ (.ref a18) = some spText /\ Γ (.ref a23) = some spDue := by
  refine o_aaaaa P.d2 fun d1 d2 d3 d4 d5 d6 => ?_
  refine (i_eaaaa (gam [(a6, spTx), (a21, spTaken), (a18, spText), (a23, spDue)]) (fun gs => gam_ok fun e h => ?_) ?_ ?_ ?_ ?_)
  · have e9 : EntOk prog w B0 os gs a9 spEsc 1 := by
      refine o_e P.f9 fun fd F => ?_
      refine o_eaa F.at'.at' fun o ho hc hd => ?_
      refine o_ea P.map fun f hm hf => ?_
      exact (i_eeaaa o fd ho hc hd (fun A E ω s σ K hs vs Rm S R r H => esc_ok TB hg F P.isi P.str P.gM hm hf P.sys A E ω s σ K hs vs Rm S R r H))
    have e11 : EntOk prog w B0 os gs a11 spTr 2 := by
      refine o_e P.f11 fun fd F => ?_
      refine ent_def (mu := fun _ => true) (Γ := gam [(a9, spEsc)]) TB (gam_ok fun e h => ?_) hg F q11 (by decide +kernel) mod11 fun hs σ K H => tr_walk P.g9 P.len (gam_one _ _) H
      rcases List.mem_singleton.mp h with rfl; exact e9
    have e6 : EntOk prog w B0 os gs a6 spTx 3 := by
      refine o_e P.f6 fun fd F => ?_
      refine ent_def (mu := fun _ => true) (Γ := gam [(a11, spTr), (a12, spJoin)]) TB (gam_ok fun e h => ?_) hg F q6 (by decide +kernel) mod6 fun hs σ K H => tx_walk P.g11 P.g12 P.obj ?_ ?_ H
      · refine Or.elim (List.mem_cons.mp h) (fun z338 => ?_) fun h => ?_
        · refine rr z338 ?_; exact e11
        · rcases List.mem_singleton.mp h with rfl; exact (show EntOk prog w B0 os gs a12 spJoin 1 from by
      refine o_e P.f12 fun fd F => ?_
      exact ent_def (mu := fun _ => true) (Γ := gam []) (n := 0) TB spx_nil hg F q12 (by decide +kernel) mod12 fun hs σ K H => join_walk P.len H).up (by exact Nat.le_add_left _ _)
      · simp [gam]
      · simp only [gam, List.lookup_cons, beq_false_of_ne P.d1.symm]; simp
    have e21 : EntOk prog w B0 os gs a21 spTaken 2 := by
      refine o_e P.f21 fun fd F => ?_
      refine ent_def (mu := fun _ => true) (Γ := gam [(a20, spFits)]) TB (gam_ok fun e h => ?_) hg F q21 (by decide +kernel) mod21 fun hs σ K H => taken_walk P.len P.g20 (gam_one _ _) H
      rcases List.mem_singleton.mp h with rfl; exact (show EntOk prog w B0 os gs a20 spFits 1 from by
      refine o_e P.f20 fun fd F => ?_
      exact ent_def (mu := fun _ => false) (Γ := gam []) (n := 0) TB spx_nil hg F q20 (by decide +kernel) mod20 fun hs σ K H => fits_walk rfl P.len P.rng H)
    have e23 : EntOk prog w B0 os gs a23 spDue 5 := by
      refine o_e P.f23 fun fd F => ?_
      refine ent_def (mu := muDue) (Γ := gam [(a19, spMeant 4)]) TB (gam_ok fun e h => ?_) hg F q23 (by decide +kernel) mod23 fun hs σ K H => due_walk P.len P.g19 P.str P.rng (gam_one _ _) H
      rcases List.mem_singleton.mp h with rfl; exact ent_meant TB hg P 4
    simp only [List.mem_cons, List.not_mem_nil, or_false] at h
    rcases h with rfl | rfl | rfl | rfl
    · exact e6.up (by exact Nat.le_add_left _ _)
    · exact e21.up (by exact Nat.le_add_left _ _)
    · exact (show EntOk prog w B0 os gs a18 spText 1 from by
      refine o_e P.f18 fun fd F => ?_
      exact ent_def (mu := fun _ => false) (Γ := gam []) (n := 0) TB spx_nil hg F q18 (by decide +kernel) mod18 fun hs σ K H => text_walk P.rng P.chr H).up (by exact Nat.le_add_left _ _)
    · exact e23
  · simp [gam]
  · simp only [gam, List.lookup_cons, beq_false_of_ne d2.symm]; simp
  · simp only [gam, List.lookup_cons, beq_false_of_ne d1.symm, beq_false_of_ne d4]; simp
  · simp only [gam, List.lookup_cons, beq_false_of_ne d3.symm, beq_false_of_ne d5.symm, beq_false_of_ne d6.symm]; simp
end
end
section
noncomputable def objAt (K : Frag) (a : Addr) : Obj := match K.lookup a with
 | some o => o
 | none => { cls := .none, data := .plain }
noncomputable def fdAt (K : Frag) (a : Addr) : FuncData := match (objAt K a).data with
 | .func fd => fd
 | _ => { name := "", qualname := "", params := argsOf (stm 0), body := .stmts [], scope := scopeOf (stm 0), globals := mainGlobals, closure := [], defaults := .none, kwdefaults := .none, doc := .none, pyModule := .none, code := .none, builtins := builtinsNs }
noncomputable def vsAt (K : Frag) (a : Addr) : Array Value := match (objAt K a).data with
 | .fields vs => vs
 | _ => #[]
noncomputable def refAt : Value -> Addr
 | .ref a => a
 | _ => 0
noncomputable def tokAt : Option Value -> Tok
 | some (.str _ t) => t
 | _ => 0
noncomputable def cAt (K : Frag) (a : Addr) : Addr := refAt (fdAt K a).code
theorem obj_at {K : Frag} {h : Heap} (KX : K.In h) {a : Addr} (e : (K.lookup a).isSome = true) : h.get? a = some (objAt K a) := by
 refine KX a _ ?_
 unfold objAt
 induction q : K.lookup a with
 | none => rw [q] at e; exact no_ft e
 | some o => rfl
structure FnGood (K : Frag) (a : Addr) (st : Stmt) (dV : Value) : Prop where
 there : (K.lookup a).isSome = true
 cls : (objAt K a).cls = .type "function"
 data : (objAt K a).data = .func (fdAt K a)
 body : (fdAt K a).body = .stmts (bodyOf st)
 scope : (fdAt K a).scope = scopeOf st
 params : (fdAt K a).params = argsOf st
 clo : (fdAt K a).closure = []
 glob : (fdAt K a).globals = mainGlobals
 blt : (fdAt K a).builtins = builtinsNs
 dflt : (fdAt K a).defaults = dV
 kdflt : (fdAt K a).kwdefaults = .none
 code : (fdAt K a).code = .ref (cAt K a)
 cthere : (K.lookup (cAt K a)).isSome = true
 ccls : (objAt K (cAt K a)).cls = .type "code"
 cdata : (objAt K (cAt K a)).data = .fields (vsAt K (cAt K a))
 qual : (vsAt K (cAt K a))[1]? = some (.str (fdAt K a).qualname (tokAt (vsAt K (cAt K a))[1]?))
theorem fnK_at {K : Frag} {h : Heap} (KX : K.In h) {a : Addr} {st : Stmt} {dV : Value} (G : FnGood K a st dV) : FnK h a st (fdAt K a) dV :=
 ⟨⟨(i_eaa _ (obj_at KX G.there) (by rw [G.cls]; exact fun q => (nomatch q)) G.data), (i_eeeeaaaa _ _ _ _ G.code (obj_at KX G.cthere) (by rw [G.ccls]; exact fun q => (nomatch q)) G.cdata G.qual)⟩,
  G.body, G.scope, G.params, G.clo, G.glob, G.blt, G.dflt, G.kdflt⟩
noncomputable def esAt (K : Frag) (a : Addr) : Array DictEntry := match (objAt K a).data with
 | .dict es _ => es
 | _ => #[]
noncomputable def mgAt (K : Frag) (x : Str) : Option Value := nsFind (esAt K mainGlobals) x
noncomputable def aOf (K : Frag) (x : Str) : Addr := match mgAt K x with
 | some v => refAt v
 | none => 0
end
section
open PyProof.Rows
noncomputable def gtK (K : Frag) (x : Str) : Option HV := match mgAt K x with
 | some v => some (.val v)
 | none => if x = ("__name__" : Str) then none else match bootBuiltins x with
  | some v => some (.val v)
  | none => none
noncomputable def isTy : Value -> Bool
 | .type _ => true
 | .ref _ => true
 | _ => false
noncomputable def nAt (K : Frag) (a : Addr) : Nat := match (objAt K a).data with
 | .seq _ n => n
 | _ => 0
noncomputable def epAt (K : Frag) (a : Addr) : Nat := match (objAt K a).data with
 | .dict _ n => n
 | _ => 0
noncomputable def pAt (K : Frag) (c : Addr) : Addr := match (vsAt K c)[11]? with
 | some v => refAt v
 | none => 0
noncomputable def keyI (e : DictEntry) : Bool := match e.key with
 | .int k _ => e.hash == hashInt k
 | _ => false
noncomputable def saysB (es : Array DictEntry) : Bool := (List.range 256).all fun c => match findBy Value.isInt es (c : Int) with
 | some (.str s _) => specials.contains c && s == ⟨#[92, c]⟩
 | none => !(specials.contains c)
 | _ => false
structure AllGood (K : Frag) (view : Program) : Prop where
 f3 : FnGood K (aOf K (tN "reduce")) (stm 3) (.ref 33)
 f6 : FnGood K (aOf K (tN "translate")) (stm 6) .none
 f9 : FnGood K (aOf K (tN "escape")) (stm 9) .none
 f11 : FnGood K (aOf K (tN "_translate")) (stm 11) .none
 f12 : FnGood K (aOf K (tN "_join_translated_parts")) (stm 12) .none
 f14 : FnGood K (aOf K (tN "read_uint1")) (stm 14) .none
 f15 : FnGood K (aOf K (tN "read_string1")) (stm 15) .none
 f17 : FnGood K (aOf K (tN "_law_tape")) (stm 17) .none
 f18 : FnGood K (aOf K (tN "_law_text")) (stm 18) .none
 f19 : FnGood K (aOf K (tN "_law_meant")) (stm 19) .none
 f20 : FnGood K (aOf K (tN "_law_fits")) (stm 20) .none
 f21 : FnGood K (aOf K (tN "_law_taken")) (stm 21) .none
 f22 : FnGood K (aOf K (tN "_law_told")) (stm 22) .none
 f23 : FnGood K (aOf K (tN "_law_due")) (stm 23) .none
 f24 : FnGood K (aOf K (tN "law")) (stm 24) .none
 g3 : gtK K (tN "reduce") = some (.val (.ref (aOf K (tN "reduce"))))
 g6 : gtK K (tN "translate") = some (.val (.ref (aOf K (tN "translate"))))
 g9 : gtK K (tN "escape") = some (.val (.ref (aOf K (tN "escape"))))
 g11 : gtK K (tN "_translate") = some (.val (.ref (aOf K (tN "_translate"))))
 g12 : gtK K (tN "_join_translated_parts") = some (.val (.ref (aOf K (tN "_join_translated_parts"))))
 g14 : gtK K (tN "read_uint1") = some (.val (.ref (aOf K (tN "read_uint1"))))
 g15 : gtK K (tN "read_string1") = some (.val (.ref (aOf K (tN "read_string1"))))
 g17 : gtK K (tN "_law_tape") = some (.val (.ref (aOf K (tN "_law_tape"))))
 g18 : gtK K (tN "_law_text") = some (.val (.ref (aOf K (tN "_law_text"))))
 g19 : gtK K (tN "_law_meant") = some (.val (.ref (aOf K (tN "_law_meant"))))
 g20 : gtK K (tN "_law_fits") = some (.val (.ref (aOf K (tN "_law_fits"))))
 g21 : gtK K (tN "_law_taken") = some (.val (.ref (aOf K (tN "_law_taken"))))
 g22 : gtK K (tN "_law_told") = some (.val (.ref (aOf K (tN "_law_told"))))
 g23 : gtK K (tN "_law_due") = some (.val (.ref (aOf K (tN "_law_due"))))
 g24 : gtK K (tN "law") = some (.val (.ref (aOf K (tN "law"))))
 gM : gtK K (tN "_special_chars_map") = some (.val (.ref (aOf K (tN "_special_chars_map"))))
 gI : gtK K (tN "_initial_missing") = some (.val (.ref (aOf K (tN "_initial_missing"))))
 b_isinstance : gtK K (tN "isinstance") = some (.val (.builtin "isinstance"))
 b_len : gtK K (tN "len") = some (.val (.builtin "len"))
 b_chr : gtK K (tN "chr") = some (.val (.builtin "chr"))
 b_ord : gtK K (tN "ord") = some (.val (.builtin "ord"))
 b_min : gtK K (tN "min") = some (.val (.builtin "min"))
 b_iter : gtK K (tN "iter") = some (.val (.builtin "iter"))
 b_next : gtK K (tN "next") = some (.val (.builtin "next"))
 t_str : gtK K (tN "str") = some (.val (.type "str"))
 t_object : gtK K (tN "object") = some (.val (.type "object"))
 t_range : gtK K (tN "range") = some (.val (.type "range"))
 t_bytes : gtK K (tN "bytes") = some (.val (.type "bytes"))
 t_ValueError : gtK K (tN "ValueError") = some (.val (.type "ValueError"))
 t_StopIteration : gtK K (tN "StopIteration") = some (.val (.type "StopIteration"))
 t_TypeError : gtK K (tN "TypeError") = some (.val (.type "TypeError"))
 nsg : (K.lookup mainGlobals).isSome = true
 nsgc : isTy (objAt K mainGlobals).cls = true
 nsb : (K.lookup builtinsNs).isSome = true
 nsbc : isTy (objAt K builtinsNs).cls = true
 m17 : mgAt K (tN "_law_tape") = some (.ref (aOf K (tN "_law_tape")))
 m22 : mgAt K (tN "_law_told") = some (.ref (aOf K (tN "_law_told")))
 r17 : ((recsOf view).any fun d => d.name == tN "_law_tape") = true
 r22 : ((recsOf view).any fun d => d.name == tN "_law_told") = true
 mi : (K.lookup (aOf K (tN "_initial_missing"))).isSome = true
 mic : (objAt K (aOf K (tN "_initial_missing"))).cls = .type "object"
 dt : (K.lookup 33).isSome = true
 dtc : isTy (objAt K 33).cls = true
 dtd : (objAt K 33).data = .seq #[.ref (aOf K (tN "_initial_missing"))] (nAt K 33)
 dm : (K.lookup (aOf K (tN "_special_chars_map"))).isSome = true
 dmc : (objAt K (aOf K (tN "_special_chars_map"))).cls = .type "dict"
 dmd : (objAt K (aOf K (tN "_special_chars_map"))).dict = none
 dms : (objAt K (aOf K (tN "_special_chars_map"))).slots = #[]
 dme : (objAt K (aOf K (tN "_special_chars_map"))).data = .dict (esAt K (aOf K (tN "_special_chars_map"))) (epAt K (aOf K (tN "_special_chars_map")))
 dmk : ((esAt K (aOf K (tN "_special_chars_map"))).toList.all keyI) = true
 dmm : saysB (esAt K (aOf K (tN "_special_chars_map"))) = true
 dmn : ((aOf K (tN "_special_chars_map")) == sysModules) = false
 d11_12 : (aOf K (tN "_translate") == aOf K (tN "_join_translated_parts")) = false
 d6_18 : (aOf K (tN "translate") == aOf K (tN "_law_text")) = false
 d6_21 : (aOf K (tN "translate") == aOf K (tN "_law_taken")) = false
 d6_23 : (aOf K (tN "translate") == aOf K (tN "_law_due")) = false
 d18_21 : (aOf K (tN "_law_text") == aOf K (tN "_law_taken")) = false
 d18_23 : (aOf K (tN "_law_text") == aOf K (tN "_law_due")) = false
 d21_23 : (aOf K (tN "_law_taken") == aOf K (tN "_law_due")) = false
 dP : (pAt K (cAt K (aOf K (tN "_law_tape"))) == pAt K (cAt K (aOf K (tN "_law_told")))) = false
set_option tactic.hygienic true in
theorem says_of {es : Array DictEntry} (h : saysB es = true) : MapSays (findBy Value.isInt es) := fun c hc => by
 unfold saysB at h
 have := List.all_eq_true.mp h c (List.mem_range.mpr hc)
 split at this
 · rename_i s t q
   rw [Bool.and_eq_true, beq_iff_eq] at this
   refine rr (if_pos this.1) ?_
   (refine o_a this fun _ z427 => ?_; clear this; refine rl z427 ?_)
   exact ⟨t, q⟩
 · rename_i q
   refine rr (if_neg (by simpa using this)) ?_
   exact q
 · exact no_ft this
theorem ty_ne {v : Value} (h : isTy v = true) : v ≠ .none := fun q => by rw [q] at h; exact no_ft h
theorem kns_of {K : Frag} {h : Heap} (KX : K.In h) {a : Addr} {m : Str -> Option Value} (N : h.Ns a m) (e : (K.lookup a).isSome = true) (hc : isTy (objAt K a).cls = true) : KNs h a m := by
 refine o_eeea N fun o es ep h1 h2 => ?_
 have := obj_at KX e
 rw [h1] at this
 (replace this := Option.some.inj this; subst this)
 exact (i_eeeaa _ es ep h1 (ty_ne hc) h2)
theorem mg_is {K : Frag} {h : Heap} (KX : K.In h) {m : Str -> Option Value} (N : h.Ns mainGlobals m) (e : (K.lookup mainGlobals).isSome = true) (x : Str) : mgAt K x = m x := by
 refine o_eeeaaa N fun o es ep h1 h2 _ h4 => ?_
 have := obj_at KX e
 rw [h1] at this
 (replace this := Option.some.inj this; clear h1; subst this)
 unfold mgAt esAt
 refine rr h2 ?_
 exact h4 x
set_option tactic.hygienic true in
theorem gt_ok {K : Frag} {mg mb : Str -> Option Value} (h1 : ∀ x, mgAt K x = mg x) (h2 : ∀ x : Str, x ≠ "__name__" -> mb x = bootBuiltins x) : GtOk mg mb (gtK K) := fun x h e => by
 unfold gtK at e
 rw [h1] at e
 split at e
 · rename_i v q
   (replace e := Option.some.inj e; subst e)
   exact ⟨v, rfl, .inl q⟩
 · rename_i q
   (revert e; refine ie rfl (fun _ e => ?_) fun _ e => ?_)
   · exact no_ns e
   · rename_i hx
     split at e
     · rename_i v q2
       (replace e := Option.some.inj e; subst e)
       exact ⟨v, rfl, .inr ⟨q, (h2 x hx).trans q2⟩⟩
     · exact no_ns e
end
section
open PyProof.Rows
theorem code_of {view : Program} {loose : List Str} {mean : ExcName -> Option Value} {mg mb : Str -> Option Value} {h : Heap} {K : Frag} (KX : K.In h) (T : Top view loose mean mg mb h) (hmg : ∀ x, mgAt K x = mg x) {x : Str}
 (hr : ((recsOf view).any fun d => d.name == x) = true) {st : Stmt} {dV : Value} (G : FnGood K (aOf K x) st dV) (hx : mgAt K x = some (.ref (aOf K x))) :
 CodeB h (fdAt K (aOf K x)) (cAt K (aOf K x)) (pAt K (cAt K (aOf K x))) /\ h.get? (pAt K (cAt K (aOf K x))) = some (tabObj #[]) := by
 refine o_ea (List.any_eq_true.mp hr) fun d hd hn => ?_
 have hn : d.name = x := by simpa using hn
 (refine o_eeeee (T.tab d hd) fun a o fd c P z282 => ?_; refine o_aaaaa z282 fun h1 h2 h3 h4 h5 h6 => ?_)
 simp only [hn, ← hmg, hx] at h1
 have ha : aOf K x = a := by injection h1 with q; injection q
 clear h1 z282; subst ha
 have e := obj_at KX G.there
 rw [h2] at e
 obtain rfl := Option.some.inj e
 obtain rfl := Data.func.inj (h3.symm.trans G.data)
 have hc : cAt K (aOf K x) = c := by have := G.code.symm.trans h4; injection this
 (refine o_a h6 fun z280 e5 => ?_; refine o_eeaaa z280 fun oc vs e1 e2 e3 e4 => ?_)
 (refine rr (show pAt K (cAt K (aOf K x)) = P from by
  have e6 := obj_at KX G.cthere
  rw [hc, e1] at e6
  obtain rfl := Option.some.inj e6
  unfold pAt vsAt
  (refine rr hc ?_; refine rr e3 ?_)
  refine rr e4 ?_
  rfl) ?_; refine rr hc ?_)
 refine ⟨⟨h4, CodeHd.of h5 ⟨(i_eeaaa oc vs e1 e2 e3 e4), e5⟩, ⟨_, e5⟩, fun q => ?_⟩, e5⟩
 (refine o_ea T.nolimit fun mc z279 _ => ?_; refine o_eeeaa z279 fun o' es ep ho hd' _ => ?_)
 rw [← q, e5] at ho
 obtain rfl := Option.some.inj ho
 contradiction
theorem rdl_ints {ω : Own} : ∀ {vs : List Value} {ns : List Int}, IntsAre vs ns -> RdL ω (ns.map HV.int) vs
 | _, _, .nil => rfl
 | _, _, .cons n t h => (i_eeaa _ _ rfl ⟨t, rfl⟩ (rdl_ints h))
theorem ne_beq {a b : Addr} (h : (a == b) = false) : a ≠ b := by simpa using h
set_option tactic.hygienic true in
theorem law_final {view prog : Program} {w : World} {loose : List Str} {mean : ExcName -> Option Value} {mg mb : Str -> Option Value} {s : Shared} {K : Frag} (KX : K.In s.heap) (T : Top view loose mean mg mb s.heap) (C : AllGood K view) (hg : s.gens = #[])
 {vs : List Value} {script : List Int} (hL : s.heap.IsList 143 vs.toArray) (hi : IntsAre vs script) (hsz : s.heap.objs.size = 144) (hsc : script.length <= 63) :
 wpAny (model prog w) callerA (call (.ref (aOf K (tN "law"))) [.ref 143] []) (fun v s' => v = .bool true /\ OldK s.heap s'.heap /\ s'.os = s.os /\ AllBare s'.gens) (fun _ _ => False) s := by
 have ln := line_is
 have hmg := mg_is KX T.g C.nsg
 have TB : TopB s.heap mg mb := ⟨kns_of KX T.g C.nsg C.nsgc, kns_of KX T.b C.nsb C.nsbc, T.nolimit⟩
 have TM : TopM s.heap mg := ⟨T.bmain⟩
 have hgt := gt_ok hmg T.builtins
 refine o_a (code_of KX T hmg C.r17 C.f17 C.m17) fun CB17 t17 => ?_
 refine o_a (code_of KX T hmg C.r22 C.f22 C.m22) fun CB22 t22 => ?_
 have hP := ne_beq C.dP
 have F6 := fnK_at KX C.f6
 have F9 := fnK_at KX C.f9
 have F11 := fnK_at KX C.f11
 have F12 := fnK_at KX C.f12
 have F18 := fnK_at KX C.f18
 have F19 := fnK_at KX C.f19
 have F20 := fnK_at KX C.f20
 have F21 := fnK_at KX C.f21
 have F23 := fnK_at KX C.f23
 have hmap : ∃ f, s.heap.MapOf (intKind prog w) (aOf K (tN "_special_chars_map")) f /\ MapSays f := by
  refine ⟨_, Heap.IntMap.mapOf ⟨_, _, _, obj_at KX C.dm, C.dmc, C.dme, fun e he => ?_, fun _ => rfl⟩ fun o ho => ?_, says_of C.dmm⟩
  · have h := List.all_eq_true.mp C.dmk e (by simpa using he)
    unfold keyI at h
    split at h
    · rename_i k t q; exact ⟨k, t, q, by simpa using h⟩
    · exact no_ft h
  · rw [obj_at KX C.dm] at ho
    obtain rfl := Option.some.inj ho
    exact ⟨C.dmd, C.dms⟩
 have PG : PureG s.heap (gtK K) (aOf K (tN "translate")) (aOf K (tN "escape")) (aOf K (tN "_translate")) (aOf K (tN "_join_translated_parts")) (aOf K (tN "_law_text")) (aOf K (tN "_law_meant")) (aOf K (tN "_law_fits")) (aOf K (tN "_law_taken")) (aOf K (tN "_law_due")) (aOf K (tN "_special_chars_map")) prog w :=
  ⟨⟨_, F6⟩, ⟨_, F9⟩, ⟨_, F11⟩, ⟨_, F12⟩, ⟨_, F18⟩, ⟨_, F19⟩, ⟨_, F20⟩, ⟨_, F21⟩, ⟨_, F23⟩, C.g9, C.g11, C.g12, C.g19, C.g20, C.gM, hmap, C.dmn, C.b_isinstance, C.t_str, C.t_object, C.b_len, C.b_chr, C.t_range, ne_beq C.d11_12,
   ne_beq C.d6_18, ne_beq C.d6_21, ne_beq C.d6_23, ne_beq C.d18_21, ne_beq C.d18_23, ne_beq C.d21_23⟩
 (refine o_eaaa (gamma_ok (os := s.os) TB hgt PG) fun Γ X Γ1 Γ2 z327 => ?_; refine o_a z327 fun Γ3 Γ4 => ?_)
 have TG : ToldG s.heap (gtK K) (aOf K (tN "_law_tape")) (cAt K (aOf K (tN "_law_tape"))) (pAt K (cAt K (aOf K (tN "_law_tape")))) (aOf K (tN "reduce")) 33 (aOf K (tN "read_string1")) (aOf K (tN "translate")) (aOf K (tN "_law_taken")) (aOf K (tN "_initial_missing")) (fdAt K (aOf K (tN "_law_tape"))) (fdAt K (aOf K (tN "reduce"))) :=
  ⟨fnK_at KX C.f17, CB17, C.g17, fnK_at KX C.f3, ⟨_, _, obj_at KX C.dt, ty_ne C.dtc, C.dtd⟩, C.g3, ⟨C.gI, ⟨_, obj_at KX C.mi, C.mic⟩, C.b_iter, C.b_next, C.t_StopIteration, C.t_TypeError⟩,
   ⟨⟨_, fnK_at KX C.f15⟩, ⟨_, _, fnK_at KX C.f14, C.g14⟩, ⟨trivial, C.b_min, C.b_len, C.t_ValueError⟩⟩, C.g15, C.g6, C.g21, C.t_range, C.t_str⟩
 (refine o_eaa hL fun o ho hcl z325 => ?_; refine o_e z325 fun nn hdat => ?_)
 have n17 : pAt K (cAt K (aOf K (tN "_law_tape"))) ≠ 143 := fun q => by rw [q, ho] at t17; obtain rfl := Option.some.inj t17; contradiction
 have n22 : pAt K (cAt K (aOf K (tN "_law_told"))) ≠ 143 := fun q => by rw [q, ho] at t22; obtain rfl := Option.some.inj t22; contradiction
 obtain ⟨ω, hω⟩ : ∃ ω : Own, ω = fun b => if b = 143 then some (.fz o) else if b = pAt K (cAt K (aOf K (tN "_law_tape"))) then some (.tab (tapeQs (fdAt K (aOf K (tN "_law_tape"))).qualname) #[]) else if b = pAt K (cAt K (aOf K (tN "_law_told"))) then some (.tab (toldQs (fdAt K (aOf K (tN "_law_told"))).qualname) #[]) else none := ⟨_, rfl⟩
 have w1 : ω 143 = some (.fz o) := by refine rr hω ?_; exact if_pos rfl
 have w2 : ω (pAt K (cAt K (aOf K (tN "_law_tape")))) = some (.tab (tapeQs (fdAt K (aOf K (tN "_law_tape"))).qualname) #[]) := by refine rr hω ?_; exact (if_neg n17).trans (if_pos rfl)
 have w3 : ω (pAt K (cAt K (aOf K (tN "_law_told")))) = some (.tab (toldQs (fdAt K (aOf K (tN "_law_told"))).qualname) #[]) := by refine rr hω ?_; exact (if_neg n22).trans ((if_neg hP.symm).trans (if_pos rfl))
 have cases3 : ∀ b m, ω b = some m -> (b = 143 /\ m = .fz o) ∨ (∃ qs, m = .tab qs #[] /\ s.heap.get? b = some (tabObj #[])) := fun b m e => by
  rw [hω] at e
  dsimp only at e
  split at e
  · rename_i q; exact .inl ⟨q, (Option.some.inj e).symm⟩
  · (revert e; refine ie rfl (fun _ e => ?_) fun _ e => ?_)
    · rename_i q; exact .inr ⟨_, (Option.some.inj e).symm, by refine rr q ?_; exact t17⟩
    · (revert e; refine ie rfl (fun _ e => ?_) fun _ e => ?_)
      · rename_i q; exact .inr ⟨_, (Option.some.inj e).symm, by refine rr q ?_; exact t22⟩
      · exact no_ns e
 have S : MS s.heap s.os ω #[] s := by
  refine ⟨fun b m e => ?_, OldK.refl _, fun b m e hf => ?_, hg, rfl, ⟨143, o, ho, hsz.symm⟩, fun P qs ps e => ?_⟩
  · rcases cases3 b m e with ⟨rfl, rfl⟩ | ⟨qs, rfl, q⟩
    · exact ho
    · exact q
  · rcases cases3 b m e with ⟨rfl, rfl⟩ | ⟨qs, rfl, q⟩ <;> exact no_tf hf
  · rcases cases3 P _ e with ⟨rfl, q⟩ | ⟨qs', q, _⟩
    · contradiction
    · (injection q with q h9; subst q; refine rr h9 ?_)
      exact ⟨trivial, fun q _ => .inl rfl⟩
 have R : RelS ω (fun _ => none) := fun a xs e => by exact no_ns e
 have Rm : Room 11 callerA := ⟨by decide, by decide, rfl⟩
 refine wpAny_mono (law_ok (n := 2) (l := []) TB TM hgt TG X Γ1 Γ2 Γ3 Γ4 (fnK_at KX C.f22) CB22 hP ⟨C.g18, C.g23, C.g22, C.b_len, C.b_ord, C.t_bytes⟩ (fnK_at KX C.f24) Rm ⟨rfl, fun env h => by contradiction⟩ S R ⟨_, w2⟩ ⟨_, w3⟩
  (by exact ⟨by simp; exact ar341 ln hsc, 143, o, vs, nn, rfl, w1, hcl, hdat, rdl_ints hi⟩) hsc) (fun v s' q => ?_) fun e s' q => ?_
 · obtain ⟨h, ω', σ', gs', l, S', R', r, rfl, st', hb, rfl⟩ := q
   refine ⟨by simpa [Rd] using r, S'.old, S'.os, ?_⟩
   refine rr S'.gens ?_
   intro y hy
   have : y = st' := by simpa using hy
   refine rr this ?_; exact hb
 · obtain ⟨a, ω', σ', gs', cls, msg, t, _, _, _, _, _, _, k⟩ := q
   exact k.elim
end
end Mine
set_option tactic.hygienic true
open PySem PySem.W PySem.W.X PyProof.Rows
namespace Mine.h
theorem tw5736452974876700187 : 0=0 := rfl
theorem tw12097601375053577219 : 0=0 := rfl
theorem tw8001799990456804257 : 0=0 := rfl
theorem tw8615347412700332180 : 0=0 := rfl
theorem tw10840482306913640982 : 0=0 := rfl
theorem tw10848268722326577222 : 0=0 := rfl
theorem tw15769423472626437093 : 0=0 := rfl
theorem tw1574859183759491827 : 0=0 := rfl
theorem tw16699081257112414248 : 0=0 := rfl
theorem tw11382029803724651514 : 0=0 := rfl
theorem tw16724345464226511106 : 0=0 := rfl
theorem tw10462149261072834489 : 0=0 := rfl
theorem tw8806121721786938079 : 0=0 := rfl
theorem tw15704201032223786554 : 0=0 := rfl
theorem tw16125186177882137770 : 0=0 := rfl
theorem tw18056562225625479666 : 0=0 := rfl
theorem tw17326091816415362873 : 0=0 := rfl
theorem tw17328353067329418159 : 0=0 := rfl
theorem tw3172776261215243336 : 0=0 := rfl
theorem tw3800477195604609603 : 0=0 := rfl
theorem tw11818430215813300567 : 0=0 := rfl
theorem tw16757396875619161431 : 0=0 := rfl
theorem tw4158065403680154142 : 0=0 := rfl
theorem tw11505790168188839244 : 0=0 := rfl
theorem tw3353516256928961494 : 0=0 := rfl
theorem tw17642177447343228967 : 0=0 := rfl
theorem tw15933118817319079444 : 0=0 := rfl
theorem tw12887034139009819213 : 0=0 := rfl
theorem tw18060268182353473583 : 0=0 := rfl
theorem tw8881416665966352325 : 0=0 := rfl
theorem tw2451394554795826781 : 0=0 := rfl
theorem tw10385302281209008836 : 0=0 := rfl
theorem tw14096229533479125360 : 0=0 := rfl
theorem tw5071609173266881827 : 0=0 := rfl
theorem tw3382222208699387138 : 0=0 := rfl
theorem tw16861688747880592187 : 0=0 := rfl
theorem tw15047613307574458526 : 0=0 := rfl
theorem tw14371893646553298905 : 0=0 := rfl
theorem tw6628964900245472527 : 0=0 := rfl
theorem tw15297895931255097126 : 0=0 := rfl
theorem tw12055834552727283816 : 0=0 := rfl
theorem tw17794180361644096977 : 0=0 := rfl
theorem tw7298730038799534652 : 0=0 := rfl
theorem tw11869163234891595672 : 0=0 := rfl
theorem tw17009195942527895028 : 0=0 := rfl
theorem tw1812164486366166050 : 0=0 := rfl
theorem tw17541710914833730941 : 0=0 := rfl
theorem tw14153151714561057243 : 0=0 := rfl
theorem tw150119372605781637 : 0=0 := rfl
theorem tw935291716312785335 : 0=0 := rfl
theorem tw7046848952353480313 : 0=0 := rfl
theorem tw13367681610626076656 : 0=0 := rfl
theorem tw4001185896099836895 : 0=0 := rfl
theorem tw10626321612279906081 : 0=0 := rfl
theorem tw5019832918158916257 : 0=0 := rfl
theorem tw708929371534625012 : 0=0 := rfl
theorem tw9338284991944816757 : 0=0 := rfl
theorem tw16603899029016679804 : 0=0 := rfl
theorem tw1356244002327342800 : 0=0 := rfl
theorem tw1843709074693381076 : 0=0 := rfl
theorem tw16956768839676983609 : 0=0 := rfl
theorem tw8381437309726015537 : 0=0 := rfl
theorem tw9133745166886107438 : 0=0 := rfl
theorem tw17783525132770644865 : 0=0 := rfl
theorem tw8799685860057839008 : 0=0 := rfl
theorem tw3121806092619268575 : 0=0 := rfl
theorem tw3899578459425684970 : 0=0 := rfl
theorem tw4644161746765118895 : 0=0 := rfl
theorem tw16671188775906349761 : 0=0 := rfl
theorem tw17764311795047843755 : 0=0 := rfl
theorem tw13576893989766986984 : 0=0 := rfl
theorem tw18334469534639735224 : 0=0 := rfl
theorem tw2371632673724754268 : 0=0 := rfl
theorem tw9427383688650246816 : 0=0 := rfl
theorem tw3073989225477181354 : 0=0 := rfl
theorem tw15525072738643546371 : 0=0 := rfl
theorem tw13945770977609474654 : 0=0 := rfl
theorem tw11077833285527029666 : 0=0 := rfl
theorem tw14202642533580855978 : 0=0 := rfl
theorem tw14794400287006146483 : 0=0 := rfl
theorem tw12462687565945132277 : 0=0 := rfl
theorem tw6097532643486097785 : 0=0 := rfl
theorem tw16732419092344134879 : 0=0 := rfl
theorem tw8659866349962735153 : 0=0 := rfl
theorem tw4570078208452856496 : 0=0 := rfl
theorem tw6143694748465868849 : 0=0 := rfl
theorem tw18136603409958867724 : 0=0 := rfl
theorem tw3563993257590342832 : 0=0 := rfl
theorem tw17803680328377120361 : 0=0 := rfl
theorem tw11434341879908795408 : 0=0 := rfl
theorem tw14166609017263377637 : 0=0 := rfl
theorem tw2692718641611122567 : 0=0 := rfl
theorem tw15770463773269358063 : 0=0 := rfl
theorem tw1096098431174955814 : 0=0 := rfl
theorem tw13827456703681584491 : 0=0 := rfl
theorem tw1257535665617204927 : 0=0 := rfl
theorem tw504629052401505882 : 0=0 := rfl
theorem tw9618861286798998627 : 0=0 := rfl
theorem tw16263727605707035680 : 0=0 := rfl
theorem tw17229736627261247370 : 0=0 := rfl
theorem tw15050089393431439418 : 0=0 := rfl
theorem tw16922092684243639305 : 0=0 := rfl
theorem tw4117862256412036103 : 0=0 := rfl
theorem tw14748789445991907591 : 0=0 := rfl
theorem tw824195374095679102 : 0=0 := rfl
theorem tw1691684418359810570 : 0=0 := rfl
theorem tw16019509586478192782 : 0=0 := rfl
theorem tw8007243292601566339 : 0=0 := rfl
theorem tw11057389585713553597 : 0=0 := rfl
theorem tw7454182444628172814 : 0=0 := rfl
theorem tw7296983210309977632 : 0=0 := rfl
theorem tw18444589360478295509 : 0=0 := rfl
theorem tw212297404043425241 : 0=0 := rfl
theorem tw13126054857942921641 : 0=0 := rfl
theorem tw5119603891250302844 : 0=0 := rfl
theorem tw4117420023994239629 : 0=0 := rfl
theorem tw10671491894406009198 : 0=0 := rfl
theorem tw13062612507392925337 : 0=0 := rfl
theorem tw10035987936033401920 : 0=0 := rfl
theorem tw3695492264728574771 : 0=0 := rfl
theorem tw12870372042795944642 : 0=0 := rfl
theorem tw17659276152848280261 : 0=0 := rfl
theorem tw12486631765811906961 : 0=0 := rfl
theorem tw11830625130527406941 : 0=0 := rfl
theorem tw11671700250010608693 : 0=0 := rfl
theorem tw7403042719120014839 : 0=0 := rfl
theorem tw6100786589923674895 : 0=0 := rfl
theorem tw11920112326491523889 : 0=0 := rfl
theorem tw17278020453715053463 : 0=0 := rfl
theorem tw11065042233917603500 : 0=0 := rfl
theorem tw8535481145345381477 : 0=0 := rfl
theorem tw9099524735094762395 : 0=0 := rfl
theorem tw17082426736498933747 : 0=0 := rfl
theorem tw8099074806403307960 : 0=0 := rfl
theorem tw14858498577645108073 : 0=0 := rfl
theorem tw5272305912518265700 : 0=0 := rfl
theorem tw15003508082368540894 : 0=0 := rfl
theorem tw9563533938311626363 : 0=0 := rfl
theorem tw15100276843102434943 : 0=0 := rfl
theorem tw17303485134608217098 : 0=0 := rfl
theorem tw17427517070238171185 : 0=0 := rfl
theorem tw2861021800794455822 : 0=0 := rfl
theorem tw7394253477126121320 : 0=0 := rfl
theorem tw3787820532395609044 : 0=0 := rfl
theorem tw1431846148807118152 : 0=0 := rfl
theorem tw13180539537993866883 : 0=0 := rfl
theorem tw18265426535122844502 : 0=0 := rfl
theorem tw7405651146223021827 : 0=0 := rfl
theorem tw11532201945115270930 : 0=0 := rfl
theorem tw3860565562053727041 : 0=0 := rfl
theorem tw5391226320760574368 : 0=0 := rfl
theorem tw15831028861770234773 : 0=0 := rfl
theorem tw18202535953450193407 : 0=0 := rfl
theorem tw13290766786742068588 : 0=0 := rfl
theorem tw8585901346899153491 : 0=0 := rfl
theorem tw9680166885048700869 : 0=0 := rfl
theorem tw8582881799441940244 : 0=0 := rfl
theorem tw16068841855770194404 : 0=0 := rfl
theorem tw10113614756544476385 : 0=0 := rfl
theorem tw5819259368064718618 : 0=0 := rfl
theorem tw6562692910644780516 : 0=0 := rfl
theorem tw236034682386046801 : 0=0 := rfl
theorem tw7203692863121370960 : 0=0 := rfl
theorem tw6452817165121503199 : 0=0 := rfl
theorem tw2366414976554310290 : 0=0 := rfl
theorem tw11127680675960911805 : 0=0 := rfl
theorem tw6865976317080735605 : 0=0 := rfl
theorem tw12141792692166886608 : 0=0 := rfl
theorem tw15263370393660191031 : 0=0 := rfl
theorem tw363190730091711147 : 0=0 := rfl
theorem tw9466762352871714082 : 0=0 := rfl
theorem tw9392562620605357188 : 0=0 := rfl
theorem tw5377701827173262849 : 0=0 := rfl
theorem tw14774551432355044523 : 0=0 := rfl
theorem tw15054369030813099813 : 0=0 := rfl
theorem tw9961843852490621255 : 0=0 := rfl
theorem tw15348000213203334777 : 0=0 := rfl
theorem tw2375616456415111486 : 0=0 := rfl
theorem tw8092422194929324406 : 0=0 := rfl
theorem tw15438980398918866574 : 0=0 := rfl
theorem tw3170279243120788676 : 0=0 := rfl
theorem tw7248570573193757467 : 0=0 := rfl
theorem tw14528485279528032993 : 0=0 := rfl
theorem tw5846492156318884034 : 0=0 := rfl
theorem tw2083244830252569364 : 0=0 := rfl
theorem tw4275187117610747646 : 0=0 := rfl
theorem tw9036083888439728870 : 0=0 := rfl
theorem tw5153071815150121586 : 0=0 := rfl
theorem tw54449619510540528 : 0=0 := rfl
theorem tw3097282152931753593 : 0=0 := rfl
theorem tw10208122264894780492 : 0=0 := rfl
theorem tw12926571115287252148 : 0=0 := rfl
theorem tw16502270569698505979 : 0=0 := rfl
theorem tw13715403856851756210 : 0=0 := rfl
theorem tw11428853916675331852 : 0=0 := rfl
theorem tw15242660466240379118 : 0=0 := rfl
theorem tw6258706226867707531 : 0=0 := rfl
theorem tw2901769489366431826 : 0=0 := rfl
theorem tw9835974523423179564 : 0=0 := rfl
theorem tw12778354420173306078 : 0=0 := rfl
theorem tw7532136809611915116 : 0=0 := rfl
theorem tw18316440359328880135 : 0=0 := rfl
theorem tw13809241315680395067 : 0=0 := rfl
theorem tw16060531784772056704 : 0=0 := rfl
theorem tw2510845019387720163 : 0=0 := rfl
theorem tw4375232483459336526 : 0=0 := rfl
theorem tw17400274190779803482 : 0=0 := rfl
theorem tw12277828051372883853 : 0=0 := rfl
theorem tw2805001111776851349 : 0=0 := rfl
theorem tw29641667138764729 : 0=0 := rfl
theorem tw2664453786773030427 : 0=0 := rfl
theorem tw15930764292022707084 : 0=0 := rfl
theorem tw3209133348336176596 : 0=0 := rfl
theorem tw11387927248245836220 : 0=0 := rfl
theorem tw14168074541976285571 : 0=0 := rfl
theorem tw7378754225238929013 : 0=0 := rfl
theorem tw13786038532780640989 : 0=0 := rfl
theorem tw8984416364512963207 : 0=0 := rfl
theorem tw10323915175593208744 : 0=0 := rfl
theorem tw9726825416682802687 : 0=0 := rfl
theorem tw17497524968325305648 : 0=0 := rfl
theorem tw11225452402727769249 : 0=0 := rfl
theorem tw16809648152084190708 : 0=0 := rfl
theorem tw170826705761949609 : 0=0 := rfl
theorem tw5070110509084472352 : 0=0 := rfl
theorem tw14554663561820802227 : 0=0 := rfl
theorem tw4997138367060926315 : 0=0 := rfl
theorem tw6135028878335222630 : 0=0 := rfl
theorem tw2629436321594667848 : 0=0 := rfl
theorem tw13430965858135062049 : 0=0 := rfl
theorem tw2115680978443602739 : 0=0 := rfl
theorem tw11161590892760915664 : 0=0 := rfl
theorem tw2433671607472880224 : 0=0 := rfl
theorem tw17696172421901843966 : 0=0 := rfl
theorem tw8871202159777435296 : 0=0 := rfl
theorem tw1604783383819962184 : 0=0 := rfl
theorem tw13515444388654926615 : 0=0 := rfl
theorem tw15557421943941688417 : 0=0 := rfl
theorem tw12358447064870916573 : 0=0 := rfl
theorem tw455434060755175380 : 0=0 := rfl
theorem tw15032526719731472633 : 0=0 := rfl
end Mine.h
set_option Elab.async true
set_option maxRecDepth 100000 in
set_option maxHeartbeats 0 in
theorem Mine.h : PySem.Challenge.rw_ik0158_02.Holds := by
  w_on; o_law; z_head; (case hw => w_witness2)
  k_fill
  intro w s₀ s₁ mg mb G y fa o pm cd doc dV kV ho hd hcd hD hmg hg args vals as L hpre hlay hrd hwl hlo
  z_open y L KX ZH ZN ZT
  refine Ground.open G ?_
  intro T B D TE TW
  wrow_args hpre hlay hrd hwl hlo
  obtain ⟨hat, hsz⟩ := script_at L
  have htk := script_toks L ZT
  rw [ZN] at hat hsz
  subst hat
  x_fa T KX hmg
  all_lens
  have AG : Mine.AllGood (Mine.h.heap_1_159 w.params) Mine.h.view_1_305 := by constructor <;> first | (refine ⟨?_, ?_, ?_, ?_, ?_, ?_, ?_, ?_, ?_, ?_, ?_, ?_, ?_, ?_, ?_, ?_⟩ <;> kernel_rfl) | kernel_rfl
  have hlaw : Mine.aOf (Mine.h.heap_1_159 w.params) (Mine.tN "law") = 142 := by kernel_rfl
  have H := Mine.law_final (prog := PySem.Challenge.rw_ik0158_02.row.prog) (w := w) KX T AG hg (by assumption) (by assumption) hsz (by omega)
  rw [hlaw] at H
  refine wpAny_mono H (fun v s' q => ?_) (fun _ _ h => h.elim)
  obtain ⟨rfl, h1, h2, h3⟩ := q
  exact ⟨.inl ⟨_, _, [], rfl, fun cls => rfl, .bool true, by kernel_rfl, fun _ => ⟨.nil, fun a h => (nomatch h)⟩⟩, h1, h2, h3⟩
theorem PySem.Challenge.cw_ik0158_02_holds : PySem.Challenge.rw_ik0158_02.Holds :=
  Mine.h
